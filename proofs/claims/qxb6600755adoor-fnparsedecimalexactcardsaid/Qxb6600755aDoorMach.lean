import Derived.Test.Qxb6600755aDoorParseA
import Derived.Test.Qxb6600755aDoorMant
/- The plain law of the model's machine: what parseL is, state by state. -/
namespace Go.Proofs.Qxb6600755aDoor
set_option linter.unusedVariables false

def NG (l : List UInt8) : Bool := decide (l.head? = some 45)
def Dgs (l : List UInt8) (a b : Nat) : Prop := ∀ c ∈ (l.take b).drop a, isDig c = true

/-- What is known in each state (0 to 8) ahead of byte k. -/
def MS (l : List UInt8) (k st ws we fs fe : Nat) (en : Bool) (es : Int) : Prop :=
    (st = 0 ∧ (ws = 0 ∧ we = 0 ∧ fs = 0 ∧ fe = 0 ∧ en = false ∧ es = -1) ∧ k ≤ 0) ∨
    (st = 1 ∧ (ws = 0 ∧ we = 0 ∧ fs = 0 ∧ fe = 0 ∧ en = false ∧ es = -1) ∧ k ≤ 1 ∧ 1 ≤ k ∧ parseL l = P1 (NG l) (l.drop 1)) ∨
    (st = 2 ∧ (we = 0 ∧ fs = 0 ∧ fe = 0 ∧ en = false ∧ es = -1) ∧ k ≤ ws + 1 ∧ ws + 1 ≤ k ∧ bt l ws = 48 ∧ parseL l = P1 (NG l) (l.drop ws)) ∨
    (st = 3 ∧ (we = 0 ∧ fs = 0 ∧ fe = 0 ∧ en = false ∧ es = -1) ∧ ws < k ∧ bt l ws ≠ 48 ∧ Dgs l ws k ∧ parseL l = P1 (NG l) (l.drop ws)) ∨
    (st = 4 ∧ (fs = 0 ∧ fe = 0 ∧ en = false ∧ es = -1) ∧ k ≤ we + 1 ∧ we + 1 ≤ k ∧ ws < we ∧ isAt l we 46 = true ∧ parseL l = P2 (NG l) ((l.take we).drop ws) (l.drop we)) ∨
    (st = 5 ∧ (fs = we + 1 ∧ fe = 0 ∧ en = false ∧ es = -1) ∧ ws < we ∧ we + 1 < k ∧ isAt l we 46 = true ∧ Dgs l (we + 1) k ∧ parseL l = P2 (NG l) ((l.take we).drop ws) (l.drop we)) ∨
    (st = 6 ∧ (en = false ∧ es = -1) ∧ ws < we ∧ we < k ∧ fs ≤ fe ∧ fe < k ∧ we + fe ≤ fs + k ∧ parseL l = P4 (NG l) ((l.take we).drop ws) ((l.take fe).drop fs) (l.drop k)) ∨
    (st = 7 ∧ es = -1 ∧ ws < we ∧ we < k ∧ fs ≤ fe ∧ fe < k ∧ we + fe ≤ fs + k ∧ parseL l = P5 (NG l) ((l.take we).drop ws) ((l.take fe).drop fs) en (l.drop k)) ∨
    (st = 8 ∧ ∃ es' : Nat, es = es' ∧ ws < we ∧ we < k ∧ fs ≤ fe ∧ fe < k ∧ we + fe ≤ fs + k ∧ es' < k ∧ Dgs l es' k ∧ parseL l = P5 (NG l) ((l.take we).drop ws) ((l.take fe).drop fs) en (l.drop es'))
namespace MS
variable {l : List UInt8}
theorem s0 (k : Nat) (h : k ≤ 0) : MS l k 0 0 0 0 0 false (-1) := Or.inl ⟨rfl, ⟨rfl, rfl, rfl, rfl, rfl, rfl⟩, h⟩
theorem s1 (k : Nat) (h1 : k ≤ 1) (h2 : 1 ≤ k) (_ : 1 ≤ l.length) (h : parseL l = P1 (NG l) (l.drop 1)) : MS l k 1 0 0 0 0 false (-1) := Or.inr (Or.inl ⟨rfl, ⟨rfl, rfl, rfl, rfl, rfl, rfl⟩, h1, h2, h⟩)
theorem s2 (k ws : Nat) (h1 : k ≤ ws + 1) (h2 : ws + 1 ≤ k) (_ : ws < l.length) (h3 : bt l ws = 48) (h : parseL l = P1 (NG l) (l.drop ws)) : MS l k 2 ws 0 0 0 false (-1) := Or.inr (Or.inr (Or.inl ⟨rfl, ⟨rfl, rfl, rfl, rfl, rfl⟩, h1, h2, h3, h⟩))
theorem s3 (k ws : Nat) (h1 : ws < k) (_ : k ≤ l.length) (h2 : bt l ws ≠ 48) (h3 : Dgs l ws k) (h : parseL l = P1 (NG l) (l.drop ws)) : MS l k 3 ws 0 0 0 false (-1) := Or.inr (Or.inr (Or.inr (Or.inl ⟨rfl, ⟨rfl, rfl, rfl, rfl, rfl⟩, h1, h2, h3, h⟩)))
theorem s4 (k ws we : Nat) (h1 : k ≤ we + 1) (h2 : we + 1 ≤ k) (h3 : ws < we) (_ : we < l.length) (h4 : isAt l we 46 = true) (h : parseL l = P2 (NG l) ((l.take we).drop ws) (l.drop we)) : MS l k 4 ws we 0 0 false (-1) := Or.inr (Or.inr (Or.inr (Or.inr (Or.inl ⟨rfl, ⟨rfl, rfl, rfl, rfl⟩, h1, h2, h3, h4, h⟩))))
theorem s5 (k ws we : Nat) (h1 : ws < we) (h2 : we + 1 < k) (_ : k ≤ l.length) (h3 : isAt l we 46 = true) (h4 : Dgs l (we + 1) k) (h : parseL l = P2 (NG l) ((l.take we).drop ws) (l.drop we)) : MS l k 5 ws we (we + 1) 0 false (-1) := Or.inr (Or.inr (Or.inr (Or.inr (Or.inr (Or.inl ⟨rfl, ⟨rfl, rfl, rfl, rfl⟩, h1, h2, h3, h4, h⟩)))))
theorem s6 (k ws we fs fe : Nat) (h1 : ws < we) (h2 : we < k) (h3 : fs ≤ fe) (h4 : fe < k) (h5 : we + fe ≤ fs + k) (_ : k ≤ l.length) (h : parseL l = P4 (NG l) ((l.take we).drop ws) ((l.take fe).drop fs) (l.drop k)) : MS l k 6 ws we fs fe false (-1) := Or.inr (Or.inr (Or.inr (Or.inr (Or.inr (Or.inr (Or.inl ⟨rfl, ⟨rfl, rfl⟩, h1, h2, h3, h4, h5, h⟩))))))
theorem s7 (k ws we fs fe : Nat) (en : Bool) (h1 : ws < we) (h2 : we < k) (h3 : fs ≤ fe) (h4 : fe < k) (h5 : we + fe ≤ fs + k) (_ : k ≤ l.length) (h : parseL l = P5 (NG l) ((l.take we).drop ws) ((l.take fe).drop fs) en (l.drop k)) : MS l k 7 ws we fs fe en (-1) := Or.inr (Or.inr (Or.inr (Or.inr (Or.inr (Or.inr (Or.inr (Or.inl ⟨rfl, rfl, h1, h2, h3, h4, h5, h⟩)))))))
theorem s8 (k ws we fs fe : Nat) (en : Bool) (es : Nat) (h1 : ws < we) (h2 : we < k) (h3 : fs ≤ fe) (h4 : fe < k) (h5 : we + fe ≤ fs + k) (_ : k ≤ l.length) (h6 : es < k) (h7 : Dgs l es k) (h : parseL l = P5 (NG l) ((l.take we).drop ws) ((l.take fe).drop fs) en (l.drop es)) : MS l k 8 ws we fs fe en es := Or.inr (Or.inr (Or.inr (Or.inr (Or.inr (Or.inr (Or.inr (Or.inr ⟨rfl, es, rfl, h1, h2, h3, h4, h5, h6, h7, h⟩)))))))
end MS

/-! ### helpers -/
theorem dgs_one (l : List UInt8) (k : Nat) (hk : k < l.length) (h : isDig (bt l k) = true) : Dgs l k (k + 1) := by
  unfold Dgs
  rw [mid_snoc l k k (Nat.le_refl _) hk, mid_nil l k k (by omega)]
  intro c hc
  simp at hc
  rw [hc]; exact h
theorem dgs_more (l : List UInt8) (a k : Nat) (ha : a ≤ k) (hk : k < l.length) (hd : Dgs l a k) (h : isDig (bt l k) = true) : Dgs l a (k + 1) := mid_dig l a k ha hk hd h
theorem dg_stop (l : List UInt8) (a k : Nat) (ha : a ≤ k) (hk : k ≤ l.length) (hd : Dgs l a k) (h : ∀ _ : k < l.length, isDig (bt l k) = false) : dg (l.drop a) = (l.take k).drop a ∧ aft (l.drop a) = l.drop k := dg_between l a k ha hk hd h
theorem dg_none (l : List UInt8) (k : Nat) (hk : k < l.length) (h : isDig (bt l k) = false) : dg (l.drop k) = [] := by
  rw [drop_bt l k hk]; simp [dg, h]
theorem isAt_bt (l : List UInt8) (k : Nat) (c : UInt8) (hk : k < l.length) : isAt l k c = decide (bt l k = c) := by
  unfold isAt
  rw [head_at l k hk]
  simp
theorem notdig46 : isDig 46 = false := by decide
theorem dig_ne {c : UInt8} (h : isDig c = true) (d : UInt8) (hd : isDig d = false) : c ≠ d := fun e => by rw [e, hd] at h; cases h
theorem isE_bt (l : List UInt8) (k : Nat) (hk : k < l.length) : isE l k = isEc (bt l k) := by
  unfold isE isEc
  rw [isAt_bt l k _ hk, isAt_bt l k _ hk]
  rw [Bool.eq_iff_iff]; simp
theorem ec_notdig {c : UInt8} (h : isEc c = true) : isDig c = false := by
  rw [← Bool.not_eq_true]
  intro hd
  rw [dig_notE c hd] at h
  cases h
theorem ec_not46 {c : UInt8} (h : isEc c = true) : c ≠ 46 := fun e => by rw [e] at h; revert h; decide
theorem drop_ne (l : List UInt8) (k : Nat) (hk : k < l.length) : l.drop k ≠ [] := fun e => by
  have := congrArg List.length e
  rw [List.length_drop] at this
  simp at this
  omega
/-- P1 with its digits known. -/
theorem P1_go (l : List UInt8) (ng : Bool) (ws k : Nat) (h1 : ws < k) (hk : k ≤ l.length) (hd : Dgs l ws k) (hs : ∀ _ : k < l.length, isDig (bt l k) = false) (h0 : k = ws + 1 ∨ bt l ws ≠ 48) :
    P1 ng (l.drop ws) = P2 ng ((l.take k).drop ws) (l.drop k) := by
  obtain ⟨e1, e2⟩ := dg_stop l ws k (by omega) hk hd hs
  rw [P1_ok, e1, e2]
  · rw [e1]; exact mid_ne l ws k h1 hk
  · rw [e1, mid_len l ws k hk, mid_head l ws k h1 hk]
    rintro ⟨g1, g2⟩
    rcases h0 with h0 | h0
    · omega
    · exact h0 (Option.some.inj g2)
theorem P2_go (l : List UInt8) (ng : Bool) (wh : List UInt8) (we k : Nat) (h46 : isAt l we 46 = true) (h1 : we + 1 < k) (hk : k ≤ l.length) (hd : Dgs l (we + 1) k) (hs : ∀ _ : k < l.length, isDig (bt l k) = false) :
    P2 ng wh (l.drop we) = P3 ng wh ((l.take k).drop (we + 1)) (l.drop k) := by
  obtain ⟨e1, e2⟩ := dg_stop l (we + 1) k (by omega) hk hd hs
  rw [P2_dot _ _ _ _ h46, e1, e2, if_neg (mid_ne l _ _ h1 hk)]

/-! ### the steps -/
section
variable {l : List UInt8}
theorem NG_bt (h : 0 < l.length) : NG l = decide (bt l 0 = 45) := by
  unfold NG
  have := head_at l 0 h
  rw [List.drop_zero] at this
  rw [this]
  simp
theorem t0_minus {k : Nat} (hk : k ≤ 0) (h : 0 < l.length) (hc : bt l 0 = 45) : MS l (k + 1) 1 0 0 0 0 false (-1) := by
  refine MS.s1 (k + 1) (by omega) (by omega) h ?_
  rw [P0_neg l h hc, NG_bt h, hc]
  rfl
theorem p0_pos (h : 0 < l.length) (hc : bt l 0 ≠ 45) : parseL l = P1 (NG l) (l.drop 0) := by
  rw [P0_pos l h hc, NG_bt h, decide_eq_false hc]
theorem t1_zero {k : Nat} (hk : k < l.length) (hP : parseL l = P1 (NG l) (l.drop k)) (hc : bt l k = 48) : MS l (k + 1) 2 k 0 0 0 false (-1) := MS.s2 (k + 1) k (Nat.le_refl _) (Nat.le_refl _) hk hc hP
theorem t1_dig {k : Nat} (hk : k < l.length) (hP : parseL l = P1 (NG l) (l.drop k)) (hd : isDig (bt l k) = true) (hc : bt l k ≠ 48) : MS l (k + 1) 3 k 0 0 0 false (-1) :=
  MS.s3 (k + 1) k (Nat.lt_succ_self _) hk hc (dgs_one l k hk hd) hP
theorem t1_bad {k : Nat} (hk : k < l.length) (hP : parseL l = P1 (NG l) (l.drop k)) (hd : isDig (bt l k) = false) : parseL l = none := by
  rw [hP]; exact P1_bad0 _ _ (dg_none l k hk hd)
/-- state 2 as state 3's kin. -/
theorem s2_dgs {ws : Nat} (h : ws < l.length) (hc : bt l ws = 48) : Dgs l ws (ws + 1) := dgs_one l ws h (by rw [hc]; decide)
theorem t3_dot {ws k : Nat} (h1 : ws < k) (hk : k < l.length) (hd : Dgs l ws k) (h0 : k = ws + 1 ∨ bt l ws ≠ 48) (hP : parseL l = P1 (NG l) (l.drop ws)) (hc : bt l k = 46) : MS l (k + 1) 4 ws k 0 0 false (-1) := by
  refine MS.s4 (k + 1) ws k (Nat.le_refl _) (Nat.le_refl _) h1 hk (by rw [isAt_bt l k _ hk, hc]; rfl) ?_
  rw [hP, P1_go l _ ws k h1 (Nat.le_of_lt hk) hd (fun _ => by rw [hc]; decide) h0]
theorem t3_e {ws k : Nat} (h1 : ws < k) (hk : k < l.length) (hd : Dgs l ws k) (h0 : k = ws + 1 ∨ bt l ws ≠ 48) (hP : parseL l = P1 (NG l) (l.drop ws)) (hc : isEc (bt l k) = true) : MS l (k + 1) 6 ws k 0 0 false (-1) := by
  refine MS.s6 (k + 1) ws k 0 0 h1 (Nat.lt_succ_self _) (Nat.le_refl _) (Nat.succ_pos _) (by omega) hk ?_
  rw [hP, P1_go l _ ws k h1 (Nat.le_of_lt hk) hd (fun _ => ec_notdig hc) h0, P2_no _ _ _ _ (by rw [isAt_bt l k _ hk]; exact decide_eq_false (ec_not46 hc)), P3_e _ _ _ _ _ (by rw [isE_bt l k hk]; exact hc)]
  rfl
theorem t3_bad {ws k : Nat} (h1 : ws < k) (hk : k < l.length) (hd : Dgs l ws k) (h0 : k = ws + 1 ∨ bt l ws ≠ 48) (hP : parseL l = P1 (NG l) (l.drop ws)) (hn : isDig (bt l k) = false) (h46 : bt l k ≠ 46) (hc : isEc (bt l k) = false) : parseL l = none := by
  rw [hP, P1_go l _ ws k h1 (Nat.le_of_lt hk) hd (fun _ => hn) h0, P2_no _ _ _ _ (by rw [isAt_bt l k _ hk]; exact decide_eq_false h46), P3_no _ _ _ _ _ (by rw [isE_bt l k hk]; exact hc), if_neg (drop_ne l k hk)]
theorem t2_digit {k ws : Nat} (hk1 : k ≤ ws + 1) (hk2 : ws + 1 ≤ k) (hk : k < l.length) (hc : bt l ws = 48) (hP : parseL l = P1 (NG l) (l.drop ws)) (hd : isDig (bt l k) = true) : parseL l = none := by
  obtain rfl : k = ws + 1 := by omega
  rw [hP]
  have e : l.drop ws = 48 :: bt l (ws + 1) :: l.drop (ws + 1 + 1) := by rw [drop_bt l ws (by omega), hc, drop_bt l (ws + 1) hk]
  have e2 : dg (l.drop ws) = 48 :: bt l (ws + 1) :: dg (l.drop (ws + 1 + 1)) := by
    rw [e]
    unfold dg
    rw [List.takeWhile_cons_of_pos (by decide), List.takeWhile_cons_of_pos hd]
  exact P1_bad1 _ _ (by rw [e2]; simp) (by rw [e2]; rfl)
theorem t3_end {ws : Nat} (h1 : ws < l.length) (hd : Dgs l ws l.length) (h0 : l.length = ws + 1 ∨ bt l ws ≠ 48) (hP : parseL l = P1 (NG l) (l.drop ws)) : parseL l = fin (NG l) ((l.take l.length).drop ws) [] 0 := by
  rw [hP, P1_go l _ ws l.length h1 (Nat.le_refl _) hd (fun h => absurd h (Nat.lt_irrefl _)) h0]
  have e : isAt l l.length 46 = false := isAt_end l _ _ (Nat.lt_irrefl _)
  rw [P2_no _ _ _ _ e, P3_no _ _ _ _ _ (by unfold isE; rw [isAt_end l _ _ (Nat.lt_irrefl _), isAt_end l _ _ (Nat.lt_irrefl _)]; rfl), if_pos (drop_nil l _ (Nat.lt_irrefl _))]
theorem t4_dig {k ws we : Nat} (hk1 : k ≤ we + 1) (hk2 : we + 1 ≤ k) (h1 : ws < we) (hk : k < l.length) (h46 : isAt l we 46 = true) (hP : parseL l = P2 (NG l) ((l.take we).drop ws) (l.drop we)) (hd : isDig (bt l k) = true) : MS l (k + 1) 5 ws we k 0 false (-1) := by
  obtain rfl : k = we + 1 := by omega
  exact MS.s5 (we + 1 + 1) ws we h1 (Nat.lt_succ_self _) hk h46 (dgs_one l (we + 1) hk hd) hP
theorem t4_bad {k ws we : Nat} (hk1 : k ≤ we + 1) (hk2 : we + 1 ≤ k) (h46 : isAt l we 46 = true) (hP : parseL l = P2 (NG l) ((l.take we).drop ws) (l.drop we)) (hd : ∀ _ : k < l.length, isDig (bt l k) = false) : parseL l = none := by
  obtain rfl : k = we + 1 := by omega
  rw [hP, P2_dot _ _ _ _ h46, if_pos]
  by_cases h : we + 1 < l.length
  · exact dg_none l _ h (hd h)
  · rw [drop_nil l _ h]; rfl
theorem t5_dig {k ws we : Nat} (h1 : ws < we) (hw : we + 1 < k) (hk : k < l.length) (h46 : isAt l we 46 = true) (hD : Dgs l (we + 1) k) (hP : parseL l = P2 (NG l) ((l.take we).drop ws) (l.drop we)) (hd : isDig (bt l k) = true) : MS l (k + 1) 5 ws we (we + 1) 0 false (-1) :=
  MS.s5 (k + 1) ws we h1 (Nat.lt_succ_of_lt hw) hk h46 (dgs_more l (we + 1) k (Nat.le_of_lt hw) hk hD hd) hP
theorem t5_e {k ws we : Nat} (h1 : ws < we) (hw : we + 1 < k) (hk : k < l.length) (h46 : isAt l we 46 = true) (hD : Dgs l (we + 1) k) (hP : parseL l = P2 (NG l) ((l.take we).drop ws) (l.drop we)) (hc : isEc (bt l k) = true) : MS l (k + 1) 6 ws we (we + 1) k false (-1) := by
  refine MS.s6 (k + 1) ws we (we + 1) k h1 (by omega) (by omega) (by omega) (by omega) hk ?_
  rw [hP, P2_go l _ _ we k h46 hw (Nat.le_of_lt hk) hD (fun _ => ec_notdig hc), P3_e _ _ _ _ _ (by rw [isE_bt l k hk]; exact hc)]
theorem t5_bad {k ws we : Nat} (hw : we + 1 < k) (hk : k < l.length) (h46 : isAt l we 46 = true) (hD : Dgs l (we + 1) k) (hP : parseL l = P2 (NG l) ((l.take we).drop ws) (l.drop we)) (hd : isDig (bt l k) = false) (hc : isEc (bt l k) = false) : parseL l = none := by
  rw [hP, P2_go l _ _ we k h46 hw (Nat.le_of_lt hk) hD (fun _ => hd), P3_no _ _ _ _ _ (by rw [isE_bt l k hk]; exact hc), if_neg (drop_ne l k hk)]
theorem t5_end {ws we : Nat} (hw : we + 1 < l.length) (h46 : isAt l we 46 = true) (hD : Dgs l (we + 1) l.length) (hP : parseL l = P2 (NG l) ((l.take we).drop ws) (l.drop we)) : parseL l = fin (NG l) ((l.take we).drop ws) ((l.take l.length).drop (we + 1)) 0 := by
  rw [hP, P2_go l _ _ we l.length h46 hw (Nat.le_refl _) hD (fun h => absurd h (Nat.lt_irrefl _)), P3_no _ _ _ _ _ (by unfold isE; rw [isAt_end l _ _ (Nat.lt_irrefl _), isAt_end l _ _ (Nat.lt_irrefl _)]; rfl), if_pos (drop_nil l _ (Nat.lt_irrefl _))]
theorem isPM_bt {k : Nat} (hk : k < l.length) : isPM l k = (bt l k == 43 || bt l k == 45) := by
  unfold isPM
  rw [isAt_bt l k _ hk, isAt_bt l k _ hk, Bool.eq_iff_iff]; simp
section
variable {k ws we fs fe : Nat}
theorem t6_plus (h1 : ws < we) (h2 : we < k) (h3 : fs ≤ fe) (h4 : fe < k) (h4' : we + fe ≤ fs + k) (hk : k < l.length) (hP : parseL l = P4 (NG l) ((l.take we).drop ws) ((l.take fe).drop fs) (l.drop k)) (hc : bt l k = 43) : MS l (k + 1) 7 ws we fs fe false (-1) := by
  refine MS.s7 (k + 1) ws we fs fe false h1 (by omega) h3 (by omega) (by omega) hk ?_
  rw [hP, P4_sign _ _ _ _ _ (by rw [isPM_bt hk, hc]; rfl), isAt_bt l k _ hk, hc]
  rfl
theorem t6_minus (h1 : ws < we) (h2 : we < k) (h3 : fs ≤ fe) (h4 : fe < k) (h4' : we + fe ≤ fs + k) (hk : k < l.length) (hP : parseL l = P4 (NG l) ((l.take we).drop ws) ((l.take fe).drop fs) (l.drop k)) (hc : bt l k = 45) : MS l (k + 1) 7 ws we fs fe true (-1) := by
  refine MS.s7 (k + 1) ws we fs fe true h1 (by omega) h3 (by omega) (by omega) hk ?_
  rw [hP, P4_sign _ _ _ _ _ (by rw [isPM_bt hk, hc]; rfl), isAt_bt l k _ hk, hc]
  rfl
theorem dig_notPM {c : UInt8} (h : isDig c = true) : (c == 43 || c == 45) = false := by
  have h1 := dig_ne h 43 (by decide)
  have h2 := dig_ne h 45 (by decide)
  simp [h1, h2]
theorem t6_dig (h1 : ws < we) (h2 : we < k) (h3 : fs ≤ fe) (h4 : fe < k) (h4' : we + fe ≤ fs + k) (hk : k < l.length) (hP : parseL l = P4 (NG l) ((l.take we).drop ws) ((l.take fe).drop fs) (l.drop k)) (hd : isDig (bt l k) = true) : MS l (k + 1) 8 ws we fs fe false k := by
  refine MS.s8 (k + 1) ws we fs fe false k h1 (by omega) h3 (by omega) (by omega) hk (Nat.lt_succ_self _) (dgs_one l k hk hd) ?_
  rw [hP, P4_no _ _ _ _ _ (by rw [isPM_bt hk]; exact dig_notPM hd)]
theorem t6_bad (hk : k < l.length) (hP : parseL l = P4 (NG l) ((l.take we).drop ws) ((l.take fe).drop fs) (l.drop k)) (h43 : bt l k ≠ 43) (h45 : bt l k ≠ 45) (hd : isDig (bt l k) = false) : parseL l = none := by
  rw [hP, P4_no _ _ _ _ _ (by rw [isPM_bt hk]; simp [h43, h45]), P5_none _ _ _ _ _ (dg_none l k hk hd)]
theorem t6_end (hk : ¬ k < l.length) (hP : parseL l = P4 (NG l) ((l.take we).drop ws) ((l.take fe).drop fs) (l.drop k)) : parseL l = none := by
  rw [hP, drop_nil l k hk]; rfl
theorem t7_dig {en : Bool} (h1 : ws < we) (h2 : we < k) (h3 : fs ≤ fe) (h4 : fe < k) (h4' : we + fe ≤ fs + k) (hk : k < l.length) (hP : parseL l = P5 (NG l) ((l.take we).drop ws) ((l.take fe).drop fs) en (l.drop k)) (hd : isDig (bt l k) = true) : MS l (k + 1) 8 ws we fs fe en k :=
  MS.s8 (k + 1) ws we fs fe en k h1 (by omega) h3 (by omega) (by omega) hk (Nat.lt_succ_self _) (dgs_one l k hk hd) hP
theorem t7_bad {en : Bool} (hP : parseL l = P5 (NG l) ((l.take we).drop ws) ((l.take fe).drop fs) en (l.drop k)) (hd : ∀ _ : k < l.length, isDig (bt l k) = false) : parseL l = none := by
  rw [hP]
  refine P5_none _ _ _ _ _ ?_
  by_cases h : k < l.length
  · exact dg_none l _ h (hd h)
  · rw [drop_nil l _ h]; rfl
theorem t8_dig {en : Bool} {es : Nat} (h1 : ws < we) (h2 : we < k) (h3 : fs ≤ fe) (h4 : fe < k) (h4' : we + fe ≤ fs + k) (hk : k < l.length) (he : es < k) (hD : Dgs l es k) (hP : parseL l = P5 (NG l) ((l.take we).drop ws) ((l.take fe).drop fs) en (l.drop es)) (hd : isDig (bt l k) = true) : MS l (k + 1) 8 ws we fs fe en es :=
  MS.s8 (k + 1) ws we fs fe en es h1 (by omega) h3 (by omega) (by omega) hk (by omega) (dgs_more l es k (by omega) hk hD hd) hP
theorem t8_bad {en : Bool} {es : Nat} (hk : k < l.length) (he : es < k) (hD : Dgs l es k) (hP : parseL l = P5 (NG l) ((l.take we).drop ws) ((l.take fe).drop fs) en (l.drop es)) (hd : isDig (bt l k) = false) : parseL l = none := by
  obtain ⟨e1, e2⟩ := dg_stop l es k (by omega) (by omega) hD (fun _ => hd)
  rw [hP, P5_more _ _ _ _ _ (by rw [e1]; exact mid_ne l _ _ he (by omega)), e2, if_neg (drop_ne l k hk)]
theorem t8_end {en : Bool} {es : Nat} (he : es < l.length) (hD : Dgs l es l.length) (hP : parseL l = P5 (NG l) ((l.take we).drop ws) ((l.take fe).drop fs) en (l.drop es)) :
    parseL l = fin (NG l) ((l.take we).drop ws) ((l.take fe).drop fs) (if en then -(expV ((l.take l.length).drop es)) else expV ((l.take l.length).drop es)) := by
  obtain ⟨e1, e2⟩ := dg_stop l es l.length (by omega) (Nat.le_refl _) hD (fun h => absurd h (Nat.lt_irrefl _))
  rw [hP, P5_more _ _ _ _ _ (by rw [e1]; exact mid_ne l _ _ he (Nat.le_refl _)), e1, e2, if_pos (drop_nil l _ (Nat.lt_irrefl _))]
end
end
end Go.Proofs.Qxb6600755aDoor
