import Derived.Test.Qxb6600755aDoorPlain
/- The plain law of signs. -/
namespace Go.Proofs.Qxb6600755aDoor
set_option linter.unusedVariables false

theorem dw_nil {p : UInt8 → Bool} {l : List UInt8} : l.dropWhile p = [] ↔ ∀ c ∈ l, p c = true := by
  induction l with
  | nil => simp
  | cons c t ih =>
    cases hc : p c with
    | false => simp [hc]
    | true => simp [hc, ih]
theorem tw_self {p : UInt8 → Bool} {l : List UInt8} (h : ∀ c ∈ l, p c = true) : l.takeWhile p = l := by
  induction l with
  | nil => rfl
  | cons c t ih => rw [List.takeWhile_cons_of_pos (h c (by simp)), ih (fun d hd => h d (by simp [hd]))]
def isEc (c : UInt8) : Bool := c == 101 || c == 69
def nz (c : UInt8) : Bool := 49 ≤ c && c ≤ 57
def mant (l : List UInt8) : List UInt8 := l.takeWhile fun c => !isEc c
def nzL (l : List UInt8) : Bool := (mant l).any nz
/-- The sign that the law wants. -/
def wantS (l : List UInt8) : Int := if nzL l then (if l.head? = some 45 then -1 else 1) else 0
/-- The sign of a normal form. -/
def signS (ng : Bool) (ds : List UInt8) : Int := if ds = [] then 0 else if ng then -1 else 1

theorem nz_iff (c : UInt8) : nz c = true ↔ 49 ≤ (c.toNat : Int) ∧ (c.toNat : Int) ≤ 57 := by
  simp [nz, UInt8.le_iff_toNat_le]; omega
theorem nz_no (c : UInt8) : nz c = false ↔ ¬ (49 ≤ (c.toNat : Int) ∧ (c.toNat : Int) ≤ 57) := by
  rw [← nz_iff, Bool.not_eq_true]
theorem isEc_iff (c : UInt8) : isEc c = true ↔ (c.toNat : Int) = 101 ∨ (c.toNat : Int) = 69 := by
  unfold isEc
  rw [Bool.or_eq_true, beq_iff_eq, beq_iff_eq]
  constructor
  · rintro (rfl | rfl)
    · exact Or.inl rfl
    · exact Or.inr rfl
  · rintro (h | h)
    · exact Or.inl (byte_eq h)
    · exact Or.inr (byte_eq h)
theorem dig_nz (c : UInt8) (h : isDig c = true) : nz c = false ↔ c = 48 := by
  rw [nz_no]
  have h1 := (isDig_iff c).1 h
  constructor
  · intro h2
    exact byte_eq (d := 48) (by show (c.toNat : Int) = 48; omega)
  · rintro rfl
    decide
theorem dig_notE (c : UInt8) (h : isDig c = true) : isEc c = false := by
  rw [← Bool.not_eq_true, isEc_iff]
  have h1 := (isDig_iff c).1 h
  omega
theorem dg_all (l : List UInt8) : ∀ c ∈ dg l, isDig c = true := fun c hc => by
  unfold dg at hc
  exact List.all_eq_true.1 (List.all_takeWhile (p := isDig) (l := l)) c hc
theorem dg_aft (l : List UInt8) : dg l ++ aft l = l := List.takeWhile_append_dropWhile
theorem mant_cons (c : UInt8) (l : List UInt8) (h : isEc c = false) : mant (c :: l) = c :: mant l := by simp [mant, h]
theorem mant_digits (ds l : List UInt8) (h : ∀ c ∈ ds, isDig c = true) : mant (ds ++ l) = ds ++ mant l := by
  induction ds with
  | nil => rfl
  | cons c t ih =>
    rw [List.cons_append, mant_cons _ _ (dig_notE c (h c (by simp))), ih (fun d hd => h d (by simp [hd]))]
    rfl
theorem trim_nil (d : List UInt8) : trimZ (noZ d) = [] ↔ ∀ c ∈ d, c = 48 := by
  unfold trimZ
  rw [List.reverse_eq_nil_iff, dw_nil]
  constructor
  · intro h
    have h2 : noZ d = [] := by
      cases hz : noZ d with
      | nil => rfl
      | cons c t =>
        exfalso
        have hc : c = 48 := by
          have := h c (by rw [hz]; simp)
          simpa using this
        have := List.head?_dropWhile_not (fun c : UInt8 => c == 48) d
        rw [show d.dropWhile (fun c : UInt8 => c == 48) = c :: t from hz] at this
        simp [hc] at this
    intro c hc
    unfold noZ at h2
    have := dw_nil.1 h2 c hc
    simpa using this
  · intro h
    have h2 : noZ d = [] := by
      unfold noZ
      rw [dw_nil]
      intro c hc
      simp [h c hc]
    rw [h2]
    simp
theorem fin_sign {ng ng' : Bool} {wh fr ds : List UInt8} {e ex : Int} (hd : ∀ c ∈ wh ++ fr, isDig c = true) (h : fin ng wh fr e = some (ng', ds, ex)) :
    (ds = [] ↔ (wh ++ fr).any nz = false) ∧ (ds ≠ [] → ng' = ng) := by
  have hz : (∀ c ∈ wh ++ fr, c = 48) ↔ (wh ++ fr).any nz = false := by
    rw [List.any_eq_false]
    constructor
    · intro h c hc
      rw [Bool.not_eq_true]
      exact (dig_nz c (hd c hc)).2 (h c hc)
    · intro h c hc
      exact (dig_nz c (hd c hc)).1 (by simpa using h c hc)
  unfold fin at h
  by_cases h0 : trimZ (noZ (wh ++ fr)) = []
  · rw [if_pos h0] at h
    injection h with h
    injection h with h1 h2
    injection h2 with h2 h3
    subst h2
    exact ⟨⟨fun _ => hz.1 ((trim_nil _).1 h0), fun _ => rfl⟩, fun h => absurd rfl h⟩
  · rw [if_neg h0] at h
    injection h with h
    injection h with h1 h2
    injection h2 with h2 h3
    subst h2 h1
    exact ⟨⟨fun h => absurd h h0, fun h => absurd ((trim_nil _).2 (hz.2 h)) h0⟩, fun _ => rfl⟩
theorem P5_fin {ng en : Bool} {wh fr l5 : List UInt8} {r : Bool × List UInt8 × Int} (h : P5 ng wh fr en l5 = some r) : ∃ e, fin ng wh fr e = some r := by
  unfold P5 at h
  split at h
  · cases h
  · split at h
    · cases h
    · exact ⟨_, h⟩
theorem P3_fin {ng : Bool} {wh fr l3 : List UInt8} {r : Bool × List UInt8 × Int} (h : P3 ng wh fr l3 = some r) : (∃ e, fin ng wh fr e = some r) ∧ mant l3 = [] := by
  unfold P3 at h
  split at h
  · rename_i hh
    refine ⟨?_, ?_⟩
    · unfold P4 at h
      split at h
      · exact P5_fin h
      · exact P5_fin h
    · cases l3 with
      | nil => rfl
      | cons c t =>
        have hc : isEc c = true := by
          rcases hh with hh | hh
          · rw [show c = 101 from Option.some.inj hh]; rfl
          · rw [show c = 69 from Option.some.inj hh]; rfl
        simp [mant, hc]
  · split at h
    · rename_i h2
      exact ⟨⟨_, h⟩, by rw [h2]; rfl⟩
    · cases h
theorem P2_fin {ng : Bool} {wh l2 : List UInt8} {r : Bool × List UInt8 × Int} (h : P2 ng wh l2 = some r) : ∃ fr e pre, fin ng wh fr e = some r ∧ (∀ c ∈ fr, isDig c = true) ∧ mant l2 = pre ++ fr ∧ pre.any nz = false := by
  unfold P2 at h
  split at h
  · rename_i hh
    split at h
    · cases h
    · obtain ⟨⟨e, h1⟩, h2⟩ := P3_fin h
      refine ⟨_, e, [46], h1, dg_all _, ?_, rfl⟩
      cases l2 with
      | nil => cases hh
      | cons c t =>
        obtain rfl : c = 46 := Option.some.inj hh
        rw [mant_cons _ _ (by rfl)]
        have e2 : t = dg t ++ aft t := (dg_aft t).symm
        have e3 : mant t = dg t := by
          conv => lhs; rw [e2]
          rw [mant_digits _ _ (dg_all t), show mant (aft t) = [] from h2, List.append_nil]
        rw [e3]
        rfl
  · obtain ⟨⟨e, h1⟩, h2⟩ := P3_fin h
    exact ⟨[], e, [], h1, fun c hc => by simp at hc, h2, rfl⟩
theorem P1_fin {ng : Bool} {l1 : List UInt8} {r : Bool × List UInt8 × Int} (h : P1 ng l1 = some r) : ∃ fr e, fin ng (dg l1) fr e = some r ∧ (∀ c ∈ dg l1 ++ fr, isDig c = true) ∧ (mant l1).any nz = (dg l1 ++ fr).any nz := by
  unfold P1 at h
  split at h
  · cases h
  · obtain ⟨fr, e, pre, h1, h2, h3, h4⟩ := P2_fin h
    refine ⟨fr, e, h1, fun c hc => ?_, ?_⟩
    · rcases List.mem_append.1 hc with hc | hc
      · exact dg_all _ c hc
      · exact h2 c hc
    · have e3 : mant l1 = dg l1 ++ mant (aft l1) := by
        conv => lhs; rw [← dg_aft l1]
        rw [mant_digits _ _ (dg_all l1)]
      rw [e3, h3, List.any_append, List.any_append, List.any_append, h4, Bool.false_or]
/-- THE LAW OF SIGNS. -/
theorem sign_law {l ds : List UInt8} {ng : Bool} {ex : Int} (h : parseL l = some (ng, ds, ex)) : signS ng ds = wantS l := by
  have key : ∀ ng0 l1, P1 ng0 l1 = some (ng, ds, ex) → (mant l).any nz = (mant l1).any nz → (ng0 = true ↔ l.head? = some 45) → signS ng ds = wantS l := by
    intro ng0 l1 h1 h2 h3
    obtain ⟨fr, e, g1, g2, g3⟩ := P1_fin h1
    obtain ⟨k1, k2⟩ := fin_sign g2 g1
    unfold signS wantS nzL
    rw [h2, g3]
    by_cases hds : ds = []
    · rw [if_pos hds, k1.1 hds]
      rfl
    · rw [if_neg hds]
      have : (dg l1 ++ fr).any nz = true := by
        rw [← Bool.not_eq_false]
        exact fun h => hds (k1.2 h)
      rw [this, if_pos rfl, k2 hds]
      by_cases h45 : l.head? = some 45
      · rw [if_pos h45, h3.2 h45]; rfl
      · rw [if_neg h45]
        have : ng0 = false := by
          rw [← Bool.not_eq_true]
          exact fun h => h45 (h3.1 h)
        rw [this]; rfl
  unfold parseL at h
  by_cases h45 : l.head? = some 45
  · rw [if_pos h45] at h
    refine key true (l.drop 1) h ?_ ⟨fun _ => h45, fun _ => rfl⟩
    cases l with
    | nil => cases h45
    | cons c t =>
      obtain rfl : c = 45 := Option.some.inj h45
      rw [mant_cons _ _ (by rfl)]
      simp [nz]
  · rw [if_neg h45] at h
    exact key false l h rfl ⟨(fun h => by cases h), fun h => absurd h h45⟩
/-! ### places -/
theorem mant_end (l : List UInt8) (h : ∀ c ∈ l, isEc c = false) : mant l = l := by
  unfold mant
  refine tw_self fun c hc => ?_
  rw [h c hc]; rfl
theorem mant_at (l : List UInt8) (k : Nat) (hk : k < l.length) (h : ∀ c ∈ l.take k, isEc c = false) (he : isEc (bt l k) = true) : mant l = l.take k := by
  have e : l = l.take k ++ l.drop k := (List.take_append_drop _ _).symm
  unfold mant
  conv => lhs; rw [e]
  rw [List.takeWhile_append_of_pos (fun c hc => by rw [h c hc]; rfl), drop_bt l k hk]
  simp [he]
end Go.Proofs.Qxb6600755aDoor
