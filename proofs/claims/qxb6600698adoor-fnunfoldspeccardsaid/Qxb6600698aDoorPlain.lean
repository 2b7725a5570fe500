/- The plain mathematics of this seat: lists of bytes; no Go in sight. -/
namespace Go.Proofs.Qxb6600698aDoor

/-! ### bytes and lists -/
theorem ext_list (s : ByteArray) (a b : Nat) : (s.extract a b).data.toList = (s.data.toList.take b).drop a := by
  simp [ByteArray.data_extract, List.drop_take]
theorem ba_eq {s t : ByteArray} (h : s.data.toList = t.data.toList) : s = t := by
  cases s; cases t; simpa using h
theorem ext_mk (s : ByteArray) (a b : Nat) : s.extract a b = ⟨((s.data.toList.take b).drop a).toArray⟩ := ba_eq (by rw [ext_list])
theorem ba_size (s : ByteArray) : s.size = s.data.toList.length := by simp
theorem take_snoc (s : ByteArray) (k : Nat) (h : k < s.size) : s.data.toList.take (k + 1) = s.data.toList.take k ++ [s[k]] := by
  rw [List.take_succ_eq_append_getElem (by simpa using h)]; rfl
theorem drop_cons (s : ByteArray) (k : Nat) (h : k < s.size) : s.data.toList.drop k = s[k] :: s.data.toList.drop (k + 1) := by
  rw [List.drop_eq_getElem_cons (by simpa using h)]; rfl
theorem drop_end (s : ByteArray) (k : Nat) (h : ¬ k < s.size) : s.data.toList.drop k = [] := List.drop_of_length_le (by rw [← ba_size]; omega)
theorem byte_eq {c d : UInt8} (h : (c.toNat : Int) = d.toNat) : c = d := UInt8.toNat_inj.1 (by omega)
theorem byte_ne {c d : UInt8} (h : ¬ (c.toNat : Int) = d.toNat) : c ≠ d := fun e => h (by rw [e])

/-! ### the bytes' kinds -/
def ws (c : UInt8) : Bool := c == 32 || c == 9
def bad (c : UInt8) : Bool := (c.toNat < 32 && !(c == 9)) || c == 127
theorem ws_iff (c : UInt8) : ws c = true ↔ (c.toNat : Int) = 32 ∨ (c.toNat : Int) = 9 := by
  simp only [ws, Bool.or_eq_true, beq_iff_eq]
  constructor
  · rintro (h | h)
    · subst h; exact Or.inl rfl
    · subst h; exact Or.inr rfl
  · rintro (h | h)
    · exact Or.inl (byte_eq h)
    · exact Or.inr (byte_eq h)
theorem bad_iff (c : UInt8) : bad c = true ↔ ((c.toNat : Int) < 32 ∧ ¬ (c.toNat : Int) = 9) ∨ (c.toNat : Int) = 127 := by
  simp only [bad, Bool.or_eq_true, Bool.and_eq_true, decide_eq_true_eq, beq_iff_eq, Bool.not_eq_true', beq_eq_false_iff_ne]
  constructor
  · rintro (⟨h1, h2⟩ | h)
    · exact Or.inl ⟨by omega, fun e => h2 (byte_eq e)⟩
    · subst h; exact Or.inr rfl
  · rintro (⟨h1, h2⟩ | h)
    · exact Or.inl ⟨by omega, byte_ne h2⟩
    · exact Or.inr (byte_eq h)

/-! ### lines -/
def starts : List UInt8 → Bool
  | [] => false
  | c :: _ => ws c
def lineOf (l : List UInt8) : List UInt8 := l.takeWhile (· != 10)
def restOf (l : List UInt8) : List UInt8 := (l.dropWhile (· != 10)).drop 1
def noCR (l : List UInt8) : List UInt8 := if l.getLast? = some 13 then l.dropLast else l
def trimL (l : List UInt8) : List UInt8 := l.dropWhile ws
def trimR (l : List UInt8) : List UInt8 := (l.reverse.dropWhile ws).reverse
def trim (l : List UInt8) : List UInt8 := trimL (trimR l)
def join (whole more : List UInt8) : List UInt8 := if more = [] then whole else if whole = [] then more else whole ++ 32 :: more

/-- What unfold does; 'fuel': at least the length of lines. -/
def unfoldL : Nat → List UInt8 → List UInt8 → Option (List UInt8 × List UInt8)
  | 0, whole, lines => some (whole, lines)
  | n + 1, whole, lines => if starts lines then (if (noCR (lineOf lines)).any bad then none else unfoldL n (join whole (trim (noCR (lineOf lines)))) (restOf lines)) else some (whole, lines)

/-! ### the model -/
def scan : List UInt8 → Nat
  | [] => 0
  | c :: r => if c = 10 ∧ starts r = false then 1 else scan r + 1
def foldEnd (l : List UInt8) : Nat := if starts l then scan l else 0
def blockBad : List UInt8 → Bool
  | [] => false
  | c :: r => if c = 10 then blockBad r else if c = 13 ∧ (r = [] ∨ r.head? = some 10) then blockBad r else if bad c then true else blockBad r
def joinL : Nat → List UInt8 → List UInt8 → List UInt8
  | 0, buf, _ => buf
  | n + 1, buf, block => if block = [] then buf else joinL n (join buf (trim (noCR (lineOf block)))) (restOf block)
def modelL (value lines : List UInt8) : Option (List UInt8 × List UInt8) :=
  if blockBad (lines.take (foldEnd lines)) then none else some (joinL ((lines.take (foldEnd lines)).length + 1) value (lines.take (foldEnd lines)), lines.drop (foldEnd lines))

/-! ### a line and what follows -/
theorem line_app (a r : List UInt8) (ha : ∀ c ∈ a, c ≠ 10) : lineOf (a ++ 10 :: r) = a := by
  unfold lineOf
  rw [List.takeWhile_append_of_pos (fun c hc => by simpa using ha c hc)]
  simp
theorem rest_app (a r : List UInt8) (ha : ∀ c ∈ a, c ≠ 10) : restOf (a ++ 10 :: r) = r := by
  unfold restOf
  rw [List.dropWhile_append_of_pos (fun c hc => by simpa using ha c hc)]
  simp
theorem line_none (a : List UInt8) (ha : ∀ c ∈ a, c ≠ 10) : lineOf a = a := by
  unfold lineOf
  have := List.takeWhile_append_of_pos (p := (· != (10 : UInt8))) (l₁ := a) (l₂ := []) (fun c hc => by simpa using ha c hc)
  simpa using this
theorem rest_none (a : List UInt8) (ha : ∀ c ∈ a, c ≠ 10) : restOf a = [] := by
  unfold restOf
  have := List.dropWhile_append_of_pos (p := (· != (10 : UInt8))) (l₁ := a) (l₂ := []) (fun c hc => by simpa using ha c hc)
  rw [List.append_nil] at this
  rw [this]
  rfl
theorem cases_LF : ∀ l : List UInt8, (∀ c ∈ l, c ≠ 10) ∨ ∃ a r, l = a ++ 10 :: r ∧ ∀ c ∈ a, c ≠ 10
  | [] => Or.inl (by simp)
  | c :: t => by
    by_cases h : c = 10
    · exact Or.inr ⟨[], t, by rw [h]; rfl, by simp⟩
    · rcases cases_LF t with h1 | ⟨a, r, e, h1⟩
      · refine Or.inl fun d hd => ?_
        rcases List.mem_cons.1 hd with rfl | hd
        · exact h
        · exact h1 d hd
      · refine Or.inr ⟨c :: a, r, by rw [e]; rfl, fun d hd => ?_⟩
        rcases List.mem_cons.1 hd with rfl | hd
        · exact h
        · exact h1 d hd

theorem scan_none (a : List UInt8) (ha : ∀ c ∈ a, c ≠ 10) : scan a = a.length := by
  induction a with
  | nil => rfl
  | cons c r ih =>
    rw [scan, if_neg (fun h => ha c (by simp) h.1), ih (fun d hd => ha d (by simp [hd]))]
    rfl
theorem scan_app (a r : List UInt8) (ha : ∀ c ∈ a, c ≠ 10) : scan (a ++ 10 :: r) = a.length + 1 + foldEnd r := by
  induction a with
  | nil =>
    rw [List.nil_append, scan]
    unfold foldEnd
    by_cases h : starts r = true
    · rw [if_neg (by simp [h]), if_pos h]; simp; omega
    · rw [if_pos ⟨rfl, by simpa using h⟩, if_neg h]; simp
  | cons c t ih =>
    rw [List.cons_append, scan, if_neg (fun h => ha c (by simp) h.1), ih (fun d hd => ha d (by simp [hd]))]
    simp; omega
theorem foldEnd_le (l : List UInt8) : foldEnd l ≤ l.length := by
  unfold foldEnd
  split
  · have : ∀ l : List UInt8, scan l ≤ l.length := by
      intro l
      induction l with
      | nil => exact Nat.le_refl _
      | cons c r ih => rw [scan]; split <;> simp <;> omega
    exact this l
  · exact Nat.zero_le _

theorem getLast_cons (c : UInt8) {t : List UInt8} (h : t ≠ []) : (c :: t).getLast? = t.getLast? := by
  rw [List.getLast?_cons]
  cases t with
  | nil => exact absurd rfl h
  | cons d r => simp [List.getLast?_cons]
theorem noCR_cons (c : UInt8) {t : List UInt8} (h : t ≠ []) : noCR (c :: t) = c :: noCR t := by
  unfold noCR
  rw [getLast_cons c h]
  split
  · exact List.dropLast_cons_of_ne_nil h
  · rfl
theorem bad13 : bad 13 = true := by decide
theorem bad_line (a X : List UInt8) (ha : ∀ c ∈ a, c ≠ 10) (hX : X = [] ∨ X.head? = some 10) : blockBad (a ++ X) = ((noCR a).any bad || blockBad X) := by
  induction a with
  | nil => simp [noCR]
  | cons c t ih =>
    have hc : c ≠ 10 := ha c (by simp)
    have ih' := ih (fun d hd => ha d (by simp [hd]))
    rw [List.cons_append, blockBad, if_neg hc, ih']
    cases t with
    | nil =>
      by_cases h13 : c = 13
      · subst h13
        rw [if_pos ⟨rfl, by simpa using hX⟩]
        simp [noCR]
      · have e : noCR [c] = [c] := by simp [noCR, h13]
        rw [if_neg (fun h => h13 h.1), e]
        by_cases hb : bad c = true
        · simp [hb]
        · simp [hb, noCR]
    | cons d r =>
      rw [noCR_cons c (by simp), List.any_cons]
      have hd : d ≠ 10 := ha d (by simp)
      rw [if_neg (by rintro ⟨_, h | h⟩; · simp at h
                     · simp at h; exact hd h)]
      by_cases hb : bad c = true
      · simp [hb]
      · simp [hb]
theorem bad_LF (X : List UInt8) : blockBad (10 :: X) = blockBad X := by rw [blockBad, if_pos rfl]

theorem joinL_nil (n : Nat) (b : List UInt8) : joinL n b [] = b := by
  cases n with
  | zero => rfl
  | succ n => rw [joinL, if_pos rfl]
theorem joinL_more : ∀ (n m : Nat) (b l : List UInt8), l.length < n → l.length < m → joinL n b l = joinL m b l
  | 0, _, _, _, h, _ => by omega
  | _ + 1, 0, _, _, _, h => by omega
  | n + 1, m + 1, b, l, hn, hm => by
    rw [joinL, joinL]
    by_cases h : l = []
    · rw [if_pos h, if_pos h]
    · rw [if_neg h, if_neg h]
      have : (restOf l).length < l.length := by
        unfold restOf
        rw [List.length_drop]
        have h1 := (List.dropWhile_sublist (fun c : UInt8 => c != 10) (l := l)).length_le
        have h2 : 0 < l.length := List.length_pos_iff.2 h
        omega
      exact joinL_more n m _ _ (by omega) (by omega)

/-- THE LAW OF unfold, plain: it agrees with the model. -/
theorem unfold_law : ∀ (n : Nat) (value lines : List UInt8), lines.length < n → unfoldL n value lines = modelL value lines
  | 0, _, _, h => by omega
  | n + 1, value, lines, h => by
    by_cases hs : starts lines = true
    · have hpos : lines ≠ [] := fun e => by rw [e] at hs; cases hs
      have hlen : 0 < lines.length := List.length_pos_iff.2 hpos
      rw [unfoldL, if_pos hs]
      rcases cases_LF lines with ha | ⟨a, r, e, ha⟩
      · have e1 : foldEnd lines = lines.length := by unfold foldEnd; rw [if_pos hs, scan_none lines ha]
        have e2 : blockBad lines = (noCR lines).any bad := by
          have := bad_line lines [] ha (Or.inl rfl)
          simpa [blockBad] using this
        rw [line_none lines ha, rest_none lines ha]
        unfold modelL
        rw [e1, List.take_length, List.drop_length, e2]
        by_cases hb : (noCR lines).any bad = true
        · rw [if_pos hb, if_pos hb]
        · rw [if_neg hb, if_neg hb]
          have e3 : joinL (lines.length + 1) value lines = join value (trim (noCR lines)) := by
            rw [joinL, if_neg hpos, line_none lines ha, rest_none lines ha, joinL_nil]
          rw [e3]
          cases n with
          | zero => rfl
          | succ n => rw [unfoldL, if_neg (by simp [starts])]
      · have e1 : foldEnd lines = a.length + 1 + foldEnd r := by unfold foldEnd; rw [if_pos hs, e, scan_app a r ha]; rfl
        have e4 : lines.take (foldEnd lines) = a ++ 10 :: r.take (foldEnd r) := by
          rw [e1, e, List.take_append, List.take_of_length_le (by omega), show a.length + 1 + foldEnd r - a.length = foldEnd r + 1 by omega]
          rfl
        have e5 : lines.drop (foldEnd lines) = r.drop (foldEnd r) := by
          rw [e1, e, List.drop_append, List.drop_of_length_le (by omega), show a.length + 1 + foldEnd r - a.length = foldEnd r + 1 by omega]
          simp
        have e2 : blockBad (a ++ 10 :: r.take (foldEnd r)) = ((noCR a).any bad || blockBad (r.take (foldEnd r))) := by
          rw [bad_line a _ ha (Or.inr rfl), bad_LF]
        have el : lineOf lines = a := by rw [e]; exact line_app a r ha
        have er : restOf lines = r := by rw [e]; exact rest_app a r ha
        have hlr : r.length < n := by rw [e] at h; simp at h; omega
        rw [el, er, unfold_law n _ r hlr]
        unfold modelL
        rw [e4, e5, e2]
        by_cases hb : (noCR a).any bad = true
        · rw [if_pos hb, if_pos (by simp [hb])]
        · rw [if_neg hb]
          have hb' : (noCR a).any bad = false := by simpa using hb
          rw [hb', Bool.false_or]
          by_cases hb2 : blockBad (r.take (foldEnd r)) = true
          · rw [if_pos hb2, if_pos hb2]
          · rw [if_neg hb2, if_neg hb2]
            have e6 : joinL ((a ++ 10 :: r.take (foldEnd r)).length + 1) value (a ++ 10 :: r.take (foldEnd r)) = joinL ((r.take (foldEnd r)).length + 1) (join value (trim (noCR a))) (r.take (foldEnd r)) := by
              rw [joinL, if_neg (by simp), line_app a _ ha, rest_app a _ ha]
              exact joinL_more _ _ _ _ (by simp; omega) (by omega)
            rw [e6]
    · have hs' : starts lines = false := by simpa using hs
      rw [unfoldL, if_neg hs]
      unfold modelL foldEnd
      rw [if_neg hs]
      simp [blockBad, joinL]

/-! ### trimming -/
theorem trimR_cons (c : UInt8) (x : List UInt8) : trimR (c :: x) = if trimR x = [] then (if ws c then [] else [c]) else c :: trimR x := by
  unfold trimR
  rw [List.reverse_cons, List.dropWhile_append]
  by_cases h : (x.reverse.dropWhile ws).isEmpty = true
  · rw [if_pos h, if_pos (by rw [List.isEmpty_iff.1 h]; rfl)]
    by_cases hc : ws c = true
    · simp [hc]
    · simp [hc]
  · have hne : x.reverse.dropWhile ws ≠ [] := by simpa using h
    rw [if_neg h, if_neg (by simpa using hne)]
    simp
theorem trim_comm (l : List UInt8) : trimL (trimR l) = trimR (trimL l) := by
  induction l with
  | nil => rfl
  | cons c t ih =>
    by_cases hc : ws c = true
    · have e1 : trimL (c :: t) = trimL t := by simp [trimL, hc]
      rw [e1, ← ih, trimR_cons]
      by_cases h : trimR t = []
      · rw [if_pos h, if_pos hc, h]
      · rw [if_neg h]; simp [trimL, hc]
    · have e1 : trimL (c :: t) = c :: t := by simp [trimL, hc]
      rw [e1, trimR_cons]
      by_cases h : trimR t = []
      · rw [if_pos h, if_neg hc]; simp [trimL, hc]
      · rw [if_neg h]; simp [trimL, hc]
theorem trim_cons (c : UInt8) (hc : ws c = true) (x : List UInt8) : trim (c :: x) = trim x := by
  unfold trim
  rw [trim_comm, trim_comm]
  simp [trimL, hc]

/-- THE LAW OF ONE LINE, plain. -/
theorem one_law (n : Nat) (value x : List UInt8) (hx : ∀ c ∈ x, c ≠ 10) (h13 : x.getLast? ≠ some 13) :
    unfoldL (n + 1) value (32 :: x) = if x.any bad then none else some (join value (trim x), []) := by
  have ha : ∀ c ∈ (32 :: x : List UInt8), c ≠ 10 := fun c hc => by
    rcases List.mem_cons.1 hc with rfl | hc
    · decide
    · exact hx c hc
  have e1 : noCR (32 :: x) = 32 :: x := by
    unfold noCR
    rw [if_neg]
    cases x with
    | nil => simp
    | cons d r => rw [getLast_cons 32 (by simp)]; exact h13
  have e2 : (32 :: x : List UInt8).any bad = x.any bad := by rw [List.any_cons, show bad 32 = false from by decide, Bool.false_or]
  rw [unfoldL, if_pos (show starts (32 :: x) = true from (by decide : ws 32 = true)), line_none _ ha, rest_none _ ha, e1, e2, trim_cons 32 (by decide)]
  by_cases hb : x.any bad = true
  · rw [if_pos hb, if_pos hb]
  · rw [if_neg hb, if_neg hb]
    cases n with
    | zero => rfl
    | succ n => rw [unfoldL, if_neg (by simp [starts])]
theorem trim_len (l : List UInt8) : (trim l).length ≤ l.length := by
  unfold trim
  have h1 : (trimL (trimR l)).length ≤ (trimR l).length := (List.dropWhile_sublist _).length_le
  have h2 : (trimR l).length ≤ l.length := by
    unfold trimR
    rw [List.length_reverse]
    have := (List.dropWhile_sublist ws (l := l.reverse)).length_le
    simpa using this
  omega
theorem noCR_len (l : List UInt8) : (noCR l).length ≤ l.length := by
  unfold noCR
  split
  · rw [List.length_dropLast]; omega
  · exact Nat.le_refl _
theorem line_rest_len (l : List UInt8) (h : l ≠ []) : (lineOf l).length + (restOf l).length ≤ l.length ∧ (restOf l).length < l.length := by
  rcases cases_LF l with ha | ⟨a, r, e, ha⟩
  · rw [line_none l ha, rest_none l ha]
    have := List.length_pos_iff.2 h
    simp; omega
  · rw [e, line_app a r ha, rest_app a r ha]
    simp; omega
theorem join_len (a b : List UInt8) : (join a b).length ≤ a.length + b.length + 1 := by
  unfold join
  split
  · omega
  · split
    · omega
    · simp; omega
end Go.Proofs.Qxb6600698aDoor
