import Derived.Test.Qxb6600755aDoorMant
/- The plain law of the exponent's digits, and of the first and the last nonzero digit. -/
namespace Go.Proofs.Qxb6600755aDoor
set_option linter.unusedVariables false

def dval (ds : List UInt8) : Int := ds.foldl (fun e c => e * 10 + ((c.toNat : Int) - 48)) 0
theorem dval_nil : dval [] = 0 := rfl
theorem dval_snoc (ds : List UInt8) (c : UInt8) : dval (ds ++ [c]) = dval ds * 10 + ((c.toNat : Int) - 48) := by
  unfold dval; rw [List.foldl_append]; rfl
theorem expV_zero (t : List UInt8) : expV (48 :: t) = expV t := rfl
theorem expV_noZ (ds : List UInt8) : expV ds = expV (noZ ds) := by
  induction ds with
  | nil => rfl
  | cons c t ih =>
    by_cases h : c = 48
    · subst h
      rw [expV_zero, ih]
      rfl
    · have : noZ (c :: t) = c :: t := by simp [noZ, h]
      rw [this]
section
variable {s : List UInt8}
theorem dig_at (hd : ∀ c ∈ s, isDig c = true) {m : Nat} (hm : m < s.length) : 48 ≤ ((bt s m).toNat : Int) ∧ ((bt s m).toNat : Int) ≤ 57 := by
  rw [bt_eq s m hm]
  exact (isDig_iff _).1 (hd _ (List.getElem_mem hm))
theorem dval_lt (hd : ∀ c ∈ s, isDig c = true) (m : Nat) (hm : m ≤ s.length) : 0 ≤ dval (s.take m) ∧ dval (s.take m) < ((10 ^ m : Nat) : Int) := by
  induction m with
  | zero => exact ⟨Int.le_refl _, by rw [List.take_zero, dval_nil]; decide⟩
  | succ m ih =>
    obtain ⟨h1, h2⟩ := ih (by omega)
    obtain ⟨h3, h4⟩ := dig_at hd (m := m) (by omega)
    rw [take_bt s m (by omega), dval_snoc, Nat.pow_succ]
    generalize (10 : Nat) ^ m = p at *
    omega
theorem dval_ge (hd : ∀ c ∈ s, isDig c = true) (h0 : bt s 0 ≠ 48) (m : Nat) (hm : m + 1 ≤ s.length) : ((10 ^ m : Nat) : Int) ≤ dval (s.take (m + 1)) := by
  induction m with
  | zero =>
    obtain ⟨h3, h4⟩ := dig_at hd (m := 0) (by omega)
    rw [take_bt s 0 (by omega), dval_snoc]
    have h5 : ¬ ((bt s 0).toNat : Int) = 48 := fun e => h0 (byte_eq (d := 48) e)
    show (1 : Int) ≤ dval (s.take 0) * 10 + _
    rw [List.take_zero, dval_nil]
    omega
  | succ m ih =>
    have h1 := ih (by omega)
    obtain ⟨h3, h4⟩ := dig_at hd (m := m + 1) (by omega)
    rw [take_bt s (m + 1) (by omega), dval_snoc, Nat.pow_succ]
    generalize (10 : Nat) ^ m = p at *
    omega
theorem exp_small (hd : ∀ c ∈ s, isDig c = true) (m : Nat) (h13 : m ≤ 13) (hm : m ≤ s.length) : expV (s.take m) = dval (s.take m) := by
  induction m with
  | zero => rfl
  | succ m ih =>
    have h1 := ih (by omega) (by omega)
    have h2 := (dval_lt hd m (by omega)).2
    have h3 : (10 : Nat) ^ m ≤ 10 ^ 12 := Nat.pow_le_pow_right (by omega) (by omega)
    have h4 : (10 : Nat) ^ 12 = 1000000000000 := by decide
    rw [take_bt s m (by omega), expV_snoc, dval_snoc, h1, if_pos (by omega)]
theorem exp_stays (hd : ∀ c ∈ s, isDig c = true) (v : Int) (m0 : Nat) (hv : ¬ v < 1099511627776) (h : expV (s.take m0) = v) (m : Nat) (hm0 : m0 ≤ m) (hm : m ≤ s.length) : expV (s.take m) = v := by
  induction m with
  | zero =>
    have : m0 = 0 := by omega
    rw [this] at h; exact h
  | succ m ih =>
    by_cases he : m0 = m + 1
    · rw [he] at h; exact h
    · rw [take_bt s m (by omega), expV_snoc, ih (by omega) (by omega), if_neg hv]
/-- The rule of the first 13 digits, or 14. -/
theorem exp_rule (hd : ∀ c ∈ s, isDig c = true) (h0 : 0 < s.length → bt s 0 ≠ 48) : expV s = if 14 ≤ s.length ∧ dval (s.take 13) < 1099511627776 then dval (s.take 13) * 10 + (((bt s 13).toNat : Int) - 48) else dval (s.take 13) := by
  by_cases h14 : 14 ≤ s.length
  · have e13 := exp_small hd 13 (Nat.le_refl _) (by omega)
    have el : s.take s.length = s := List.take_of_length_le (Nat.le_refl _)
    by_cases hv : dval (s.take 13) < 1099511627776
    · rw [if_pos ⟨h14, hv⟩]
      have e14 : expV (s.take 14) = dval (s.take 13) * 10 + (((bt s 13).toNat : Int) - 48) := by
        rw [take_bt s 13 (by omega), expV_snoc, e13, if_pos hv]
      have hg : ((10 ^ 12 : Nat) : Int) ≤ dval (s.take 13) := dval_ge hd (h0 (by omega)) 12 (by omega)
      have h4 : (10 : Nat) ^ 12 = 1000000000000 := by decide
      rw [h4] at hg
      obtain ⟨h5, h6⟩ := dig_at hd (m := 13) (by omega)
      have := exp_stays hd _ 14 (by omega) e14 s.length h14 (Nat.le_refl _)
      rwa [el] at this
    · rw [if_neg (fun h => hv h.2)]
      have := exp_stays hd _ 13 hv e13 s.length (by omega) (Nat.le_refl _)
      rwa [el] at this
  · rw [if_neg (fun h => h14 h.1)]
    have := exp_small hd s.length (by omega) (Nat.le_refl _)
    rw [List.take_of_length_le (Nat.le_refl _)] at this
    rw [this, List.take_of_length_le (by omega)]
end
theorem noZ_head {l : List UInt8} (h : 0 < (noZ l).length) : bt (noZ l) 0 ≠ 48 := by
  intro e
  have h1 := List.head?_dropWhile_not (fun c : UInt8 => c == 48) l
  have h2 := head_at (noZ l) 0 h
  rw [List.drop_zero, e] at h2
  unfold noZ at h2
  rw [h2] at h1
  simp at h1
theorem noZ_sub {l : List UInt8} (h : ∀ c ∈ l, isDig c = true) : ∀ c ∈ noZ l, isDig c = true := fun c hc => h c ((List.dropWhile_sublist _).subset hc)
/-- The exponent as the model reads it. -/
theorem exp_law {ds t : List UInt8} (hd : ∀ c ∈ ds, isDig c = true) (ht : noZ ds = t) : expV ds = if 14 ≤ t.length ∧ dval (t.take 13) < 1099511627776 then dval (t.take 13) * 10 + (((bt t 13).toNat : Int) - 48) else dval (t.take 13) := by
  subst ht
  rw [expV_noZ ds]
  exact exp_rule (noZ_sub hd) noZ_head

/-! ### first and last -/
theorem noZ_snoc_nil (a : List UInt8) (c : UInt8) (h : noZ a = []) : noZ (a ++ [c]) = noZ [c] := by
  unfold noZ at *
  rw [List.dropWhile_append, h]
  rfl
theorem noZ_snoc (a : List UInt8) (c : UInt8) (h : noZ a ≠ []) : noZ (a ++ [c]) = noZ a ++ [c] := by
  unfold noZ at *
  rw [List.dropWhile_append]
  simp [h]
/-- Behind k digits: none is nonzero (-1, -1); or f is the first, la the last. -/
def FL (d : List UInt8) (k : Nat) (first last : Int) : Prop :=
  (first = -1 ∧ last = -1 ∧ noZ (d.take k) = []) ∨ ∃ f la : Nat, first = f ∧ last = la ∧ f ≤ la ∧ la < k ∧ noZ (d.take k) = (d.take k).drop f ∧ trimZ ((d.take k).drop f) = (d.take (la + 1)).drop f
theorem FL.none {d : List UInt8} (k : Nat) (h : noZ (d.take k) = []) : FL d k (-1) (-1) := Or.inl ⟨rfl, rfl, h⟩
theorem FL.some {d : List UInt8} (k f la : Nat) (h1 : f ≤ la) (h2 : la < k) (h3 : noZ (d.take k) = (d.take k).drop f) (h4 : trimZ ((d.take k).drop f) = (d.take (la + 1)).drop f) : FL d k f la := Or.inr ⟨f, la, rfl, rfl, h1, h2, h3, h4⟩
theorem FL.zero (d : List UInt8) : FL d 0 (-1) (-1) := FL.none 0 rfl
theorem FL_zero_none {d : List UInt8} {k : Nat} (hk : k < d.length) (h : noZ (d.take k) = []) (hc : bt d k = 48) : FL d (k + 1) (-1) (-1) := by
  refine FL.none _ ?_
  rw [take_bt d k hk, noZ_snoc_nil _ _ h, hc]
  rfl
theorem FL_new {d : List UInt8} {k : Nat} (hk : k < d.length) (h : noZ (d.take k) = []) (hc : bt d k ≠ 48) : FL d (k + 1) k k := by
  have e : (d.take (k + 1)).drop k = [bt d k] := by
    rw [take_bt d k hk, List.drop_append_of_le_length (by rw [List.length_take]; omega), List.drop_of_length_le (by rw [List.length_take]; omega)]
    rfl
  refine FL.some (k + 1) k k (Nat.le_refl _) (Nat.lt_succ_self _) ?_ ?_
  · rw [e, take_bt d k hk, noZ_snoc_nil _ _ h]
    simp [noZ, hc]
  · rw [e]
    have := trimZ_snoc_stop [] (bt d k) hc
    simpa using this
theorem FL_step {d : List UInt8} {k f : Nat} (hk : k < d.length) (hf : f < k) (h : noZ (d.take k) = (d.take k).drop f) : noZ (d.take (k + 1)) = (d.take (k + 1)).drop f := by
  have hl : ((d.take k).drop f).length = k - f := by rw [List.length_drop, List.length_take]; omega
  have hne : noZ (d.take k) ≠ [] := by
    rw [h]
    intro e
    rw [e] at hl
    simp at hl
    omega
  rw [take_bt d k hk, noZ_snoc _ _ hne, h, List.drop_append_of_le_length (by rw [List.length_take]; omega)]
theorem FL_zero {d : List UInt8} {k f la : Nat} (hk : k < d.length) (h1 : f ≤ la) (h2 : la < k) (h3 : noZ (d.take k) = (d.take k).drop f) (h4 : trimZ ((d.take k).drop f) = (d.take (la + 1)).drop f) (hc : bt d k = 48) : FL d (k + 1) f la := by
  refine FL.some (k + 1) f la h1 (by omega) (FL_step hk (by omega) h3) ?_
  rw [take_bt d k hk, List.drop_append_of_le_length (by rw [List.length_take]; omega), hc, trimZ_snoc_zero, h4]
theorem FL_more {d : List UInt8} {k f la : Nat} (hk : k < d.length) (h1 : f ≤ la) (h2 : la < k) (h3 : noZ (d.take k) = (d.take k).drop f) (hc : bt d k ≠ 48) : FL d (k + 1) f k := by
  refine FL.some (k + 1) f k (by omega) (Nat.lt_succ_self _) (FL_step hk (by omega) h3) ?_
  rw [take_bt d k hk, List.drop_append_of_le_length (by rw [List.length_take]; omega), trimZ_snoc_stop _ _ hc]
end Go.Proofs.Qxb6600755aDoor
