import Derived.Test.Qxb6600698aDoorPlain
namespace Go.Proofs.Qxb6600698aDoor
set_option linter.unusedVariables false

/-! ### the model's loops, byte by byte -/
theorem starts_at (s : ByteArray) (k : Nat) (h : k < s.size) : starts (s.data.toList.drop k) = ws s[k] := by
  rw [drop_cons s k h]; rfl
theorem starts_end (s : ByteArray) (k : Nat) (h : ¬ k < s.size) : starts (s.data.toList.drop k) = false := by
  rw [drop_end s k h]; rfl
theorem scan_hit (s : ByteArray) (k : Nat) (h : k < s.size) (h10 : s[k] = 10) (hn : starts (s.data.toList.drop (k + 1)) = false) : scan (s.data.toList.drop k) = 1 := by
  rw [drop_cons s k h, scan, if_pos ⟨h10, hn⟩]
theorem scan_miss (s : ByteArray) (k : Nat) (h : k < s.size) (hn : ¬ (s[k] = 10 ∧ starts (s.data.toList.drop (k + 1)) = false)) : scan (s.data.toList.drop k) = scan (s.data.toList.drop (k + 1)) + 1 := by
  rw [drop_cons s k h, scan, if_neg hn]
theorem scan_end (s : ByteArray) (k : Nat) (h : ¬ k < s.size) : scan (s.data.toList.drop k) = 0 := by
  rw [drop_end s k h]; rfl
theorem blk_end (s : ByteArray) (k : Nat) (h : ¬ k < s.size) : blockBad (s.data.toList.drop k) = false := by
  rw [drop_end s k h]; rfl
theorem blk_LF (s : ByteArray) (k : Nat) (h : k < s.size) (h10 : s[k] = 10) : blockBad (s.data.toList.drop k) = blockBad (s.data.toList.drop (k + 1)) := by
  rw [drop_cons s k h, blockBad, if_pos h10]
theorem blk_CR_end (s : ByteArray) (k : Nat) (h : k < s.size) (h13 : s[k] = 13) (hk : ¬ k + 1 < s.size) : blockBad (s.data.toList.drop k) = blockBad (s.data.toList.drop (k + 1)) := by
  rw [drop_cons s k h, blockBad, if_neg (by rw [h13]; decide), if_pos ⟨h13, Or.inl (drop_end s _ hk)⟩]
theorem blk_CR_LF (s : ByteArray) (k : Nat) (h : k + 1 < s.size) (h13 : s[k] = 13) (h10 : s[k + 1] = 10) : blockBad (s.data.toList.drop k) = blockBad (s.data.toList.drop (k + 1)) := by
  rw [drop_cons s k (by omega), blockBad, if_neg (by rw [h13]; decide), if_pos ⟨h13, Or.inr (by rw [drop_cons s _ h, h10]; rfl)⟩]
theorem blk_other (s : ByteArray) (k : Nat) (h : k < s.size) (h10 : s[k] ≠ 10) (hn : s[k] ≠ 13 ∨ ∃ h1 : k + 1 < s.size, s[k + 1] ≠ 10) :
    blockBad (s.data.toList.drop k) = if bad s[k] then true else blockBad (s.data.toList.drop (k + 1)) := by
  rw [drop_cons s k h, blockBad, if_neg h10, if_neg]
  rintro ⟨h13, hr⟩
  rcases hn with hn | ⟨h1, hn⟩
  · exact hn h13
  · rw [drop_cons s _ h1] at hr
    rcases hr with hr | hr
    · cases hr
    · exact hn (by simpa using hr)

/-! ### the pieces of the block -/
def joinS (b l : List UInt8) : List UInt8 := joinL (l.length + 1) b l
theorem joinS_nil (b : List UInt8) : joinS b [] = b := joinL_nil _ _
theorem joinS_step (b l : List UInt8) (h : l ≠ []) : joinS b l = joinS (join b (trim (noCR (lineOf l)))) (restOf l) := by
  have hlen := line_rest_len l h
  unfold joinS
  rw [joinL, if_neg h]
  exact joinL_more _ _ _ _ (by omega) (by omega)
theorem piece_end (s : ByteArray) (st : Nat) (hs : st < s.size) (hn : ∀ c ∈ (s.data.toList.take s.size).drop st, c ≠ 10) :
    lineOf (s.data.toList.drop st) = (s.data.toList.take s.size).drop st ∧ restOf (s.data.toList.drop st) = s.data.toList.drop (s.size + 1) := by
  have e : (s.data.toList.take s.size) = s.data.toList := List.take_of_length_le (by simp)
  rw [e] at hn ⊢
  refine ⟨line_none _ hn, ?_⟩
  rw [rest_none _ hn, drop_end s _ (by omega)]
theorem piece_LF (s : ByteArray) (st k : Nat) (hk : k < s.size) (hst : st ≤ k) (h10 : s[k] = 10) (hn : ∀ c ∈ (s.data.toList.take k).drop st, c ≠ 10) :
    lineOf (s.data.toList.drop st) = (s.data.toList.take k).drop st ∧ restOf (s.data.toList.drop st) = s.data.toList.drop (k + 1) := by
  have e : s.data.toList.drop st = (s.data.toList.take k).drop st ++ 10 :: s.data.toList.drop (k + 1) := by
    rw [← h10, ← drop_cons s k hk]
    have h1 : s.data.toList = s.data.toList.take k ++ s.data.toList.drop k := (List.take_append_drop _ _).symm
    conv => lhs; rw [h1]
    rw [List.drop_append_of_le_length (by rw [List.length_take, ← ba_size]; omega)]
  rw [e]
  exact ⟨line_app _ _ hn, rest_app _ _ hn⟩
theorem piece_last (s : ByteArray) (st k : Nat) (hk : k ≤ s.size) (hst : st < k) : ((s.data.toList.take k).drop st).getLast? = some (s[k - 1]'(by omega)) := by
  have h1 : s.data.toList.take k = s.data.toList.take (k - 1) ++ [s[k - 1]'(by omega)] := by
    have := take_snoc s (k - 1) (by omega)
    rw [show k - 1 + 1 = k by omega] at this
    exact this
  rw [h1, List.drop_append_of_le_length (by rw [List.length_take, ← ba_size]; omega)]
  simp
theorem piece_noCR_yes (s : ByteArray) (st k : Nat) (hk : k ≤ s.size) (hst : st < k) (h13 : (s[k - 1]'(by omega)) = 13) : noCR ((s.data.toList.take k).drop st) = (s.data.toList.take (k - 1)).drop st := by
  unfold noCR
  rw [piece_last s st k hk hst, h13, if_pos rfl]
  have h1 : s.data.toList.take k = s.data.toList.take (k - 1) ++ [s[k - 1]'(by omega)] := by
    have := take_snoc s (k - 1) (by omega)
    rw [show k - 1 + 1 = k by omega] at this
    exact this
  rw [h1, List.drop_append_of_le_length (by rw [List.length_take, ← ba_size]; omega)]
  simp
theorem piece_noCR_no (s : ByteArray) (st k : Nat) (hk : k ≤ s.size) (hn : ∀ hst : st < k, (s[k - 1]'(by omega)) ≠ 13) : noCR ((s.data.toList.take k).drop st) = (s.data.toList.take k).drop st := by
  unfold noCR
  rw [if_neg]
  by_cases hst : st < k
  · rw [piece_last s st k hk hst]
    intro e
    exact hn hst (Option.some.inj e)
  · rw [List.drop_of_length_le (by rw [List.length_take]; omega)]
    simp
theorem take_drop_snoc (s : ByteArray) (st k : Nat) (hk : k < s.size) (hst : st ≤ k) (hn : ∀ c ∈ (s.data.toList.take k).drop st, c ≠ 10) (h : s[k] ≠ 10) : ∀ c ∈ (s.data.toList.take (k + 1)).drop st, c ≠ 10 := by
  rw [take_snoc s k hk, List.drop_append_of_le_length (by rw [List.length_take, ← ba_size]; omega)]
  intro c hc
  rcases List.mem_append.1 hc with hc | hc
  · exact hn c hc
  · rw [List.mem_singleton.1 hc]; exact h

/-! ### trimming by two scans -/
theorem trimL_ws (s : ByteArray) (k : Nat) (h : k < s.size) (hw : ws s[k] = true) : trimL (s.data.toList.drop k) = trimL (s.data.toList.drop (k + 1)) := by
  rw [drop_cons s k h]; simp [trimL, hw]
theorem trimL_stop (s : ByteArray) (k : Nat) (h : k < s.size) (hw : ws s[k] = false) : trimL (s.data.toList.drop k) = s.data.toList.drop k := by
  rw [drop_cons s k h]; simp [trimL, hw]
theorem trimL_end (s : ByteArray) (k : Nat) (h : ¬ k < s.size) : trimL (s.data.toList.drop k) = s.data.toList.drop k := by
  rw [drop_end s k h]; rfl
theorem trimR_snoc_ws (l : List UInt8) (c : UInt8) (hw : ws c = true) : trimR (l ++ [c]) = trimR l := by
  unfold trimR
  rw [List.reverse_append]
  simp [hw]
theorem trimR_snoc_stop (l : List UInt8) (c : UInt8) (hw : ws c = false) : trimR (l ++ [c]) = l ++ [c] := by
  unfold trimR
  rw [List.reverse_append]
  simp [hw]
theorem mid_snoc (s : ByteArray) (lo hi : Nat) (h : lo < hi) (hh : hi ≤ s.size) : (s.data.toList.take hi).drop lo = (s.data.toList.take (hi - 1)).drop lo ++ [s[hi - 1]'(by omega)] := by
  have h1 : s.data.toList.take hi = s.data.toList.take (hi - 1) ++ [s[hi - 1]'(by omega)] := by
    have := take_snoc s (hi - 1) (by omega)
    rw [show hi - 1 + 1 = hi by omega] at this
    exact this
  rw [h1, List.drop_append_of_le_length (by rw [List.length_take, ← ba_size]; omega)]
end Go.Proofs.Qxb6600698aDoor
