/- The plain mathematics of this seat: lists of bytes; no Go in sight. -/
namespace Go.Proofs.Qxb6600755aDoor
set_option linter.unusedVariables false

/-! ### a byte at a place -/
def bt (l : List UInt8) (k : Nat) : UInt8 := l.getD k 0
theorem bt_eq (l : List UInt8) (k : Nat) (h : k < l.length) : bt l k = l[k] := by unfold bt; simp [List.getD, h]
theorem drop_bt (l : List UInt8) (k : Nat) (h : k < l.length) : l.drop k = bt l k :: l.drop (k + 1) := by
  rw [List.drop_eq_getElem_cons h, bt_eq l k h]
theorem take_bt (l : List UInt8) (k : Nat) (h : k < l.length) : l.take (k + 1) = l.take k ++ [bt l k] := by
  rw [List.take_succ_eq_append_getElem h, bt_eq l k h]
theorem drop_nil (l : List UInt8) (k : Nat) (h : ¬ k < l.length) : l.drop k = [] := List.drop_of_length_le (by omega)
theorem byte_eq {c d : UInt8} (h : (c.toNat : Int) = d.toNat) : c = d := UInt8.toNat_inj.1 (by omega)
theorem byte_ne {c d : UInt8} (h : ¬ (c.toNat : Int) = d.toNat) : c ≠ d := fun e => h (by rw [e])
theorem byte_lt (c : UInt8) : c.toNat < 256 := c.toNat_lt

def isDig (c : UInt8) : Bool := 48 ≤ c && c ≤ 57
theorem isDig_iff (c : UInt8) : isDig c = true ↔ 48 ≤ (c.toNat : Int) ∧ (c.toNat : Int) ≤ 57 := by
  simp [isDig, UInt8.le_iff_toNat_le]; omega
theorem isDig_no (c : UInt8) : isDig c = false ↔ ¬ (48 ≤ (c.toNat : Int) ∧ (c.toNat : Int) ≤ 57) := by
  rw [← isDig_iff, Bool.not_eq_true]

/-! ### the parser, stage by stage -/
def dg (l : List UInt8) : List UInt8 := l.takeWhile isDig
def aft (l : List UInt8) : List UInt8 := l.dropWhile isDig
def expV (ds : List UInt8) : Int := ds.foldl (fun e c => if e < 1099511627776 then e * 10 + ((c.toNat : Int) - 48) else e) 0
def noZ (l : List UInt8) : List UInt8 := l.dropWhile (· == 48)
def trimZ (l : List UInt8) : List UInt8 := (l.reverse.dropWhile (· == 48)).reverse
def fin (neg : Bool) (whole frac : List UInt8) (e : Int) : Option (Bool × List UInt8 × Int) :=
  if trimZ (noZ (whole ++ frac)) = [] then some (false, [], 0) else some (neg, trimZ (noZ (whole ++ frac)), e + whole.length - ((whole ++ frac).length - (noZ (whole ++ frac)).length : Nat))
def P5 (neg : Bool) (whole frac : List UInt8) (en : Bool) (l5 : List UInt8) : Option (Bool × List UInt8 × Int) :=
  if dg l5 = [] then none else if aft l5 ≠ [] then none else fin neg whole frac (if en then -(expV (dg l5)) else expV (dg l5))
def P4 (neg : Bool) (whole frac l4 : List UInt8) : Option (Bool × List UInt8 × Int) :=
  if l4.head? = some 43 ∨ l4.head? = some 45 then P5 neg whole frac (l4.head? == some 45) (l4.drop 1) else P5 neg whole frac false l4
def P3 (neg : Bool) (whole frac l3 : List UInt8) : Option (Bool × List UInt8 × Int) :=
  if l3.head? = some 101 ∨ l3.head? = some 69 then P4 neg whole frac (l3.drop 1) else if l3 = [] then fin neg whole frac 0 else none
def P2 (neg : Bool) (whole l2 : List UInt8) : Option (Bool × List UInt8 × Int) :=
  if l2.head? = some 46 then (if dg (l2.drop 1) = [] then none else P3 neg whole (dg (l2.drop 1)) (aft (l2.drop 1))) else P3 neg whole [] l2
def P1 (neg : Bool) (l1 : List UInt8) : Option (Bool × List UInt8 × Int) :=
  if dg l1 = [] ∨ (1 < (dg l1).length ∧ (dg l1).head? = some 48) then none else P2 neg (dg l1) (aft l1)
def parseL (l : List UInt8) : Option (Bool × List UInt8 × Int) := if l.head? = some 45 then P1 true (l.drop 1) else P1 false l

/-! ### heads and places -/
theorem head_at (l : List UInt8) (k : Nat) (h : k < l.length) : (l.drop k).head? = some (bt l k) := by rw [drop_bt l k h]; rfl
theorem head_end (l : List UInt8) (k : Nat) (h : ¬ k < l.length) : (l.drop k).head? = none := by rw [drop_nil l k h]; rfl
/-- The digits from st on, read off two places. -/
theorem dg_between (l : List UInt8) (st k : Nat) (hst : st ≤ k) (hk : k ≤ l.length) (hd : ∀ c ∈ (l.take k).drop st, isDig c = true) (hs : ∀ h : k < l.length, isDig (bt l k) = false) :
    dg (l.drop st) = (l.take k).drop st ∧ aft (l.drop st) = l.drop k := by
  have e : l.drop st = (l.take k).drop st ++ l.drop k := by
    have h1 : l = l.take k ++ l.drop k := (List.take_append_drop _ _).symm
    conv => lhs; rw [h1]
    rw [List.drop_append_of_le_length (by rw [List.length_take]; omega)]
  have h2 : (l.drop k).takeWhile isDig = [] ∧ (l.drop k).dropWhile isDig = l.drop k := by
    by_cases h : k < l.length
    · rw [drop_bt l k h]; simp [hs h]
    · rw [drop_nil l k h]; exact ⟨rfl, rfl⟩
  unfold dg aft
  rw [e, List.takeWhile_append_of_pos hd, List.dropWhile_append_of_pos hd, h2.1, h2.2]
  simp
theorem mid_snoc (l : List UInt8) (st k : Nat) (hst : st ≤ k) (hk : k < l.length) : (l.take (k + 1)).drop st = (l.take k).drop st ++ [bt l k] := by
  rw [take_bt l k hk, List.drop_append_of_le_length (by rw [List.length_take]; omega)]
theorem mid_len (l : List UInt8) (st k : Nat) (hk : k ≤ l.length) : ((l.take k).drop st).length = k - st := by
  rw [List.length_drop, List.length_take]; omega
theorem mid_bt (l : List UInt8) (st k j : Nat) (hk : k ≤ l.length) (hj : j < k - st) : bt ((l.take k).drop st) j = bt l (st + j) := by
  have h1 : j < ((l.take k).drop st).length := by rw [mid_len l st k hk]; exact hj
  rw [bt_eq _ _ h1, bt_eq l (st + j) (by omega)]
  simp
theorem mid_dig (l : List UInt8) (st k : Nat) (hst : st ≤ k) (hk : k < l.length) (hd : ∀ c ∈ (l.take k).drop st, isDig c = true) (h : isDig (bt l k) = true) : ∀ c ∈ (l.take (k + 1)).drop st, isDig c = true := by
  rw [mid_snoc l st k hst hk]
  intro c hc
  rcases List.mem_append.1 hc with hc | hc
  · exact hd c hc
  · rw [List.mem_singleton.1 hc]; exact h
theorem expV_snoc (ds : List UInt8) (c : UInt8) : expV (ds ++ [c]) = if expV ds < 1099511627776 then expV ds * 10 + ((c.toNat : Int) - 48) else expV ds := by
  unfold expV; rw [List.foldl_append]; rfl

/-! ### zeros at both ends -/
theorem noZ_zero (l : List UInt8) (k : Nat) (h : k < l.length) (hz : bt l k = 48) : noZ (l.drop k) = noZ (l.drop (k + 1)) := by
  rw [drop_bt l k h, hz]; simp [noZ]
theorem noZ_stop (l : List UInt8) (k : Nat) (h : k < l.length) (hz : bt l k ≠ 48) : noZ (l.drop k) = l.drop k := by
  rw [drop_bt l k h]; simp [noZ, hz]
theorem noZ_end (l : List UInt8) (k : Nat) (h : ¬ k < l.length) : noZ (l.drop k) = l.drop k := by
  rw [drop_nil l k h]; rfl
theorem trimZ_snoc_zero (l : List UInt8) : trimZ (l ++ [48]) = trimZ l := by
  unfold trimZ; rw [List.reverse_append]; simp
theorem trimZ_snoc_stop (l : List UInt8) (c : UInt8) (h : c ≠ 48) : trimZ (l ++ [c]) = l ++ [c] := by
  unfold trimZ; rw [List.reverse_append]; simp [h]
theorem trimZ_len (l : List UInt8) : (trimZ l).length ≤ l.length := by
  unfold trimZ
  have := (List.dropWhile_sublist (fun c : UInt8 => c == 48) (l := l.reverse)).length_le
  simpa using this

/-! ### the law of kinds -/
theorem dg_head {l : List UInt8} (h : dg l ≠ []) : ∃ c, l.head? = some c ∧ isDig c = true := by
  cases l with
  | nil => exact absurd rfl h
  | cons c t =>
    refine ⟨c, rfl, ?_⟩
    rw [← Bool.not_eq_false]
    intro hc
    exact h (by simp [dg, hc])
theorem P1_some {neg : Bool} {l : List UInt8} {r : Bool × List UInt8 × Int} (h : P1 neg l = some r) : dg l ≠ [] := by
  intro e
  unfold P1 at h
  rw [if_pos (Or.inl e)] at h
  cases h
theorem kind_law {l : List UInt8} {r : Bool × List UInt8 × Int} (h : parseL l = some r) : ∃ c, l.head? = some c ∧ (c = 45 ∨ isDig c = true) := by
  unfold parseL at h
  by_cases h45 : l.head? = some 45
  · exact ⟨45, h45, Or.inl rfl⟩
  · rw [if_neg h45] at h
    obtain ⟨c, h1, h2⟩ := dg_head (P1_some h)
    exact ⟨c, h1, Or.inr h2⟩
end Go.Proofs.Qxb6600755aDoor
