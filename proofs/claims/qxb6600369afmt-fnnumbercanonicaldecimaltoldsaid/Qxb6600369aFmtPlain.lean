/- The plain mathematics of this seat: lists of bytes; no Go in sight. -/
namespace Go.Proofs.Qxb6600369aFmt

/-! ### bytes and lists -/
theorem ext_list (s : ByteArray) (a b : Nat) : (s.extract a b).data.toList = (s.data.toList.take b).drop a := by
  simp [ByteArray.data_extract, List.drop_take]
theorem ba_eq {s t : ByteArray} (h : s.data.toList = t.data.toList) : s = t := by
  cases s; cases t; simpa using h
theorem ext_mk (s : ByteArray) (a b : Nat) : s.extract a b = ⟨((s.data.toList.take b).drop a).toArray⟩ := ba_eq (by rw [ext_list])
theorem ba_size (s : ByteArray) : s.size = s.data.toList.length := by simp
theorem take_snoc (s : ByteArray) (k : Nat) (h : k < s.size) : s.data.toList.take (k + 1) = s.data.toList.take k ++ [s[k]] := by
  rw [List.take_succ_eq_append_getElem (by simpa using h)]; rfl
theorem drop_cons (s : ByteArray) (k : Nat) (h : k < s.size) : s.data.toList.drop k = s[k] :: s.data.toList.drop (k + 1) := by
  rw [List.drop_eq_getElem_cons (by simpa using h)]; rfl

theorem byte_eq {c d : UInt8} (h : (c.toNat : Int) = d.toNat) : c = d := UInt8.toNat_inj.1 (by omega)

def isDig (c : UInt8) : Bool := 48 ≤ c && c ≤ 57
def allDig (s : ByteArray) : Bool := s.data.toList.all isDig
theorem isDig_iff (c : UInt8) : isDig c = true ↔ 48 ≤ (c.toNat : Int) ∧ (c.toNat : Int) ≤ 57 := by
  simp [isDig, UInt8.le_iff_toNat_le]; omega
theorem allDig_no (s : ByteArray) (k : Nat) (h : k < s.size) (hk : ¬ (48 ≤ (s[k].toNat : Int) ∧ (s[k].toNat : Int) ≤ 57)) : allDig s = false := by
  unfold allDig
  rw [List.all_eq_false]
  refine ⟨s[k], ?_, fun hc => hk ((isDig_iff _).1 hc)⟩
  exact List.getElem_mem (l := s.data.toList) (by simpa using h)
theorem allDig_yes (s : ByteArray) (h : (s.data.toList.take s.size).all isDig = true) : allDig s = true := by
  unfold allDig
  rw [List.take_of_length_le (by simp)] at h
  exact h

/-! ### leading zeros -/
def noZ (l : List UInt8) : List UInt8 := l.dropWhile (· == 48)
theorem noZ_zero (s : ByteArray) (k : Nat) (h : k < s.size) (hz : (s[k].toNat : Int) = 48) : noZ (s.data.toList.drop k) = noZ (s.data.toList.drop (k + 1)) := by
  have e : s[k] = 48 := byte_eq hz
  rw [drop_cons s k h, e]
  simp [noZ]
theorem noZ_stop (s : ByteArray) (k : Nat) (h : k < s.size) (hz : ¬ (s[k].toNat : Int) = 48) : noZ (s.data.toList.drop k) = s.data.toList.drop k := by
  have e : (s[k] == 48) = false := by
    rw [beq_eq_false_iff_ne]; intro e; rw [e] at hz; exact hz (by decide)
  rw [drop_cons s k h]
  simp [noZ, e]
theorem noZ_end (s : ByteArray) : noZ (s.data.toList.drop s.size) = [] := by
  rw [List.drop_of_length_le (by simp)]; rfl

/-! ### the point -/
def splitL (l : List UInt8) : List UInt8 × List UInt8 × Nat := if l.count 46 = 0 then (l, [], 0) else (l.take (l.idxOf 46), l.drop (l.idxOf 46 + 1), l.count 46)
theorem idx_first (s : ByteArray) (k : Nat) (h : k < s.size) (h46 : (s[k].toNat : Int) = 46) (hc : (s.data.toList.take k).count 46 = 0) : s.data.toList.idxOf 46 = k := by
  have e : s[k] = 46 := byte_eq h46
  have hd := drop_cons s k h
  have hs : s.data.toList = s.data.toList.take k ++ (46 :: s.data.toList.drop (k + 1)) := by rw [← e, ← hd, List.take_append_drop]
  rw [hs, List.idxOf_append, if_neg (List.count_eq_zero.1 hc)]
  simp
  omega
theorem count_snoc (s : ByteArray) (k : Nat) (h : k < s.size) : (s.data.toList.take (k + 1)).count 46 = (s.data.toList.take k).count 46 + if (s[k].toNat : Int) = 46 then 1 else 0 := by
  rw [take_snoc s k h, List.count_append, List.count_singleton]
  congr 1
  by_cases e : s[k] = 46
  · rw [e]; rfl
  · have e1 : (s[k] == 46) = false := by rw [beq_eq_false_iff_ne]; exact e
    have hn : ¬ (s[k].toNat : Int) = 46 := fun hh => e (byte_eq hh)
    simp only [e1, hn, if_false, Bool.false_eq_true]

/-! ### the order of texts -/
def cmpL : List UInt8 → List UInt8 → Int
  | [], [] => 0
  | [], _ :: _ => -1
  | _ :: _, [] => 1
  | x :: xs, y :: ys => if x.toNat < y.toNat then -1 else if y.toNat < x.toNat then 1 else cmpL xs ys
def cmpDec (a b : List UInt8) : Int :=
  let wa := splitL a
  let wb := splitL b
  if wa.1.length < wb.1.length then -1 else if wb.1.length < wa.1.length then 1
  else if cmpL wa.1 wb.1 ≠ 0 then cmpL wa.1 wb.1 else cmpL wa.2.1 wb.2.1

theorem cmp_step (a b : ByteArray) (k : Nat) (ha : k < a.size) (hb : k < b.size) (e : (a[k].toNat : Int) = b[k].toNat) :
    cmpL (a.data.toList.drop k) (b.data.toList.drop k) = cmpL (a.data.toList.drop (k + 1)) (b.data.toList.drop (k + 1)) := by
  rw [drop_cons a k ha, drop_cons b k hb, cmpL, if_neg (by omega), if_neg (by omega)]
theorem cmp_lt (a b : ByteArray) (k : Nat) (ha : k < a.size) (hb : k < b.size) (e : (a[k].toNat : Int) < b[k].toNat) :
    cmpL (a.data.toList.drop k) (b.data.toList.drop k) = -1 := by
  rw [drop_cons a k ha, drop_cons b k hb, cmpL, if_pos (by omega)]
theorem cmp_gt (a b : ByteArray) (k : Nat) (ha : k < a.size) (hb : k < b.size) (e : (b[k].toNat : Int) < a[k].toNat) :
    cmpL (a.data.toList.drop k) (b.data.toList.drop k) = 1 := by
  rw [drop_cons a k ha, drop_cons b k hb, cmpL, if_neg (by omega), if_pos (by omega)]
theorem cmp_endA (a b : ByteArray) (k : Nat) (ha : k = a.size) (hb : k < b.size) : cmpL (a.data.toList.drop k) (b.data.toList.drop k) = -1 := by
  rw [drop_cons b k hb, List.drop_of_length_le (by simp; omega), cmpL]
theorem cmp_endB (a b : ByteArray) (k : Nat) (ha : k < a.size) (hb : k = b.size) : cmpL (a.data.toList.drop k) (b.data.toList.drop k) = 1 := by
  rw [drop_cons a k ha, List.drop_of_length_le (i := k) (l := b.data.toList) (by simp; omega), cmpL]
theorem cmp_end (a b : ByteArray) (k : Nat) (ha : k = a.size) (hb : k = b.size) : cmpL (a.data.toList.drop k) (b.data.toList.drop k) = 0 := by
  rw [List.drop_of_length_le (i := k) (l := a.data.toList) (by simp; omega), List.drop_of_length_le (i := k) (l := b.data.toList) (by simp; omega), cmpL]

/-! ### what Number writes -/
def wholeL (l : List UInt8) (dec : Nat) : List UInt8 := if (noZ (l.take (l.length - dec))).isEmpty then [48] else noZ (l.take (l.length - dec))
def fracL (l : List UInt8) (dec : Nat) : List UInt8 := l.drop (l.length - dec)
def numL (l : List UInt8) (dec : Nat) : List UInt8 := wholeL l dec ++ (if dec = 0 then [] else 46 :: fracL l dec)

theorem noZ_mem {l : List UInt8} {c : UInt8} (h : c ∈ noZ l) : c ∈ l := by
  unfold noZ at h
  exact (List.dropWhile_sublist _).subset h
theorem wholeL_ne (l : List UInt8) (dec : Nat) : wholeL l dec ≠ [] := by
  unfold wholeL
  split
  · simp
  · rename_i h; simpa using h
theorem numL_ne (l : List UInt8) (dec : Nat) : numL l dec ≠ [] := by
  unfold numL
  simp [wholeL_ne]
theorem wholeL_dig {l : List UInt8} {dec : Nat} (h : l.all isDig = true) : (wholeL l dec).all isDig = true := by
  unfold wholeL
  split
  · decide
  · rw [List.all_eq_true] at h ⊢
    intro c hc
    exact h c (List.take_subset _ _ (noZ_mem hc))
theorem fracL_dig {l : List UInt8} {dec : Nat} (h : l.all isDig = true) : (fracL l dec).all isDig = true := by
  unfold fracL
  rw [List.all_eq_true] at h ⊢
  exact fun c hc => h c (List.drop_subset _ _ hc)
theorem dig_count {l : List UInt8} (h : l.all isDig = true) : l.count 46 = 0 := by
  rw [List.count_eq_zero]
  intro hm
  have := List.all_eq_true.1 h _ hm
  revert this; decide
theorem split_num {l : List UInt8} {dec : Nat} (h : l.all isDig = true) (hd : dec ≤ l.length) : splitL (numL l dec) = (wholeL l dec, (if dec = 0 then [] else fracL l dec), if dec = 0 then 0 else 1) := by
  have cw := dig_count (wholeL_dig (dec := dec) h)
  have cf := dig_count (fracL_dig (dec := dec) h)
  unfold numL splitL
  by_cases hz : dec = 0
  · subst hz
    simp [cw]
  · simp only [hz, if_false, List.count_append, cw, List.count_cons_self, cf]
    have e : List.idxOf 46 (wholeL l dec ++ 46 :: fracL l dec) = (wholeL l dec).length := by
      rw [List.idxOf_append, if_neg (List.count_eq_zero.1 cw)]; simp
    rw [e]
    simp
theorem wholeL_lead (l : List UInt8) (dec : Nat) (h : 1 < (wholeL l dec).length) : (wholeL l dec).head? ≠ some 48 := by
  unfold wholeL at h ⊢
  split
  · rename_i he; simp [he] at h
  · unfold noZ
    intro hc
    have := List.head?_dropWhile_not (fun x : UInt8 => x == 48) (l.take (l.length - dec))
    rw [hc] at this
    simp at this
theorem noZ_append (a b : List UInt8) : noZ (noZ a ++ b) = noZ (a ++ b) := by
  unfold noZ
  induction a with
  | nil => rfl
  | cons x xs ih =>
    by_cases hx : x == 48
    · simp only [List.dropWhile_cons, hx, if_true, List.cons_append]; exact ih
    · simp [hx]
theorem noZ_whole (l : List UInt8) (dec : Nat) : noZ (wholeL l dec ++ fracL l dec) = noZ l := by
  have e : noZ (noZ (l.take (l.length - dec)) ++ fracL l dec) = noZ l := by
    rw [noZ_append]; unfold fracL; rw [List.take_append_drop]
  unfold wholeL
  split
  · rename_i he
    rw [List.isEmpty_iff.1 he] at e
    rw [← e]
    rfl
  · exact e

/-- THE LAW OF THE ORDER, plain. -/
theorem cmpL_self (a : List UInt8) : cmpL a a = 0 := by
  induction a with
  | nil => rfl
  | cons x xs ih => simp [cmpL, ih]
theorem cmpL_append (a b c d : List UInt8) (h : a.length = b.length) : cmpL (a ++ c) (b ++ d) = if cmpL a b ≠ 0 then cmpL a b else cmpL c d := by
  induction a generalizing b with
  | nil =>
    cases b with
    | nil => simp [cmpL]
    | cons y ys => simp at h
  | cons x xs ih =>
    cases b with
    | nil => simp at h
    | cons y ys =>
      simp only [List.length_cons, Nat.add_right_cancel_iff] at h
      simp only [List.cons_append, cmpL]
      by_cases h1 : x.toNat < y.toNat
      · simp [h1]
      · by_cases h2 : y.toNat < x.toNat
        · simp [h1, h2]
        · simp only [h1, h2, if_false]
          exact ih ys h
/-- Two digit texts of one length compare as their texts without leading zeros: the longer is the greater. -/
def cmpW (a b : List UInt8) : Int := if a.length < b.length then -1 else if b.length < a.length then 1 else cmpL a b
theorem noZ_len (a : List UInt8) : (noZ a).length ≤ a.length := (List.dropWhile_sublist _).length_le
theorem cmp_noZ : ∀ (a b : List UInt8), a.length = b.length → a.all isDig = true → b.all isDig = true → cmpL a b = cmpW (noZ a) (noZ b)
  | [], [], _, _, _ => rfl
  | x :: xs, y :: ys, h, ha, hb => by
    simp only [List.length_cons, Nat.add_right_cancel_iff] at h
    simp only [List.all_cons, Bool.and_eq_true] at ha hb
    have hx := (isDig_iff x).1 ha.1
    have hy := (isDig_iff y).1 hb.1
    have ih := cmp_noZ xs ys h ha.2 hb.2
    have lx := noZ_len xs
    have ly := noZ_len ys
    by_cases ex : x = 48
    · by_cases ey : y = 48
      · subst ex ey
        rw [cmpL, if_neg (by omega), if_neg (by omega), ih]
        rfl
      · have hlt : x.toNat < y.toNat := by
          have : y.toNat ≠ 48 := fun e => ey (UInt8.toNat_inj.1 (by simpa using e))
          subst ex
          have : (48 : UInt8).toNat = 48 := rfl
          omega
        have e1 : noZ (y :: ys) = y :: ys := by simp [noZ, ey]
        have e2 : noZ (x :: xs) = noZ xs := by subst ex; simp [noZ]
        rw [cmpL, if_pos hlt, e1, e2, cmpW, if_pos (by simp; omega)]
    · by_cases ey : y = 48
      · have hlt : y.toNat < x.toNat := by
          have : x.toNat ≠ 48 := fun e => ex (UInt8.toNat_inj.1 (by simpa using e))
          subst ey
          have : (48 : UInt8).toNat = 48 := rfl
          omega
        have e1 : noZ (x :: xs) = x :: xs := by simp [noZ, ex]
        have e2 : noZ (y :: ys) = noZ ys := by subst ey; simp [noZ]
        rw [cmpL, if_neg (by omega), if_pos hlt, e1, e2, cmpW, if_neg (by simp; omega), if_pos (by simp; omega)]
      · have e1 : noZ (x :: xs) = x :: xs := by simp [noZ, ex]
        have e2 : noZ (y :: ys) = y :: ys := by simp [noZ, ey]
        rw [e1, e2, cmpW, if_neg (by simp; omega), if_neg (by simp; omega)]
/-- '0' in the place of an empty whole part turns nothing. -/
def or0 (a : List UInt8) : List UInt8 := if a.isEmpty then [48] else a
theorem cmp_or0 (a b : List UInt8) (ha : a.head? ≠ some 48) (hb : b.head? ≠ some 48) (da : a.all isDig = true) (db : b.all isDig = true) : cmpW (or0 a) (or0 b) = cmpW a b := by
  cases a with
  | nil =>
    cases b with
    | nil => rfl
    | cons y ys =>
      have hy : y ≠ 48 := fun e => hb (by rw [e]; rfl)
      have dy := (isDig_iff y).1 (by simp only [List.all_cons, Bool.and_eq_true] at db; exact db.1)
      have hlt : (48 : UInt8).toNat < y.toNat := by
        have : y.toNat ≠ 48 := fun e => hy (UInt8.toNat_inj.1 (by simpa using e))
        have : (48 : UInt8).toNat = 48 := rfl
        omega
      simp only [or0, List.isEmpty_nil, if_true, List.isEmpty_cons, Bool.false_eq_true, if_false, cmpW, List.length_cons, List.length_nil]
      by_cases hl : ys.length = 0
      · rw [List.length_eq_zero_iff.1 hl]
        have e : cmpL [48] [y] = -1 := by rw [cmpL, if_pos hlt]
        rw [if_neg (by simp), if_neg (by simp), e, if_pos (by simp)]
      · rw [if_pos (by omega), if_pos (by omega)]
  | cons x xs =>
    cases b with
    | nil =>
      have hx : x ≠ 48 := fun e => ha (by rw [e]; rfl)
      have dx := (isDig_iff x).1 (by simp only [List.all_cons, Bool.and_eq_true] at da; exact da.1)
      have hlt : (48 : UInt8).toNat < x.toNat := by
        have : x.toNat ≠ 48 := fun e => hx (UInt8.toNat_inj.1 (by simpa using e))
        have : (48 : UInt8).toNat = 48 := rfl
        omega
      simp only [or0, List.isEmpty_nil, if_true, List.isEmpty_cons, Bool.false_eq_true, if_false, cmpW, List.length_cons, List.length_nil]
      by_cases hl : xs.length = 0
      · rw [List.length_eq_zero_iff.1 hl]
        have e : cmpL [x] [48] = 1 := by rw [cmpL, if_neg (Nat.lt_asymm hlt), if_pos hlt]
        rw [if_neg (by simp), if_neg (by simp), e, if_neg (by simp), if_pos (by simp)]
      · rw [if_neg (by omega), if_pos (by omega), if_neg (by omega), if_pos (by omega)]
    | cons y ys => rfl
theorem wholeL_or0 (l : List UInt8) (dec : Nat) : wholeL l dec = or0 (noZ (l.take (l.length - dec))) := rfl
theorem noZ_head (l : List UInt8) : (noZ l).head? ≠ some 48 := by
  unfold noZ
  intro hc
  have := List.head?_dropWhile_not (fun x : UInt8 => x == 48) l
  rw [hc] at this
  simp at this
theorem noZ_dig {l : List UInt8} (h : l.all isDig = true) : (noZ l).all isDig = true := by
  rw [List.all_eq_true] at h ⊢
  exact fun c hc => h c (noZ_mem hc)
theorem take_dig {l : List UInt8} (h : l.all isDig = true) (n : Nat) : (l.take n).all isDig = true := by
  rw [List.all_eq_true] at h ⊢
  exact fun c hc => h c (List.take_subset _ _ hc)
theorem order_law (a b : List UInt8) (dec : Nat) (hl : a.length = b.length) (ha : a.all isDig = true) (hb : b.all isDig = true) (hd : dec ≤ a.length) :
    cmpL a b = cmpDec (numL a dec) (numL b dec) := by
  unfold cmpDec
  rw [split_num ha hd, split_num hb (hl ▸ hd)]
  simp only
  have hw : cmpW (wholeL a dec) (wholeL b dec) = cmpL (a.take (a.length - dec)) (b.take (b.length - dec)) := by
    rw [wholeL_or0, wholeL_or0, cmp_or0 _ _ (noZ_head _) (noZ_head _) (noZ_dig (take_dig ha _)) (noZ_dig (take_dig hb _))]
    exact (cmp_noZ _ _ (by simp [hl]) (take_dig ha _) (take_dig hb _)).symm
  have e : cmpL a b = if cmpL (a.take (a.length - dec)) (b.take (b.length - dec)) ≠ 0 then cmpL (a.take (a.length - dec)) (b.take (b.length - dec)) else cmpL (fracL a dec) (fracL b dec) := by
    have := cmpL_append (a.take (a.length - dec)) (b.take (b.length - dec)) (fracL a dec) (fracL b dec) (by simp [hl])
    unfold fracL at this ⊢
    rw [List.take_append_drop, List.take_append_drop] at this
    exact this
  rw [e, ← hw]
  have hf : cmpL (if dec = 0 then [] else fracL a dec) (if dec = 0 then [] else fracL b dec) = cmpL (fracL a dec) (fracL b dec) := by
    by_cases hz : dec = 0
    · subst hz
      simp [fracL]
    · simp [hz]
  rw [hf]
  unfold cmpW
  by_cases h1 : (wholeL a dec).length < (wholeL b dec).length
  · simp [h1]
  · by_cases h2 : (wholeL b dec).length < (wholeL a dec).length
    · simp [h1, h2]
    · simp [h1, h2]
end Go.Proofs.Qxb6600369aFmt
