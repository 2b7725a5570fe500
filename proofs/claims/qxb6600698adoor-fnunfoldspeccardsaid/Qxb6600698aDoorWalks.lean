import Derived.Test.Qxb6600698aDoorBuild
import Derived.BigQuiet
import Derived.Deep.QuietTactic
namespace Go.Proofs.Qxb6600698aDoor
open Go.Shelf Go.RowKit
set_option linter.unusedVariables false
set_option maxRecDepth 100000

theorem ret_str {s t : ByteArray} (h : s = t) : Ending.returned (.string s) = .returned (.string t) := by rw [h]
theorem ret_bool {a b : Bool} (h : a = b) : Ending.returned (.bool a) = .returned (.bool b) := by rw [h]

/-! ### the library's words -/
theorem trimS_trim (l : List UInt8) : Lib.trimS l [32, 9] = trim l := by
  have e : (fun b : UInt8 => [32, 9].contains b) = ws := by
    funext b
    simp only [ws, List.contains, List.elem]
    cases h1 : (b == 32) <;> cases h2 : (b == 9) <;> rfl
  unfold Lib.trimS Lib.trimLeftS Lib.trimRightS trim trimL trimR
  rw [e]
theorem trimSuffix_noCR (l : List UInt8) : Lib.trimSuffix l [13] = noCR l := by
  have e : Lib.hasSuffix l [13] = decide (l.getLast? = some 13) := by
    unfold Lib.hasSuffix
    rw [Bool.eq_iff_iff, List.isSuffixOf_iff_suffix, decide_eq_true_eq]
    constructor
    · rintro ⟨t, rfl⟩; simp
    · intro h
      obtain ⟨t, rfl⟩ := List.getLast?_eq_some_iff.1 h
      exact ⟨t, rfl⟩
  unfold Lib.trimSuffix noCR
  rw [e]
  by_cases h : l.getLast? = some 13
  · simp [h, List.dropLast_eq_take]
  · simp [h]
theorem index_none (l : List UInt8) (h : ∀ c ∈ l, c ≠ 10) : Lib.indexByte l 10 = -1 := by
  induction l with
  | nil => rfl
  | cons c t ih =>
    have hc : (c == 10) = false := by simpa using h c (by simp)
    rw [Lib.indexByte, hc, ih (fun d hd => h d (by simp [hd]))]
    rfl
theorem index_app (a r : List UInt8) (h : ∀ c ∈ a, c ≠ 10) : Lib.indexByte (a ++ 10 :: r) 10 = a.length := by
  induction a with
  | nil => rfl
  | cons c t ih =>
    have hc : (c == 10) = false := by simpa using h c (by simp)
    have e := ih (fun d hd => h d (by simp [hd]))
    have hne : ((t.length : Int) == -1) = false := by simp
    rw [List.cons_append, Lib.indexByte, hc, e, hne]
    simp
theorem ret_ssb {a a' b b' : ByteArray} {p p' : Bool} (h1 : a = a') (h2 : b = b') (h3 : p = p') : Ending.returned (.tuple #[.string a, .string b, .bool p]) = .returned (.tuple #[.string a', .string b', .bool p']) := by rw [h1, h2, h3]

set_option maxHeartbeats 400000 in
theorem isWS_any (c : UInt8) (w : World) : Calls Tryd.prog 17 #[.int .u8 c.toNat] w fun e w' => e = .returned (.bool (ws c)) ∧ w' = w := by
  by_cases h1 : ((c.toNat : Int) == 32) = true
  · have HW : Hid (ws c = true) := (ws_iff c).2 (Or.inl (by simpa using h1))
    go_enter Tryd.func17, Tryd.ntmps17
    go_wp2
    go_ret
    exact ⟨ret_bool HW.out.symm, rfl⟩
  have h1' : ((c.toNat : Int) == 32) = false := by simpa using h1
  by_cases h2 : ((c.toNat : Int) == 9) = true
  · have HW : Hid (ws c = true) := (ws_iff c).2 (Or.inr (by simpa using h2))
    clear h1
    go_enter Tryd.func17, Tryd.ntmps17
    go_wp2
    go_ret
    exact ⟨ret_bool HW.out.symm, rfl⟩
  · have h2' : ((c.toNat : Int) == 9) = false := by simpa using h2
    have HW : Hid (ws c = false) := by
      unfold Hid
      rw [← Bool.not_eq_true, ws_iff]
      simp at h1 h2
      omega
    clear h1 h2
    go_enter Tryd.func17, Tryd.ntmps17
    go_wp2
    go_ret
    exact ⟨ret_bool HW.out.symm, rfl⟩

set_option maxHeartbeats 400000 in
theorem cut49 (s : ByteArray) (w : World) (hs : s.size ≤ 1048577) :
    Calls Tryd.prog 49 #[.string s, .string ⟨#[10]⟩] w fun e w' => (∃ (a b : ByteArray) (f : Bool), e = .returned (.tuple #[.string a, .string b, .bool f]) ∧ Hid (a.data.toList = lineOf s.data.toList) ∧ Hid (b.data.toList = restOf s.data.toList)) ∧ Below w.heap.size w w' := by
  rcases cases_LF s.data.toList with ha | ⟨a, r, e, ha⟩
  · have HI : Hid (Lib.indexByte s.data.toList 10 = -1) := index_none _ ha
    have HL : Hid (s.data.toList = lineOf s.data.toList) := (line_none _ ha).symm
    have HR : Hid ((⟨#[]⟩ : ByteArray).data.toList = restOf s.data.toList) := (rest_none _ ha).symm
    clear ha
    go_enter Tryd.func49, Tryd.ntmps49
    go_wp2_with (go_at_call 54; refine (Tryd.stringslite_Index_one _ _ _).mono ?_; rintro e w' ⟨rfl, rfl⟩; rw [HI.out])
    go_ret3
    exact ⟨⟨_, _, _, rfl, HL, HR⟩, Below.refl _ _⟩
  · have HI : Hid (Lib.indexByte s.data.toList 10 = (a.length : Nat)) := by unfold Hid; rw [e]; exact index_app a r ha
    have HL : Hid (a = lineOf s.data.toList) := by unfold Hid; rw [e]; exact (line_app a r ha).symm
    have HR : Hid (r = restOf s.data.toList) := by unfold Hid; rw [e]; exact (rest_app a r ha).symm
    have HE : Hid (s.data.toList = a ++ 10 :: r) := e
    have hl : a.length + 1 + r.length = s.size := by rw [ba_size, e]; simp; omega
    generalize hn : a.length = n at *
    have HN : Hid (a.length = n) := hn
    clear ha e hn
    have hn1 : (n : Int) ≤ s.size := by omega
    have hn2 : (n : Int) + 1 ≤ s.size := by omega
    go_enter Tryd.func49, Tryd.ntmps49
    go_wp2_with (go_at_call 54; refine (Tryd.stringslite_Index_one _ _ _).mono ?_; rintro e w' ⟨rfl, rfl⟩; rw [HI.out])
    go_quiet (fail)
    go_wp2
    go_ret3
    refine ⟨⟨s.extract 0 n, s.extract (n + 1) s.size, true, rfl, ?_, ?_⟩, below_drewN (Below.refl _ _) _⟩
    · unfold Hid
      rw [ext_list, ← HL.out, HE.out, ← HN.out]
      simp
    · unfold Hid
      rw [ext_list, ← HR.out, List.take_of_length_le (by simp), HE.out, ← HN.out]
      simp

set_option maxHeartbeats 400000 in
theorem cut_any (s : ByteArray) (w : World) (hs : s.size ≤ 1048577) :
    Calls Tryd.prog 42 #[.string s, .string ⟨#[10]⟩] w fun e w' => (∃ (a b : ByteArray) (f : Bool), e = .returned (.tuple #[.string a, .string b, .bool f]) ∧ Hid (a.data.toList = lineOf s.data.toList) ∧ Hid (b.data.toList = restOf s.data.toList)) ∧ Below w.heap.size w w' := by
  go_enter Tryd.func42, Tryd.ntmps42
  go_wp2_with fail
  refine (cut49 s _ hs).mono ?_
  rintro e w1 ⟨⟨a, b, f, rfl, HL, HR⟩, hb1⟩
  go_wp2
  go_ret3
  exact ⟨⟨_, _, _, rfl, HL, HR⟩, hb1⟩

set_option maxHeartbeats 400000 in
theorem nextLine_any (s : ByteArray) (w : World) (hs : s.size ≤ 1048577) :
    Calls Tryd.prog 29 #[.string s] w fun e w' => (∃ (a b : ByteArray), e = .returned (.tuple #[.string a, .string b]) ∧ Hid (a.data.toList = noCR (lineOf s.data.toList)) ∧ Hid (b.data.toList = restOf s.data.toList)) ∧ Below w.heap.size w w' := by
  go_enter Tryd.func29, Tryd.ntmps29
  go_wp2_with fail
  refine (cut_any s _ hs).mono ?_
  rintro e w1 ⟨⟨a, b, f, rfl, HL, HR⟩, hb1⟩
  have ha : a.size ≤ 9223372036854775807 := by
    have h1 : a.size ≤ s.size := by
      rw [ba_size, ba_size, HL.out]
      unfold lineOf
      exact (List.takeWhile_sublist _).length_le
    omega
  go_wp2_with fail
  refine (Tryd.strings_TrimSuffix a ⟨#[13]⟩ _ ha).mono ?_
  rintro e w2 ⟨rfl, rfl⟩
  have HT : Hid ((Lib.trimSuffix a.data.toList (⟨#[13]⟩ : ByteArray).data.toList) = noCR (lineOf s.data.toList)) := by
    unfold Hid
    rw [← HL.out]
    exact trimSuffix_noCR _
  generalize hg : (⟨(Lib.trimSuffix a.data.toList (⟨#[13]⟩ : ByteArray).data.toList).toArray⟩ : ByteArray) = t at *
  have HT2 : Hid (t.data.toList = noCR (lineOf s.data.toList)) := by unfold Hid; rw [← hg]; exact HT.out
  clear hg HT
  go_wp2
  go_ret2
  exact ⟨⟨_, _, rfl, HT2, HR⟩, hb1⟩

set_option maxHeartbeats 400000 in
theorem starts_any (s : ByteArray) (w : World) (hs : s.size ≤ 1048577) :
    Calls Tryd.prog 28 #[.string s] w fun e w' => e = .returned (.bool (starts s.data.toList)) ∧ w' = w := by
  by_cases he : s.toList.isEmpty = true
  · have HS : Hid (starts s.data.toList = false) := by
      unfold Hid
      rw [ByteArray.toList_eq] at he
      rw [List.isEmpty_iff.1 he]
      rfl
    go_enter Tryd.func28, Tryd.ntmps28
    go_wp2
    go_ret
    exact ⟨ret_bool HS.out.symm, rfl⟩
  have he' : s.toList.isEmpty = false := by simpa using he
  have h0 : 0 < s.size := by
    rw [ByteArray.toList_eq] at he
    rw [ba_size]
    exact List.length_pos_iff.2 (by simpa using he)
  have HS : Hid (starts s.data.toList = ws s[0]) := by
    have := drop_cons s 0 h0
    unfold Hid
    rw [List.drop_zero] at this
    rw [this]
    rfl
  clear he
  by_cases h1 : ((s[0].toNat : Int) == 32) = true
  · have HW : Hid (ws s[0] = true) := (ws_iff _).2 (Or.inl (by simpa using h1))
    go_enter Tryd.func28, Tryd.ntmps28
    go_wp2
    go_ret
    exact ⟨ret_bool (HS.out.trans HW.out).symm, rfl⟩
  have h1' : ((s[0].toNat : Int) == 32) = false := by simpa using h1
  by_cases h2 : ((s[0].toNat : Int) == 9) = true
  · have HW : Hid (ws s[0] = true) := (ws_iff _).2 (Or.inr (by simpa using h2))
    clear h1
    go_enter Tryd.func28, Tryd.ntmps28
    go_wp2
    go_ret
    exact ⟨ret_bool (HS.out.trans HW.out).symm, rfl⟩
  · have h2' : ((s[0].toNat : Int) == 9) = false := by simpa using h2
    have HW : Hid (ws s[0] = false) := by
      unfold Hid
      rw [← Bool.not_eq_true, ws_iff]
      simp at h1 h2
      omega
    clear h1 h2
    go_enter Tryd.func28, Tryd.ntmps28
    go_wp2
    go_ret
    exact ⟨ret_bool (HS.out.trans HW.out).symm, rfl⟩

def hasBad (s : ByteArray) : Bool := s.data.toList.any bad
theorem bad_no (s : ByteArray) (k : Nat) (h : k < s.size) (hk : bad s[k] = true) : hasBad s = true := by
  unfold hasBad
  rw [List.any_eq_true]
  exact ⟨s[k], List.getElem_mem (l := s.data.toList) (by simpa using h), hk⟩

set_option maxHeartbeats 1000000 in
theorem fieldValue_any (s : ByteArray) (w : World) (hs : s.size ≤ 1048577) :
    Calls Tryd.prog 21 #[.string s] w fun e w' => ((hasBad s = true ∧ e = .returned (.tuple #[.string ⟨#[]⟩, .bool false])) ∨
      (hasBad s = false ∧ ∃ t : ByteArray, e = .returned (.tuple #[.string t, .bool true]) ∧ Hid (t.data.toList = trim s.data.toList))) ∧ Below w.heap.size w w' := by
  go_enter Tryd.func21, Tryd.ntmps21
  go_wp2
  go_loop [4, 5] (fun i _ => ∃ k : Nat, k ≤ s.size ∧ i = .int .i64 k ∧ (s.data.toList.take k).any bad = false) (fun i _ => s.size - (intOf i).toNat)
  case atStart => exact ⟨0, Nat.zero_le _, rfl, rfl⟩
  case round =>
    obtain ⟨k, hk, rfl, hall⟩ := hrel
    by_cases hlt : k < s.size
    · have HS : Hid (s.data.toList.take (k + 1) = s.data.toList.take k ++ [s[k]]) := take_snoc s k hlt
      have HA : Hid ((s.data.toList.take k).any bad = false) := hall
      clear hall
      by_cases h1 : (s[k].toNat : Int) < 32
      · by_cases h2 : ((s[k].toNat : Int) != 9) = true
        · have HB : Hid (hasBad s = true) := bad_no s k hlt ((bad_iff _).2 (Or.inl ⟨h1, by simpa using h2⟩))
          go_wp2
          go_ret2
          exact ⟨Or.inl ⟨HB.out, rfl⟩, Below.refl _ _⟩
        · have h2' : ((s[k].toNat : Int) != 9) = false := by simpa using h2
          have h3' : ((s[k].toNat : Int) == 127) = false := by simp; omega
          have HB : Hid (bad s[k] = false) := by
            unfold Hid
            rw [← Bool.not_eq_true, bad_iff]
            simp at h2
            omega
          clear h2
          go_wp2
          go_round
          case rel => exact ⟨k + 1, by omega, by go_num, by rw [HS.out, List.any_append, HA.out]; simp [HB.out]⟩
          case measure => simp [intOf]; omega
      · by_cases h3 : ((s[k].toNat : Int) == 127) = true
        · have HB : Hid (hasBad s = true) := bad_no s k hlt ((bad_iff _).2 (Or.inr (by simpa using h3)))
          go_wp2
          go_ret2
          exact ⟨Or.inl ⟨HB.out, rfl⟩, Below.refl _ _⟩
        · have h3' : ((s[k].toNat : Int) == 127) = false := by simpa using h3
          have HB : Hid (bad s[k] = false) := by
            unfold Hid
            rw [← Bool.not_eq_true, bad_iff]
            simp at h3
            omega
          clear h3
          go_wp2
          go_round
          case rel => exact ⟨k + 1, by omega, by go_num, by rw [HS.out, List.any_append, HA.out]; simp [HB.out]⟩
          case measure => simp [intOf]; omega
    · have HA : Hid (hasBad s = false) := by
        unfold Hid hasBad
        rw [List.take_of_length_le (by rw [← ba_size]; omega)] at hall
        exact hall
      clear hall
      go_wp2_with fail
      refine (Tryd.strings_Trim_laid s ⟨#[32, 9]⟩ _ (by omega) (by decide) (ascii_of_all (by decide))).mono ?_
      rintro e w1 ⟨rfl, hb1⟩
      generalize hg : (⟨(Lib.trimS s.data.toList (⟨#[32, 9]⟩ : ByteArray).data.toList).toArray⟩ : ByteArray) = t at *
      have HT : Hid (t.data.toList = trim s.data.toList) := by
        unfold Hid; rw [← hg]; exact trimS_trim _
      clear hg
      go_wp2
      go_ret2
      exact ⟨Or.inr ⟨HA.out, t, rfl, HT⟩, hb1⟩
end Go.Proofs.Qxb6600698aDoor
