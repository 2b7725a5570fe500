import Derived.Test.Qxb6600369aFmtLaws
namespace Go.Proofs.Qxb6600369aFmt
open Go.RowKit Go.Maps
set_option linter.unusedVariables false
set_option maxRecDepth 100000

theorem wholeL_len (l : List UInt8) (dec : Nat) : (wholeL l dec).length ≤ l.length - dec + 1 := by
  unfold wholeL
  split
  · simp
  · have h1 := noZ_len (l.take (l.length - dec))
    have h2 : (l.take (l.length - dec)).length ≤ l.length - dec := List.length_take_le _ _
    omega
theorem fracL_len (l : List UInt8) (dec : Nat) (h : dec ≤ l.length) : (fracL l dec).length = dec := by
  unfold fracL
  simp
  omega
theorem numL_len (l : List UInt8) (dec : Nat) (h : dec ≤ l.length) : (numL l dec).length ≤ l.length + 2 := by
  unfold numL
  have h1 := wholeL_len l dec
  have h2 := fracL_len l dec h
  rw [List.length_append]
  by_cases hz : dec = 0
  · simp [hz] at h1 ⊢; omega
  · simp only [hz, if_false, List.length_cons]; omega

theorem number_ex (data dg nm fn : ByteArray) (n off b : Nat) (w : World) (hn : nm.size ≤ maxLen) (hb : w.heap[b]? = some (oneMap nm fn dg.size n off)) (hd : data.size ≤ 1048576) (hl : off + dg.size ≤ data.size) (hdec : n ≤ dg.size)
    (hdg : data.extract off (off + dg.size) = dg) :
    Calls Tryf.prog 10 #[.agg #[.int .i64 0, .string data, .map (some b)], .string nm] w fun e w' => (∃ r : ByteArray, e = .returned (.string r) ∧ Hid (r.data.toList = numL dg.data.toList n) ∧ r.size ≤ dg.size + 2) ∧ Below w.heap.size w w' :=
  (number_same data nm fn dg.size n off b w hn hb hd hl hdec).mono fun e w' ⟨h1, h2⟩ => ⟨⟨_, h1, by rw [hdg]; exact rfl, by
    rw [hdg, ba_size, ba_size]
    exact numL_len _ _ (by rw [← ba_size]; exact hdec)⟩, h2⟩

theorem ext_whole (s : ByteArray) : s.extract 0 (0 + s.size) = s := ba_eq (by rw [ext_list, List.take_of_length_le (by simp)]; rfl)

set_option maxHeartbeats 2000000 in
theorem law4 (a b nm : ByteArray) (d : Int) (w : World) (ha : a.size ≤ maxLen) (hb : b.size ≤ maxLen) (hc : nm.size ≤ maxLen) :
    Calls Tryf.prog 4 #[.string a, .string b, .string nm, .int .i64 d] w fun e w' => e = .returned (.bool true) ∧ Below w.heap.size w w' := by
  go_enter Tryf.func4, Tryf.ntmps4
  go_wp2_with fail
  refine (zz13 a b nm d _ ha hb hc).mono ?_
  rintro e w1 ⟨⟨bb, rfl, hbb⟩, rfl⟩
  cases bb with
  | false =>
    clear hbb
    go_wp2
    go_ret
    exact ⟨rfl, Below.refl _ _⟩
  | true =>
    have hsum := hbb rfl
    clear hbb
    by_cases h1 : (262144 : Int) < a.size
    · go_wp2
      go_ret
      exact ⟨rfl, Below.refl _ _⟩
    by_cases h2 : (262144 : Int) < b.size
    · go_wp2
      go_ret
      exact ⟨rfl, Below.refl _ _⟩
    by_cases h3 : (262144 : Int) < nm.size
    · go_wp2
      go_ret
      exact ⟨rfl, Below.refl _ _⟩
    by_cases h4 : ((a.size : Int) != b.size) = true
    · go_wp2
      go_ret
      exact ⟨rfl, Below.refl _ _⟩
    have h4' : ((a.size : Int) != b.size) = false := by simpa using h4
    have hsz : Hid (a.size = b.size) := (by simp at h4; omega : a.size = b.size)
    clear h4
    by_cases h5 : d < 0
    · go_wp2
      go_ret
      exact ⟨rfl, Below.refl _ _⟩
    by_cases h6 : (a.size : Int) < d
    · go_wp2
      go_ret
      exact ⟨rfl, Below.refl _ _⟩
    obtain ⟨n, rfl⟩ := Int.eq_ofNat_of_zero_le (Int.not_lt.1 h5)
    go_wp2_with fail
    refine (allDigits_any a _ ha).mono ?_
    rintro e w2 ⟨rfl, rfl⟩
    by_cases h7 : allDig a = false
    · go_wp2
      go_ret
      exact ⟨rfl, Below.refl _ _⟩
    have h7' : allDig a = true := by simpa using h7
    clear h7
    go_wp2_with fail
    refine (allDigits_any b _ hb).mono ?_
    rintro e w2 ⟨rfl, rfl⟩
    by_cases h8 : allDig b = false
    · go_wp2
      go_ret
      exact ⟨rfl, Below.refl _ _⟩
    have h8' : allDig b = true := by simpa using h8
    clear h8
    go_wp2_with fail
    refine (numberField_any _ _ _ _).mono ?_
    rintro e w3 ⟨rfl, hb3⟩
    go_wp2_with fail
    refine (record_any _ _ _ _ _ _ _ hc).mono ?_
    rintro e w4 ⟨bk, rfl, hblk, hb4⟩
    obtain ⟨hc4, hf4⟩ := bcell hb4
    go_wp2_with fail
    refine (number_ex a a nm nm n 0 bk w4 hc hblk (by omega) (by omega) (by omega) (ext_whole a)).mono ?_
    rintro e w5 ⟨⟨ra, rfl, HRA, hra⟩, hb5⟩
    have hb45 := hb4.trans (hb5.mono hb4.size)
    clear hc4 hf4 hblk hb4 hb5
    obtain ⟨hc5, hf5⟩ := bcell hb45
    go_wp2_with fail
    refine (record_any _ _ _ _ _ _ _ hc).mono ?_
    rintro e w6 ⟨bk2, rfl, hblk, hb6⟩
    go_wp2_with fail
    refine (number_ex b b nm nm n 0 bk2 w6 hc (by rw [← hsz.out]; exact hblk) (by omega) (by omega) (by have := hsz.out; omega) (ext_whole b)).mono ?_
    rintro e w7 ⟨⟨rb, rfl, HRB, hrb⟩, hb7⟩
    have hb47 := hb45.trans ((hb6.trans (hb7.mono hb6.size)).mono hb45.size)
    clear hc5 hf5 hblk hb6 hb7 hb45
    have HO : Hid (cmpL a.data.toList b.data.toList = cmpDec ra.data.toList rb.data.toList) := by
      unfold Hid
      rw [HRA.out, HRB.out]
      exact order_law _ _ n (by rw [← ba_size, ← ba_size]; exact hsz.out) h7' h8' (by rw [← ba_size]; omega)
    go_wp2_with fail
    refine (cmpBytes_any a b _ (by omega) (by omega)).mono ?_
    rintro e w8 ⟨rfl, hb8⟩
    go_wp2_with fail
    refine (cmpDec_any ra rb _ (by omega) (by omega)).mono ?_
    rintro e w9 ⟨rfl, hb9⟩
    have hb49 := hb47.trans ((hb8.trans (hb9.mono hb8.size)).mono hb47.size)
    clear hb47 hb8 hb9
    have heq : (cmpL a.data.toList b.data.toList == cmpDec ra.data.toList rb.data.toList) = true := by rw [HO.out]; simp
    go_wp2
    go_ret
    refine ⟨rfl, ?_⟩
    exact (hb3.alloc hb3.size _).trans (hb49.mono (by have := hb3.size; simp; omega))
end Go.Proofs.Qxb6600369aFmt
