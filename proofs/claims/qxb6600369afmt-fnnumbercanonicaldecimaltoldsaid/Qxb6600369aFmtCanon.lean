import Derived.Test.Qxb6600369aFmtOrder
namespace Go.Proofs.Qxb6600369aFmt
open Go.RowKit Go.Maps
set_option linter.unusedVariables false
set_option maxRecDepth 100000

theorem ext_mid (a d c : ByteArray) : (a ++ d ++ c).extract a.size (a.size + d.size) = d := by
  refine ba_eq ?_
  rw [ext_list, ba_size a, ba_size d]
  simp only [ByteArray.data_append, Array.toList_append, List.append_assoc]
  rw [List.take_append, List.take_of_length_le (by omega), Nat.add_sub_cancel_left, List.drop_left', List.take_left']
  all_goals rfl
theorem split_ex (s : ByteArray) (l : List UInt8) (n : Nat) (w : World) (hs : s.size ≤ 1048576) (hl : s.data.toList = numL l n) (hd : l.all isDig = true) (hn : n ≤ l.length) :
    Calls Tryf.prog 11 #[.string s] w fun e w' => (∃ (a b : ByteArray) (pt : Int), e = .returned (.tuple #[.string a, .string b, .int .i64 pt]) ∧ Hid (a.data.toList = wholeL l n) ∧ Hid (b.data.toList = if n = 0 then [] else fracL l n) ∧ Hid (pt = if n = 0 then 0 else 1)) ∧ Below w.heap.size w w' :=
  (split_any s w hs).mono fun e w' ⟨h1, h2⟩ => ⟨⟨_, _, _, h1, by unfold Hid; rw [hl, split_num hd hn], by unfold Hid; rw [hl, split_num hd hn], by
    unfold Hid; rw [hl, split_num hd hn]; by_cases hz : n = 0 <;> simp [hz]⟩, h2⟩

theorem trimZeros_ex (s : ByteArray) (w : World) (hs : s.size ≤ 1048576) :
    Calls Tryf.prog 12 #[.string s] w fun e w' => (∃ t : ByteArray, e = .returned (.string t) ∧ Hid (t.data.toList = noZ s.data.toList)) ∧ w' = w :=
  (trimZeros_any s w hs).mono fun e w' ⟨h1, h2⟩ => ⟨⟨_, h1, rfl⟩, h2⟩

set_option maxHeartbeats 4000000 in
theorem law3 (pre dg post nm : ByteArray) (d : Int) (w : World) (ha : pre.size ≤ maxLen) (hb : dg.size ≤ maxLen) (hc : post.size ≤ maxLen) (hd : nm.size ≤ maxLen) :
    Calls Tryf.prog 3 #[.string pre, .string dg, .string post, .string nm, .int .i64 d] w fun e w' => e = .returned (.bool true) ∧ Below w.heap.size w w' := by
  go_enter Tryf.func3, Tryf.ntmps3
  go_wp2_with fail
  refine (zz6 pre dg post nm d _ ha hb hc hd).mono ?_
  rintro e w1 ⟨⟨bb, rfl, hbb⟩, rfl⟩
  cases bb with
  | false =>
    clear hbb
    go_wp2
    go_ret
    exact ⟨rfl, Below.refl _ _⟩
  | true =>
    have hsum := hbb rfl
    clear hbb
    by_cases h1 : (262144 : Int) < pre.size
    · go_wp2
      go_ret
      exact ⟨rfl, Below.refl _ _⟩
    by_cases h2 : (262144 : Int) < dg.size
    · go_wp2
      go_ret
      exact ⟨rfl, Below.refl _ _⟩
    by_cases h3 : (262144 : Int) < post.size
    · go_wp2
      go_ret
      exact ⟨rfl, Below.refl _ _⟩
    by_cases h4 : (262144 : Int) < nm.size
    · go_wp2
      go_ret
      exact ⟨rfl, Below.refl _ _⟩
    by_cases h5 : d < 0
    · go_wp2
      go_ret
      exact ⟨rfl, Below.refl _ _⟩
    by_cases h6 : (dg.size : Int) < d
    · go_wp2
      go_ret
      exact ⟨rfl, Below.refl _ _⟩
    obtain ⟨n, rfl⟩ := Int.eq_ofNat_of_zero_le (Int.not_lt.1 h5)
    go_wp2_with fail
    refine (allDigits_any dg _ hb).mono ?_
    rintro e w2 ⟨rfl, rfl⟩
    by_cases h7 : allDig dg = false
    · go_wp2
      go_ret
      exact ⟨rfl, Below.refl _ _⟩
    have h7' : allDig dg = true := by simpa using h7
    clear h7
    have HEX := ext_mid pre dg post
    have hapd : (pre ++ dg ++ post).size = pre.size + dg.size + post.size := by simp
    have HX : Hid ((pre ++ dg ++ post).extract pre.size (pre.size + dg.size) = dg) := HEX
    have HP : Hid ((pre ++ dg ++ post).size = pre.size + dg.size + post.size) := hapd
    clear HEX hapd
    go_wp2_with fail
    refine (numberField_any _ _ _ _).mono ?_
    rintro e w3 ⟨rfl, hb3⟩
    go_wp2_with fail
    refine (record_any _ _ _ _ _ _ _ hd).mono ?_
    rintro e w4 ⟨bk, rfl, hblk, hb4⟩
    have hlt := blk_lt hblk
    have HB : Hid (∀ o, (w4.alloc o).heap[bk]? = some (oneMap nm nm dg.size n pre.size)) := fun o => by rw [Below.heap_alloc _ _ _ hlt]; exact hblk
    have hb34 := hb3.trans (hb4.mono hb3.size)
    clear hblk hb3 hb4
    go_wp2_with fail
    refine (number_ex _ dg nm nm n pre.size bk _ hd (HB.out _) (by rw [HP.out]; omega) (by rw [HP.out]; omega) (by omega) HX.out).mono ?_
    rintro e w5 ⟨⟨r, rfl, HR, hr⟩, hb5⟩
    have hb25 : Below w2.heap.size w2 w5 := (hb34.alloc hb34.size _).trans (hb5.mono (by have := hb34.size; simp; omega))
    clear HX HP HB hb5 hb34 hlt
    go_wp2_with fail
    refine (split_ex r dg.data.toList n _ (by omega) HR.out h7' (by rw [← ba_size]; omega)).mono ?_
    rintro e w6 ⟨⟨wh, fr, pt, rfl, HW, HF, HPT⟩, hb6⟩
    have hb26 := hb25.trans (hb6.mono hb25.size)
    clear hb25 hb6
    have hww : wh.toList.isEmpty = false := by
      rw [ByteArray.toList_eq, HW.out]
      have := wholeL_ne dg.data.toList n
      simpa using this
    have hdw : allDig wh = true := by unfold allDig; rw [HW.out]; exact wholeL_dig h7'
    have hdf : allDig fr = true := by
      unfold allDig; rw [HF.out]
      by_cases hz : n = 0
      · simp [hz]
      · simp only [hz, if_false]; exact fracL_dig h7'
    have hws : wh.size ≤ dg.size + 1 := by
      rw [ba_size, ba_size, HW.out]
      exact Nat.le_trans (wholeL_len _ _) (by omega)
    have HFS : Hid (n ≠ 0 → fr.size = n) := fun hz => by
      rw [ba_size, HF.out, if_neg hz]
      exact fracL_len _ _ (by rw [← ba_size]; omega)
    have hfs : fr.size ≤ n := by
      by_cases hz : n = 0
      · rw [ba_size, HF.out, if_pos hz]; simp
      · exact Nat.le_of_eq (HFS.out hz)
    have HLZ : Hid (∀ h : 1 < wh.size, ((wh[0]'(by omega)).toNat : Int) ≠ 48) := fun h e => by
      have e1 : wh[0]'(by omega) = 48 := byte_eq e
      refine wholeL_lead dg.data.toList n (by rw [← HW.out, ← ba_size]; exact h) ?_
      rw [← HW.out, List.head?_eq_getElem?, ← e1]
      rw [List.getElem?_eq_getElem (by simpa using (by omega : 0 < wh.size))]
      rfl
    have HTZ : Hid (noZ (wh ++ fr).data.toList = noZ dg.data.toList) := by
      unfold Hid
      simp only [data_app, HW.out, HF.out]
      by_cases hz : n = 0
      · subst hz
        have := noZ_whole dg.data.toList 0
        rw [show fracL dg.data.toList 0 = [] from by unfold fracL; simp only [Nat.sub_zero, List.drop_length]] at this
        simpa using this
      · simp only [hz, if_false]; exact noZ_whole _ _
    clear HR HW HF
    by_cases hz : ((n : Int) == 0) = true
    · have HZ : Hid (n = 0) := (by simpa using hz : n = 0)
      obtain rfl : pt = 0 := by rw [HPT.out, if_pos HZ.out]
      clear HPT
      go_wp2_with fail
      refine (allDigits_any wh _ (by unfold maxLen; omega)).mono ?_
      rintro e w7 ⟨rfl, rfl⟩
      go_wp2_with fail
      refine (allDigits_any fr _ (by unfold maxLen; omega)).mono ?_
      rintro e w7 ⟨rfl, rfl⟩
      by_cases hone : (1 : Int) < wh.size
      · have h0 : ((wh[0]'(by omega)).toNat : Int) ≠ 48 := HLZ.out (by omega)
        have h0' : (((wh[0]'(by omega)).toNat : Int) == 48) = false := by simpa using h0
        clear h0
        go_wp2_with fail
        refine (trimZeros_ex _ _ (by simp; omega)).mono ?_
        rintro e w7 ⟨⟨t1, rfl, HT1⟩, rfl⟩
        go_wp2_with fail
        refine (trimZeros_ex dg _ (by omega)).mono ?_
        rintro e w7 ⟨⟨t2, rfl, HT2⟩, rfl⟩
        have heq : (t1.toList == t2.toList) = true := by
          rw [ByteArray.toList_eq, ByteArray.toList_eq, HT1.out, HT2.out, HTZ.out]
          simp
        clear HTZ HT1 HT2
        go_wp2
        go_ret
        exact ⟨rfl, hb26⟩
      · go_wp2_with fail
        refine (trimZeros_ex _ _ (by simp; omega)).mono ?_
        rintro e w7 ⟨⟨t1, rfl, HT1⟩, rfl⟩
        go_wp2_with fail
        refine (trimZeros_ex dg _ (by omega)).mono ?_
        rintro e w7 ⟨⟨t2, rfl, HT2⟩, rfl⟩
        have heq : (t1.toList == t2.toList) = true := by
          rw [ByteArray.toList_eq, ByteArray.toList_eq, HT1.out, HT2.out, HTZ.out]
          simp
        clear HTZ HT1 HT2
        go_wp2
        go_ret
        exact ⟨rfl, hb26⟩
    · have hz' : ((n : Int) == 0) = false := by simpa using hz
      have HZ : Hid (¬ n = 0) := (by simpa using hz : ¬ n = 0)
      obtain rfl : pt = 1 := by rw [HPT.out, if_neg HZ.out]
      have hfn : ((fr.size : Int) != n) = false := by rw [HFS.out HZ.out]; simp
      clear HPT hz
      go_wp2_with fail
      refine (allDigits_any wh _ (by unfold maxLen; omega)).mono ?_
      rintro e w7 ⟨rfl, rfl⟩
      go_wp2_with fail
      refine (allDigits_any fr _ (by unfold maxLen; omega)).mono ?_
      rintro e w7 ⟨rfl, rfl⟩
      by_cases hone : (1 : Int) < wh.size
      · have h0 : ((wh[0]'(by omega)).toNat : Int) ≠ 48 := HLZ.out (by omega)
        have h0' : (((wh[0]'(by omega)).toNat : Int) == 48) = false := by simpa using h0
        clear h0
        go_wp2_with fail
        refine (trimZeros_ex _ _ (by simp; omega)).mono ?_
        rintro e w7 ⟨⟨t1, rfl, HT1⟩, rfl⟩
        go_wp2_with fail
        refine (trimZeros_ex dg _ (by omega)).mono ?_
        rintro e w7 ⟨⟨t2, rfl, HT2⟩, rfl⟩
        have heq : (t1.toList == t2.toList) = true := by
          rw [ByteArray.toList_eq, ByteArray.toList_eq, HT1.out, HT2.out, HTZ.out]
          simp
        clear HTZ HT1 HT2
        go_wp2
        go_ret
        exact ⟨rfl, hb26⟩
      · go_wp2_with fail
        refine (trimZeros_ex _ _ (by simp; omega)).mono ?_
        rintro e w7 ⟨⟨t1, rfl, HT1⟩, rfl⟩
        go_wp2_with fail
        refine (trimZeros_ex dg _ (by omega)).mono ?_
        rintro e w7 ⟨⟨t2, rfl, HT2⟩, rfl⟩
        have heq : (t1.toList == t2.toList) = true := by
          rw [ByteArray.toList_eq, ByteArray.toList_eq, HT1.out, HT2.out, HTZ.out]
          simp
        clear HTZ HT1 HT2
        go_wp2
        go_ret
        exact ⟨rfl, hb26⟩
end Go.Proofs.Qxb6600369aFmt
