import Derived.Test.Qxb6600369aFmtWalks
namespace Go.Proofs.Qxb6600369aFmt
open Go.RowKit Go.Maps
set_option linter.unusedVariables false
set_option maxRecDepth 100000

theorem bcell {W w1 : World} (hb : Below W.heap.size W w1) : (∀ b o, b < W.heap.size → w1.cell? ⟨b, o, none⟩ = W.cell? ⟨b, o, none⟩) ∧ (∀ b o, b < W.heap.size → w1.frozen? ⟨b, o, none⟩ = W.frozen? ⟨b, o, none⟩) :=
  ⟨fun b o h => hb.cell (p := ⟨b, o, none⟩) h, fun b o h => hb.frozen (p := ⟨b, o, none⟩) h⟩
theorem blk_lt {w : World} {b : Nat} {o : Obj} (hb : w.heap[b]? = some o) : b < w.heap.size := by
  rcases Nat.lt_or_ge b w.heap.size with h | h
  · exact h
  · rw [Array.getElem?_eq_none h] at hb; cases hb

set_option maxHeartbeats 400000 in
theorem number_other (data nm fn ot : ByteArray) (len dec off : Int) (b : Nat) (w : World) (hn : nm.size ≤ maxLen) (ho : ot.size ≤ maxLen) (hne : ot ≠ nm) (hb : w.heap[b]? = some (oneMap nm fn len dec off)) :
    Calls Tryf.prog 10 #[.agg #[.int .i64 0, .string data, .map (some b)], .string ot] w fun e w' => e = .returned (.string ⟨#[]⟩) ∧ Below w.heap.size w w' := by
  have hlt := blk_lt hb
  have hl : ∀ o, (Instr.lookup 24 (.map (some b)) (.string ot) true).run Tryf.prog (w.alloc o) = .ok (.tuple #[.agg #[.string ⟨#[]⟩, .int .u8 0, .int .i64 0, .int .i64 0, .int .i64 0, .int .i64 0], .bool false]) (w.alloc o) :=
    fun o => run_look_other _ b nm fn ot len dec off hn ho hne (by rw [Below.heap_alloc _ _ _ hlt]; exact hb)
  clear hb
  go_enter Tryf.func10, Tryf.ntmps10
  go_wp2
  go_ret
  exact ⟨rfl, ((Below.refl _ _).alloc (Nat.le_refl _) _).alloc (by simp) _⟩

theorem trimLeft_ex (s : ByteArray) (w : World) (hs : s.size ≤ 1048576) :
    Calls Tryf.prog 19 #[.string s, .string ⟨#[48]⟩] w fun e w' => (∃ t : ByteArray, e = .returned (.string t) ∧ Hid (t.data.toList = noZ s.data.toList)) ∧ w' = w :=
  (trimLeft_any s w hs).mono fun e w' ⟨h1, h2⟩ => ⟨⟨_, h1, rfl⟩, h2⟩
theorem data_app (a b : ByteArray) : (a ++ b).data.toList = a.data.toList ++ b.data.toList := by simp

set_option maxHeartbeats 1000000 in
theorem number_core (data nm fn dg : ByteArray) (wl dec off : Nat) (b : Nat) (w : World) (hn : nm.size ≤ maxLen) (hb : w.heap[b]? = some (oneMap nm fn (wl + dec : Nat) dec off)) (hd : data.size ≤ 1048576) (hlen : off + (wl + dec) ≤ data.size)
    (hdg : data.extract off (off + (wl + dec)) = dg) :
    Calls Tryf.prog 10 #[.agg #[.int .i64 0, .string data, .map (some b)], .string nm] w fun e w' => e = .returned (.string ⟨(numL dg.data.toList dec).toArray⟩) ∧ Below w.heap.size w w' := by
  have hlt := blk_lt hb
  have hl : ∀ o, (Instr.lookup 24 (.map (some b)) (.string nm) true).run Tryf.prog (w.alloc o) = .ok (.tuple #[.agg #[.string fn, .int .u8 78, .int .i64 (wl + dec : Nat), .int .i64 dec, .int .i64 off, .int .i64 0], .bool true]) (w.alloc o) :=
    fun o => run_look_same _ b nm fn _ dec off hn (by rw [Below.heap_alloc _ _ _ hlt]; exact hb)
  have hv : Hid (∀ o1 o2, Calls Tryf.prog 17 #[.agg #[.int .i64 0, .string data, .map (some b)], .string nm] ((w.alloc o1).alloc o2) fun e w' => e = .returned (.string dg) ∧ Below ((w.alloc o1).alloc o2).heap.size ((w.alloc o1).alloc o2) w') := fun o1 o2 => by
    have := value_same data nm fn (wl + dec) dec off b ((w.alloc o1).alloc o2) hn (by rw [Below.heap_alloc _ _ _ (by simp; omega), Below.heap_alloc _ _ _ hlt]; exact hb) hd hlen
    rw [hdg] at this
    exact this
  have hsz : dg.size = wl + dec := by rw [← hdg]; simp; omega
  have HSZ : Hid (dg.data.toList.length = wl + dec) := by rw [← ba_size]; exact hsz
  clear hb hdg
  go_enter Tryf.func10, Tryf.ntmps10
  go_wp2_with fail
  refine (hv.out _ _).mono ?_
  rintro e w1 ⟨rfl, hbel⟩
  obtain ⟨hc, hf⟩ := bcell hbel
  go_wp2_with fail
  refine (trimLeft_ex _ _ (by simp; omega)).mono ?_
  rintro e w2 ⟨⟨tr, rfl, HT⟩, rfl⟩
  have HT2 : Hid (tr.data.toList = noZ (dg.data.toList.take wl)) := by
    have := HT.out
    rw [ext_list] at this
    exact this
  have hbf : Below w.heap.size w w2 := (((Below.refl _ _).alloc (Nat.le_refl _) _).alloc (by simp) _).trans (hbel.mono (by simp; omega))
  have HW : Hid (wholeL dg.data.toList dec = if tr.data.toList.isEmpty then [48] else tr.data.toList) := by
    unfold Hid wholeL
    rw [HSZ.out, Nat.add_sub_cancel, HT2.out]
  have HF : Hid (fracL dg.data.toList dec = dg.data.toList.drop wl) := by
    unfold Hid fracL
    rw [HSZ.out, Nat.add_sub_cancel]
  have htl : tr.size ≤ wl := by
    rw [ba_size, HT2.out]
    exact Nat.le_trans (noZ_len _) (List.length_take_le _ _)
  have HTK : Hid (List.take dec (List.drop wl dg.data.toList) = List.drop wl dg.data.toList) := List.take_of_length_le (by rw [List.length_drop, HSZ.out]; omega)
  clear HT HT2
  by_cases hdz : ((dec : Int) == 0) = true
  · have HD : Hid (dec = 0) := (by simpa using hdz : dec = 0)
    by_cases htr : tr.toList.isEmpty = true
    · have HR : Hid (numL dg.data.toList dec = [48]) := by
        unfold Hid numL
        rw [HW.out, if_pos HD.out, ← ByteArray.toList_eq, if_pos htr]; rfl
      go_wp2
      go_ret
      exact ⟨ret_str (ba_eq (by rw [HR.out])), hbf⟩
    · have htr' : tr.toList.isEmpty = false := by simpa using htr
      have HR : Hid (numL dg.data.toList dec = tr.data.toList) := by
        unfold Hid numL
        rw [HW.out, if_pos HD.out, ← ByteArray.toList_eq, if_neg htr, List.append_nil]
      clear htr
      go_wp2
      go_ret
      exact ⟨ret_str (ba_eq (by rw [HR.out])), hbf⟩
  · have hdz' : ((dec : Int) == 0) = false := by simpa using hdz
    have HD : Hid (¬ dec = 0) := (by simpa using hdz : ¬ dec = 0)
    clear hdz
    by_cases htr : tr.toList.isEmpty = true
    · have HR : Hid (numL dg.data.toList dec = [48] ++ (46 :: dg.data.toList.drop wl)) := by
        unfold Hid numL
        rw [HW.out, if_neg HD.out, ← ByteArray.toList_eq, if_pos htr, HF.out]
      go_wp2
      go_ret
      exact ⟨ret_str (ba_eq (by rw [HR.out]; simp [HTK.out])), hbf⟩
    · have htr' : tr.toList.isEmpty = false := by simpa using htr
      have HR : Hid (numL dg.data.toList dec = tr.data.toList ++ (46 :: dg.data.toList.drop wl)) := by
        unfold Hid numL
        rw [HW.out, if_neg HD.out, ← ByteArray.toList_eq, if_neg htr, HF.out]
      clear htr
      go_wp2
      go_ret
      exact ⟨ret_str (ba_eq (by rw [HR.out]; simp [HTK.out])), hbf⟩

theorem number_same (data nm fn : ByteArray) (len dec off : Nat) (b : Nat) (w : World) (hn : nm.size ≤ maxLen) (hb : w.heap[b]? = some (oneMap nm fn len dec off)) (hd : data.size ≤ 1048576) (hlen : off + len ≤ data.size) (hdec : dec ≤ len) :
    Calls Tryf.prog 10 #[.agg #[.int .i64 0, .string data, .map (some b)], .string nm] w fun e w' => e = .returned (.string ⟨(numL (data.extract off (off + len)).data.toList dec).toArray⟩) ∧ Below w.heap.size w w' := by
  obtain ⟨wl, rfl⟩ : ∃ wl, len = wl + dec := ⟨len - dec, by omega⟩
  exact number_core data nm fn _ wl dec off b w hn hb hd hlen rfl

theorem split_len1 (l : List UInt8) : (splitL l).1.length ≤ l.length := by
  unfold splitL
  split
  · exact Nat.le_refl _
  · exact List.length_take_le' _ _
theorem split_len2 (l : List UInt8) : (splitL l).2.1.length ≤ l.length := by
  unfold splitL
  split
  · exact Nat.zero_le _
  · simp
theorem cmpDec_eq (a b : List UInt8) : cmpDec a b = if (splitL a).1.length < (splitL b).1.length then -1 else if (splitL b).1.length < (splitL a).1.length then 1
    else if cmpL (splitL a).1 (splitL b).1 ≠ 0 then cmpL (splitL a).1 (splitL b).1 else cmpL (splitL a).2.1 (splitL b).2.1 := rfl

set_option maxHeartbeats 1000000 in
theorem cmpDec_any (a b : ByteArray) (w : World) (ha : a.size ≤ 1048576) (hb : b.size ≤ 1048576) :
    Calls Tryf.prog 15 #[.string a, .string b] w fun e w' => e = .returned (.int .i64 (cmpDec a.data.toList b.data.toList)) ∧ Below w.heap.size w w' := by
  have hs1 : (splitL a.data.toList).1.length ≤ 1048576 := Nat.le_trans (split_len1 _) (by rw [← ba_size]; exact ha)
  have hs2 : (splitL b.data.toList).1.length ≤ 1048576 := Nat.le_trans (split_len1 _) (by rw [← ba_size]; exact hb)
  have hs3 : (splitL a.data.toList).2.1.length ≤ 1048576 := Nat.le_trans (split_len2 _) (by rw [← ba_size]; exact ha)
  have hs4 : (splitL b.data.toList).2.1.length ≤ 1048576 := Nat.le_trans (split_len2 _) (by rw [← ba_size]; exact hb)
  have HR : Hid (cmpDec a.data.toList b.data.toList = _) := cmpDec_eq _ _
  go_enter Tryf.func15, Tryf.ntmps15
  go_wp2_with fail
  refine (split_any a _ ha).mono ?_
  rintro e w1 ⟨rfl, hb1⟩
  go_wp2_with fail
  refine (split_any b _ hb).mono ?_
  rintro e w2 ⟨rfl, hb2⟩
  have hb12 := hb1.trans (hb2.mono hb1.size)
  generalize (splitL a.data.toList).1 = wa at *
  generalize (splitL b.data.toList).1 = wb at *
  generalize (splitL a.data.toList).2.1 = fa at *
  generalize (splitL b.data.toList).2.1 = fb at *
  by_cases h1 : (wa.length : Int) < wb.length
  · go_wp2
    go_ret
    exact ⟨ret_int (by rw [HR.out, if_pos (by omega)]), hb12⟩
  · by_cases h2 : (wb.length : Int) < wa.length
    · go_wp2
      go_ret
      exact ⟨ret_int (by rw [HR.out, if_neg (by omega), if_pos (by omega)]), hb12⟩
    · go_wp2_with fail
      refine (cmpBytes_any _ _ _ (by rw [ba_size]; simpa using hs1) (by rw [ba_size]; simpa using hs2)).mono ?_
      rintro e w3 ⟨rfl, hb3⟩
      have hb123 := hb12.trans (hb3.mono hb12.size)
      by_cases h3 : ((cmpL wa wb) != 0) = true
      · go_wp2
        go_ret
        exact ⟨ret_int (by rw [HR.out, if_neg (by omega), if_neg (by omega), if_pos (by simpa using h3)]), hb123⟩
      · have h3' : ((cmpL wa wb) != 0) = false := by simpa using h3
        have H3 : Hid (cmpL wa wb = 0) := (by simpa using h3 : cmpL wa wb = 0)
        clear h3
        go_wp2_with fail
        refine (cmpBytes_any _ _ _ (by rw [ba_size]; simpa using hs3) (by rw [ba_size]; simpa using hs4)).mono ?_
        rintro e w4 ⟨rfl, hb4⟩
        have hb1234 := hb123.trans (hb4.mono hb123.size)
        go_wp2
        go_ret
        exact ⟨ret_int (by rw [HR.out, if_neg (by omega), if_neg (by omega), if_neg (by rw [H3.out]; simp)]), hb1234⟩

end Go.Proofs.Qxb6600369aFmt
