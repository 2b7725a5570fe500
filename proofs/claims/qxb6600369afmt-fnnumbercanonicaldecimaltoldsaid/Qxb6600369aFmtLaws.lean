import Derived.Test.Qxb6600369aFmtNum
namespace Go.Proofs.Qxb6600369aFmt
open Go.RowKit Go.Maps
set_option linter.unusedVariables false
set_option maxRecDepth 100000

set_option maxHeartbeats 1000000 in
theorem zz16 (a b c : ByteArray) (d : Int) (w : World) (ha : a.size ≤ maxLen) (hb : b.size ≤ maxLen) (hc : c.size ≤ maxLen) :
    Calls Tryf.prog 16 #[.string a, .string b, .string c, .int .i64 d] w fun e w' => (∃ bb : Bool, e = .returned (.bool bb) ∧ (bb = true → a.size + b.size + c.size ≤ 1048576)) ∧ w' = w := by
  unfold maxLen at *
  go_enter Tryf.func16, Tryf.ntmps16
  go_wp2
  all_goals
    go_ret
    exact ⟨⟨_, rfl, fun h => by first | omega | cases h⟩, rfl⟩
set_option maxHeartbeats 1000000 in
theorem zz13 (a b c : ByteArray) (d : Int) (w : World) (ha : a.size ≤ maxLen) (hb : b.size ≤ maxLen) (hc : c.size ≤ maxLen) :
    Calls Tryf.prog 13 #[.string a, .string b, .string c, .int .i64 d] w fun e w' => (∃ bb : Bool, e = .returned (.bool bb) ∧ (bb = true → a.size + b.size + c.size ≤ 1048576)) ∧ w' = w := by
  unfold maxLen at *
  go_enter Tryf.func13, Tryf.ntmps13
  go_wp2
  all_goals
    go_ret
    exact ⟨⟨_, rfl, fun h => by first | omega | cases h⟩, rfl⟩
set_option maxHeartbeats 1000000 in
theorem zz6 (a b c f : ByteArray) (d : Int) (w : World) (ha : a.size ≤ maxLen) (hb : b.size ≤ maxLen) (hc : c.size ≤ maxLen) (hf : f.size ≤ maxLen) :
    Calls Tryf.prog 6 #[.string a, .string b, .string c, .string f, .int .i64 d] w fun e w' => (∃ bb : Bool, e = .returned (.bool bb) ∧ (bb = true → a.size + b.size + c.size + f.size ≤ 1048576)) ∧ w' = w := by
  unfold maxLen at *
  go_enter Tryf.func6, Tryf.ntmps6
  go_wp2
  all_goals
    go_ret
    exact ⟨⟨_, rfl, fun h => by first | omega | cases h⟩, rfl⟩

theorem number_nonempty (dg nm fn : ByteArray) (n b : Nat) (w : World) (hn : nm.size ≤ maxLen) (hb : w.heap[b]? = some (oneMap nm fn dg.size n 0)) (hd : dg.size ≤ 1048576) (hdec : n ≤ dg.size) :
    Calls Tryf.prog 10 #[.agg #[.int .i64 0, .string dg, .map (some b)], .string nm] w fun e w' => (∃ r : ByteArray, e = .returned (.string r) ∧ r.toList.isEmpty = false) ∧ Below w.heap.size w w' :=
  (number_same dg nm fn dg.size n 0 b w hn hb hd (by omega) hdec).mono fun e w' ⟨h1, h2⟩ => ⟨⟨_, h1, by
    rw [ByteArray.toList_eq]
    have := numL_ne (dg.extract 0 (0 + dg.size)).data.toList n
    simpa using this⟩, h2⟩

set_option maxHeartbeats 2000000 in
theorem law5 (dg nm ot : ByteArray) (d : Int) (w : World) (ha : dg.size ≤ maxLen) (hb : nm.size ≤ maxLen) (hc : ot.size ≤ maxLen) :
    Calls Tryf.prog 5 #[.string dg, .string nm, .string ot, .int .i64 d] w fun e w' => e = .returned (.bool true) ∧ Below w.heap.size w w' := by
  go_enter Tryf.func5, Tryf.ntmps5
  go_wp2_with fail
  refine (zz16 dg nm ot d _ ha hb hc).mono ?_
  rintro e w1 ⟨⟨bb, rfl, hbb⟩, rfl⟩
  cases bb with
  | false =>
    clear hbb
    go_wp2
    go_ret
    exact ⟨rfl, Below.refl _ _⟩
  | true =>
    have hsum := hbb rfl
    clear hbb
    by_cases h1 : (262144 : Int) < dg.size
    · go_wp2
      go_ret
      exact ⟨rfl, Below.refl _ _⟩
    by_cases h2 : (262144 : Int) < nm.size
    · go_wp2
      go_ret
      exact ⟨rfl, Below.refl _ _⟩
    by_cases h3 : (262144 : Int) < ot.size
    · go_wp2
      go_ret
      exact ⟨rfl, Below.refl _ _⟩
    by_cases h4 : (ot.toList == nm.toList) = true
    · go_wp2
      go_ret
      exact ⟨rfl, Below.refl _ _⟩
    have h4' : (ot.toList == nm.toList) = false := by simpa using h4
    have hne : Hid (ot ≠ nm) := fun e => h4 (by rw [e]; simp)
    clear h4
    by_cases h5 : d < 0
    · go_wp2
      go_ret
      exact ⟨rfl, Below.refl _ _⟩
    by_cases h6 : (dg.size : Int) < d
    · go_wp2
      go_ret
      exact ⟨rfl, Below.refl _ _⟩
    obtain ⟨n, rfl⟩ := Int.eq_ofNat_of_zero_le (Int.not_lt.1 h5)
    go_wp2_with fail
    refine (allDigits_any dg _ ha).mono ?_
    rintro e w2 ⟨rfl, rfl⟩
    by_cases h7 : allDig dg = false
    · go_wp2
      go_ret
      exact ⟨rfl, Below.refl _ _⟩
    have h7' : allDig dg = true := by simpa using h7
    clear h7
    go_wp2_with fail
    refine (numberField_any _ _ _ _).mono ?_
    rintro e w3 ⟨rfl, hb3⟩
    go_wp2_with fail
    refine (record_any _ _ _ _ _ _ _ hb).mono ?_
    rintro e w4 ⟨bk, rfl, hblk, hb4⟩
    have hlt := blk_lt hblk
    have HB : Hid (∀ o, (w4.alloc o).heap[bk]? = some (oneMap nm nm dg.size n 0)) := fun o => by rw [Below.heap_alloc _ _ _ hlt]; exact hblk
    clear hblk
    go_wp2_with fail
    refine (number_other _ _ _ _ _ _ _ _ _ hb hc hne.out (HB.out _)).mono ?_
    rintro e w5 ⟨rfl, hb5⟩
    obtain ⟨hc5, hf5⟩ := bcell hb5
    have hz5 := hb5.size
    have hblk5 : Hid (w5.heap[bk]? = some (oneMap nm nm dg.size n 0)) := by
      unfold Hid
      rw [hb5.block bk (by simp; omega)]
      exact HB.out _
    go_wp2_with fail
    refine (value_other _ _ _ _ _ _ _ _ _ hb hc hne.out hblk5.out).mono ?_
    rintro e w6 ⟨rfl, hb6⟩
    have hb56 := hb5.trans (hb6.mono hb5.size)
    obtain ⟨hc6, hf6⟩ := bcell hb56
    have hblk6 : Hid (w6.heap[bk]? = some (oneMap nm nm dg.size n 0)) := by
      unfold Hid
      rw [hb56.block bk (by simp; omega)]
      exact HB.out _
    clear hc5 hf5 hz5 hb6 hb5 hblk5
    go_wp2_with fail
    refine (number_nonempty dg nm nm n bk w6 hb hblk6.out (by omega) (by omega)).mono ?_
    rintro e w7 ⟨⟨r, rfl, hr⟩, hb7⟩
    have hfin : Below w2.heap.size w2 w7 := ((hb3.trans (hb4.mono hb3.size)).alloc (Nat.le_trans hb3.size hb4.size) _).trans ((hb56.trans (hb7.mono hb56.size)).mono (by have := hb3.size; have := hb4.size; simp; omega))
    go_wp2
    go_ret
    exact ⟨rfl, hfin⟩
end Go.Proofs.Qxb6600369aFmt
