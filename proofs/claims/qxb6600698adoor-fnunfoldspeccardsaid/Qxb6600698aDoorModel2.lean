import Derived.Test.Qxb6600698aDoorModel
import Derived.Test.Qxb6600698aDoorUnfold
import Derived.Laws.IdiomStrings
namespace Go.Proofs.Qxb6600698aDoor
open Go.Shelf Go.RowKit
set_option linter.unusedVariables false
set_option maxRecDepth 100000

def mdl (v l : ByteArray) : Option (List UInt8 × List UInt8) := modelL v.data.toList l.data.toList

set_option maxHeartbeats 4000000 in
theorem model_any (v l : ByteArray) (w : World) (hv : v.size + l.size ≤ 1048577) :
    Calls Tryd.prog 14 #[.string v, .string l] w fun e w' => ((Hid (mdl v l = none) ∧ e = .returned (.tuple #[.string ⟨#[]⟩, .string ⟨#[]⟩, .bool false])) ∨
      (∃ a b : ByteArray, e = .returned (.tuple #[.string a, .string b, .bool true]) ∧ Hid (mdl v l = some (a.data.toList, b.data.toList)))) ∧ Below w.heap.size w w' := by
  obtain ⟨i0, hi, hz0, hz1, hz2⟩ := info_parts infoByte
  have hfe : fe l ≤ l.size := by unfold fe; rw [ba_size]; exact foldEnd_le _
  have HFE : Hid (fe l = foldEnd l.data.toList) := rfl
  go_enter Tryd.func14, Tryd.ntmps14
  go_wp2_with fail
  refine (foldEnd_any l _ (by omega)).mono ?_
  rintro e w1 ⟨rfl, rfl⟩
  generalize fe l = n at *
  go_wp2_with fail
  have hblk : (l.extract 0 n).size = n := by simp; omega
  have HBL : Hid ((l.extract 0 n).data.toList = l.data.toList.take n) := by unfold Hid; rw [ext_list]; rfl
  generalize l.extract 0 n = blk at *
  subst hblk
  refine (blockBad_any blk _ (by omega)).mono ?_
  rintro e w1 ⟨rfl, rfl⟩
  by_cases hbb : bb blk = true
  · have HM : Hid (mdl v l = none) := by
      unfold Hid mdl modelL
      rw [← HFE.out, ← HBL.out]
      unfold bb at hbb
      rw [if_pos hbb]
    go_wp2
    go_ret3
    exact ⟨Or.inl ⟨HM, rfl⟩, Below.refl _ _⟩
  have hbb' : bb blk = false := by simpa using hbb
  have HM : Hid (mdl v l = some (joinS v.data.toList blk.data.toList, l.data.toList.drop blk.size)) := by
    unfold Hid mdl modelL
    rw [← HFE.out, ← HBL.out]
    unfold bb at hbb
    rw [if_neg hbb]
    rfl
  clear hbb HFE HBL
  go_wp2_with (at_make; refine wpList_make_own _ rfl _ _ 32 rfl w1.heap.size 5 i0 (.int .u8 0) 1 Tryd.underlying32 hi hz0 hz1 _ _ _ (v.size + blk.size) rfl rfl ?c0 ?b1 ?b2 ?b3 ?_)
  case c0 => simp
  case b1 => rw [hz2]; omega
  case b2 => unfold maxLen; omega
  case b3 => exact Nat.le_refl _
  intro w2 hown2 hgrow2
  have hbel2 : Below w1.heap.size w1 w2 := (Below.refl _ _).grown hgrow2 (Nat.le_refl _) (fun k hk => by cases hk)
  have hz2' : w1.heap.size ≤ w2.heap.size := hbel2.size
  go_wp2_with (at_builtin; refine Lib.wpList_append_own_string _ rfl _ _ 32 9 rfl w1.heap.size 5 i0 Tryd.underlying32 Tryd.underlying9 hi hz0 hz1 hz2 _ _ _ rfl hown2 v rfl ?c3 ?c4 ?c5 ?_)
  case c3 => unfold maxLen; omega
  case c4 => omega
  case c5 => exact hz2'
  intro v3 w3 hown3 hgrow3 hnil3
  have hbel3 : Below w1.heap.size w1 w3 := hbel2.grown hgrow3 hz2' (fun k hk => (hown2.lt k hk).1)
  have hnn3 : v3 ≠ .slice none 0 0 := fun e => hnil3 e
  have hown3' : w3.ownsRow w1.heap.size 5 1 v3 v.data.toList.length (Lib.byteCells v.data.toList) := by
    rw [← ba_size]
    simpa [Lib.strCells_eq] using hown3
  clear hown2 hgrow2 hgrow3 hnil3 hown3 hbel2 hz2'
  obtain ⟨g3, cap3, rfl⟩ : ∃ g cap, v3 = Value.slice (some ⟨g, 0, none⟩) v.size cap := by
    rcases hown3'.2 with ⟨h1, _⟩ | ⟨g, cap, cur, h1, _⟩
    · exact absurd h1 hnn3
    · exact ⟨g, cap, by rw [ba_size]; exact h1⟩
  clear hnn3
  go_wp2_with fail
  go_loopw [9, 10] (fun t i wr => ∃ (st : Nat) (bl : List UInt8) (g cap : Nat), t = .slice (some ⟨g, 0, none⟩) bl.length cap ∧ i = .int .i64 st ∧ st ≤ blk.size + 1 ∧ wr.ownsRow w1.heap.size 5 1 (.slice (some ⟨g, 0, none⟩) bl.length cap) bl.length (Lib.byteCells bl) ∧ Below w1.heap.size w1 wr ∧
    Hid (joinS bl (blk.data.toList.drop st) = joinS v.data.toList blk.data.toList) ∧ bl.length + 2 * (blk.size + 1 - st) ≤ 4194320) (fun _ i _ => blk.size + 1 - (intOf i).toNat)
  case atStart => exact ⟨0, v.data.toList, g3, cap3, by rw [← ba_size], rfl, by omega, by rw [← ba_size] at hown3' ⊢; exact hown3', hbel3, rfl, by rw [← ba_size]; omega⟩
  case round =>
    obtain ⟨st, bl, g0, cap0, rfl, rfl, hst, hown, hbw, HJ, hlen⟩ := hrel
    clear hown3' hbel3
    by_cases hlt : st < blk.size
    · have HNE : Hid (blk.data.toList.drop st ≠ []) := by
        unfold Hid
        rw [drop_cons blk st hlt]
        simp
      go_wp2_with fail
      go_loop [11] (fun i => ∃ k : Nat, st ≤ k ∧ k ≤ blk.size ∧ i = .int .i64 k ∧ Hid (∀ c ∈ (blk.data.toList.take k).drop st, c ≠ 10)) (fun i => blk.size - (intOf i).toNat)
      case atStart => exact ⟨st, Nat.le_refl _, by omega, rfl, by unfold Hid; rw [List.drop_of_length_le (by rw [List.length_take]; omega)]; simp⟩
      case round =>
        obtain ⟨k, hsk, hkl, rfl, HA⟩ := hrel
        by_cases hkk0 : k < blk.size
        · by_cases h10 : ((blk[k].toNat : Int) != 10) = true
          · have HN : Hid (∀ c ∈ (blk.data.toList.take (k + 1)).drop st, c ≠ 10) := take_drop_snoc blk st k hkk0 hsk HA.out (byte_ne (by simpa using h10))
            go_wp2
            go_round
            case rel => exact ⟨k + 1, by omega, by omega, by go_num, HN⟩
            case measure => simp [intOf]; omega
          · have h10' : ((blk[k].toNat : Int) != 10) = false := by simpa using h10
            have HP := piece_LF blk st k hkk0 hsk (byte_eq (by simpa using h10)) HA.out
            have HL : Hid (lineOf (blk.data.toList.drop st) = (blk.data.toList.take k).drop st) := HP.1
            have HR : Hid (restOf (blk.data.toList.drop st) = blk.data.toList.drop (k + 1)) := HP.2
            clear HP h10 HA
            by_cases hgt : st < k
            · obtain ⟨k', HK⟩ : ∃ k', k = k' + 1 := ⟨k - 1, by omega⟩
              have hkk : Hid (k = k' + 1) := HK
              have hk1 : (k : Int) - 1 = k' := by omega
              have hkb : k' < blk.size := by omega
              have hkle : st ≤ k' := by omega
              clear HK
              by_cases h13 : ((blk[k'].toNat : Int) == 13) = true
              · have HCR : Hid (noCR ((blk.data.toList.take k).drop st) = (blk.data.toList.take k').drop st) := by
                  have e : k - 1 = k' := by have := hkk.out; omega
                  have := piece_noCR_yes blk st k hkl hgt (by simp only [e]; exact byte_eq (by simpa using h13))
                  unfold Hid
                  rw [this, e]
                go_wp2_with fail
                refine (trimWS_any _ _ (by simp; omega)).mono ?_
                rintro e w4 ⟨⟨pt, rfl, HPT⟩, rfl⟩
                have HPT2 : Hid (pt.data.toList = trim (noCR (lineOf (blk.data.toList.drop st)))) := by
                  unfold Hid
                  rw [HPT.out, ext_list, HL.out, HCR.out]
                have hpts : pt.size + 1 ≤ k + 1 - st := by
                  have h1 := trim_len (noCR (lineOf (blk.data.toList.drop st)))
                  have h2 := noCR_len (lineOf (blk.data.toList.drop st))
                  rw [← HPT2.out, ← ba_size] at h1
                  rw [HL.out, List.length_drop, List.length_take] at h2
                  rw [HL.out] at h1
                  omega
                have HSTEP : Hid (joinS (join bl pt.data.toList) (blk.data.toList.drop (k + 1)) = joinS v.data.toList blk.data.toList) := by
                  unfold Hid
                  rw [← HJ.out, HPT2.out, ← HR.out]
                  exact (joinS_step bl _ HNE.out).symm
                clear HPT HPT2
                by_cases hpe : pt.toList.isEmpty = true
                · have HJJ : Hid (join bl pt.data.toList = bl) := by
                    unfold Hid join
                    rw [ByteArray.toList_eq] at hpe
                    rw [if_pos (List.isEmpty_iff.1 hpe)]
                  go_wp2
                  go_roundw
                  case rel => exact ⟨k + 1, bl, g0, cap0, rfl, by go_num, by omega, hown, hbw, by have := HSTEP.out; rw [HJJ.out] at this; exact this, by omega⟩
                  case measure => simp [intOf]; omega
                have hpe' : pt.toList.isEmpty = false := by simpa using hpe
                have HPN : Hid (pt.data.toList ≠ []) := by
                  unfold Hid
                  rw [ByteArray.toList_eq] at hpe
                  simpa using hpe
                clear hpe
                by_cases hbl : (0 : Int) < bl.length
                · have HJJ : Hid (join bl pt.data.toList = bl ++ 32 :: pt.data.toList) := by
                    unfold Hid join
                    rw [if_neg HPN.out, if_neg (fun e => by rw [e] at hbl; simp at hbl)]
                  go_wp2_with (at_builtin; refine wpList_append_own _ rfl _ _ 32 rfl w1.heap.size 5 i0 (.int .u8 0) 1 1 Tryd.underlying32 hi hz0 hz1 hz2 rfl (by decide) _ _ _ rfl (hown.alloc _) ⟨w4.heap.size, 0, none⟩ 1 1 [.int .u8 32] rfl rfl ?c1 ?c2 ?c3 ?c4 ?c5 ?_)
                  case c1 =>
                    intro j u hj
                    match j, hj with
                    | 0, hj => simp at hj; subst hj; simp [Addr.add]
                  case c2 => intro u hu; simp at hu; subst hu; rfl
                  case c3 => unfold maxLen; omega
                  case c4 => omega
                  case c5 => have := hbw.size; simp; omega
                  intro v5 w5 hown5 hgrow5 hnil5
                  have hbw5 : Below w1.heap.size w1 w5 := (hbw.alloc hbw.size _).grown hgrow5 (by have := hbw.size; simp; omega) (fun k hk => (hown.lt k hk).1)
                  have hz5 : w1.heap.size ≤ w5.heap.size := hbw5.size
                  have hown5' : w5.ownsRow w1.heap.size 5 1 v5 (bl ++ [32]).length (Lib.byteCells (bl ++ [32])) := by
                    rw [Lib.byteCells_append, List.length_append]
                    exact hown5
                  clear hown5 hgrow5 hnil5
                  go_wp2_with (at_builtin; refine Lib.wpList_append_own_string _ rfl _ _ 32 9 rfl w1.heap.size 5 i0 Tryd.underlying32 Tryd.underlying9 hi hz0 hz1 hz2 _ _ _ rfl hown5' pt rfl ?c3 ?c4 ?c5 ?_)
                  case c3 => unfold maxLen; rw [List.length_append]; simp; omega
                  case c4 => rw [List.length_append]; simp; omega
                  case c5 => exact hz5
                  intro v6 w6 hown6 hgrow6 hnil6
                  have hbw6 : Below w1.heap.size w1 w6 := hbw5.grown hgrow6 hz5 (fun k hk => (hown5'.lt k hk).1)
                  have hown6' : w6.ownsRow w1.heap.size 5 1 v6 (bl ++ 32 :: pt.data.toList).length (Lib.byteCells (bl ++ 32 :: pt.data.toList)) := by
                    have e1 : bl ++ 32 :: pt.data.toList = (bl ++ [32]) ++ pt.data.toList := by simp
                    rw [e1, Lib.byteCells_append (bl ++ [32]), ← Lib.strCells_eq, List.length_append (bs := pt.data.toList), ← ba_size, show (bl ++ [32] : List UInt8).length = bl.length + 1 from by simp]
                    exact hown6
                  obtain ⟨g6, cap6, rfl⟩ : ∃ g cap, v6 = Value.slice (some ⟨g, 0, none⟩) (bl ++ 32 :: pt.data.toList).length cap := by
                    rcases hown6'.2 with ⟨_, h0⟩ | ⟨g, cap, cur, hv6, _⟩
                    · simp at h0
                    · exact ⟨g, cap, hv6⟩
                  clear hown6 hgrow6 hnil6 hown5' hbw5 hz5
                  go_wp2
                  go_roundw
                  case rel => exact ⟨k + 1, bl ++ 32 :: pt.data.toList, g6, cap6, by first | rfl | simp, by go_num, by omega, hown6', hbw6, by have := HSTEP.out; rw [HJJ.out] at this; exact this, by rw [List.length_append, List.length_cons, ← ba_size]; omega⟩
                  case measure => simp [intOf]; omega
                · have HBN : Hid (bl = []) := List.length_eq_zero_iff.1 (by omega)
                  have HJJ : Hid (join bl pt.data.toList = pt.data.toList) := by
                    unfold Hid join
                    rw [if_neg HPN.out, if_pos HBN.out]
                  go_wp2_with (at_builtin; refine Lib.wpList_append_own_string _ rfl _ _ 32 9 rfl w1.heap.size 5 i0 Tryd.underlying32 Tryd.underlying9 hi hz0 hz1 hz2 _ _ _ rfl hown pt rfl ?c3 ?c4 ?c5 ?_)
                  case c3 => unfold maxLen; omega
                  case c4 => omega
                  case c5 => exact hbw.size
                  intro v6 w6 hown6 hgrow6 hnil6
                  have hbw6 : Below w1.heap.size w1 w6 := hbw.grown hgrow6 hbw.size (fun k hk => (hown.lt k hk).1)
                  have hown6' : w6.ownsRow w1.heap.size 5 1 v6 pt.data.toList.length (Lib.byteCells pt.data.toList) := by
                    rw [HBN.out] at hown6
                    rw [← ba_size, ← Lib.strCells_eq]
                    simpa [Lib.byteCells] using hown6
                  obtain ⟨g6, cap6, rfl⟩ : ∃ g cap, v6 = Value.slice (some ⟨g, 0, none⟩) pt.size cap := by
                    rcases hown6'.2 with ⟨_, h0⟩ | ⟨g, cap, cur, hv6, _⟩
                    · exact absurd (List.length_eq_zero_iff.1 h0) HPN.out
                    · exact ⟨g, cap, by rw [ba_size]; exact hv6⟩
                  clear hown6 hgrow6 hnil6
                  go_wp2
                  go_roundw
                  case rel => exact ⟨k + 1, pt.data.toList, g6, cap6, by rw [← ba_size], by go_num, by omega, by rw [← ba_size] at hown6' ⊢; exact hown6', hbw6, by have := HSTEP.out; rw [HJJ.out] at this; exact this, by rw [← ba_size]; omega⟩
                  case measure => simp [intOf]; omega
              · have h13' : ((blk[k'].toNat : Int) == 13) = false := by simpa using h13
                have HCR : Hid (noCR ((blk.data.toList.take k).drop st) = (blk.data.toList.take k).drop st) := by
                  have e : k - 1 = k' := by have := hkk.out; omega
                  refine piece_noCR_no blk st k hkl (fun _ => ?_)
                  simp only [e]
                  exact byte_ne (by simpa using h13)
                clear h13
                go_wp2_with fail
                refine (trimWS_any _ _ (by simp; omega)).mono ?_
                rintro e w4 ⟨⟨pt, rfl, HPT⟩, rfl⟩
                have HPT2 : Hid (pt.data.toList = trim (noCR (lineOf (blk.data.toList.drop st)))) := by
                  unfold Hid
                  rw [HPT.out, ext_list, HL.out, HCR.out]
                have hpts : pt.size + 1 ≤ k + 1 - st := by
                  have h1 := trim_len (noCR (lineOf (blk.data.toList.drop st)))
                  have h2 := noCR_len (lineOf (blk.data.toList.drop st))
                  rw [← HPT2.out, ← ba_size] at h1
                  rw [HL.out, List.length_drop, List.length_take] at h2
                  rw [HL.out] at h1
                  omega
                have HSTEP : Hid (joinS (join bl pt.data.toList) (blk.data.toList.drop (k + 1)) = joinS v.data.toList blk.data.toList) := by
                  unfold Hid
                  rw [← HJ.out, HPT2.out, ← HR.out]
                  exact (joinS_step bl _ HNE.out).symm
                clear HPT HPT2
                by_cases hpe : pt.toList.isEmpty = true
                · have HJJ : Hid (join bl pt.data.toList = bl) := by
                    unfold Hid join
                    rw [ByteArray.toList_eq] at hpe
                    rw [if_pos (List.isEmpty_iff.1 hpe)]
                  go_wp2
                  go_roundw
                  case rel => exact ⟨k + 1, bl, g0, cap0, rfl, by go_num, by omega, hown, hbw, by have := HSTEP.out; rw [HJJ.out] at this; exact this, by omega⟩
                  case measure => simp [intOf]; omega
                have hpe' : pt.toList.isEmpty = false := by simpa using hpe
                have HPN : Hid (pt.data.toList ≠ []) := by
                  unfold Hid
                  rw [ByteArray.toList_eq] at hpe
                  simpa using hpe
                clear hpe
                by_cases hbl : (0 : Int) < bl.length
                · have HJJ : Hid (join bl pt.data.toList = bl ++ 32 :: pt.data.toList) := by
                    unfold Hid join
                    rw [if_neg HPN.out, if_neg (fun e => by rw [e] at hbl; simp at hbl)]
                  go_wp2_with (at_builtin; refine wpList_append_own _ rfl _ _ 32 rfl w1.heap.size 5 i0 (.int .u8 0) 1 1 Tryd.underlying32 hi hz0 hz1 hz2 rfl (by decide) _ _ _ rfl (hown.alloc _) ⟨w4.heap.size, 0, none⟩ 1 1 [.int .u8 32] rfl rfl ?c1 ?c2 ?c3 ?c4 ?c5 ?_)
                  case c1 =>
                    intro j u hj
                    match j, hj with
                    | 0, hj => simp at hj; subst hj; simp [Addr.add]
                  case c2 => intro u hu; simp at hu; subst hu; rfl
                  case c3 => unfold maxLen; omega
                  case c4 => omega
                  case c5 => have := hbw.size; simp; omega
                  intro v5 w5 hown5 hgrow5 hnil5
                  have hbw5 : Below w1.heap.size w1 w5 := (hbw.alloc hbw.size _).grown hgrow5 (by have := hbw.size; simp; omega) (fun k hk => (hown.lt k hk).1)
                  have hz5 : w1.heap.size ≤ w5.heap.size := hbw5.size
                  have hown5' : w5.ownsRow w1.heap.size 5 1 v5 (bl ++ [32]).length (Lib.byteCells (bl ++ [32])) := by
                    rw [Lib.byteCells_append, List.length_append]
                    exact hown5
                  clear hown5 hgrow5 hnil5
                  go_wp2_with (at_builtin; refine Lib.wpList_append_own_string _ rfl _ _ 32 9 rfl w1.heap.size 5 i0 Tryd.underlying32 Tryd.underlying9 hi hz0 hz1 hz2 _ _ _ rfl hown5' pt rfl ?c3 ?c4 ?c5 ?_)
                  case c3 => unfold maxLen; rw [List.length_append]; simp; omega
                  case c4 => rw [List.length_append]; simp; omega
                  case c5 => exact hz5
                  intro v6 w6 hown6 hgrow6 hnil6
                  have hbw6 : Below w1.heap.size w1 w6 := hbw5.grown hgrow6 hz5 (fun k hk => (hown5'.lt k hk).1)
                  have hown6' : w6.ownsRow w1.heap.size 5 1 v6 (bl ++ 32 :: pt.data.toList).length (Lib.byteCells (bl ++ 32 :: pt.data.toList)) := by
                    have e1 : bl ++ 32 :: pt.data.toList = (bl ++ [32]) ++ pt.data.toList := by simp
                    rw [e1, Lib.byteCells_append (bl ++ [32]), ← Lib.strCells_eq, List.length_append (bs := pt.data.toList), ← ba_size, show (bl ++ [32] : List UInt8).length = bl.length + 1 from by simp]
                    exact hown6
                  obtain ⟨g6, cap6, rfl⟩ : ∃ g cap, v6 = Value.slice (some ⟨g, 0, none⟩) (bl ++ 32 :: pt.data.toList).length cap := by
                    rcases hown6'.2 with ⟨_, h0⟩ | ⟨g, cap, cur, hv6, _⟩
                    · simp at h0
                    · exact ⟨g, cap, hv6⟩
                  clear hown6 hgrow6 hnil6 hown5' hbw5 hz5
                  go_wp2
                  go_roundw
                  case rel => exact ⟨k + 1, bl ++ 32 :: pt.data.toList, g6, cap6, by first | rfl | simp, by go_num, by omega, hown6', hbw6, by have := HSTEP.out; rw [HJJ.out] at this; exact this, by rw [List.length_append, List.length_cons, ← ba_size]; omega⟩
                  case measure => simp [intOf]; omega
                · have HBN : Hid (bl = []) := List.length_eq_zero_iff.1 (by omega)
                  have HJJ : Hid (join bl pt.data.toList = pt.data.toList) := by
                    unfold Hid join
                    rw [if_neg HPN.out, if_pos HBN.out]
                  go_wp2_with (at_builtin; refine Lib.wpList_append_own_string _ rfl _ _ 32 9 rfl w1.heap.size 5 i0 Tryd.underlying32 Tryd.underlying9 hi hz0 hz1 hz2 _ _ _ rfl hown pt rfl ?c3 ?c4 ?c5 ?_)
                  case c3 => unfold maxLen; omega
                  case c4 => omega
                  case c5 => exact hbw.size
                  intro v6 w6 hown6 hgrow6 hnil6
                  have hbw6 : Below w1.heap.size w1 w6 := hbw.grown hgrow6 hbw.size (fun k hk => (hown.lt k hk).1)
                  have hown6' : w6.ownsRow w1.heap.size 5 1 v6 pt.data.toList.length (Lib.byteCells pt.data.toList) := by
                    rw [HBN.out] at hown6
                    rw [← ba_size, ← Lib.strCells_eq]
                    simpa [Lib.byteCells] using hown6
                  obtain ⟨g6, cap6, rfl⟩ : ∃ g cap, v6 = Value.slice (some ⟨g, 0, none⟩) pt.size cap := by
                    rcases hown6'.2 with ⟨_, h0⟩ | ⟨g, cap, cur, hv6, _⟩
                    · exact absurd (List.length_eq_zero_iff.1 h0) HPN.out
                    · exact ⟨g, cap, by rw [ba_size]; exact hv6⟩
                  clear hown6 hgrow6 hnil6
                  go_wp2
                  go_roundw
                  case rel => exact ⟨k + 1, pt.data.toList, g6, cap6, by rw [← ba_size], by go_num, by omega, by rw [← ba_size] at hown6' ⊢; exact hown6', hbw6, by have := HSTEP.out; rw [HJJ.out] at this; exact this, by rw [← ba_size]; omega⟩
                  case measure => simp [intOf]; omega
            · have HCR : Hid (noCR ((blk.data.toList.take k).drop st) = (blk.data.toList.take k).drop st) := piece_noCR_no blk st k hkl (fun h => absurd h hgt)
              go_wp2_with fail
              refine (trimWS_any _ _ (by simp; omega)).mono ?_
              rintro e w4 ⟨⟨pt, rfl, HPT⟩, rfl⟩
              have HPT2 : Hid (pt.data.toList = trim (noCR (lineOf (blk.data.toList.drop st)))) := by
                unfold Hid
                rw [HPT.out, ext_list, HL.out, HCR.out]
              have hpts : pt.size + 1 ≤ k + 1 - st := by
                have h1 := trim_len (noCR (lineOf (blk.data.toList.drop st)))
                have h2 := noCR_len (lineOf (blk.data.toList.drop st))
                rw [← HPT2.out, ← ba_size] at h1
                rw [HL.out, List.length_drop, List.length_take] at h2
                rw [HL.out] at h1
                omega
              have HSTEP : Hid (joinS (join bl pt.data.toList) (blk.data.toList.drop (k + 1)) = joinS v.data.toList blk.data.toList) := by
                unfold Hid
                rw [← HJ.out, HPT2.out, ← HR.out]
                exact (joinS_step bl _ HNE.out).symm
              clear HPT HPT2
              by_cases hpe : pt.toList.isEmpty = true
              · have HJJ : Hid (join bl pt.data.toList = bl) := by
                  unfold Hid join
                  rw [ByteArray.toList_eq] at hpe
                  rw [if_pos (List.isEmpty_iff.1 hpe)]
                go_wp2
                go_roundw
                case rel => exact ⟨k + 1, bl, g0, cap0, rfl, by go_num, by omega, hown, hbw, by have := HSTEP.out; rw [HJJ.out] at this; exact this, by omega⟩
                case measure => simp [intOf]; omega
              have hpe' : pt.toList.isEmpty = false := by simpa using hpe
              have HPN : Hid (pt.data.toList ≠ []) := by
                unfold Hid
                rw [ByteArray.toList_eq] at hpe
                simpa using hpe
              clear hpe
              by_cases hbl : (0 : Int) < bl.length
              · have HJJ : Hid (join bl pt.data.toList = bl ++ 32 :: pt.data.toList) := by
                  unfold Hid join
                  rw [if_neg HPN.out, if_neg (fun e => by rw [e] at hbl; simp at hbl)]
                go_wp2_with (at_builtin; refine wpList_append_own _ rfl _ _ 32 rfl w1.heap.size 5 i0 (.int .u8 0) 1 1 Tryd.underlying32 hi hz0 hz1 hz2 rfl (by decide) _ _ _ rfl (hown.alloc _) ⟨w4.heap.size, 0, none⟩ 1 1 [.int .u8 32] rfl rfl ?c1 ?c2 ?c3 ?c4 ?c5 ?_)
                case c1 =>
                  intro j u hj
                  match j, hj with
                  | 0, hj => simp at hj; subst hj; simp [Addr.add]
                case c2 => intro u hu; simp at hu; subst hu; rfl
                case c3 => unfold maxLen; omega
                case c4 => omega
                case c5 => have := hbw.size; simp; omega
                intro v5 w5 hown5 hgrow5 hnil5
                have hbw5 : Below w1.heap.size w1 w5 := (hbw.alloc hbw.size _).grown hgrow5 (by have := hbw.size; simp; omega) (fun k hk => (hown.lt k hk).1)
                have hz5 : w1.heap.size ≤ w5.heap.size := hbw5.size
                have hown5' : w5.ownsRow w1.heap.size 5 1 v5 (bl ++ [32]).length (Lib.byteCells (bl ++ [32])) := by
                  rw [Lib.byteCells_append, List.length_append]
                  exact hown5
                clear hown5 hgrow5 hnil5
                go_wp2_with (at_builtin; refine Lib.wpList_append_own_string _ rfl _ _ 32 9 rfl w1.heap.size 5 i0 Tryd.underlying32 Tryd.underlying9 hi hz0 hz1 hz2 _ _ _ rfl hown5' pt rfl ?c3 ?c4 ?c5 ?_)
                case c3 => unfold maxLen; rw [List.length_append]; simp; omega
                case c4 => rw [List.length_append]; simp; omega
                case c5 => exact hz5
                intro v6 w6 hown6 hgrow6 hnil6
                have hbw6 : Below w1.heap.size w1 w6 := hbw5.grown hgrow6 hz5 (fun k hk => (hown5'.lt k hk).1)
                have hown6' : w6.ownsRow w1.heap.size 5 1 v6 (bl ++ 32 :: pt.data.toList).length (Lib.byteCells (bl ++ 32 :: pt.data.toList)) := by
                  have e1 : bl ++ 32 :: pt.data.toList = (bl ++ [32]) ++ pt.data.toList := by simp
                  rw [e1, Lib.byteCells_append (bl ++ [32]), ← Lib.strCells_eq, List.length_append (bs := pt.data.toList), ← ba_size, show (bl ++ [32] : List UInt8).length = bl.length + 1 from by simp]
                  exact hown6
                obtain ⟨g6, cap6, rfl⟩ : ∃ g cap, v6 = Value.slice (some ⟨g, 0, none⟩) (bl ++ 32 :: pt.data.toList).length cap := by
                  rcases hown6'.2 with ⟨_, h0⟩ | ⟨g, cap, cur, hv6, _⟩
                  · simp at h0
                  · exact ⟨g, cap, hv6⟩
                clear hown6 hgrow6 hnil6 hown5' hbw5 hz5
                go_wp2
                go_roundw
                case rel => exact ⟨k + 1, bl ++ 32 :: pt.data.toList, g6, cap6, by first | rfl | simp, by go_num, by omega, hown6', hbw6, by have := HSTEP.out; rw [HJJ.out] at this; exact this, by rw [List.length_append, List.length_cons, ← ba_size]; omega⟩
                case measure => simp [intOf]; omega
              · have HBN : Hid (bl = []) := List.length_eq_zero_iff.1 (by omega)
                have HJJ : Hid (join bl pt.data.toList = pt.data.toList) := by
                  unfold Hid join
                  rw [if_neg HPN.out, if_pos HBN.out]
                go_wp2_with (at_builtin; refine Lib.wpList_append_own_string _ rfl _ _ 32 9 rfl w1.heap.size 5 i0 Tryd.underlying32 Tryd.underlying9 hi hz0 hz1 hz2 _ _ _ rfl hown pt rfl ?c3 ?c4 ?c5 ?_)
                case c3 => unfold maxLen; omega
                case c4 => omega
                case c5 => exact hbw.size
                intro v6 w6 hown6 hgrow6 hnil6
                have hbw6 : Below w1.heap.size w1 w6 := hbw.grown hgrow6 hbw.size (fun k hk => (hown.lt k hk).1)
                have hown6' : w6.ownsRow w1.heap.size 5 1 v6 pt.data.toList.length (Lib.byteCells pt.data.toList) := by
                  rw [HBN.out] at hown6
                  rw [← ba_size, ← Lib.strCells_eq]
                  simpa [Lib.byteCells] using hown6
                obtain ⟨g6, cap6, rfl⟩ : ∃ g cap, v6 = Value.slice (some ⟨g, 0, none⟩) pt.size cap := by
                  rcases hown6'.2 with ⟨_, h0⟩ | ⟨g, cap, cur, hv6, _⟩
                  · exact absurd (List.length_eq_zero_iff.1 h0) HPN.out
                  · exact ⟨g, cap, by rw [ba_size]; exact hv6⟩
                clear hown6 hgrow6 hnil6
                go_wp2
                go_roundw
                case rel => exact ⟨k + 1, pt.data.toList, g6, cap6, by rw [← ba_size], by go_num, by omega, by rw [← ba_size] at hown6' ⊢; exact hown6', hbw6, by have := HSTEP.out; rw [HJJ.out] at this; exact this, by rw [← ba_size]; omega⟩
                case measure => simp [intOf]; omega
        · have HP := piece_end blk st hlt (by have e : k = blk.size := by omega
                                              rw [← e]; exact HA.out)
          have HL : Hid (lineOf (blk.data.toList.drop st) = (blk.data.toList.take k).drop st) := by
            unfold Hid
            rw [show k = blk.size by omega]; exact HP.1
          have HR : Hid (restOf (blk.data.toList.drop st) = blk.data.toList.drop (k + 1)) := by
            unfold Hid
            rw [show k = blk.size by omega]; exact HP.2
          clear HP HA
          by_cases hgt : st < k
          · obtain ⟨k', HK⟩ : ∃ k', k = k' + 1 := ⟨k - 1, by omega⟩
            have hkk : Hid (k = k' + 1) := HK
            have hk1 : (k : Int) - 1 = k' := by omega
            have hkb : k' < blk.size := by omega
            have hkle : st ≤ k' := by omega
            clear HK
            by_cases h13 : ((blk[k'].toNat : Int) == 13) = true
            · have HCR : Hid (noCR ((blk.data.toList.take k).drop st) = (blk.data.toList.take k').drop st) := by
                have e : k - 1 = k' := by have := hkk.out; omega
                have := piece_noCR_yes blk st k hkl hgt (by simp only [e]; exact byte_eq (by simpa using h13))
                unfold Hid
                rw [this, e]
              go_wp2_with fail
              refine (trimWS_any _ _ (by simp; omega)).mono ?_
              rintro e w4 ⟨⟨pt, rfl, HPT⟩, rfl⟩
              have HPT2 : Hid (pt.data.toList = trim (noCR (lineOf (blk.data.toList.drop st)))) := by
                unfold Hid
                rw [HPT.out, ext_list, HL.out, HCR.out]
              have hpts : pt.size + 1 ≤ k + 1 - st := by
                have h1 := trim_len (noCR (lineOf (blk.data.toList.drop st)))
                have h2 := noCR_len (lineOf (blk.data.toList.drop st))
                rw [← HPT2.out, ← ba_size] at h1
                rw [HL.out, List.length_drop, List.length_take] at h2
                rw [HL.out] at h1
                omega
              have HSTEP : Hid (joinS (join bl pt.data.toList) (blk.data.toList.drop (k + 1)) = joinS v.data.toList blk.data.toList) := by
                unfold Hid
                rw [← HJ.out, HPT2.out, ← HR.out]
                exact (joinS_step bl _ HNE.out).symm
              clear HPT HPT2
              by_cases hpe : pt.toList.isEmpty = true
              · have HJJ : Hid (join bl pt.data.toList = bl) := by
                  unfold Hid join
                  rw [ByteArray.toList_eq] at hpe
                  rw [if_pos (List.isEmpty_iff.1 hpe)]
                go_wp2
                go_roundw
                case rel => exact ⟨k + 1, bl, g0, cap0, rfl, by go_num, by omega, hown, hbw, by have := HSTEP.out; rw [HJJ.out] at this; exact this, by omega⟩
                case measure => simp [intOf]; omega
              have hpe' : pt.toList.isEmpty = false := by simpa using hpe
              have HPN : Hid (pt.data.toList ≠ []) := by
                unfold Hid
                rw [ByteArray.toList_eq] at hpe
                simpa using hpe
              clear hpe
              by_cases hbl : (0 : Int) < bl.length
              · have HJJ : Hid (join bl pt.data.toList = bl ++ 32 :: pt.data.toList) := by
                  unfold Hid join
                  rw [if_neg HPN.out, if_neg (fun e => by rw [e] at hbl; simp at hbl)]
                go_wp2_with (at_builtin; refine wpList_append_own _ rfl _ _ 32 rfl w1.heap.size 5 i0 (.int .u8 0) 1 1 Tryd.underlying32 hi hz0 hz1 hz2 rfl (by decide) _ _ _ rfl (hown.alloc _) ⟨w4.heap.size, 0, none⟩ 1 1 [.int .u8 32] rfl rfl ?c1 ?c2 ?c3 ?c4 ?c5 ?_)
                case c1 =>
                  intro j u hj
                  match j, hj with
                  | 0, hj => simp at hj; subst hj; simp [Addr.add]
                case c2 => intro u hu; simp at hu; subst hu; rfl
                case c3 => unfold maxLen; omega
                case c4 => omega
                case c5 => have := hbw.size; simp; omega
                intro v5 w5 hown5 hgrow5 hnil5
                have hbw5 : Below w1.heap.size w1 w5 := (hbw.alloc hbw.size _).grown hgrow5 (by have := hbw.size; simp; omega) (fun k hk => (hown.lt k hk).1)
                have hz5 : w1.heap.size ≤ w5.heap.size := hbw5.size
                have hown5' : w5.ownsRow w1.heap.size 5 1 v5 (bl ++ [32]).length (Lib.byteCells (bl ++ [32])) := by
                  rw [Lib.byteCells_append, List.length_append]
                  exact hown5
                clear hown5 hgrow5 hnil5
                go_wp2_with (at_builtin; refine Lib.wpList_append_own_string _ rfl _ _ 32 9 rfl w1.heap.size 5 i0 Tryd.underlying32 Tryd.underlying9 hi hz0 hz1 hz2 _ _ _ rfl hown5' pt rfl ?c3 ?c4 ?c5 ?_)
                case c3 => unfold maxLen; rw [List.length_append]; simp; omega
                case c4 => rw [List.length_append]; simp; omega
                case c5 => exact hz5
                intro v6 w6 hown6 hgrow6 hnil6
                have hbw6 : Below w1.heap.size w1 w6 := hbw5.grown hgrow6 hz5 (fun k hk => (hown5'.lt k hk).1)
                have hown6' : w6.ownsRow w1.heap.size 5 1 v6 (bl ++ 32 :: pt.data.toList).length (Lib.byteCells (bl ++ 32 :: pt.data.toList)) := by
                  have e1 : bl ++ 32 :: pt.data.toList = (bl ++ [32]) ++ pt.data.toList := by simp
                  rw [e1, Lib.byteCells_append (bl ++ [32]), ← Lib.strCells_eq, List.length_append (bs := pt.data.toList), ← ba_size, show (bl ++ [32] : List UInt8).length = bl.length + 1 from by simp]
                  exact hown6
                obtain ⟨g6, cap6, rfl⟩ : ∃ g cap, v6 = Value.slice (some ⟨g, 0, none⟩) (bl ++ 32 :: pt.data.toList).length cap := by
                  rcases hown6'.2 with ⟨_, h0⟩ | ⟨g, cap, cur, hv6, _⟩
                  · simp at h0
                  · exact ⟨g, cap, hv6⟩
                clear hown6 hgrow6 hnil6 hown5' hbw5 hz5
                go_wp2
                go_roundw
                case rel => exact ⟨k + 1, bl ++ 32 :: pt.data.toList, g6, cap6, by first | rfl | simp, by go_num, by omega, hown6', hbw6, by have := HSTEP.out; rw [HJJ.out] at this; exact this, by rw [List.length_append, List.length_cons, ← ba_size]; omega⟩
                case measure => simp [intOf]; omega
              · have HBN : Hid (bl = []) := List.length_eq_zero_iff.1 (by omega)
                have HJJ : Hid (join bl pt.data.toList = pt.data.toList) := by
                  unfold Hid join
                  rw [if_neg HPN.out, if_pos HBN.out]
                go_wp2_with (at_builtin; refine Lib.wpList_append_own_string _ rfl _ _ 32 9 rfl w1.heap.size 5 i0 Tryd.underlying32 Tryd.underlying9 hi hz0 hz1 hz2 _ _ _ rfl hown pt rfl ?c3 ?c4 ?c5 ?_)
                case c3 => unfold maxLen; omega
                case c4 => omega
                case c5 => exact hbw.size
                intro v6 w6 hown6 hgrow6 hnil6
                have hbw6 : Below w1.heap.size w1 w6 := hbw.grown hgrow6 hbw.size (fun k hk => (hown.lt k hk).1)
                have hown6' : w6.ownsRow w1.heap.size 5 1 v6 pt.data.toList.length (Lib.byteCells pt.data.toList) := by
                  rw [HBN.out] at hown6
                  rw [← ba_size, ← Lib.strCells_eq]
                  simpa [Lib.byteCells] using hown6
                obtain ⟨g6, cap6, rfl⟩ : ∃ g cap, v6 = Value.slice (some ⟨g, 0, none⟩) pt.size cap := by
                  rcases hown6'.2 with ⟨_, h0⟩ | ⟨g, cap, cur, hv6, _⟩
                  · exact absurd (List.length_eq_zero_iff.1 h0) HPN.out
                  · exact ⟨g, cap, by rw [ba_size]; exact hv6⟩
                clear hown6 hgrow6 hnil6
                go_wp2
                go_roundw
                case rel => exact ⟨k + 1, pt.data.toList, g6, cap6, by rw [← ba_size], by go_num, by omega, by rw [← ba_size] at hown6' ⊢; exact hown6', hbw6, by have := HSTEP.out; rw [HJJ.out] at this; exact this, by rw [← ba_size]; omega⟩
                case measure => simp [intOf]; omega
            · have h13' : ((blk[k'].toNat : Int) == 13) = false := by simpa using h13
              have HCR : Hid (noCR ((blk.data.toList.take k).drop st) = (blk.data.toList.take k).drop st) := by
                have e : k - 1 = k' := by have := hkk.out; omega
                refine piece_noCR_no blk st k hkl (fun _ => ?_)
                simp only [e]
                exact byte_ne (by simpa using h13)
              clear h13
              go_wp2_with fail
              refine (trimWS_any _ _ (by simp; omega)).mono ?_
              rintro e w4 ⟨⟨pt, rfl, HPT⟩, rfl⟩
              have HPT2 : Hid (pt.data.toList = trim (noCR (lineOf (blk.data.toList.drop st)))) := by
                unfold Hid
                rw [HPT.out, ext_list, HL.out, HCR.out]
              have hpts : pt.size + 1 ≤ k + 1 - st := by
                have h1 := trim_len (noCR (lineOf (blk.data.toList.drop st)))
                have h2 := noCR_len (lineOf (blk.data.toList.drop st))
                rw [← HPT2.out, ← ba_size] at h1
                rw [HL.out, List.length_drop, List.length_take] at h2
                rw [HL.out] at h1
                omega
              have HSTEP : Hid (joinS (join bl pt.data.toList) (blk.data.toList.drop (k + 1)) = joinS v.data.toList blk.data.toList) := by
                unfold Hid
                rw [← HJ.out, HPT2.out, ← HR.out]
                exact (joinS_step bl _ HNE.out).symm
              clear HPT HPT2
              by_cases hpe : pt.toList.isEmpty = true
              · have HJJ : Hid (join bl pt.data.toList = bl) := by
                  unfold Hid join
                  rw [ByteArray.toList_eq] at hpe
                  rw [if_pos (List.isEmpty_iff.1 hpe)]
                go_wp2
                go_roundw
                case rel => exact ⟨k + 1, bl, g0, cap0, rfl, by go_num, by omega, hown, hbw, by have := HSTEP.out; rw [HJJ.out] at this; exact this, by omega⟩
                case measure => simp [intOf]; omega
              have hpe' : pt.toList.isEmpty = false := by simpa using hpe
              have HPN : Hid (pt.data.toList ≠ []) := by
                unfold Hid
                rw [ByteArray.toList_eq] at hpe
                simpa using hpe
              clear hpe
              by_cases hbl : (0 : Int) < bl.length
              · have HJJ : Hid (join bl pt.data.toList = bl ++ 32 :: pt.data.toList) := by
                  unfold Hid join
                  rw [if_neg HPN.out, if_neg (fun e => by rw [e] at hbl; simp at hbl)]
                go_wp2_with (at_builtin; refine wpList_append_own _ rfl _ _ 32 rfl w1.heap.size 5 i0 (.int .u8 0) 1 1 Tryd.underlying32 hi hz0 hz1 hz2 rfl (by decide) _ _ _ rfl (hown.alloc _) ⟨w4.heap.size, 0, none⟩ 1 1 [.int .u8 32] rfl rfl ?c1 ?c2 ?c3 ?c4 ?c5 ?_)
                case c1 =>
                  intro j u hj
                  match j, hj with
                  | 0, hj => simp at hj; subst hj; simp [Addr.add]
                case c2 => intro u hu; simp at hu; subst hu; rfl
                case c3 => unfold maxLen; omega
                case c4 => omega
                case c5 => have := hbw.size; simp; omega
                intro v5 w5 hown5 hgrow5 hnil5
                have hbw5 : Below w1.heap.size w1 w5 := (hbw.alloc hbw.size _).grown hgrow5 (by have := hbw.size; simp; omega) (fun k hk => (hown.lt k hk).1)
                have hz5 : w1.heap.size ≤ w5.heap.size := hbw5.size
                have hown5' : w5.ownsRow w1.heap.size 5 1 v5 (bl ++ [32]).length (Lib.byteCells (bl ++ [32])) := by
                  rw [Lib.byteCells_append, List.length_append]
                  exact hown5
                clear hown5 hgrow5 hnil5
                go_wp2_with (at_builtin; refine Lib.wpList_append_own_string _ rfl _ _ 32 9 rfl w1.heap.size 5 i0 Tryd.underlying32 Tryd.underlying9 hi hz0 hz1 hz2 _ _ _ rfl hown5' pt rfl ?c3 ?c4 ?c5 ?_)
                case c3 => unfold maxLen; rw [List.length_append]; simp; omega
                case c4 => rw [List.length_append]; simp; omega
                case c5 => exact hz5
                intro v6 w6 hown6 hgrow6 hnil6
                have hbw6 : Below w1.heap.size w1 w6 := hbw5.grown hgrow6 hz5 (fun k hk => (hown5'.lt k hk).1)
                have hown6' : w6.ownsRow w1.heap.size 5 1 v6 (bl ++ 32 :: pt.data.toList).length (Lib.byteCells (bl ++ 32 :: pt.data.toList)) := by
                  have e1 : bl ++ 32 :: pt.data.toList = (bl ++ [32]) ++ pt.data.toList := by simp
                  rw [e1, Lib.byteCells_append (bl ++ [32]), ← Lib.strCells_eq, List.length_append (bs := pt.data.toList), ← ba_size, show (bl ++ [32] : List UInt8).length = bl.length + 1 from by simp]
                  exact hown6
                obtain ⟨g6, cap6, rfl⟩ : ∃ g cap, v6 = Value.slice (some ⟨g, 0, none⟩) (bl ++ 32 :: pt.data.toList).length cap := by
                  rcases hown6'.2 with ⟨_, h0⟩ | ⟨g, cap, cur, hv6, _⟩
                  · simp at h0
                  · exact ⟨g, cap, hv6⟩
                clear hown6 hgrow6 hnil6 hown5' hbw5 hz5
                go_wp2
                go_roundw
                case rel => exact ⟨k + 1, bl ++ 32 :: pt.data.toList, g6, cap6, by first | rfl | simp, by go_num, by omega, hown6', hbw6, by have := HSTEP.out; rw [HJJ.out] at this; exact this, by rw [List.length_append, List.length_cons, ← ba_size]; omega⟩
                case measure => simp [intOf]; omega
              · have HBN : Hid (bl = []) := List.length_eq_zero_iff.1 (by omega)
                have HJJ : Hid (join bl pt.data.toList = pt.data.toList) := by
                  unfold Hid join
                  rw [if_neg HPN.out, if_pos HBN.out]
                go_wp2_with (at_builtin; refine Lib.wpList_append_own_string _ rfl _ _ 32 9 rfl w1.heap.size 5 i0 Tryd.underlying32 Tryd.underlying9 hi hz0 hz1 hz2 _ _ _ rfl hown pt rfl ?c3 ?c4 ?c5 ?_)
                case c3 => unfold maxLen; omega
                case c4 => omega
                case c5 => exact hbw.size
                intro v6 w6 hown6 hgrow6 hnil6
                have hbw6 : Below w1.heap.size w1 w6 := hbw.grown hgrow6 hbw.size (fun k hk => (hown.lt k hk).1)
                have hown6' : w6.ownsRow w1.heap.size 5 1 v6 pt.data.toList.length (Lib.byteCells pt.data.toList) := by
                  rw [HBN.out] at hown6
                  rw [← ba_size, ← Lib.strCells_eq]
                  simpa [Lib.byteCells] using hown6
                obtain ⟨g6, cap6, rfl⟩ : ∃ g cap, v6 = Value.slice (some ⟨g, 0, none⟩) pt.size cap := by
                  rcases hown6'.2 with ⟨_, h0⟩ | ⟨g, cap, cur, hv6, _⟩
                  · exact absurd (List.length_eq_zero_iff.1 h0) HPN.out
                  · exact ⟨g, cap, by rw [ba_size]; exact hv6⟩
                clear hown6 hgrow6 hnil6
                go_wp2
                go_roundw
                case rel => exact ⟨k + 1, pt.data.toList, g6, cap6, by rw [← ba_size], by go_num, by omega, by rw [← ba_size] at hown6' ⊢; exact hown6', hbw6, by have := HSTEP.out; rw [HJJ.out] at this; exact this, by rw [← ba_size]; omega⟩
                case measure => simp [intOf]; omega
          · exact absurd hlt (by omega)
    · have HFIN : Hid (mdl v l = some (bl, l.data.toList.drop blk.size)) := by
        unfold Hid
        rw [HM.out, ← HJ.out, drop_end blk st hlt, joinS_nil]
      have hcv : ∀ nq, (convert 32 9 (.slice (some ⟨g0, 0, none⟩) bl.length cap0)).run Tryd.prog (wr.drewN nq) = .ok (.string ⟨bl.toArray⟩) (wr.drewN nq) := fun nq =>
        run_convert_bytes_back (wr.drewN nq) 32 9 5 ⟨g0, 0, none⟩ cap0 bl Tryd.underlying32 Tryd.underlying5 Tryd.underlying9 (fun j hj => by
          have := hown.cells (g := g0) rfl j (.int .u8 (bl[j].toNat : Int)) (by simp [Lib.byteCells, hj])
          exact this)
      clear HJ HM hown
      have hb1 : (blk.size : Int) ≤ l.size := by omega
      go_wp2
      go_quiet (fail)
      go_wp2
      go_ret3
      refine ⟨Or.inr ⟨⟨bl.toArray⟩, l.extract blk.size l.size, rfl, ?_⟩, below_drewN hbw _⟩
      unfold Hid
      rw [HFIN.out, ext_list, List.take_of_length_le (by simp)]
end Go.Proofs.Qxb6600698aDoor
