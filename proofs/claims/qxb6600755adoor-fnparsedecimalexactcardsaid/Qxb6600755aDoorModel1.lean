import Derived.Test.Qxb6600755aDoorModel2
namespace Go.Proofs.Qxb6600755aDoor
open Go.RowKit
set_option linter.unusedVariables false
set_option maxRecDepth 1000000

set_option maxHeartbeats 8000000 in
theorem model_core (b : Nat) (l : List UInt8) (w : World) (hn0 : 0 < l.length) (hn : l.length ≤ 1048576) (hb : b < w.heap.size) (hc : ∀ j, j < l.length → w.cell? ⟨b, j, none⟩ = some (.int .u8 (bt l j).toNat)) :
    Calls Tryd.prog 11 #[.slice (some ⟨b, 0, none⟩) l.length l.length] w (MPost l w) := by
  have HC : Hid (∀ j, j < l.length → w.cell? ⟨b, j, none⟩ = some (.int .u8 (bt l j).toNat)) := hc
  clear hc
  generalize hnn : l.length = n at *
  have HN : Hid (l.length = n) := hnn
  clear hnn
  go_enter Tryd.func11, Tryd.ntmps11
  go_upto_block 0 with fail
  go_cut [6, 7, 8, 9, 10, 11, 12, 14] from 30 to 101 (fun s6 s7 s8 s9 s10 s11 s12 s14 wy => w = wy ∧ ∃ (st ws we fs fe : Nat) (en : Bool) (es : Int), s6 = .int .i64 st ∧ s7 = .int .i64 ws ∧ s8 = .int .i64 we ∧ s9 = .int .i64 fs ∧ s10 = .int .i64 fe ∧ s11 = .bool en ∧ s12 = .int .i64 es ∧ Hid (MS l n st ws we fs fe en es))
  case first =>
    go_wp2_with fail
    go_loop [6, 7, 8, 9, 10, 11, 12, 14] (fun s6 s7 s8 s9 s10 s11 s12 s14 => ∃ (k st ws we fs fe : Nat) (en : Bool) (es : Int), s14 = .int .i64 k ∧ s6 = .int .i64 st ∧ s7 = .int .i64 ws ∧ s8 = .int .i64 we ∧ s9 = .int .i64 fs ∧ s10 = .int .i64 fe ∧ s11 = .bool en ∧ s12 = .int .i64 es ∧ k ≤ n ∧ Hid (MS l k st ws we fs fe en es)) (fun _ _ _ _ _ _ _ s14 => n - (intOf s14).toNat)
    case atStart => exact ⟨0, 0, 0, 0, 0, 0, false, -1, rfl, rfl, rfl, rfl, rfl, rfl, rfl, rfl, Nat.zero_le _, MS.s0 0 (Nat.le_refl _)⟩
    case round =>
      obtain ⟨k, st, ws, we, fs, fe, en, es, rfl, rfl, rfl, rfl, rfl, rfl, rfl, rfl, hkn, HMS⟩ := hrel
      by_cases hlt : k < n
      · have hck := HC.out k hlt
        have hkl : Hid (k < l.length) := by unfold Hid; rw [HN.out]; exact hlt
        go_upto_region 11 with (go_at_call 22; refine (zzIsDigit_any _ _).mono ?_; rintro e w' ⟨rfl, hw⟩; obtain rfl := hw.symm)
        go_cut [17] from 42 to 47 (fun s17 wy => w = wy ∧ s17 = .bool (isEc (bt l k)))
        case first =>
          cases hE : isEc (bt l k) with
          | true =>
            have hE2 := (isEc_iff _).1 hE
            by_cases he1 : (((bt l k).toNat : Int) == 101) = true
            · clear hE2
              go_wp2
              go_meet
              exact ⟨rfl, by rw [hE]⟩
            · have he1' : (((bt l k).toNat : Int) == 101) = false := by simpa using he1
              have he2 : (((bt l k).toNat : Int) == 69) = true := by
                rcases hE2 with h | h
                · exact absurd (by simpa using h) he1
                · simpa using h
              clear he1 hE2
              go_wp2
              go_meet
              exact ⟨rfl, by rw [hE]⟩
          | false =>
            have hE2 : ¬ (((bt l k).toNat : Int) = 101 ∨ ((bt l k).toNat : Int) = 69) := fun h => by rw [(isEc_iff _).2 h] at hE; cases hE
            have he1 : (((bt l k).toNat : Int) == 101) = false := by simp; omega
            have he2 : (((bt l k).toNat : Int) == 69) = false := by simp; omega
            clear hE2
            go_wp2
            go_meet
            exact ⟨rfl, by rw [hE]⟩
        case rest =>
        obtain ⟨rfl, rfl⟩ := hcut
        clear hck
        rcases HMS.out with ⟨rfl, ⟨rfl, rfl, rfl, rfl, rfl, rfl⟩, h1⟩ | ⟨rfl, ⟨rfl, rfl, rfl, rfl, rfl, rfl⟩, h1, h2, hP⟩ | ⟨rfl, ⟨rfl, rfl, rfl, rfl, rfl⟩, h1, h2, h3, hP⟩ | ⟨rfl, ⟨rfl, rfl, rfl, rfl, rfl⟩, h1, h2, h3, hP⟩ | ⟨rfl, ⟨rfl, rfl, rfl, rfl⟩, h1, h2, h3, h4, hP⟩ | ⟨rfl, ⟨rfl, rfl, rfl, rfl⟩, h1, h2, h3, h4, hP⟩ | ⟨rfl, ⟨rfl, rfl⟩, h1, h2, h3, h4, h4', hP⟩ | ⟨rfl, rfl, h1, h2, h3, h4, h4', hP⟩ | ⟨rfl, es', rfl, h1, h2, h3, h4, h4', h5, h6, hP⟩
        · have hk0 : k = 0 := by omega
          have hlen : 0 < l.length := by rw [HN.out]; omega
          by_cases h45 : (((bt l k).toNat : Int) == 45) = true
          · have e45 : bt l k = 45 := byte_eq (by simpa using h45)
            have HX : Hid (MS l (k + 1) 1 0 0 0 0 false (-1)) := t0_minus h1 hlen (by rw [← hk0]; exact e45)
            clear e45 hk0 hlen
            go_wp2
            go_round
            case rel => exact ⟨k + 1, 1, 0, 0, 0, 0, false, -1, by go_num, rfl, by first | rfl | go_num, by first | rfl | go_num, by first | rfl | go_num, by first | rfl | go_num, rfl, by first | rfl | go_num, by omega, HX⟩
            case measure => simp [intOf]; omega
          · have h45' : (((bt l k).toNat : Int) == 45) = false := by simpa using h45
            have e45 : bt l k ≠ 45 := byte_ne (by simpa using h45)
            clear h45
            have HP1 : Hid (parseL l = P1 (NG l) (l.drop k)) := by
              unfold Hid
              rw [hk0]
              exact p0_pos hlen (by rw [← hk0]; exact e45)
            clear hk0 hlen
            by_cases h48 : (((bt l k).toNat : Int) == 48) = true
            · have e48 : bt l k = 48 := byte_eq (by simpa using h48)
              have HX : Hid (MS l (k + 1) 2 k 0 0 0 false (-1)) := t1_zero hkl.out HP1.out e48
              clear e48 e45
              go_wp2
              go_round
              case rel => exact ⟨k + 1, 2, k, 0, 0, 0, false, -1, by go_num, rfl, by first | rfl | go_num, by first | rfl | go_num, by first | rfl | go_num, by first | rfl | go_num, rfl, by first | rfl | go_num, by omega, HX⟩
              case measure => simp [intOf]; omega
            · have h48' : (((bt l k).toNat : Int) == 48) = false := by simpa using h48
              have e48 : bt l k ≠ 48 := byte_ne (by simpa using h48)
              clear h48
              cases hd : isDig (bt l k) with
              | true =>
                have HX : Hid (MS l (k + 1) 3 k 0 0 0 false (-1)) := t1_dig hkl.out HP1.out hd e48
                clear e48 e45
                go_wp2
                go_round
                case rel => exact ⟨k + 1, 3, k, 0, 0, 0, false, -1, by go_num, rfl, by first | rfl | go_num, by first | rfl | go_num, by first | rfl | go_num, by first | rfl | go_num, rfl, by first | rfl | go_num, by omega, HX⟩
                case measure => simp [intOf]; omega
              | false =>
                have HPN : Hid (parseL l = none) := t1_bad hkl.out HP1.out hd
                clear e48 e45
                go_wp2
                exact bodyPost_ret (v := .tuple #[.bool false, .bool false, .slice none 0 0, .int .i64 0]) (by simp [results, Tryd.results11, go_sem]) rfl ⟨Below.refl _ _, Or.inl ⟨HPN, rfl⟩⟩
        · have HP1 : Hid (parseL l = P1 (NG l) (l.drop k)) := by
            unfold Hid
            rw [show k = 1 by omega]
            exact hP
          clear hP
          by_cases h48 : (((bt l k).toNat : Int) == 48) = true
          · have e48 : bt l k = 48 := byte_eq (by simpa using h48)
            have HX : Hid (MS l (k + 1) 2 k 0 0 0 false (-1)) := t1_zero hkl.out HP1.out e48
            clear e48
            go_wp2
            go_round
            case rel => exact ⟨k + 1, 2, k, 0, 0, 0, false, -1, by go_num, rfl, by first | rfl | go_num, by first | rfl | go_num, by first | rfl | go_num, by first | rfl | go_num, rfl, by first | rfl | go_num, by omega, HX⟩
            case measure => simp [intOf]; omega
          · have h48' : (((bt l k).toNat : Int) == 48) = false := by simpa using h48
            have e48 : bt l k ≠ 48 := byte_ne (by simpa using h48)
            clear h48
            cases hd : isDig (bt l k) with
            | true =>
              have HX : Hid (MS l (k + 1) 3 k 0 0 0 false (-1)) := t1_dig hkl.out HP1.out hd e48
              clear e48
              go_wp2
              go_round
              case rel => exact ⟨k + 1, 3, k, 0, 0, 0, false, -1, by go_num, rfl, by first | rfl | go_num, by first | rfl | go_num, by first | rfl | go_num, by first | rfl | go_num, rfl, by first | rfl | go_num, by omega, HX⟩
              case measure => simp [intOf]; omega
            | false =>
              have HPN : Hid (parseL l = none) := t1_bad hkl.out HP1.out hd
              clear e48
              go_wp2
              exact bodyPost_ret (v := .tuple #[.bool false, .bool false, .slice none 0 0, .int .i64 0]) (by simp [results, Tryd.results11, go_sem]) rfl ⟨Below.refl _ _, Or.inl ⟨HPN, rfl⟩⟩
        · have HDG : Hid (Dgs l ws k) := by
            unfold Hid
            rw [show k = ws + 1 by omega]
            exact s2_dgs (by rw [HN.out]; omega) h3
          have hkw : k = ws + 1 ∨ bt l ws ≠ 48 := Or.inl (by omega)
          have HKW : Hid (k = ws + 1 ∨ bt l ws ≠ 48) := hkw
          have H48 : Hid (bt l ws = 48) := h3
          have hwk : ws < k := by omega
          have HP1 : Hid (parseL l = P1 (NG l) (l.drop ws)) := hP
          clear hkw hP h3
          by_cases h46 : (((bt l k).toNat : Int) == 46) = true
          · have e46 : bt l k = 46 := byte_eq (by simpa using h46)
            have HX : Hid (MS l (k + 1) 4 ws k 0 0 false (-1)) := t3_dot hwk hkl.out HDG.out HKW.out HP1.out e46
            clear e46
            go_wp2
            go_round
            case rel => exact ⟨k + 1, 4, ws, k, 0, 0, false, -1, by go_num, rfl, by first | rfl | go_num, by first | rfl | go_num, by first | rfl | go_num, by first | rfl | go_num, rfl, by first | rfl | go_num, by omega, HX⟩
            case measure => simp [intOf]; omega
          · have h46' : (((bt l k).toNat : Int) == 46) = false := by simpa using h46
            have e46 : bt l k ≠ 46 := byte_ne (by simpa using h46)
            clear h46
            cases hE : isEc (bt l k) with
            | true =>
              have HX : Hid (MS l (k + 1) 6 ws k 0 0 false (-1)) := t3_e hwk hkl.out HDG.out HKW.out HP1.out hE
              clear e46
              go_wp2
              go_round
              case rel => exact ⟨k + 1, 6, ws, k, 0, 0, false, -1, by go_num, rfl, by first | rfl | go_num, by first | rfl | go_num, by first | rfl | go_num, by first | rfl | go_num, rfl, by first | rfl | go_num, by omega, HX⟩
              case measure => simp [intOf]; omega
            | false =>
              cases hd : isDig (bt l k) with
              | true =>
                have HPN : Hid (parseL l = none) := t2_digit h1 h2 hkl.out H48.out HP1.out hd
                clear e46
                go_wp2
                exact bodyPost_ret (v := .tuple #[.bool false, .bool false, .slice none 0 0, .int .i64 0]) (by simp [results, Tryd.results11, go_sem]) rfl ⟨Below.refl _ _, Or.inl ⟨HPN, rfl⟩⟩
              | false =>
                have HPN : Hid (parseL l = none) := t3_bad hwk hkl.out HDG.out HKW.out HP1.out hd e46 hE
                clear e46
                go_wp2
                exact bodyPost_ret (v := .tuple #[.bool false, .bool false, .slice none 0 0, .int .i64 0]) (by simp [results, Tryd.results11, go_sem]) rfl ⟨Below.refl _ _, Or.inl ⟨HPN, rfl⟩⟩
        · have HDG : Hid (Dgs l ws k) := h3
          have HNE : Hid (bt l ws ≠ 48) := h2
          have HKW : Hid (k = ws + 1 ∨ bt l ws ≠ 48) := Or.inr h2
          have hwk : ws < k := h1
          have HP1 : Hid (parseL l = P1 (NG l) (l.drop ws)) := hP
          clear hP h3 h2
          cases hd : isDig (bt l k) with
          | true =>
            have HX : Hid (MS l (k + 1) 3 ws 0 0 0 false (-1)) := MS.s3 (k + 1) ws (by omega) hkl.out HNE.out (dgs_more l ws k (by omega) hkl.out HDG.out hd) HP1.out
            go_wp2
            go_round
            case rel => exact ⟨k + 1, 3, ws, 0, 0, 0, false, -1, by go_num, rfl, by first | rfl | go_num, by first | rfl | go_num, by first | rfl | go_num, by first | rfl | go_num, rfl, by first | rfl | go_num, by omega, HX⟩
            case measure => simp [intOf]; omega
          | false =>
            by_cases h46 : (((bt l k).toNat : Int) == 46) = true
            · have e46 : bt l k = 46 := byte_eq (by simpa using h46)
              have HX : Hid (MS l (k + 1) 4 ws k 0 0 false (-1)) := t3_dot hwk hkl.out HDG.out HKW.out HP1.out e46
              clear e46
              go_wp2
              go_round
              case rel => exact ⟨k + 1, 4, ws, k, 0, 0, false, -1, by go_num, rfl, by first | rfl | go_num, by first | rfl | go_num, by first | rfl | go_num, by first | rfl | go_num, rfl, by first | rfl | go_num, by omega, HX⟩
              case measure => simp [intOf]; omega
            · have h46' : (((bt l k).toNat : Int) == 46) = false := by simpa using h46
              have e46 : bt l k ≠ 46 := byte_ne (by simpa using h46)
              clear h46
              cases hE : isEc (bt l k) with
              | true =>
                have HX : Hid (MS l (k + 1) 6 ws k 0 0 false (-1)) := t3_e hwk hkl.out HDG.out HKW.out HP1.out hE
                clear e46
                go_wp2
                go_round
                case rel => exact ⟨k + 1, 6, ws, k, 0, 0, false, -1, by go_num, rfl, by first | rfl | go_num, by first | rfl | go_num, by first | rfl | go_num, by first | rfl | go_num, rfl, by first | rfl | go_num, by omega, HX⟩
                case measure => simp [intOf]; omega
              | false =>
                have HPN : Hid (parseL l = none) := t3_bad hwk hkl.out HDG.out HKW.out HP1.out hd e46 hE
                clear e46
                go_wp2
                exact bodyPost_ret (v := .tuple #[.bool false, .bool false, .slice none 0 0, .int .i64 0]) (by simp [results, Tryd.results11, go_sem]) rfl ⟨Below.refl _ _, Or.inl ⟨HPN, rfl⟩⟩
        · have HA : Hid (isAt l we 46 = true) := h4
          have HP1 : Hid (parseL l = P2 (NG l) ((l.take we).drop ws) (l.drop we)) := hP
          clear hP h4
          cases hd : isDig (bt l k) with
          | true =>
            have HX : Hid (MS l (k + 1) 5 ws we k 0 false (-1)) := t4_dig h1 h2 h3 hkl.out HA.out HP1.out hd
            go_wp2
            go_round
            case rel => exact ⟨k + 1, 5, ws, we, k, 0, false, -1, by go_num, rfl, by first | rfl | go_num, by first | rfl | go_num, by first | rfl | go_num, by first | rfl | go_num, rfl, by first | rfl | go_num, by omega, HX⟩
            case measure => simp [intOf]; omega
          | false =>
            have HPN : Hid (parseL l = none) := t4_bad h1 h2 HA.out HP1.out (fun _ => hd)
            go_wp2
            exact bodyPost_ret (v := .tuple #[.bool false, .bool false, .slice none 0 0, .int .i64 0]) (by simp [results, Tryd.results11, go_sem]) rfl ⟨Below.refl _ _, Or.inl ⟨HPN, rfl⟩⟩
        · have HA : Hid (isAt l we 46 = true) := h3
          have HDG : Hid (Dgs l (we + 1) k) := h4
          have HP1 : Hid (parseL l = P2 (NG l) ((l.take we).drop ws) (l.drop we)) := hP
          clear hP h4 h3
          cases hd : isDig (bt l k) with
          | true =>
            have HX : Hid (MS l (k + 1) 5 ws we (we+1) 0 false (-1)) := t5_dig h1 h2 hkl.out HA.out HDG.out HP1.out hd
            go_wp2
            go_round
            case rel => exact ⟨k + 1, 5, ws, we, (we+1), 0, false, -1, by go_num, rfl, by first | rfl | go_num, by first | rfl | go_num, by first | rfl | go_num, by first | rfl | go_num, rfl, by first | rfl | go_num, by omega, HX⟩
            case measure => simp [intOf]; omega
          | false =>
            cases hE : isEc (bt l k) with
            | true =>
              have HX : Hid (MS l (k + 1) 6 ws we (we+1) k false (-1)) := t5_e h1 h2 hkl.out HA.out HDG.out HP1.out hE
              go_wp2
              go_round
              case rel => exact ⟨k + 1, 6, ws, we, (we+1), k, false, -1, by go_num, rfl, by first | rfl | go_num, by first | rfl | go_num, by first | rfl | go_num, by first | rfl | go_num, rfl, by first | rfl | go_num, by omega, HX⟩
              case measure => simp [intOf]; omega
            | false =>
              have HPN : Hid (parseL l = none) := t5_bad h2 hkl.out HA.out HDG.out HP1.out hd hE
              go_wp2
              exact bodyPost_ret (v := .tuple #[.bool false, .bool false, .slice none 0 0, .int .i64 0]) (by simp [results, Tryd.results11, go_sem]) rfl ⟨Below.refl _ _, Or.inl ⟨HPN, rfl⟩⟩
        · have HP1 : Hid (parseL l = P4 (NG l) ((l.take we).drop ws) ((l.take fe).drop fs) (l.drop k)) := hP
          clear hP
          by_cases h43 : (((bt l k).toNat : Int) == 43) = true
          · have e43 : bt l k = 43 := byte_eq (by simpa using h43)
            have HX : Hid (MS l (k + 1) 7 ws we fs fe false (-1)) := t6_plus h1 h2 h3 h4 h4' hkl.out HP1.out e43
            clear e43
            go_wp2
            go_round
            case rel => exact ⟨k + 1, 7, ws, we, fs, fe, false, -1, by go_num, rfl, by first | rfl | go_num, by first | rfl | go_num, by first | rfl | go_num, by first | rfl | go_num, rfl, by first | rfl | go_num, by omega, HX⟩
            case measure => simp [intOf]; omega
          · have h43' : (((bt l k).toNat : Int) == 43) = false := by simpa using h43
            have e43 : bt l k ≠ 43 := byte_ne (by simpa using h43)
            clear h43
            by_cases h45 : (((bt l k).toNat : Int) == 45) = true
            · have e45 : bt l k = 45 := byte_eq (by simpa using h45)
              have HX : Hid (MS l (k + 1) 7 ws we fs fe true (-1)) := t6_minus h1 h2 h3 h4 h4' hkl.out HP1.out e45
              clear e43 e45
              go_wp2
              go_round
              case rel => exact ⟨k + 1, 7, ws, we, fs, fe, true, -1, by go_num, rfl, by first | rfl | go_num, by first | rfl | go_num, by first | rfl | go_num, by first | rfl | go_num, rfl, by first | rfl | go_num, by omega, HX⟩
              case measure => simp [intOf]; omega
            · have h45' : (((bt l k).toNat : Int) == 45) = false := by simpa using h45
              have e45 : bt l k ≠ 45 := byte_ne (by simpa using h45)
              clear h45
              cases hd : isDig (bt l k) with
              | true =>
                have HX : Hid (MS l (k + 1) 8 ws we fs fe false k) := t6_dig h1 h2 h3 h4 h4' hkl.out HP1.out hd
                clear e43 e45
                go_wp2
                go_round
                case rel => exact ⟨k + 1, 8, ws, we, fs, fe, false, k, by go_num, rfl, by first | rfl | go_num, by first | rfl | go_num, by first | rfl | go_num, by first | rfl | go_num, rfl, by first | rfl | go_num, by omega, HX⟩
                case measure => simp [intOf]; omega
              | false =>
                have HPN : Hid (parseL l = none) := t6_bad hkl.out HP1.out e43 e45 hd
                clear e43 e45
                go_wp2
                exact bodyPost_ret (v := .tuple #[.bool false, .bool false, .slice none 0 0, .int .i64 0]) (by simp [results, Tryd.results11, go_sem]) rfl ⟨Below.refl _ _, Or.inl ⟨HPN, rfl⟩⟩
        · have HP1 : Hid (parseL l = P5 (NG l) ((l.take we).drop ws) ((l.take fe).drop fs) en (l.drop k)) := hP
          clear hP
          cases hd : isDig (bt l k) with
          | true =>
            have HX : Hid (MS l (k + 1) 8 ws we fs fe en k) := t7_dig h1 h2 h3 h4 h4' hkl.out HP1.out hd
            go_wp2
            go_round
            case rel => exact ⟨k + 1, 8, ws, we, fs, fe, en, k, by go_num, rfl, by first | rfl | go_num, by first | rfl | go_num, by first | rfl | go_num, by first | rfl | go_num, rfl, by first | rfl | go_num, by omega, HX⟩
            case measure => simp [intOf]; omega
          | false =>
            have HPN : Hid (parseL l = none) := t7_bad HP1.out (fun _ => hd)
            go_wp2
            exact bodyPost_ret (v := .tuple #[.bool false, .bool false, .slice none 0 0, .int .i64 0]) (by simp [results, Tryd.results11, go_sem]) rfl ⟨Below.refl _ _, Or.inl ⟨HPN, rfl⟩⟩
        · have HDG : Hid (Dgs l es' k) := h6
          have HP1 : Hid (parseL l = P5 (NG l) ((l.take we).drop ws) ((l.take fe).drop fs) en (l.drop es')) := hP
          clear hP h6
          cases hd : isDig (bt l k) with
          | true =>
            have HX : Hid (MS l (k + 1) 8 ws we fs fe en es') := t8_dig h1 h2 h3 h4 h4' hkl.out h5 HDG.out HP1.out hd
            go_wp2
            go_round
            case rel => exact ⟨k + 1, 8, ws, we, fs, fe, en, es', by go_num, rfl, by first | rfl | go_num, by first | rfl | go_num, by first | rfl | go_num, by first | rfl | go_num, rfl, by first | rfl | go_num, by omega, HX⟩
            case measure => simp [intOf]; omega
          | false =>
            have HPN : Hid (parseL l = none) := t8_bad hkl.out h5 HDG.out HP1.out hd
            go_wp2
            exact bodyPost_ret (v := .tuple #[.bool false, .bool false, .slice none 0 0, .int .i64 0]) (by simp [results, Tryd.results11, go_sem]) rfl ⟨Below.refl _ _, Or.inl ⟨HPN, rfl⟩⟩
      · have HM2 : Hid (MS l n st ws we fs fe en es) := by
          have : k = n := by omega
          rw [← this]; exact HMS
        clear HMS
        go_wp2
        go_meet
        exact ⟨rfl, st, ws, we, fs, fe, en, es, rfl, rfl, rfl, rfl, rfl, rfl, rfl, HM2⟩
  case rest =>
  obtain ⟨rfl, st, ws, we, fs, fe, en, es, rfl, rfl, rfl, rfl, rfl, rfl, rfl, HMS⟩ := hcut
  refine ‹∀ (a : Act) (w : World), Code.wp Tryd.prog (Code.seq (Code.seq (Code.region 62 _ _) _) _) _ a w → _› _ _ ?_
  exact m2 b n st ws we fs fe l en es w w hn0 hn HN HC HMS (Below.refl _ _) hb _ _ _ _ _ _ _ _ _ _ _ _ _ _ _ _ _ _ _ _ _ _ _ _ _ _ _ _ _ _ _ _ _ _ _ _ _ _ _ _ _ _ _ _ _ _ _ _ _ _ _ _ _ _ _ _ _ _ _ _ _ _ _ _ _ _ _ _ _ _ _ _ _ _ _ _ _ _ _ _ _ _ _ _ _ _ _ _ _ _ _ _ _ _ _ _ _ _ _ _ _ _ _ _ _ _ _ _ _ _ _ _ _ _ _ _ _ _ _ _ _ _ _ _ _ _ _ _ _ _ _ _ _ _ _ _ _ _ _ _ _ _ _ _ _ _ _ _ _ _ _ _ _ _ _ _ _ _ _ _ _ _ _ _ _ _ _ _ _ _ _ _ _ _ _ _ _ _ _ _ _ _ _ _ _ _ _ _ _ _ _ _ _ _ _ _ _ _ _ _ _ _ _ _ _ _ _ _ _ _ _ _ _ _ _ _ _ _ _ _ _ _ _ _ _ _ _ _ _
end Go.Proofs.Qxb6600755aDoor
