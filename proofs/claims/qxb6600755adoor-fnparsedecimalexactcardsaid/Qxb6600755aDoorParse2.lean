import Derived.Test.Qxb6600755aDoorParse3
namespace Go.Proofs.Qxb6600755aDoor
open Go.RowKit
set_option linter.unusedVariables false
set_option maxRecDepth 1000000

set_option maxHeartbeats 4000000 in
theorem stage2 (b i0 wl wk n i2 fl fc : Nat) (fa : Option Addr) (l wh fr : List UInt8) (ng : Bool) (w wx : World)
    (hn : n ≤ 1048576) (hi2 : i2 ≤ n) (hwl : wl ≤ 1048576) (hwk : wl ≤ wk) (hwkm : wk ≤ 1048576) (hwf : wl + fl ≤ 1048576)
    (HN : Hid (l.length = n)) (HC : Hid (∀ j, j < n → wx.cell? ⟨b, j, none⟩ = some (.int .u8 (bt l j).toNat))) (HWL : Hid (wh.length = wl)) (HBW : Hid (Byt wx b i0 wh))
    (HF : Hid ((fl = 0 ∧ fr = []) ∨ (fr.length = fl ∧ 0 < fl ∧ ∃ f0, fa = some ⟨b, f0, none⟩ ∧ Byt wx b f0 fr)))
    (hbel : Below w.heap.size w wx) (hbs : b < wx.heap.size) (hb1 : b ≠ w.heap.size) (hb2 : b ≠ w.heap.size + 1) (hws : w.heap.size + 1 < wx.heap.size)
    (hR : wx.heap[w.heap.size]? = some (.cells #[.bool false, .slice none 0 0, .int .i64 0] 38 (0, 0))) (hD : wx.heap[w.heap.size + 1]? = some (.cells #[.bool ng, .slice none 0 0, .int .i64 0] 38 (0, 0)))
    (HP3 : Hid (parseL l = P3 ng wh fr (l.drop i2))) (u1 u3 u6 u9 u10 u11 u12 u13 u14 u15 u16 u17 u18 u19 u20 u21 u22 u23 u24 u25 u26 u27 u28 u29 u30 u31 u32 u33 u34 u35 u36 u37 u38 u39 u40 u41 u42 u43 u44 u45 u46 u47 u48 u49 u50 u51 u52 u53 u54 u55 u56 u57 u58 u59 u60 u61 u62 u63 u64 u65 u66 u67 u68 u69 u70 u71 u72 u73 u74 u75 u76 u77 u78 u79 u80 u81 u82 u83 u84 u85 u86 u87 u88 u89 u90 u91 u92 u93 u94 u95 u96 u97 u98 u99 u100 u101 u102 u103 u104 u105 u106 u107 u108 u109 u110 u111 u112 u113 u114 u115 u116 u117 u118 u119 u120 u121 u122 u123 u124 u125 u126 u127 u128 u129 u130 u131 u132 u133 u134 u135 u136 u137 u138 u139 u140 u141 u142 u143 u144 u145 u146 u147 u148 u149 u150 u151 u152 u153 u154 u155 u156 u157 u158 u159 u160 u161 u162 u163 u164 u165 u166 u167 u168 u169 u170 u171 u172 u173 u174 u175 u176 u177 u178 u179 u180 u181 u182 u183 u184 u185 u186 u187 u188 u189 u190 u191 u192 u193 u194 u195 u196 u197 u198 u199 u200 u201 u202 u203 u204 u205 u206 u207 u208 u209 u210 u211 u212 u213 u214 u215 u216 u217 : Value) :
    Code.wp Tryd.prog (spine 10 (Tryd.f24.body.getD .skip)) (bodyPost Tryd.prog Tryd.f24 (ParsePost l w)) ⟨#[.slice (some ⟨b, 0, none⟩) n n, u1, .pointer (some ⟨w.heap.size, 0, none⟩), u3, .pointer (some ⟨w.heap.size + 1, 0, none⟩), .int .i64 i2, u6, .slice (some ⟨b, i0, none⟩) wl wk, .slice fa fl fc, u9, u10, u11, u12, u13, u14, u15, u16, u17, u18, u19, u20, u21, u22, u23, u24, u25, u26, u27, u28, u29, u30, u31, u32, u33, u34, u35, u36, u37, u38, u39, u40, u41, u42, u43, u44, u45, u46, u47, u48, u49, u50, u51, u52, u53, u54, u55, u56, u57, u58, u59, u60, u61, u62, u63, u64, u65, u66, u67, u68, u69, u70, u71, u72, u73, u74, u75, u76, u77, u78, u79, u80, u81, u82, u83, u84, u85, u86, u87, u88, u89, u90, u91, u92, u93, u94, u95, u96, u97, u98, u99, u100, u101, u102, u103, u104, u105, u106, u107, u108, u109, u110, u111, u112, u113, u114, u115, u116, u117, u118, u119, u120, u121, u122, u123, u124, u125, u126, u127, u128, u129, u130, u131, u132, u133, u134, u135, u136, u137, u138, u139, u140, u141, u142, u143, u144, u145, u146, u147, u148, u149, u150, u151, u152, u153, u154, u155, u156, u157, u158, u159, u160, u161, u162, u163, u164, u165, u166, u167, u168, u169, u170, u171, u172, u173, u174, u175, u176, u177, u178, u179, u180, u181, u182, u183, u184, u185, u186, u187, u188, u189, u190, u191, u192, u193, u194, u195, u196, u197, u198, u199, u200, u201, u202, u203, u204, u205, u206, u207, u208, u209, u210, u211, u212, u213, u214, u215, u216, u217], []⟩ wx := by
  have r0 : wx.cell? ⟨w.heap.size, 0, none⟩ = some (.bool false) := by simp [World.cell?, hR]
  have r1 : wx.cell? ⟨w.heap.size, 1, none⟩ = some (.slice none 0 0) := by simp [World.cell?, hR]
  have r2 : wx.cell? ⟨w.heap.size, 2, none⟩ = some (.int .i64 0) := by simp [World.cell?, hR]
  have fr0 : wx.frozen? ⟨w.heap.size, 0, none⟩ = false := by simp [World.frozen?, hR]
  have fr1 : wx.frozen? ⟨w.heap.size, 1, none⟩ = false := by simp [World.frozen?, hR]
  have fr2 : wx.frozen? ⟨w.heap.size, 2, none⟩ = false := by simp [World.frozen?, hR]
  have HR := (show Hid _ from hR)
  have HD := (show Hid _ from hD)
  clear hR hD
  conv => arg 2; whnf
  go_upto_region 22 with fail
  go_cut [111] from 94 to 110 (fun s111 wy => wx = wy ∧ s111 = .bool (isE l i2))
  case first =>
    by_cases hlt : i2 < n
    · have hck := HC.out (i2) hlt
      have HA1 : Hid (isAt l (i2) 101 = decide (((bt l (i2)).toNat : Int) = (101 : UInt8).toNat)) := isAt_at l (i2) 101 (by rw [HN.out]; exact hlt)
      have HA2 : Hid (isAt l (i2) 69 = decide (((bt l (i2)).toNat : Int) = (69 : UInt8).toNat)) := isAt_at l (i2) 69 (by rw [HN.out]; exact hlt)
      by_cases he1 : (((bt l (i2)).toNat : Int) == 101) = true
      · have HT : Hid (isE l (i2) = true) := by
          unfold Hid isE
          rw [HA1.out, decide_eq_true (by simpa using he1 : ((bt l (i2)).toNat : Int) = (101 : UInt8).toNat)]; rfl
        go_wp2
        go_meet
        exact ⟨rfl, by rw [HT.out]⟩
      have he1' : (((bt l (i2)).toNat : Int) == 101) = false := by simpa using he1
      have hn1 : Hid (isAt l (i2) 101 = false) := by
        unfold Hid
        rw [HA1.out]
        exact decide_eq_false (by simpa using he1)
      clear he1
      by_cases he2 : (((bt l (i2)).toNat : Int) == 69) = true
      · have HT : Hid (isE l (i2) = true) := by
          unfold Hid isE
          rw [HA2.out, decide_eq_true (by simpa using he2 : ((bt l (i2)).toNat : Int) = (69 : UInt8).toNat)]; simp
        go_wp2
        go_meet
        exact ⟨rfl, by rw [HT.out]⟩
      · have he2' : (((bt l (i2)).toNat : Int) == 69) = false := by simpa using he2
        have HT : Hid (isE l (i2) = false) := by
          unfold Hid isE
          rw [hn1.out, HA2.out, decide_eq_false (by simpa using he2 : ¬ ((bt l (i2)).toNat : Int) = (69 : UInt8).toNat)]; rfl
        clear he2
        go_wp2
        go_meet
        exact ⟨rfl, by rw [HT.out]⟩
    · have HT : Hid (isE l (i2) = false) := by
        unfold Hid isE
        rw [isAt_end l (i2) 101 (by rw [HN.out]; exact hlt), isAt_end l (i2) 69 (by rw [HN.out]; exact hlt)]; rfl
      go_wp2
      go_meet
      exact ⟨rfl, by rw [HT.out]⟩
  case rest =>
  obtain ⟨rfl, rfl⟩ := hcut
  go_upto_if 111 with fail
  go_cut [5, 9] from 111 to 170 (fun s5 s9 wy => wx = wy ∧ ∃ (i3 : Nat) (ex : Int), s5 = .int .i64 i3 ∧ s9 = .int .i64 ex ∧ i3 ≤ n ∧ -10995116277769 ≤ ex ∧ ex ≤ 10995116277769 ∧ Hid (parseL l = if l.drop i3 = [] then fin ng wh fr ex else none))
  case first =>
    cases hE : isE l i2 with
    | false =>
      have HPX : Hid (parseL l = if l.drop i2 = [] then fin ng wh fr 0 else none) := HP3.out.trans (P3_no _ _ _ _ _ hE)
      go_wp2
      go_meet
      exact ⟨rfl, i2, 0, rfl, rfl, hi2, by omega, by omega, HPX⟩
    | true =>
      have hlt2 : i2 < n := by
        rcases Nat.lt_or_ge i2 n with h | h
        · exact h
        · unfold isE at hE; rw [isAt_end l i2 101 (by rw [HN.out]; omega), isAt_end l i2 69 (by rw [HN.out]; omega)] at hE; cases hE
      have HP4 : Hid (parseL l = P4 ng wh fr (l.drop (i2 + 1))) := HP3.out.trans (P3_e _ _ _ _ _ hE)
      clear HP3 hE
      go_upto_region 25 with fail
      go_cut [131] from 114 to 130 (fun s131 wy => wx = wy ∧ s131 = .bool (isPM l (i2 + 1)))
      case first =>
        by_cases hlt : i2 + 1 < n
        · have hck := HC.out (i2 + 1) hlt
          have HA1 : Hid (isAt l (i2 + 1) 43 = decide (((bt l (i2 + 1)).toNat : Int) = (43 : UInt8).toNat)) := isAt_at l (i2 + 1) 43 (by rw [HN.out]; exact hlt)
          have HA2 : Hid (isAt l (i2 + 1) 45 = decide (((bt l (i2 + 1)).toNat : Int) = (45 : UInt8).toNat)) := isAt_at l (i2 + 1) 45 (by rw [HN.out]; exact hlt)
          by_cases he1 : (((bt l (i2 + 1)).toNat : Int) == 43) = true
          · have HT : Hid (isPM l (i2 + 1) = true) := by
              unfold Hid isPM
              rw [HA1.out, decide_eq_true (by simpa using he1 : ((bt l (i2 + 1)).toNat : Int) = (43 : UInt8).toNat)]; rfl
            go_wp2
            go_meet
            exact ⟨rfl, by rw [HT.out]⟩
          have he1' : (((bt l (i2 + 1)).toNat : Int) == 43) = false := by simpa using he1
          have hn1 : Hid (isAt l (i2 + 1) 43 = false) := by
            unfold Hid
            rw [HA1.out]
            exact decide_eq_false (by simpa using he1)
          clear he1
          by_cases he2 : (((bt l (i2 + 1)).toNat : Int) == 45) = true
          · have HT : Hid (isPM l (i2 + 1) = true) := by
              unfold Hid isPM
              rw [HA2.out, decide_eq_true (by simpa using he2 : ((bt l (i2 + 1)).toNat : Int) = (45 : UInt8).toNat)]; simp
            go_wp2
            go_meet
            exact ⟨rfl, by rw [HT.out]⟩
          · have he2' : (((bt l (i2 + 1)).toNat : Int) == 45) = false := by simpa using he2
            have HT : Hid (isPM l (i2 + 1) = false) := by
              unfold Hid isPM
              rw [hn1.out, HA2.out, decide_eq_false (by simpa using he2 : ¬ ((bt l (i2 + 1)).toNat : Int) = (45 : UInt8).toNat)]; rfl
            clear he2
            go_wp2
            go_meet
            exact ⟨rfl, by rw [HT.out]⟩
        · have HT : Hid (isPM l (i2 + 1) = false) := by
            unfold Hid isPM
            rw [isAt_end l (i2 + 1) 43 (by rw [HN.out]; exact hlt), isAt_end l (i2 + 1) 45 (by rw [HN.out]; exact hlt)]; rfl
          go_wp2
          go_meet
          exact ⟨rfl, by rw [HT.out]⟩
      case rest =>
      obtain ⟨rfl, rfl⟩ := hcut
      go_upto_if 131 with fail
      go_cut [5, 10] from 131 to 138 (fun s5 s10 wy => wx = wy ∧ ∃ (i4 : Nat) (en : Bool), s5 = .int .i64 i4 ∧ s10 = .bool en ∧ i4 ≤ n ∧ Hid (parseL l = P5 ng wh fr en (l.drop i4)))
      case first =>
        cases hpm : isPM l (i2 + 1) with
        | false =>
          have HP5 : Hid (parseL l = P5 ng wh fr false (l.drop (i2 + 1))) := HP4.out.trans (P4_no _ _ _ _ _ hpm)
          go_wp2
          go_meet
          exact ⟨rfl, i2 + 1, false, by first | rfl | go_num, rfl, by omega, HP5⟩
        | true =>
          have hlt3 : i2 + 1 < n := by
            rcases Nat.lt_or_ge (i2 + 1) n with h | h
            · exact h
            · unfold isPM at hpm; rw [isAt_end l (i2 + 1) 43 (by rw [HN.out]; omega), isAt_end l (i2 + 1) 45 (by rw [HN.out]; omega)] at hpm; cases hpm
          have HP5 : Hid (parseL l = P5 ng wh fr (isAt l (i2 + 1) 45) (l.drop (i2 + 1 + 1))) := HP4.out.trans (P4_sign _ _ _ _ _ hpm)
          have hck := HC.out (i2 + 1) hlt3
          have HAT : Hid (isAt l (i2 + 1) 45 = decide (((bt l (i2 + 1)).toNat : Int) = (45 : UInt8).toNat)) := isAt_at l (i2 + 1) 45 (by rw [HN.out]; exact hlt3)
          by_cases h45 : (((bt l (i2 + 1)).toNat : Int) == 45) = true
          · have HT : Hid (isAt l (i2 + 1) 45 = true) := by
              unfold Hid
              rw [HAT.out]
              exact decide_eq_true (by simpa using h45)
            go_wp2
            go_meet
            exact ⟨rfl, i2 + 1 + 1, true, by first | rfl | go_num, rfl, by omega, by rw [← HT.out]; exact HP5⟩
          · have h45' : (((bt l (i2 + 1)).toNat : Int) == 45) = false := by simpa using h45
            have HT : Hid (isAt l (i2 + 1) 45 = false) := by
              unfold Hid
              rw [HAT.out]
              exact decide_eq_false (by simpa using h45)
            clear h45
            go_wp2
            go_meet
            exact ⟨rfl, i2 + 1 + 1, false, by first | rfl | go_num, rfl, by omega, by rw [← HT.out]; exact HP5⟩
      case rest =>
      obtain ⟨rfl, i4, en, rfl, rfl, hi4, HP5⟩ := hcut
      clear HP4
      go_wp2_with fail
      go_loop [5, 9] (fun s5 s9 => ∃ (k : Nat) (e : Int), s5 = .int .i64 k ∧ s9 = .int .i64 e ∧ i4 ≤ k ∧ k ≤ n ∧ 0 ≤ e ∧ e ≤ 10995116277769 ∧ Hid (∀ c ∈ (l.take k).drop i4, isDig c = true) ∧ Hid (expV ((l.take k).drop i4) = e)) (fun s5 _ => n - (intOf s5).toNat)
      case atStart => exact ⟨i4, 0, rfl, rfl, Nat.le_refl _, hi4, by omega, by omega, by unfold Hid; rw [List.drop_of_length_le (by rw [List.length_take]; omega)]; simp, by unfold Hid; rw [List.drop_of_length_le (by rw [List.length_take]; omega)]; rfl⟩
      case round =>
        obtain ⟨k, e, rfl, rfl, hk0, hkn, he0, he1, HA, HE⟩ := hrel
        by_cases hlt : k < n
        · have hck := HC.out k hlt
          by_cases hd : isDig (bt l k) = true
          · have HDG : Hid (∀ c ∈ (l.take (k + 1)).drop i4, isDig c = true) := mid_dig l i4 k hk0 (by rw [HN.out]; exact hlt) HA.out hd
            obtain ⟨hc1, hc2⟩ := (isDig_iff _).1 hd
            have HSN : Hid (expV ((l.take (k + 1)).drop i4) = if e < 1099511627776 then e * 10 + (((bt l k).toNat : Int) - 48) else e) := by
              unfold Hid
              rw [mid_snoc l i4 k hk0 (by rw [HN.out]; exact hlt), expV_snoc, HE.out]
            by_cases hbig : e < 1099511627776
            · have HE2 : Hid (expV ((l.take (k + 1)).drop i4) = e * 10 + (((bt l k).toNat : Int) - 48)) := by
                unfold Hid
                rw [HSN.out, if_pos hbig]
              go_wp2_with (go_at_call 26; refine (isDigit_any _ _).mono ?_; rintro e w' ⟨rfl, rfl⟩)
              go_round
              case rel => exact ⟨k + 1, e * 10 + (((bt l k).toNat : Int) - 48), by go_num, by first | rfl | go_num, by omega, by omega, by omega, by omega, HDG, HE2⟩
              case measure => simp [intOf]; omega
            · have HE2 : Hid (expV ((l.take (k + 1)).drop i4) = e) := by
                unfold Hid
                rw [HSN.out, if_neg hbig]
              go_wp2_with (go_at_call 26; refine (isDigit_any _ _).mono ?_; rintro e w' ⟨rfl, rfl⟩)
              go_round
              case rel => exact ⟨k + 1, e, by go_num, rfl, by omega, by omega, he0, he1, HDG, HE2⟩
              case measure => simp [intOf]; omega
          · have hd' : isDig (bt l k) = false := by simpa using hd
            have HDD : Hid (dg (l.drop i4) = (l.take k).drop i4 ∧ aft (l.drop i4) = l.drop k) := dg_between l i4 k hk0 (by rw [HN.out]; exact hkn) HA.out (fun _ => hd')
            clear hd
            by_cases hk4 : k = i4
            · have HPN : Hid (parseL l = none) := by
                unfold Hid
                rw [HP5.out]
                exact P5_none _ _ _ _ _ (by rw [HDD.out.1]; exact mid_nil l _ _ (by omega))
              have hkq : ((k : Int) == (i4 : Int)) = true := by simp [hk4]
              clear hk4
              go_wp2_with (go_at_call 26; refine (isDigit_any _ _).mono ?_; rintro e w' ⟨rfl, rfl⟩)
              exact bodyPost_ret (v := .tuple #[.agg #[.bool false, .slice none 0 0, .int .i64 0], .bool false]) (by simp [results, Tryd.results24, go_sem, r0, r1, r2]) rfl (post_none HPN (((hbel.setCell (p := ⟨w.heap.size, 0, none⟩) (Nat.le_refl _) _).setCell (p := ⟨w.heap.size, 1, none⟩) (Nat.le_refl _) _).setCell (p := ⟨w.heap.size, 2, none⟩) (Nat.le_refl _) _))
            · have hkq : ((k : Int) == (i4 : Int)) = false := by simp; omega
              have HPM : Hid (parseL l = if l.drop k = [] then fin ng wh fr (if en then -e else e) else none) := by
                unfold Hid
                rw [HP5.out, P5_more _ _ _ _ _ (by rw [HDD.out.1]; exact mid_ne l _ _ (by omega) (by rw [HN.out]; exact hkn)), HDD.out.1, HDD.out.2, HE.out]
              cases en with
              | true =>
                go_wp2_with (go_at_call 26; refine (isDigit_any _ _).mono ?_; rintro e w' ⟨rfl, rfl⟩)
                go_meet
                exact ⟨rfl, k, -e, rfl, rfl, hkn, by omega, by omega, HPM⟩
              | false =>
                go_wp2_with (go_at_call 26; refine (isDigit_any _ _).mono ?_; rintro e w' ⟨rfl, rfl⟩)
                go_meet
                exact ⟨rfl, k, e, rfl, rfl, hkn, by omega, by omega, HPM⟩
        · have HDD : Hid (dg (l.drop i4) = (l.take k).drop i4 ∧ aft (l.drop i4) = l.drop k) := dg_between l i4 k hk0 (by rw [HN.out]; exact hkn) HA.out (fun h => absurd h (by rw [HN.out]; exact hlt))
          by_cases hk4 : k = i4
          · have HPN : Hid (parseL l = none) := by
              unfold Hid
              rw [HP5.out]
              exact P5_none _ _ _ _ _ (by rw [HDD.out.1]; exact mid_nil l _ _ (by omega))
            have hkq : ((k : Int) == (i4 : Int)) = true := by simp [hk4]
            clear hk4
            go_wp2
            exact bodyPost_ret (v := .tuple #[.agg #[.bool false, .slice none 0 0, .int .i64 0], .bool false]) (by simp [results, Tryd.results24, go_sem, r0, r1, r2]) rfl (post_none HPN (((hbel.setCell (p := ⟨w.heap.size, 0, none⟩) (Nat.le_refl _) _).setCell (p := ⟨w.heap.size, 1, none⟩) (Nat.le_refl _) _).setCell (p := ⟨w.heap.size, 2, none⟩) (Nat.le_refl _) _))
          · have hkq : ((k : Int) == (i4 : Int)) = false := by simp; omega
            have HPM : Hid (parseL l = if l.drop k = [] then fin ng wh fr (if en then -e else e) else none) := by
              unfold Hid
              rw [HP5.out, P5_more _ _ _ _ _ (by rw [HDD.out.1]; exact mid_ne l _ _ (by omega) (by rw [HN.out]; exact hkn)), HDD.out.1, HDD.out.2, HE.out]
            cases en with
            | true =>
              go_wp2
              go_meet
              exact ⟨rfl, k, -e, rfl, rfl, hkn, by omega, by omega, HPM⟩
            | false =>
              go_wp2
              go_meet
              exact ⟨rfl, k, e, rfl, rfl, hkn, by omega, by omega, HPM⟩
  case rest =>
  obtain ⟨rfl, i3, ex, rfl, rfl, q1, q2, q3, HPX⟩ := hcut
  refine ‹∀ (a : Act) (w : World), Code.wp Tryd.prog (Code.seq (Code.seq (Code.region 37 _ _) _) _) _ a w → _› _ _ ?_
  exact stage3 b i0 wl wk n i3 fl fc fa l wh fr ng ex w _ hn q1 hwl hwk hwkm hwf q2 q3 HN HWL HBW HF hbel hbs hb1 hb2 hws HR.out HD.out HPX _ _ _ _ _ _ _ _ _ _ _ _ _ _ _ _ _ _ _ _ _ _ _ _ _ _ _ _ _ _ _ _ _ _ _ _ _ _ _ _ _ _ _ _ _ _ _ _ _ _ _ _ _ _ _ _ _ _ _ _ _ _ _ _ _ _ _ _ _ _ _ _ _ _ _ _ _ _ _ _ _ _ _ _ _ _ _ _ _ _ _ _ _ _ _ _ _ _ _ _ _ _ _ _ _ _ _ _ _ _ _ _ _ _ _ _ _ _ _ _ _ _ _ _ _ _ _ _ _ _ _ _ _ _ _ _ _ _ _ _ _ _ _ _ _ _ _ _ _ _ _ _ _ _ _ _ _ _ _ _ _ _ _ _ _ _ _ _ _ _ _ _ _ _ _ _ _ _ _ _ _ _ _ _ _ _ _ _ _ _ _ _ _ _ _ _ _ _ _ _ _ _ _ _ _ _ _ _ _ _ _
end Go.Proofs.Qxb6600755aDoor
