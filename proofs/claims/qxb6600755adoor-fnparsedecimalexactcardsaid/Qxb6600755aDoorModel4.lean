import Derived.Test.Qxb6600755aDoorModel5
namespace Go.Proofs.Qxb6600755aDoor
open Go.RowKit
set_option linter.unusedVariables false
set_option maxRecDepth 1000000

theorem noZ_mid_zero {l : List UInt8} {k n : Nat} (hn : n ≤ l.length) (hk : k < n) (hc : bt l k = 48) : noZ ((l.take n).drop k) = noZ ((l.take n).drop (k + 1)) := by
  have hl : k < (l.take n).length := by rw [List.length_take]; omega
  have e : bt (l.take n) k = 48 := by
    have := mid_bt l 0 n k hn (by omega)
    rw [List.drop_zero, Nat.zero_add] at this
    rw [this, hc]
  exact noZ_zero _ k hl e
theorem noZ_mid_stop {l : List UInt8} {k n : Nat} (hn : n ≤ l.length) (hk : k < n) (hc : bt l k ≠ 48) : noZ ((l.take n).drop k) = (l.take n).drop k := by
  have hl : k < (l.take n).length := by rw [List.length_take]; omega
  have e : bt (l.take n) k ≠ 48 := by
    have := mid_bt l 0 n k hn (by omega)
    rw [List.drop_zero, Nat.zero_add] at this
    rw [this]; exact hc
  exact noZ_stop _ k hl e
theorem dgs_sub {l : List UInt8} {a b a2 b2 : Nat} (h : Dgs l a b) (h1 : a ≤ a2) (h2 : b2 ≤ b) : Dgs l a2 b2 := by
  intro c hc
  refine h c ?_
  have e1 : (l.take b2).drop a2 = (((l.take b).drop a).drop (a2 - a)).take (b2 - a2) := by
    rw [List.drop_drop, show a + (a2 - a) = a2 by omega, List.take_drop, List.take_take]
    rcases Nat.le_total a2 b2 with h3 | h3
    · rw [show min (a2 + (b2 - a2)) b = b2 by omega]
    · rw [List.drop_of_length_le (by rw [List.length_take]; omega), List.drop_of_length_le (by rw [List.length_take]; omega)]
  rw [e1] at hc
  exact List.mem_of_mem_drop (List.mem_of_mem_take hc)

set_option maxHeartbeats 4000000 in
theorem m4 (b n ws we g dl : Nat) (l d wh fr : List UInt8) (en : Bool) (es ee first last : Int) (w wx : World)
    (hn0 : 0 < n) (hn : n ≤ 1048576) (hws : ws ≤ we) (hwe : we ≤ n) (hdl : dl ≤ n)
    (HN : Hid (l.length = n)) (HC : Hid (∀ j, j < n → wx.cell? ⟨b, j, none⟩ = some (.int .u8 (bt l j).toNat)))
    (HG : Hid (Byt wx g 0 d)) (HDL : Hid (d.length = dl)) (HFL : Hid (FL d dl first last)) (HWF : Hid (wh ++ fr = d)) (HWL : Hid (wh.length = we - ws))
    (HE : Hid ((es = -1 ∧ parseL l = fin (NG l) wh fr 0) ∨ ∃ es' : Nat, es = es' ∧ es' < n ∧ ee = n ∧ Dgs l es' n ∧ parseL l = fin (NG l) wh fr (if en then -(expV ((l.take n).drop es')) else expV ((l.take n).drop es'))))
    (hbel : Below w.heap.size w wx) (hbs : b < wx.heap.size) (hgs : g < wx.heap.size) (u1 u2 u3 u4 u5 u6 u9 u10 u14 u15 u16 u17 u19 u20 u23 u24 u25 u26 u27 u28 u29 u30 u31 u32 u33 u34 u35 u36 u37 u38 u39 u40 u41 u42 u43 u44 u45 u46 u47 u48 u49 u50 u51 u52 u53 u54 u55 u56 u57 u58 u59 u60 u61 u62 u63 u64 u65 u66 u67 u68 u69 u70 u71 u72 u73 u74 u75 u76 u77 u78 u79 u80 u81 u82 u83 u84 u85 u86 u87 u88 u89 u90 u91 u92 u93 u94 u95 u96 u97 u98 u99 u100 u101 u102 u103 u104 u105 u106 u107 u108 u109 u110 u111 u112 u113 u114 u115 u116 u117 u118 u119 u120 u121 u122 u123 u124 u125 u126 u127 u128 u129 u130 u131 u132 u133 u134 u135 u136 u137 u138 u139 u140 u141 u142 u143 u144 u145 u146 u147 u148 u149 u150 u151 u152 u153 u154 u155 u156 u157 u158 u159 u160 u161 u162 u163 u164 u165 u166 u167 u168 u169 u170 u171 u172 u173 u174 u175 u176 u177 u178 u179 u180 u181 u182 u183 u184 u185 u186 u187 u188 u189 u190 u191 u192 u193 u194 u195 u196 u197 u198 u199 u200 u201 u202 u203 u204 u205 u206 u207 u208 u209 u210 u211 u212 u213 u214 u215 u216 u217 u218 u219 u220 u221 u222 u223 u224 u225 u226 u227 u228 u229 u230 u231 u232 u233 u234 u235 u236 u237 : Value) :
    Code.wp Tryd.prog (spine 13 (Tryd.f11.body.getD .skip)) (bodyPost Tryd.prog Tryd.f11 (MPost l w)) ⟨#[.slice (some ⟨b, 0, none⟩) n n, u1, u2, u3, u4, u5, u6, .int .i64 ws, .int .i64 we, u9, u10, .bool en, .int .i64 es, .int .i64 ee, u14, u15, u16, u17, .slice (some ⟨g, 0, none⟩) dl n, u19, u20, .int .i64 first, .int .i64 last, u23, u24, u25, u26, u27, u28, u29, u30, u31, u32, u33, u34, u35, u36, u37, u38, u39, u40, u41, u42, u43, u44, u45, u46, u47, u48, u49, u50, u51, u52, u53, u54, u55, u56, u57, u58, u59, u60, u61, u62, u63, u64, u65, u66, u67, u68, u69, u70, u71, u72, u73, u74, u75, u76, u77, u78, u79, u80, u81, u82, u83, u84, u85, u86, u87, u88, u89, u90, u91, u92, u93, u94, u95, u96, u97, u98, u99, u100, u101, u102, u103, u104, u105, u106, u107, u108, u109, u110, u111, u112, u113, u114, u115, u116, u117, u118, u119, u120, u121, u122, u123, u124, u125, u126, u127, u128, u129, u130, u131, u132, u133, u134, u135, u136, u137, u138, u139, u140, u141, u142, u143, u144, u145, u146, u147, u148, u149, u150, u151, u152, u153, u154, u155, u156, u157, u158, u159, u160, u161, u162, u163, u164, u165, u166, u167, u168, u169, u170, u171, u172, u173, u174, u175, u176, u177, u178, u179, u180, u181, u182, u183, u184, u185, u186, u187, u188, u189, u190, u191, u192, u193, u194, u195, u196, u197, u198, u199, u200, u201, u202, u203, u204, u205, u206, u207, u208, u209, u210, u211, u212, u213, u214, u215, u216, u217, u218, u219, u220, u221, u222, u223, u224, u225, u226, u227, u228, u229, u230, u231, u232, u233, u234, u235, u236, u237], []⟩ wx := by
  have HT : Hid (d.take dl = d) := List.take_of_length_le (by rw [HDL.out]; exact Nat.le_refl _)
  rcases HFL.out with ⟨rfl, rfl, hz⟩ | ⟨f, la, rfl, rfl, hfl, hld, hnz, htr⟩
  · skip
    have HP : Hid (parseL l = some (false, [], 0)) := by
      have hz2 : trimZ (noZ (wh ++ fr)) = [] := by
        rw [HT.out] at hz
        rw [HWF.out, hz]; rfl
      rcases HE.out with ⟨_, h⟩ | ⟨_, _, _, _, _, h⟩
      · exact h.trans (fin_zero hz2)
      · exact h.trans (fin_zero hz2)
    clear hz
    conv => arg 2; whnf
    go_wp2
    exact bodyPost_ret (v := .tuple #[.bool true, .bool false, .slice none 0 0, .int .i64 0]) (by simp [results, Tryd.results11, go_sem]) rfl ⟨hbel, Or.inr ⟨false, .slice none 0 0, [], 0, HP, rfl, Or.inl ⟨rfl, rfl⟩⟩⟩
  · skip
    have HNZ : Hid (noZ d = d.drop f) := by rw [HT.out] at hnz; exact hnz
    have HTR : Hid (trimZ (d.drop f) = (d.take (la + 1)).drop f) := by rw [HT.out] at htr; exact htr
    clear hnz htr
    have hf0 : ¬ ((f : Int) < 0) := by omega
    conv => arg 2; whnf
    go_upto_if 163 with fail
    go_cut [24] from 161 to 207 (fun s24 wy => wx = wy ∧ ∃ ev : Int, s24 = .int .i64 ev ∧ -10995116277769 ≤ ev ∧ ev ≤ 10995116277769 ∧ Hid (parseL l = fin (NG l) wh fr ev))
    case first =>
      rcases HE.out with ⟨he, h⟩ | ⟨es', he, hes, hee, hD, h⟩
      · subst he
        have HPX : Hid (parseL l = fin (NG l) wh fr 0) := h
        clear h
        go_wp2
        go_meet
        exact ⟨rfl, 0, rfl, by omega, by omega, HPX⟩
      · subst he
        subst hee
        have HPE : Hid (parseL l = fin (NG l) wh fr (if en then -(expV ((l.take n).drop es')) else expV ((l.take n).drop es'))) := h
        have HD : Hid (Dgs l es' n) := hD
        clear h hD
        have hes0 : (0 : Int) ≤ es' := by omega
        go_upto_block 10 with fail
        go_cut [25] from 163 to 176 (fun s25 wy => wx = wy ∧ ∃ s : Nat, s25 = .int .i64 s ∧ es' ≤ s ∧ s ≤ n ∧ Hid (noZ ((l.take n).drop es') = (l.take n).drop s))
        case first =>
          go_wp2_with fail
          go_loop [25] (fun s25 => ∃ s : Nat, s25 = .int .i64 s ∧ es' ≤ s ∧ s ≤ n ∧ Hid (noZ ((l.take n).drop es') = noZ ((l.take n).drop s))) (fun s25 => n - (intOf s25).toNat)
          case atStart => exact ⟨es', rfl, Nat.le_refl _, by omega, rfl⟩
          case round =>
            obtain ⟨s, rfl, hs1, hs2, HZ⟩ := hrel
            by_cases hlt : s < n
            · have hck := HC.out s hlt
              by_cases h48 : (((bt l s).toNat : Int) == 48) = true
              · have HZ2 : Hid (noZ ((l.take n).drop es') = noZ ((l.take n).drop (s + 1))) := HZ.out.trans (noZ_mid_zero (by rw [HN.out]; exact Nat.le_refl _) hlt (byte_eq (by simpa using h48)))
                go_wp2
                go_round
                case rel => exact ⟨s + 1, by go_num, by omega, by omega, HZ2⟩
                case measure => simp [intOf]; omega
              · have h48' : (((bt l s).toNat : Int) == 48) = false := by simpa using h48
                have HZ2 : Hid (noZ ((l.take n).drop es') = (l.take n).drop s) := HZ.out.trans (noZ_mid_stop (by rw [HN.out]; exact Nat.le_refl _) hlt (byte_ne (by simpa using h48)))
                clear h48
                go_wp2
                go_meet
                exact ⟨rfl, s, rfl, hs1, hs2, HZ2⟩
            · have HZ2 : Hid (noZ ((l.take n).drop es') = (l.take n).drop s) := by
                unfold Hid
                rw [HZ.out, mid_nil l s n (by omega)]; rfl
              go_wp2
              go_meet
              exact ⟨rfl, s, rfl, hs1, hs2, HZ2⟩
        case rest =>
        obtain ⟨rfl, s, rfl, hs1, hs2, HZ⟩ := hcut
        have HLT : Hid (((l.take n).drop s).length = n - s) := mid_len l s n (by rw [HN.out]; exact Nat.le_refl _)
        have HXL : Hid (expV ((l.take n).drop es') = if 14 ≤ ((l.take n).drop s).length ∧ dval (((l.take n).drop s).take 13) < 1099511627776 then dval (((l.take n).drop s).take 13) * 10 + (((bt ((l.take n).drop s) 13).toNat : Int) - 48) else dval (((l.take n).drop s).take 13)) := exp_law HD.out HZ.out
        by_cases h13 : n - s ≤ 13
        · have HDV : Hid (Calls Tryd.prog 23 #[.slice (some ⟨b, 0, none⟩) n n, .int .i64 s, .int .i64 n] wx fun e w' => e = .returned (.int .i64 (dval ((l.take n).drop s))) ∧ w' = wx) := digitsValue_any b n l s n wx HN.out hn hs2 (Nat.le_refl _) h13 (dgs_sub HD.out hs1 (Nat.le_refl _)) HC.out
          have HEX : Hid (expV ((l.take n).drop es') = dval ((l.take n).drop s)) := by
            unfold Hid
            rw [HXL.out, if_neg (fun h => by have := h.1; rw [HLT.out] at this; omega), List.take_of_length_le (by rw [HLT.out]; exact h13)]
          have hvb := dval_mid (dgs_sub HD.out hs1 (Nat.le_refl n)) (by rw [HN.out]; exact Nat.le_refl _) h13 (n - s) (Nat.le_refl _)
          rw [List.take_of_length_le (by rw [HLT.out]; exact Nat.le_refl _)] at hvb
          generalize dval ((l.take n).drop s) = v at *
          obtain ⟨hv0, hv1⟩ := hvb
          have h13a : ¬ ((13 : Int) < (n : Int) - s) := by omega
          have h13b : ¬ ((14 : Int) ≤ (n : Int) - s) := by omega
          have hsn : (s : Int) + ((n : Int) - s) = n := by omega
          clear h13 HXL
          cases en with
          | true =>
            go_wp2_with (go_at_call 23; refine HDV.out.mono ?_; rintro e w' ⟨rfl, rfl⟩)
            go_meet
            exact ⟨rfl, -(v), rfl, by omega, by omega, by have := HPE.out; rw [HEX.out] at this; exact this⟩
          | false =>
            go_wp2_with (go_at_call 23; refine HDV.out.mono ?_; rintro e w' ⟨rfl, rfl⟩)
            go_meet
            exact ⟨rfl, v, rfl, by omega, by omega, by have := HPE.out; rw [HEX.out] at this; exact this⟩
        · have e13 : ((l.take n).drop s).take 13 = (l.take (s + 13)).drop s := mid_take l s n 13 (by omega)
          have HDV : Hid (Calls Tryd.prog 23 #[.slice (some ⟨b, 0, none⟩) n n, .int .i64 s, .int .i64 ((s : Int) + 13)] wx fun e w' => e = .returned (.int .i64 (dval (((l.take n).drop s).take 13))) ∧ w' = wx) := by
            rw [e13]
            exact digitsValue_any b n l s (s + 13) wx HN.out hn (by omega) (by omega) (by omega) (dgs_sub HD.out hs1 (by omega)) HC.out
          have hvb := dval_mid (dgs_sub HD.out hs1 (show s + 13 ≤ n by omega)) (by rw [HN.out]; omega) (by omega) 13 (by omega)
          rw [List.take_of_length_le (by rw [mid_len l s (s + 13) (by rw [HN.out]; omega)]; omega), ← e13] at hvb
          have HB13 : Hid (bt ((l.take n).drop s) 13 = bt l (s + 13)) := mid_bt l s n 13 (by rw [HN.out]; exact Nat.le_refl _) (by omega)
          have hck := HC.out (s + 13) (by omega)
          have hd13 : isDig (bt l (s + 13)) = true := by
            have h1 : 13 < ((l.take n).drop s).length := by rw [HLT.out]; omega
            have h2 := dgs_sub HD.out hs1 (Nat.le_refl n) (((l.take n).drop s)[13]) (List.getElem_mem h1)
            rw [← bt_eq _ _ h1, HB13.out] at h2
            exact h2
          obtain ⟨hc1, hc2⟩ := (isDig_iff _).1 hd13
          clear e13 hd13
          have HXL2 : Hid (expV ((l.take n).drop es') = if 14 ≤ n - s ∧ dval (((l.take n).drop s).take 13) < 1099511627776 then dval (((l.take n).drop s).take 13) * 10 + (((bt l (s + 13)).toNat : Int) - 48) else dval (((l.take n).drop s).take 13)) := by
            have := HXL.out
            rw [HB13.out, HLT.out] at this
            exact this
          clear HXL HB13
          generalize dval (((l.take n).drop s).take 13) = v at *
          obtain ⟨hv0, hv1⟩ := hvb
          have h13a : ((13 : Int) < (n : Int) - s) := by omega
          have h13b : ((14 : Int) ≤ (n : Int) - s) := by omega
          by_cases hbig : v < 1099511627776
          · have HEX : Hid (expV ((l.take n).drop es') = v * 10 + (((bt l (s + 13)).toNat : Int) - 48)) := by
              unfold Hid
              rw [HXL2.out, if_pos ⟨by omega, hbig⟩]
            cases en with
            | true =>
              go_wp2_with (go_at_call 23; refine HDV.out.mono ?_; rintro e w' ⟨rfl, rfl⟩)
              go_meet
              exact ⟨rfl, -(v * 10 + (((bt l (s + 13)).toNat : Int) - 48)), rfl, by omega, by omega, by have := HPE.out; rw [HEX.out] at this; exact this⟩
            | false =>
              go_wp2_with (go_at_call 23; refine HDV.out.mono ?_; rintro e w' ⟨rfl, rfl⟩)
              go_meet
              exact ⟨rfl, v * 10 + (((bt l (s + 13)).toNat : Int) - 48), rfl, by omega, by omega, by have := HPE.out; rw [HEX.out] at this; exact this⟩
          · have HEX : Hid (expV ((l.take n).drop es') = v) := by
              unfold Hid
              rw [HXL2.out, if_neg (fun h => hbig h.2)]
            cases en with
            | true =>
              go_wp2_with (go_at_call 23; refine HDV.out.mono ?_; rintro e w' ⟨rfl, rfl⟩)
              go_meet
              exact ⟨rfl, -(v), rfl, by omega, by omega, by have := HPE.out; rw [HEX.out] at this; exact this⟩
            | false =>
              go_wp2_with (go_at_call 23; refine HDV.out.mono ?_; rintro e w' ⟨rfl, rfl⟩)
              go_meet
              exact ⟨rfl, v, rfl, by omega, by omega, by have := HPE.out; rw [HEX.out] at this; exact this⟩
    case rest =>
    obtain ⟨rfl, ev, rfl, q1, q2, HPX⟩ := hcut
    refine ‹∀ (a : Act) (w : World), Code.wp Tryd.prog (Code.seq (Code.region 104 _ _) _) _ a w → _› _ _ ?_
    have hm0 : 0 < la + 1 - f := by omega
    have HLD : Hid (((d.take (la + 1)).drop f).length = la + 1 - f) := mid_len d f (la + 1) (by rw [HDL.out]; omega)
    have HP : Hid (parseL l = some (NG l, (d.take (la + 1)).drop f, ev + ((we : Int) - ws) - f)) := by
      unfold Hid
      rw [HPX.out, fin_more (by rw [HWF.out, HNZ.out, HTR.out]; intro e; have := HLD.out; rw [e] at this; simp at this; omega), HWF.out, HNZ.out, HTR.out, HWL.out, HDL.out, List.length_drop, HDL.out]
      rw [show ((dl - (dl - f) : Nat) : Int) = f by omega, show ((we - ws : Nat) : Int) = (we : Int) - ws by omega]
    exact m5 b n ws we g f la (la + 1 - f) dl l d ((d.take (la + 1)).drop f) ev w _ hn0 hn hws hwe hdl (by omega) (by omega) hm0 hld q1 q2 (HC.out 0 hn0) (by unfold Hid; rw [NG_bt (by rw [HN.out]; exact hn0)]; exact decide_eq_decide.2 ⟨fun h => by rw [h]; rfl, fun h => byte_eq (d := 45) h⟩) HG HDL HLD (fun j hj => mid_bt d f (la + 1) j (by rw [HDL.out]; omega) hj) HP hbel hbs hgs _ _ _ _ _ _ _ _ _ _ _ _ _ _ _ _ _ _ _ _ _ _ _ _ _ _ _ _ _ _ _ _ _ _ _ _ _ _ _ _ _ _ _ _ _ _ _ _ _ _ _ _ _ _ _ _ _ _ _ _ _ _ _ _ _ _ _ _ _ _ _ _ _ _ _ _ _ _ _ _ _ _ _ _ _ _ _ _ _ _ _ _ _ _ _ _ _ _ _ _ _ _ _ _ _ _ _ _ _ _ _ _ _ _ _ _ _ _ _ _ _ _ _ _ _ _ _ _ _ _ _ _ _ _ _ _ _ _ _ _ _ _ _ _ _ _ _ _ _ _ _ _ _ _ _ _ _ _ _ _ _ _ _ _ _ _ _ _ _ _ _ _ _ _ _ _ _ _ _ _ _ _ _ _ _ _ _ _ _ _ _ _ _ _ _ _ _ _ _ _ _ _ _ _ _ _ _ _ _ _ _ _ _ _ _ _ _ _ _ _ _ _ _ _ _ _ _ _ _ _ _
end Go.Proofs.Qxb6600755aDoor
