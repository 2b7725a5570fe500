import Derived.Test.Qxb6600755aDoorParseA
namespace Go.Proofs.Qxb6600755aDoor
open Go.RowKit
set_option linter.unusedVariables false
set_option maxRecDepth 1000000

theorem trimZ_take (l : List UInt8) : trimZ l = l.take (trimZ l).length := by
  have h : trimZ l <+: l := by
    unfold trimZ
    have := List.dropWhile_suffix (fun c : UInt8 => c == 48) (l := l.reverse)
    have := List.reverse_prefix.2 this
    rw [List.reverse_reverse] at this
    exact this
  exact List.prefix_iff_eq_take.1 h
theorem bt_trimZ (l : List UInt8) (j : Nat) (h : j < (trimZ l).length) : bt (trimZ l) j = bt l j := by
  have h2 := trimZ_len l
  rw [bt_eq _ _ h, bt_eq _ _ (by omega)]
  have e := trimZ_take l
  have : (trimZ l)[j]? = (l.take (trimZ l).length)[j]? := by rw [← e]
  rw [List.getElem?_take_of_lt h, List.getElem?_eq_getElem h, List.getElem?_eq_getElem (by omega)] at this
  exact Option.some.inj this
theorem bt_drop (l : List UInt8) (z j : Nat) (h : z + j < l.length) : bt (l.drop z) j = bt l (z + j) := by
  rw [bt_eq _ _ (by rw [List.length_drop]; omega), bt_eq _ _ h]
  simp
theorem fin_zero {ng : Bool} {wh fr : List UInt8} {e : Int} (h : trimZ (noZ (wh ++ fr)) = []) : fin ng wh fr e = some (false, [], 0) := by unfold fin; rw [if_pos h]
theorem fin_more {ng : Bool} {wh fr : List UInt8} {e : Int} (h : trimZ (noZ (wh ++ fr)) ≠ []) : fin ng wh fr e = some (ng, trimZ (noZ (wh ++ fr)), e + wh.length - ((wh ++ fr).length - (noZ (wh ++ fr)).length : Nat)) := by unfold fin; rw [if_neg h]
theorem post_zero {l : List UInt8} {w w' : World} (HP : Hid (parseL l = some (false, [], 0))) (hb : Below w.heap.size w w') :
    ParsePost l w (.returned (.tuple #[.agg #[.bool false, .slice none 0 0, .int .i64 0], .bool true])) w' := ⟨hb, Or.inr ⟨false, .slice none 0 0, [], 0, HP, rfl, Or.inl ⟨rfl, rfl⟩⟩⟩
theorem cell_other (w : World) (p q : Addr) {v : Value} (h : q.block ≠ p.block) : (w.setCell p v).cell? q = w.cell? q := by
  exact World.cell?_setCell_other _ _ _ _ (fun e => h (by rw [e]))

set_option maxHeartbeats 4000000 in
theorem stage4 (b i0 wl wc g o dl dc : Nat) (l wh fr : List UInt8) (ng : Bool) (ex : Int) (w wx : World)
    (hwl : wl ≤ 1048576) (hdl : dl ≤ 1048576) (hdc : dl ≤ dc) (hdcm : dc ≤ 1048576) (hex1 : -10995116277769 ≤ ex) (hex2 : ex ≤ 10995116277769)
    (HWL : Hid (wh.length = wl)) (HDL : Hid ((wh ++ fr).length = dl)) (HB : Hid (Byt wx g o (wh ++ fr)))
    (hbel : Below w.heap.size w wx) (hgs : g < wx.heap.size) (hg1 : g ≠ w.heap.size) (hg2 : g ≠ w.heap.size + 1)
    (hR : wx.heap[w.heap.size]? = some (.cells #[.bool false, .slice none 0 0, .int .i64 0] 38 (0, 0))) (hD : wx.heap[w.heap.size + 1]? = some (.cells #[.bool ng, .slice none 0 0, .int .i64 0] 38 (0, 0)))
    (HP : Hid (parseL l = fin ng wh fr ex)) (u0 u1 u3 u5 u6 u8 u10 u12 u13 u14 u15 u16 u17 u18 u19 u20 u21 u22 u23 u24 u25 u26 u27 u28 u29 u30 u31 u32 u33 u34 u35 u36 u37 u38 u39 u40 u41 u42 u43 u44 u45 u46 u47 u48 u49 u50 u51 u52 u53 u54 u55 u56 u57 u58 u59 u60 u61 u62 u63 u64 u65 u66 u67 u68 u69 u70 u71 u72 u73 u74 u75 u76 u77 u78 u79 u80 u81 u82 u83 u84 u85 u86 u87 u88 u89 u90 u91 u92 u93 u94 u95 u96 u97 u98 u99 u100 u101 u102 u103 u104 u105 u106 u107 u108 u109 u110 u111 u112 u113 u114 u115 u116 u117 u118 u119 u120 u121 u122 u123 u124 u125 u126 u127 u128 u129 u130 u131 u132 u133 u134 u135 u136 u137 u138 u139 u140 u141 u142 u143 u144 u145 u146 u147 u148 u149 u150 u151 u152 u153 u154 u155 u156 u157 u158 u159 u160 u161 u162 u163 u164 u165 u166 u167 u168 u169 u170 u171 u172 u173 u174 u175 u176 u177 u178 u179 u180 u181 u182 u183 u184 u185 u186 u187 u188 u189 u190 u191 u192 u193 u194 u195 u196 u197 u198 u199 u200 u201 u202 u203 u204 u205 u206 u207 u208 u209 u210 u211 u212 u213 u214 u215 u216 u217 : Value) :
    Code.wp Tryd.prog (spine 15 (Tryd.f24.body.getD .skip)) (bodyPost Tryd.prog Tryd.f24 (ParsePost l w)) ⟨#[u0, u1, .pointer (some ⟨w.heap.size, 0, none⟩), u3, .pointer (some ⟨w.heap.size + 1, 0, none⟩), u5, u6, .slice (some ⟨b, i0, none⟩) wl wc, u8, .int .i64 ex, u10, .slice (some ⟨g, o, none⟩) dl dc, u12, u13, u14, u15, u16, u17, u18, u19, u20, u21, u22, u23, u24, u25, u26, u27, u28, u29, u30, u31, u32, u33, u34, u35, u36, u37, u38, u39, u40, u41, u42, u43, u44, u45, u46, u47, u48, u49, u50, u51, u52, u53, u54, u55, u56, u57, u58, u59, u60, u61, u62, u63, u64, u65, u66, u67, u68, u69, u70, u71, u72, u73, u74, u75, u76, u77, u78, u79, u80, u81, u82, u83, u84, u85, u86, u87, u88, u89, u90, u91, u92, u93, u94, u95, u96, u97, u98, u99, u100, u101, u102, u103, u104, u105, u106, u107, u108, u109, u110, u111, u112, u113, u114, u115, u116, u117, u118, u119, u120, u121, u122, u123, u124, u125, u126, u127, u128, u129, u130, u131, u132, u133, u134, u135, u136, u137, u138, u139, u140, u141, u142, u143, u144, u145, u146, u147, u148, u149, u150, u151, u152, u153, u154, u155, u156, u157, u158, u159, u160, u161, u162, u163, u164, u165, u166, u167, u168, u169, u170, u171, u172, u173, u174, u175, u176, u177, u178, u179, u180, u181, u182, u183, u184, u185, u186, u187, u188, u189, u190, u191, u192, u193, u194, u195, u196, u197, u198, u199, u200, u201, u202, u203, u204, u205, u206, u207, u208, u209, u210, u211, u212, u213, u214, u215, u216, u217], []⟩ wx := by
  have r0 : wx.cell? ⟨w.heap.size, 0, none⟩ = some (.bool false) := by simp [World.cell?, hR]
  have r1 : wx.cell? ⟨w.heap.size, 1, none⟩ = some (.slice none 0 0) := by simp [World.cell?, hR]
  have r2 : wx.cell? ⟨w.heap.size, 2, none⟩ = some (.int .i64 0) := by simp [World.cell?, hR]
  have d0 : wx.cell? ⟨w.heap.size + 1, 0, none⟩ = some (.bool ng) := by simp [World.cell?, hD]
  have d1 : wx.cell? ⟨w.heap.size + 1, 1, none⟩ = some (.slice none 0 0) := by simp [World.cell?, hD]
  have d2 : wx.cell? ⟨w.heap.size + 1, 2, none⟩ = some (.int .i64 0) := by simp [World.cell?, hD]
  have fr0 : wx.frozen? ⟨w.heap.size, 0, none⟩ = false := by simp [World.frozen?, hR]
  have fr1 : wx.frozen? ⟨w.heap.size, 1, none⟩ = false := by simp [World.frozen?, hR]
  have fr2 : wx.frozen? ⟨w.heap.size, 2, none⟩ = false := by simp [World.frozen?, hR]
  have fd1 : wx.frozen? ⟨w.heap.size + 1, 1, none⟩ = false := by simp [World.frozen?, hD]
  have fd2 : wx.frozen? ⟨w.heap.size + 1, 2, none⟩ = false := by simp [World.frozen?, hD]
  clear hR hD
  generalize hd : wh ++ fr = d at *
  conv => arg 2; whnf
  go_wp2_with fail
  go_loop [9, 11] (fun s9 s11 => ∃ (z m c' oo : Nat), s9 = .int .i64 (ex + wl - z) ∧ s11 = .slice (some ⟨g, oo, none⟩) m c' ∧ z + m ≤ dl ∧ dl ≤ z + m ∧ m ≤ c' ∧ c' ≤ 1048576 ∧ Hid (0 < m → oo = o + z) ∧ Hid (noZ (d.drop z) = noZ d)) (fun _ s11 => sliceLen s11)
  case atStart => exact ⟨0, dl, dc, o, by simp, rfl, by omega, by omega, hdc, hdcm, fun _ => rfl, by unfold Hid; rw [List.drop_zero]⟩
  case round =>
    obtain ⟨z, m, c', oo, rfl, rfl, hz1, hz2, hmc, hcm, HOO, HZ⟩ := hrel
    by_cases h0 : 0 < m
    · have ho : oo = o + z := HOO.out h0
      subst ho
      have hcell : wx.cell? ⟨g, o + z, none⟩ = some (.int .u8 (bt d z).toNat) := HB.out z (by rw [HDL.out]; omega)
      by_cases hz : (((bt d z).toNat : Int) == 48) = true
      · have HZ2 : Hid (noZ (d.drop (z + 1)) = noZ d) := by
          unfold Hid
          rw [← HZ.out, noZ_zero d z (by rw [HDL.out]; omega) (byte_eq (by simpa using hz))]
        obtain ⟨m', rfl⟩ : ∃ m', m = m' + 1 := ⟨m - 1, by omega⟩
        obtain ⟨c2, rfl⟩ : ∃ c2, c' = c2 + 1 := ⟨c' - 1, by omega⟩
        have hm1 : (1 : Int) ≤ (m' + 1 : Nat) := by omega
        by_cases hc2 : c2 = 0
        · go_wp2
          go_round
          case rel => exact ⟨z + 1, m', 0, o + z, by go_num, rfl, by omega, by omega, by omega, by omega, fun h => absurd h (by omega), HZ2⟩
          case measure => simp [sliceLen]
        · go_wp2
          go_round
          case rel => exact ⟨z + 1, m', c2, o + (z + 1), by go_num, rfl, by omega, by omega, by omega, by omega, fun h => rfl, HZ2⟩
          case measure => simp [sliceLen]
      · have hz' : (((bt d z).toNat : Int) == 48) = false := by simpa using hz
        have HNZ : Hid (noZ d = d.drop z) := HZ.out.symm.trans (noZ_stop d z (by rw [HDL.out]; omega) (byte_ne (by simpa using hz)))
        have HLZ : Hid ((d.drop z).length = m) := by unfold Hid; rw [List.length_drop, HDL.out]; omega
        have HTR : Hid (Calls Tryd.prog 27 #[.slice (some ⟨g, o + z, none⟩) m c', .string ⟨#[48]⟩] wx fun e w' => e = .returned (.slice (some ⟨g, o + z, none⟩) (trimZ (d.drop z)).length c') ∧ w' = wx) := by
          have := trimRight_any g (o + z) c' (d.drop z) wx (by rw [HLZ.out]; omega) (fun e => by have := HLZ.out; rw [e] at this; simp at this; omega) (by rw [HLZ.out]; exact hmc) (fun j hj => by
            rw [HLZ.out] at hj
            rw [bt_drop d z j (by rw [HDL.out]; omega), Nat.add_assoc]
            exact HB.out (z + j) (by rw [HDL.out]; omega))
          rwa [HLZ.out] at this
        have HTL : Hid ((trimZ (d.drop z)).length ≤ m) := by have := trimZ_len (d.drop z); rw [HLZ.out] at this; exact this
        clear hz
        generalize ht : (trimZ (d.drop z)).length = t at *
        have HT : Hid ((trimZ (d.drop z)).length = t) := ht
        clear ht
        have htm : t ≤ m := HTL.out
        clear HTL
        by_cases ht0 : t = 0
        · subst ht0
          go_wp2_with fail
          refine HTR.out.mono ?_
          rintro e w' ⟨rfl, rfl⟩
          go_wp2_with fail
          have HPZ : Hid (parseL l = some (false, [], 0)) := by
            unfold Hid
            rw [HP.out, fin_zero (by rw [hd, HNZ.out]; exact List.eq_nil_of_length_eq_zero HT.out)]
          exact bodyPost_ret (v := .tuple #[.agg #[.bool false, .slice none 0 0, .int .i64 0], .bool true]) (by simp [results, Tryd.results24, go_sem, r0, r1, r2]) rfl (post_zero HPZ (((hbel.setCell (p := ⟨w.heap.size, 0, none⟩) (Nat.le_refl _) _).setCell (p := ⟨w.heap.size, 1, none⟩) (Nat.le_refl _) _).setCell (p := ⟨w.heap.size, 2, none⟩) (Nat.le_refl _) _))
        · have htz : ((t : Int) == 0) = false := by simp; omega
          go_wp2_with fail
          refine HTR.out.mono ?_
          rintro e w' ⟨rfl, rfl⟩
          go_wp2_with fail
          have HPZ : Hid (parseL l = some (ng, trimZ (d.drop z), ex + wl - z)) := by
            unfold Hid
            rw [HP.out, fin_more (by rw [hd, HNZ.out]; intro e; have := HT.out; rw [e] at this; simp at this; omega), hd, HNZ.out, HWL.out, HLZ.out, HDL.out]
            rw [show dl - m = z by omega]
          refine bodyPost_ret (v := .tuple #[.agg #[.bool ng, .slice (some ⟨g, o + z, none⟩) t c', .int .i64 (ex + wl - z)], .bool true]) (by simp [results, Tryd.results24, go_sem, r0, r1, r2]) rfl ⟨?_, Or.inr ⟨_, _, _, _, HPZ, rfl, Or.inr ⟨g, o + z, c', ?_, ?_, fun j hj => ?_⟩⟩⟩
          · exact ((((hbel.setCell (p := ⟨w.heap.size + 1, 1, none⟩) (Nat.le_succ _) _).setCell (p := ⟨w.heap.size + 1, 2, none⟩) (Nat.le_succ _) _).setCell (p := ⟨w.heap.size, 0, none⟩) (Nat.le_refl _) _).setCell (p := ⟨w.heap.size, 1, none⟩) (Nat.le_refl _) _).setCell (p := ⟨w.heap.size, 2, none⟩) (Nat.le_refl _) _
          · rw [HT.out]
          · simpa using hgs
          · have hj2 : j < t := by rw [HT.out] at hj; exact hj
            rw [cell_other _ _ _ hg1, cell_other _ _ _ hg1, cell_other _ _ _ hg1, cell_other _ _ _ hg2, cell_other _ _ _ hg2, bt_trimZ _ j hj, bt_drop d z j (by rw [HDL.out]; omega), Nat.add_assoc]
            exact HB.out (z + j) (by rw [HDL.out]; omega)
    · have hm0 : m = 0 := by omega
      subst hm0
      clear h0
      go_wp2_with fail
      refine (trimRight_nil _ _ _).mono ?_
      rintro e w' ⟨rfl, rfl⟩
      go_wp2_with fail
      have HPZ : Hid (parseL l = some (false, [], 0)) := by
        unfold Hid
        rw [HP.out, fin_zero (by rw [hd, ← HZ.out, drop_nil d z (by rw [HDL.out]; omega)]; rfl)]
      exact bodyPost_ret (v := .tuple #[.agg #[.bool false, .slice none 0 0, .int .i64 0], .bool true]) (by simp [results, Tryd.results24, go_sem, r0, r1, r2]) rfl (post_zero HPZ (((hbel.setCell (p := ⟨w.heap.size, 0, none⟩) (Nat.le_refl _) _).setCell (p := ⟨w.heap.size, 1, none⟩) (Nat.le_refl _) _).setCell (p := ⟨w.heap.size, 2, none⟩) (Nat.le_refl _) _))
end Go.Proofs.Qxb6600755aDoor
