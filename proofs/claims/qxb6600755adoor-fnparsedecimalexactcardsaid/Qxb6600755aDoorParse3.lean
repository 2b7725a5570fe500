import Derived.Test.Qxb6600755aDoorParse4
namespace Go.Proofs.Qxb6600755aDoor
open Go.RowKit
set_option linter.unusedVariables false
set_option maxRecDepth 1000000

theorem byt_grown {w w1 : World} {b o : Nat} {l : List UInt8} (hg : ∀ k, k < w.heap.size → w1.heap[k]? = w.heap[k]?) (hb : b < w.heap.size) (h : Byt w b o l) : Byt w1 b o l := fun j hj => by
  rw [World.cell?_of_block (a := ⟨b, o + j, none⟩) (hg b hb)]
  exact h j hj
theorem cells_of {w : World} {b o : Nat} {l : List UInt8} (h : Byt w b o l) : ∀ j u, (l.map fun c => Value.int .u8 c.toNat)[j]? = some u → w.cell? ((⟨b, o, none⟩ : Addr).add j) = some u := fun j u hu => by
  rw [List.getElem?_map] at hu
  rcases Nat.lt_or_ge j l.length with hj | hj
  · rw [List.getElem?_eq_getElem hj] at hu
    rw [← Option.some.inj hu]
    have := h j hj
    rw [bt_eq l j hj] at this
    rw [show (⟨b, o, none⟩ : Addr).add j = ⟨b, o + j, none⟩ by simp [Addr.add]]
    exact this
  · rw [List.getElem?_eq_none hj] at hu
    cases hu
theorem byt_own {w : World} {base g n cap : Nat} {l : List UInt8} (h : w.ownsRow base 5 1 (.slice (some ⟨g, 0, none⟩) n cap) n (l.map fun c => Value.int .u8 c.toNat)) (hl : l.length = n) : Byt w g 0 l := fun j hj => by
  rw [Nat.zero_add, h.cellAt j (by omega), List.getElem?_map, List.getElem?_eq_getElem hj, bt_eq l j hj]
  rfl
theorem one_cells (l : List UInt8) : ∀ u ∈ l.map (fun c => Value.int .u8 c.toNat), u.oneCell' = true := fun u hu => by
  obtain ⟨c, _, rfl⟩ := List.mem_map.1 hu
  rfl

set_option maxHeartbeats 4000000 in
theorem stage3 (b i0 wl wk n i3 fl fc : Nat) (fa : Option Addr) (l wh fr : List UInt8) (ng : Bool) (ex : Int) (w wx : World)
    (hn : n ≤ 1048576) (hi3 : i3 ≤ n) (hwl : wl ≤ 1048576) (hwc : wl ≤ wk) (hwcm : wk ≤ 1048576) (hwf : wl + fl ≤ 1048576) (hex1 : -10995116277769 ≤ ex) (hex2 : ex ≤ 10995116277769)
    (HN : Hid (l.length = n)) (HWL : Hid (wh.length = wl)) (HBW : Hid (Byt wx b i0 wh))
    (HF : Hid ((fl = 0 ∧ fr = []) ∨ (fr.length = fl ∧ 0 < fl ∧ ∃ f0, fa = some ⟨b, f0, none⟩ ∧ Byt wx b f0 fr)))
    (hbel : Below w.heap.size w wx) (hbs : b < wx.heap.size) (hb1 : b ≠ w.heap.size) (hb2 : b ≠ w.heap.size + 1) (hws : w.heap.size + 1 < wx.heap.size)
    (hR : wx.heap[w.heap.size]? = some (.cells #[.bool false, .slice none 0 0, .int .i64 0] 38 (0, 0))) (hD : wx.heap[w.heap.size + 1]? = some (.cells #[.bool ng, .slice none 0 0, .int .i64 0] 38 (0, 0)))
    (HP : Hid (parseL l = if l.drop i3 = [] then fin ng wh fr ex else none)) (u1 u3 u6 u10 u11 u12 u13 u14 u15 u16 u17 u18 u19 u20 u21 u22 u23 u24 u25 u26 u27 u28 u29 u30 u31 u32 u33 u34 u35 u36 u37 u38 u39 u40 u41 u42 u43 u44 u45 u46 u47 u48 u49 u50 u51 u52 u53 u54 u55 u56 u57 u58 u59 u60 u61 u62 u63 u64 u65 u66 u67 u68 u69 u70 u71 u72 u73 u74 u75 u76 u77 u78 u79 u80 u81 u82 u83 u84 u85 u86 u87 u88 u89 u90 u91 u92 u93 u94 u95 u96 u97 u98 u99 u100 u101 u102 u103 u104 u105 u106 u107 u108 u109 u110 u111 u112 u113 u114 u115 u116 u117 u118 u119 u120 u121 u122 u123 u124 u125 u126 u127 u128 u129 u130 u131 u132 u133 u134 u135 u136 u137 u138 u139 u140 u141 u142 u143 u144 u145 u146 u147 u148 u149 u150 u151 u152 u153 u154 u155 u156 u157 u158 u159 u160 u161 u162 u163 u164 u165 u166 u167 u168 u169 u170 u171 u172 u173 u174 u175 u176 u177 u178 u179 u180 u181 u182 u183 u184 u185 u186 u187 u188 u189 u190 u191 u192 u193 u194 u195 u196 u197 u198 u199 u200 u201 u202 u203 u204 u205 u206 u207 u208 u209 u210 u211 u212 u213 u214 u215 u216 u217 : Value) :
    Code.wp Tryd.prog (spine 12 (Tryd.f24.body.getD .skip)) (bodyPost Tryd.prog Tryd.f24 (ParsePost l w)) ⟨#[.slice (some ⟨b, 0, none⟩) n n, u1, .pointer (some ⟨w.heap.size, 0, none⟩), u3, .pointer (some ⟨w.heap.size + 1, 0, none⟩), .int .i64 i3, u6, .slice (some ⟨b, i0, none⟩) wl wk, .slice fa fl fc, .int .i64 ex, u10, u11, u12, u13, u14, u15, u16, u17, u18, u19, u20, u21, u22, u23, u24, u25, u26, u27, u28, u29, u30, u31, u32, u33, u34, u35, u36, u37, u38, u39, u40, u41, u42, u43, u44, u45, u46, u47, u48, u49, u50, u51, u52, u53, u54, u55, u56, u57, u58, u59, u60, u61, u62, u63, u64, u65, u66, u67, u68, u69, u70, u71, u72, u73, u74, u75, u76, u77, u78, u79, u80, u81, u82, u83, u84, u85, u86, u87, u88, u89, u90, u91, u92, u93, u94, u95, u96, u97, u98, u99, u100, u101, u102, u103, u104, u105, u106, u107, u108, u109, u110, u111, u112, u113, u114, u115, u116, u117, u118, u119, u120, u121, u122, u123, u124, u125, u126, u127, u128, u129, u130, u131, u132, u133, u134, u135, u136, u137, u138, u139, u140, u141, u142, u143, u144, u145, u146, u147, u148, u149, u150, u151, u152, u153, u154, u155, u156, u157, u158, u159, u160, u161, u162, u163, u164, u165, u166, u167, u168, u169, u170, u171, u172, u173, u174, u175, u176, u177, u178, u179, u180, u181, u182, u183, u184, u185, u186, u187, u188, u189, u190, u191, u192, u193, u194, u195, u196, u197, u198, u199, u200, u201, u202, u203, u204, u205, u206, u207, u208, u209, u210, u211, u212, u213, u214, u215, u216, u217], []⟩ wx := by
  have r0 : wx.cell? ⟨w.heap.size, 0, none⟩ = some (.bool false) := by simp [World.cell?, hR]
  have r1 : wx.cell? ⟨w.heap.size, 1, none⟩ = some (.slice none 0 0) := by simp [World.cell?, hR]
  have r2 : wx.cell? ⟨w.heap.size, 2, none⟩ = some (.int .i64 0) := by simp [World.cell?, hR]
  have fr0 : wx.frozen? ⟨w.heap.size, 0, none⟩ = false := by simp [World.frozen?, hR]
  have fr1 : wx.frozen? ⟨w.heap.size, 1, none⟩ = false := by simp [World.frozen?, hR]
  have fr2 : wx.frozen? ⟨w.heap.size, 2, none⟩ = false := by simp [World.frozen?, hR]
  have HR := (show Hid _ from hR)
  have HD := (show Hid _ from hD)
  clear hR hD
  by_cases h3 : i3 = n
  · have HPS : Hid (parseL l = fin ng wh fr ex) := by
      unfold Hid
      rw [HP.out, if_pos (drop_nil l i3 (by rw [HN.out]; omega))]
    have h3b : (((i3 : Int) != (n : Int)) = false) := by simp [h3]
    conv => arg 2; whnf
    go_upto_if 179 with fail
    go_cut [11] from 171 to 189 (fun s11 wy => ∃ (g o dl dc : Nat), s11 = .slice (some ⟨g, o, none⟩) dl dc ∧ dl ≤ 1048576 ∧ dl ≤ dc ∧ dc ≤ 1048576 ∧ Hid ((wh ++ fr).length = dl) ∧ Hid (Byt wy g o (wh ++ fr)) ∧ Below w.heap.size w wy ∧ g < wy.heap.size ∧ g ≠ w.heap.size ∧ g ≠ w.heap.size + 1 ∧
      Hid (wy.heap[w.heap.size]? = some (.cells #[.bool false, .slice none 0 0, .int .i64 0] 38 (0, 0))) ∧ Hid (wy.heap[w.heap.size + 1]? = some (.cells #[.bool ng, .slice none 0 0, .int .i64 0] 38 (0, 0))))
    case first =>
      rcases HF.out with ⟨hf0, hfr⟩ | ⟨hfl, hf0, f0, hfa, hfb⟩
      · subst hf0
        have HWF : Hid (wh ++ fr = wh) := by unfold Hid; rw [hfr, List.append_nil]
        clear hfr
        go_wp2
        go_meet
        exact ⟨b, i0, wl, wk, rfl, hwl, hwc, hwcm, by rw [HWF.out]; exact HWL, by rw [HWF.out]; exact HBW, hbel, hbs, hb1, hb2, HR, HD⟩
      · subst hfa
        have HFL : Hid (fr.length = fl) := hfl
        have HBF : Hid (Byt wx b f0 fr) := hfb
        clear hfl hfb
        obtain ⟨nf, hi, hz0, hz1, hz2⟩ := info_parts infoByte
        go_wp2_with (at_make; refine wpList_make_own _ rfl _ _ 22 rfl w.heap.size 5 nf (.int .u8 0) 1 Tryd.underlying22 hi hz0 hz1 _ _ _ (wl + fl) rfl rfl ?c1 ?b1 ?b2 ?b3 ?_)
        case c1 => go_num
        case b1 => rw [hz2]; omega
        case b2 => unfold maxLen; omega
        case b3 => omega
        intro w1 hown hgrow
        have HR1 : Hid (w1.heap[w.heap.size]? = some (.cells #[.bool false, .slice none 0 0, .int .i64 0] 38 (0, 0))) := (hgrow.block _ (by omega) (fun h => by cases h)).trans HR.out
        have HD1 : Hid (w1.heap[w.heap.size + 1]? = some (.cells #[.bool ng, .slice none 0 0, .int .i64 0] 38 (0, 0))) := (hgrow.block _ (by omega) (fun h => by cases h)).trans HD.out
        have hbel1 : Below w.heap.size w w1 := hbel.grown hgrow (by omega) (fun k hk => by cases hk)
        have hxs1 : wx.heap.size ≤ w1.heap.size := hgrow.size
        have HB1 : Hid (∀ k, k < wx.heap.size → w1.heap[k]? = wx.heap[k]?) := fun k hk => hgrow.block k hk (fun h => by cases h)
        clear hgrow
        go_wp2_with (at_builtin; refine wpList_append_fits _ rfl (.tmp 185) (.tmp 186) 22 rfl w.heap.size 5 nf 1 Tryd.underlying22 hi hz1 wx.heap.size 0 (wl + fl) [] rfl hown ⟨b, i0, none⟩ wl wk (wh.map fun c => Value.int .u8 c.toNat) rfl ?a1 ?a2 ?a3 ?a4 ?_)
        case a1 => rw [List.length_map, HWL.out, Nat.mul_one]
        case a2 => exact cells_of (byt_grown HB1.out hbs HBW.out)
        case a3 => exact one_cells wh
        case a4 => omega
        intro w2 hown2 hgrow2
        have HR2 : Hid (w2.heap[w.heap.size]? = some (.cells #[.bool false, .slice none 0 0, .int .i64 0] 38 (0, 0))) := (hgrow2.block _ (by omega) (fun h => by have := Option.some.inj h; omega)).trans HR1.out
        have HD2 : Hid (w2.heap[w.heap.size + 1]? = some (.cells #[.bool ng, .slice none 0 0, .int .i64 0] 38 (0, 0))) := (hgrow2.block _ (by omega) (fun h => by have := Option.some.inj h; omega)).trans HD1.out
        have hbel2 : Below w.heap.size w w2 := hbel1.grown hgrow2 (by omega) (fun k hk => by have := Option.some.inj hk; omega)
        have hxs2 : wx.heap.size ≤ w2.heap.size := Nat.le_trans hxs1 hgrow2.size
        have HB2 : Hid (∀ k, k < wx.heap.size → w2.heap[k]? = wx.heap[k]?) := fun k hk => (hgrow2.block k (by omega) (fun h => by have := Option.some.inj h; omega)).trans (HB1.out k hk)
        clear hgrow2 HR1 HD1 hbel1 HB1 hown
        go_wp2_with (at_builtin; refine wpList_append_fits _ rfl (.tmp 187) (.tmp 188) 22 rfl w.heap.size 5 nf 1 Tryd.underlying22 hi hz1 wx.heap.size wl (wl + fl) _ rfl hown2 ⟨b, f0, none⟩ fl fc (fr.map fun c => Value.int .u8 c.toNat) rfl ?a1 ?a2 ?a3 ?a4 ?_)
        case a1 => rw [List.length_map, HFL.out, Nat.mul_one]
        case a2 => exact cells_of (byt_grown HB2.out hbs HBF.out)
        case a3 => exact one_cells fr
        case a4 => omega
        intro w3 hown3 hgrow3
        have HR3 : Hid (w3.heap[w.heap.size]? = some (.cells #[.bool false, .slice none 0 0, .int .i64 0] 38 (0, 0))) := (hgrow3.block _ (by omega) (fun h => by have := Option.some.inj h; omega)).trans HR2.out
        have HD3 : Hid (w3.heap[w.heap.size + 1]? = some (.cells #[.bool ng, .slice none 0 0, .int .i64 0] 38 (0, 0))) := (hgrow3.block _ (by omega) (fun h => by have := Option.some.inj h; omega)).trans HD2.out
        have hbel3 : Below w.heap.size w w3 := hbel2.grown hgrow3 (by omega) (fun k hk => by have := Option.some.inj hk; omega)
        have hxs3 : wx.heap.size ≤ w3.heap.size := Nat.le_trans hxs2 hgrow3.size
        clear hgrow3 HR2 HD2 hbel2 HB2 hown2
        have HLL : Hid ((wh ++ fr).length = wl + fl) := by unfold Hid; rw [List.length_append, HWL.out, HFL.out]
        have HO3 : Hid (w3.ownsRow w.heap.size 5 1 (.slice (some ⟨wx.heap.size, 0, none⟩) (wl + fl) (wl + fl)) (wl + fl) (List.map (fun c => Value.int .u8 c.toNat) wh ++ List.map (fun c => Value.int .u8 c.toNat) fr)) := hown3
        clear hown3
        have HBY : Hid (Byt w3 wx.heap.size 0 (wh ++ fr)) := by
          have := HO3.out
          rw [← List.map_append] at this
          exact byt_own this HLL.out
        have hgl : wx.heap.size < w3.heap.size := (HO3.out.lt _ rfl).2
        go_wp2
        go_meet
        exact ⟨wx.heap.size, 0, wl + fl, wl + fl, rfl, hwf, Nat.le_refl _, hwf, HLL, HBY, hbel3, hgl, by omega, by omega, HR3, HD3⟩
    case rest =>
    obtain ⟨g, o, dl, dc, rfl, q1, q2, q3, Q4, Q5, q6, q7, q8, q9, Q10, Q11⟩ := hcut
    refine ‹∀ (a : Act) (w : World), Code.wp Tryd.prog (Code.seq (Code.region 42 _ _) _) _ a w → _› _ _ ?_
    exact stage4 b i0 wl wk g o dl dc l wh fr ng ex w _ hwl q1 q2 q3 hex1 hex2 HWL Q4 Q5 q6 q7 q8 q9 Q10.out Q11.out HPS _ _ _ _ _ _ _ _ _ _ _ _ _ _ _ _ _ _ _ _ _ _ _ _ _ _ _ _ _ _ _ _ _ _ _ _ _ _ _ _ _ _ _ _ _ _ _ _ _ _ _ _ _ _ _ _ _ _ _ _ _ _ _ _ _ _ _ _ _ _ _ _ _ _ _ _ _ _ _ _ _ _ _ _ _ _ _ _ _ _ _ _ _ _ _ _ _ _ _ _ _ _ _ _ _ _ _ _ _ _ _ _ _ _ _ _ _ _ _ _ _ _ _ _ _ _ _ _ _ _ _ _ _ _ _ _ _ _ _ _ _ _ _ _ _ _ _ _ _ _ _ _ _ _ _ _ _ _ _ _ _ _ _ _ _ _ _ _ _ _ _ _ _ _ _ _ _ _ _ _ _ _ _ _ _ _ _ _ _ _ _ _ _ _ _ _ _ _ _ _ _ _ _ _ _ _ _ _ _ _ _ _ _
  · have HPN : Hid (parseL l = none) := by
      unfold Hid
      rw [HP.out, if_neg (fun e => by have := congrArg List.length e; rw [List.length_drop, HN.out] at this; simp at this; omega)]
    have h3b : (((i3 : Int) != (n : Int)) = true) := by simp; omega
    conv => arg 2; whnf
    go_wp2_with fail
    exact bodyPost_ret (v := .tuple #[.agg #[.bool false, .slice none 0 0, .int .i64 0], .bool false]) (by simp [results, Tryd.results24, go_sem, r0, r1, r2]) rfl (post_none HPN (((hbel.setCell (p := ⟨w.heap.size, 0, none⟩) (Nat.le_refl _) _).setCell (p := ⟨w.heap.size, 1, none⟩) (Nat.le_refl _) _).setCell (p := ⟨w.heap.size, 2, none⟩) (Nat.le_refl _) _))
end Go.Proofs.Qxb6600755aDoor
