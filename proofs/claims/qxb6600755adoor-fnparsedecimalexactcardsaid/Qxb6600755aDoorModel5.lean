import Derived.Test.Qxb6600755aDoorSmall
namespace Go.Proofs.Qxb6600755aDoor
open Go.RowKit
set_option linter.unusedVariables false
set_option maxRecDepth 1000000

def MPost (l : List UInt8) (w : World) (e : Ending) (w' : World) : Prop :=
  Below w.heap.size w w' ∧ ((Hid (parseL l = none) ∧ e = .returned (.tuple #[.bool false, .bool false, .slice none 0 0, .int .i64 0])) ∨
    ∃ (ng : Bool) (dv : Value) (ds : List UInt8) (ex : Int), Hid (parseL l = some (ng, ds, ex)) ∧ e = .returned (.tuple #[.bool true, .bool ng, dv, .int .i64 ex]) ∧ SlIs w' dv ds)

set_option maxHeartbeats 4000000 in
theorem m5 (b n ws we g f la m dl : Nat) (l d ds : List UInt8) (ev : Int) (w wx : World)
    (hn0 : 0 < n) (hn : n ≤ 1048576) (hws : ws ≤ we) (hwe : we ≤ n) (hdl : dl ≤ n) (hfm1 : f + m ≤ la + 1) (hfm2 : la + 1 ≤ f + m) (hm0 : 0 < m) (hla : la < dl)
    (hev1 : -10995116277769 ≤ ev) (hev2 : ev ≤ 10995116277769)
    (hc0 : wx.cell? ⟨b, 0, none⟩ = some (.int .u8 (bt l 0).toNat)) (HNG : Hid (NG l = decide (((bt l 0).toNat : Int) = 45)))
    (HG : Hid (Byt wx g 0 d)) (HDL : Hid (d.length = dl)) (HDS : Hid (ds.length = m)) (HBD : Hid (∀ j, j < m → bt ds j = bt d (f + j)))
    (HP : Hid (parseL l = some (NG l, ds, ev + ((we : Int) - ws) - f)))
    (hbel : Below w.heap.size w wx) (hbs : b < wx.heap.size) (hgs : g < wx.heap.size) (u1 u2 u3 u4 u5 u6 u9 u10 u11 u12 u13 u14 u15 u16 u17 u19 u20 u23 u25 u26 u27 u28 u29 u30 u31 u32 u33 u34 u35 u36 u37 u38 u39 u40 u41 u42 u43 u44 u45 u46 u47 u48 u49 u50 u51 u52 u53 u54 u55 u56 u57 u58 u59 u60 u61 u62 u63 u64 u65 u66 u67 u68 u69 u70 u71 u72 u73 u74 u75 u76 u77 u78 u79 u80 u81 u82 u83 u84 u85 u86 u87 u88 u89 u90 u91 u92 u93 u94 u95 u96 u97 u98 u99 u100 u101 u102 u103 u104 u105 u106 u107 u108 u109 u110 u111 u112 u113 u114 u115 u116 u117 u118 u119 u120 u121 u122 u123 u124 u125 u126 u127 u128 u129 u130 u131 u132 u133 u134 u135 u136 u137 u138 u139 u140 u141 u142 u143 u144 u145 u146 u147 u148 u149 u150 u151 u152 u153 u154 u155 u156 u157 u158 u159 u160 u161 u162 u163 u164 u165 u166 u167 u168 u169 u170 u171 u172 u173 u174 u175 u176 u177 u178 u179 u180 u181 u182 u183 u184 u185 u186 u187 u188 u189 u190 u191 u192 u193 u194 u195 u196 u197 u198 u199 u200 u201 u202 u203 u204 u205 u206 u207 u208 u209 u210 u211 u212 u213 u214 u215 u216 u217 u218 u219 u220 u221 u222 u223 u224 u225 u226 u227 u228 u229 u230 u231 u232 u233 u234 u235 u236 u237 : Value) :
    Code.wp Tryd.prog (spine 16 (Tryd.f11.body.getD .skip)) (bodyPost Tryd.prog Tryd.f11 (MPost l w)) ⟨#[.slice (some ⟨b, 0, none⟩) n n, u1, u2, u3, u4, u5, u6, .int .i64 ws, .int .i64 we, u9, u10, u11, u12, u13, u14, u15, u16, u17, .slice (some ⟨g, 0, none⟩) dl n, u19, u20, .int .i64 f, .int .i64 la, u23, .int .i64 ev, u25, u26, u27, u28, u29, u30, u31, u32, u33, u34, u35, u36, u37, u38, u39, u40, u41, u42, u43, u44, u45, u46, u47, u48, u49, u50, u51, u52, u53, u54, u55, u56, u57, u58, u59, u60, u61, u62, u63, u64, u65, u66, u67, u68, u69, u70, u71, u72, u73, u74, u75, u76, u77, u78, u79, u80, u81, u82, u83, u84, u85, u86, u87, u88, u89, u90, u91, u92, u93, u94, u95, u96, u97, u98, u99, u100, u101, u102, u103, u104, u105, u106, u107, u108, u109, u110, u111, u112, u113, u114, u115, u116, u117, u118, u119, u120, u121, u122, u123, u124, u125, u126, u127, u128, u129, u130, u131, u132, u133, u134, u135, u136, u137, u138, u139, u140, u141, u142, u143, u144, u145, u146, u147, u148, u149, u150, u151, u152, u153, u154, u155, u156, u157, u158, u159, u160, u161, u162, u163, u164, u165, u166, u167, u168, u169, u170, u171, u172, u173, u174, u175, u176, u177, u178, u179, u180, u181, u182, u183, u184, u185, u186, u187, u188, u189, u190, u191, u192, u193, u194, u195, u196, u197, u198, u199, u200, u201, u202, u203, u204, u205, u206, u207, u208, u209, u210, u211, u212, u213, u214, u215, u216, u217, u218, u219, u220, u221, u222, u223, u224, u225, u226, u227, u228, u229, u230, u231, u232, u233, u234, u235, u236, u237], []⟩ wx := by
  obtain ⟨nf, hi, hz0, hz1, hz2⟩ := info_parts infoByte
  conv => arg 2; whnf
  go_wp2_with (at_make; refine wpList_make_own _ rfl _ _ 22 rfl wx.heap.size 5 nf (.int .u8 0) 1 Tryd.underlying22 hi hz0 hz1 _ _ _ m rfl rfl ?c1 ?b1 ?b2 ?b3 ?_)
  case c1 => go_num
  case b1 => rw [hz2]; omega
  case b2 => unfold maxLen; omega
  case b3 => omega
  intro w1 hown hgrow
  have hbel1 : Below wx.heap.size wx w1 := (Below.refl _ _).grown hgrow (Nat.le_refl _) (fun k hk => by cases hk)
  clear hgrow
  go_wp2_with fail
  go_loopw [28, 29] (fun s28 s29 wr => ∃ (j k : Nat), s29 = .int .i64 k ∧ s28 = .slice (some ⟨wx.heap.size, 0, none⟩) j m ∧ j ≤ m ∧ f + j ≤ k ∧ k ≤ f + j ∧ wr.ownsRow wx.heap.size 5 1 (.slice (some ⟨wx.heap.size, 0, none⟩) j m) j ((ds.take j).map fun c => Value.int .u8 c.toNat) ∧ Below wx.heap.size wx wr) (fun _ s29 _ => la + 1 - (intOf s29).toNat)
  case atStart => exact ⟨0, f, rfl, rfl, Nat.zero_le _, by omega, by omega, hown, hbel1⟩
  case round =>
    clear hown hbel1
    obtain ⟨j, k, rfl, rfl, hjm, hk1, hk2, hownr, hbw⟩ := hrel
    by_cases hlt : (k : Int) ≤ la
    · have hkd : k < dl := by omega
      have hck : wr.cell? ⟨g, k, none⟩ = some (.int .u8 (bt d k).toNat) := by
        rw [hbw.cell (p := ⟨g, k, none⟩) hgs]
        have := HG.out k (by rw [HDL.out]; exact hkd)
        rwa [Nat.zero_add] at this
      have HT : Hid (ds.take (j + 1) = ds.take j ++ [bt d k]) := by
        unfold Hid
        rw [take_bt ds j (by rw [HDS.out]; omega), HBD.out j (by omega), show f + j = k by omega]
      go_wp2_with (at_builtin; refine wpList_append_fits _ rfl _ _ 22 rfl wx.heap.size 5 nf 1 Tryd.underlying22 hi hz1 wx.heap.size j m _ rfl (hownr.alloc _) ⟨wr.heap.size, 0, none⟩ 1 1 [.int .u8 (bt d k).toNat] rfl rfl ?a2 ?a3 ?a4 ?_)
      case a2 =>
        intro j u hj
        match j, hj with
        | 0, hj => simp at hj; subst hj; simp [Addr.add]
      case a3 => intro u hu; simp at hu; subst hu; rfl
      case a4 => omega
      intro w2 hown2 hgrow2
      have HO2 : Hid (w2.ownsRow wx.heap.size 5 1 (.slice (some ⟨wx.heap.size, 0, none⟩) (j + 1) m) (j + 1) ((ds.take (j + 1)).map fun c => Value.int .u8 c.toNat)) := by
        unfold Hid
        rw [HT.out, List.map_append, List.map_take]
        exact hown2
      have hbw2 : Below wx.heap.size wx w2 := (hbw.alloc hbw.size _).grown hgrow2 (by have := hbw.size; simp; omega) (fun k hk => by have := Option.some.inj hk; omega)
      clear hown2 hgrow2 hownr
      go_wp2
      go_roundw
      case rel => exact ⟨j + 1, k + 1, by go_num, rfl, by omega, by omega, by omega, HO2.out, hbw2⟩
      case measure => simp [intOf]; omega
    · have hjm2 : j = m := by omega
      subst hjm2
      have HSL : Hid (SlIs wr (.slice (some ⟨wx.heap.size, 0, none⟩) j j) ds) := by
        refine Or.inr ⟨wx.heap.size, 0, j, by rw [HDS.out], (hownr.lt _ rfl).2, ?_⟩
        have := hownr
        rw [List.take_of_length_le (by rw [HDS.out]; exact Nat.le_refl _)] at this
        exact byt_own this HDS.out
      have hbw' : Below w.heap.size w wr := hbel.trans (hbw.mono hbel.size)
      have hcr : wr.cell? ⟨b, 0, none⟩ = some (.int .u8 (bt l 0).toNat) := (hbw.cell (p := ⟨b, 0, none⟩) hbs).trans hc0
      clear hownr
      by_cases h45 : (((bt l 0).toNat : Int) == 45) = true
      · have HNT : Hid (NG l = true) := by
          unfold Hid
          rw [HNG.out]
          exact decide_eq_true (by simpa using h45)
        go_wp2_with fail
        go_quiet (fail)
        go_wp2
        refine bodyPost_ret (v := .tuple #[.bool true, .bool true, .slice (some ⟨wx.heap.size, 0, none⟩) j j, .int .i64 (ev + ((we : Int) - ws) - f)]) (by simp [results, Tryd.results11, go_sem]) rfl ⟨below_drewN hbw' _, Or.inr ⟨_, _, _, _, HP, by rw [HNT.out], ?_⟩⟩
        exact HSL.out.below (below_drewN (Below.refl _ _) _)
      · have h45' : (((bt l 0).toNat : Int) == 45) = false := by simpa using h45
        have HNT : Hid (NG l = false) := by
          unfold Hid
          rw [HNG.out]
          exact decide_eq_false (by simpa using h45)
        clear h45
        go_wp2_with fail
        go_quiet (fail)
        go_wp2
        refine bodyPost_ret (v := .tuple #[.bool true, .bool false, .slice (some ⟨wx.heap.size, 0, none⟩) j j, .int .i64 (ev + ((we : Int) - ws) - f)]) (by simp [results, Tryd.results11, go_sem]) rfl ⟨below_drewN hbw' _, Or.inr ⟨_, _, _, _, HP, by rw [HNT.out], ?_⟩⟩
        exact HSL.out.below (below_drewN (Below.refl _ _) _)
end Go.Proofs.Qxb6600755aDoor
