import Derived.Test.Qxb6600755aDoorModel4
namespace Go.Proofs.Qxb6600755aDoor
open Go.RowKit
set_option linter.unusedVariables false
set_option maxRecDepth 1000000

def vals (l : List UInt8) : List Value := l.map fun c => Value.int .u8 c.toNat
theorem vals_append (a b : List UInt8) : vals (a ++ b) = vals a ++ vals b := List.map_append

set_option maxHeartbeats 4000000 in
theorem m3b (b n ws we g dl : Nat) (l d wh fr : List UInt8) (en : Bool) (es ee : Int) (w wx : World)
    (hn0 : 0 < n) (hn : n ≤ 1048576) (hws : ws ≤ we) (hwe : we ≤ n) (hdl : dl ≤ n)
    (HN : Hid (l.length = n)) (HC : Hid (∀ j, j < n → wx.cell? ⟨b, j, none⟩ = some (.int .u8 (bt l j).toNat)))
    (HG : Hid (Byt wx g 0 d)) (HDL : Hid (d.length = dl)) (HWF : Hid (wh ++ fr = d)) (HWL : Hid (wh.length = we - ws))
    (HE : Hid ((es = -1 ∧ parseL l = fin (NG l) wh fr 0) ∨ ∃ es' : Nat, es = es' ∧ es' < n ∧ ee = n ∧ Dgs l es' n ∧ parseL l = fin (NG l) wh fr (if en then -(expV ((l.take n).drop es')) else expV ((l.take n).drop es'))))
    (hbel : Below w.heap.size w wx) (hbs : b < wx.heap.size) (hgs : g < wx.heap.size) (u1 u2 u3 u4 u5 u6 u9 u10 u14 u15 u16 u17 u19 u20 u21 u22 u23 u24 u25 u26 u27 u28 u29 u30 u31 u32 u33 u34 u35 u36 u37 u38 u39 u40 u41 u42 u43 u44 u45 u46 u47 u48 u49 u50 u51 u52 u53 u54 u55 u56 u57 u58 u59 u60 u61 u62 u63 u64 u65 u66 u67 u68 u69 u70 u71 u72 u73 u74 u75 u76 u77 u78 u79 u80 u81 u82 u83 u84 u85 u86 u87 u88 u89 u90 u91 u92 u93 u94 u95 u96 u97 u98 u99 u100 u101 u102 u103 u104 u105 u106 u107 u108 u109 u110 u111 u112 u113 u114 u115 u116 u117 u118 u119 u120 u121 u122 u123 u124 u125 u126 u127 u128 u129 u130 u131 u132 u133 u134 u135 u136 u137 u138 u139 u140 u141 u142 u143 u144 u145 u146 u147 u148 u149 u150 u151 u152 u153 u154 u155 u156 u157 u158 u159 u160 u161 u162 u163 u164 u165 u166 u167 u168 u169 u170 u171 u172 u173 u174 u175 u176 u177 u178 u179 u180 u181 u182 u183 u184 u185 u186 u187 u188 u189 u190 u191 u192 u193 u194 u195 u196 u197 u198 u199 u200 u201 u202 u203 u204 u205 u206 u207 u208 u209 u210 u211 u212 u213 u214 u215 u216 u217 u218 u219 u220 u221 u222 u223 u224 u225 u226 u227 u228 u229 u230 u231 u232 u233 u234 u235 u236 u237 : Value) :
    Code.wp Tryd.prog (spine 11 (Tryd.f11.body.getD .skip)) (bodyPost Tryd.prog Tryd.f11 (MPost l w)) ⟨#[.slice (some ⟨b, 0, none⟩) n n, u1, u2, u3, u4, u5, u6, .int .i64 ws, .int .i64 we, u9, u10, .bool en, .int .i64 es, .int .i64 ee, u14, u15, u16, u17, .slice (some ⟨g, 0, none⟩) dl n, u19, u20, u21, u22, u23, u24, u25, u26, u27, u28, u29, u30, u31, u32, u33, u34, u35, u36, u37, u38, u39, u40, u41, u42, u43, u44, u45, u46, u47, u48, u49, u50, u51, u52, u53, u54, u55, u56, u57, u58, u59, u60, u61, u62, u63, u64, u65, u66, u67, u68, u69, u70, u71, u72, u73, u74, u75, u76, u77, u78, u79, u80, u81, u82, u83, u84, u85, u86, u87, u88, u89, u90, u91, u92, u93, u94, u95, u96, u97, u98, u99, u100, u101, u102, u103, u104, u105, u106, u107, u108, u109, u110, u111, u112, u113, u114, u115, u116, u117, u118, u119, u120, u121, u122, u123, u124, u125, u126, u127, u128, u129, u130, u131, u132, u133, u134, u135, u136, u137, u138, u139, u140, u141, u142, u143, u144, u145, u146, u147, u148, u149, u150, u151, u152, u153, u154, u155, u156, u157, u158, u159, u160, u161, u162, u163, u164, u165, u166, u167, u168, u169, u170, u171, u172, u173, u174, u175, u176, u177, u178, u179, u180, u181, u182, u183, u184, u185, u186, u187, u188, u189, u190, u191, u192, u193, u194, u195, u196, u197, u198, u199, u200, u201, u202, u203, u204, u205, u206, u207, u208, u209, u210, u211, u212, u213, u214, u215, u216, u217, u218, u219, u220, u221, u222, u223, u224, u225, u226, u227, u228, u229, u230, u231, u232, u233, u234, u235, u236, u237], []⟩ wx := by
  conv => arg 2; whnf
  go_upto_block 8 with fail
  go_cut [21, 22] from 145 to 159 (fun s21 s22 wy => wx = wy ∧ ∃ first last : Int, s21 = .int .i64 first ∧ s22 = .int .i64 last ∧ Hid (FL d dl first last))
  case first =>
    go_wp2_with fail
    go_loop [21, 22, 23] (fun s21 s22 s23 => ∃ (k : Nat) (first last : Int), s23 = .int .i64 k ∧ s21 = .int .i64 first ∧ s22 = .int .i64 last ∧ k ≤ dl ∧ Hid (FL d k first last)) (fun _ _ s23 => dl - (intOf s23).toNat)
    case atStart => exact ⟨0, -1, -1, rfl, rfl, rfl, Nat.zero_le _, FL.zero d⟩
    case round =>
      obtain ⟨k, first, last, rfl, rfl, rfl, hkd, HFL⟩ := hrel
      by_cases hlt : k < dl
      · have hck : wx.cell? ⟨g, k, none⟩ = some (.int .u8 (bt d k).toNat) := by
          have := HG.out k (by rw [HDL.out]; exact hlt)
          rwa [Nat.zero_add] at this
        by_cases h48 : (((bt d k).toNat : Int) == 48) = true
        · have HF2 : Hid (FL d (k + 1) first last) := by
            have e48 : bt d k = 48 := byte_eq (by simpa using h48)
            have hk2 : k < d.length := by rw [HDL.out]; exact hlt
            rcases HFL.out with ⟨rfl, rfl, hz⟩ | ⟨f, la, rfl, rfl, h1, h2, h3, h4⟩
            · exact FL_zero_none hk2 hz e48
            · exact FL_zero hk2 h1 h2 h3 h4 e48
          have h48n : (((bt d k).toNat : Int) != 48) = false := by simpa using h48
          clear h48
          go_wp2
          go_round
          case rel => exact ⟨k + 1, first, last, by go_num, rfl, rfl, by omega, HF2⟩
          case measure => simp [intOf]; omega
        · have hne : bt d k ≠ 48 := byte_ne (by simpa using h48)
          have HNE : Hid (bt d k ≠ 48) := hne
          have h48n : (((bt d k).toNat : Int) != 48) = true := by simpa using h48
          have hk2 : k < d.length := by rw [HDL.out]; exact hlt
          clear h48 hne
          rcases HFL.out with ⟨rfl, rfl, hz⟩ | ⟨f, la, rfl, rfl, h1, h2, h3, h4⟩
          · have HF2 : Hid (FL d (k + 1) k k) := FL_new hk2 hz HNE.out
            clear hz hk2
            go_wp2
            go_round
            case rel => exact ⟨k + 1, k, k, by go_num, rfl, rfl, by omega, HF2⟩
            case measure => simp [intOf]; omega
          · have HF2 : Hid (FL d (k + 1) f k) := FL_more hk2 h1 h2 h3 HNE.out
            have hf0 : ¬ ((f : Int) < 0) := by omega
            clear h3 h4 hk2
            go_wp2
            go_round
            case rel => exact ⟨k + 1, f, k, by go_num, rfl, rfl, by omega, HF2⟩
            case measure => simp [intOf]; omega
      · have HF2 : Hid (FL d dl first last) := by
          have : k = dl := by omega
          rw [← this]; exact HFL
        go_wp2
        go_meet
        exact ⟨rfl, first, last, rfl, rfl, HF2⟩
  case rest =>
  obtain ⟨rfl, first, last, rfl, rfl, HFL⟩ := hcut
  refine ‹∀ (a : Act) (w : World), Code.wp Tryd.prog (Code.seq (Code.seq (Code.region 88 _ _) _) _) _ a w → _› _ _ ?_
  exact m4 b n ws we g dl l d wh fr en es ee first last w _ hn0 hn hws hwe hdl HN HC HG HDL HFL HWF HWL HE hbel hbs hgs _ _ _ _ _ _ _ _ _ _ _ _ _ _ _ _ _ _ _ _ _ _ _ _ _ _ _ _ _ _ _ _ _ _ _ _ _ _ _ _ _ _ _ _ _ _ _ _ _ _ _ _ _ _ _ _ _ _ _ _ _ _ _ _ _ _ _ _ _ _ _ _ _ _ _ _ _ _ _ _ _ _ _ _ _ _ _ _ _ _ _ _ _ _ _ _ _ _ _ _ _ _ _ _ _ _ _ _ _ _ _ _ _ _ _ _ _ _ _ _ _ _ _ _ _ _ _ _ _ _ _ _ _ _ _ _ _ _ _ _ _ _ _ _ _ _ _ _ _ _ _ _ _ _ _ _ _ _ _ _ _ _ _ _ _ _ _ _ _ _ _ _ _ _ _ _ _ _ _ _ _ _ _ _ _ _ _ _ _ _ _ _ _ _ _ _ _ _ _ _ _ _ _ _ _ _ _ _ _ _ _ _ _ _ _ _ _ _ _ _ _ _ _ _ _ _ _ _ _

set_option maxHeartbeats 4000000 in
theorem m3 (b n ws we fs fe wl fl : Nat) (l wh fr : List UInt8) (en : Bool) (es ee : Int) (w wx : World)
    (hn0 : 0 < n) (hn : n ≤ 1048576) (hwe : we ≤ n) (hfe : fe ≤ n) (hwl1 : ws + wl ≤ we) (hwl2 : we ≤ ws + wl) (hfl1 : fs + fl ≤ fe) (hfl2 : fe ≤ fs + fl) (hdl : wl + fl ≤ n)
    (HN : Hid (l.length = n)) (HC : Hid (∀ j, j < n → wx.cell? ⟨b, j, none⟩ = some (.int .u8 (bt l j).toNat)))
    (HWL : Hid (wh.length = wl)) (HFL : Hid (fr.length = fl)) (HBW : Hid (∀ j, j < wl → bt wh j = bt l (ws + j))) (HBF : Hid (∀ j, j < fl → bt fr j = bt l (fs + j)))
    (HE : Hid ((es = -1 ∧ parseL l = fin (NG l) wh fr 0) ∨ ∃ es' : Nat, es = es' ∧ es' < n ∧ ee = n ∧ Dgs l es' n ∧ parseL l = fin (NG l) wh fr (if en then -(expV ((l.take n).drop es')) else expV ((l.take n).drop es'))))
    (hbel : Below w.heap.size w wx) (hbs : b < wx.heap.size) (u1 u2 u3 u4 u5 u6 u14 u15 u16 u17 u18 u19 u20 u21 u22 u23 u24 u25 u26 u27 u28 u29 u30 u31 u32 u33 u34 u35 u36 u37 u38 u39 u40 u41 u42 u43 u44 u45 u46 u47 u48 u49 u50 u51 u52 u53 u54 u55 u56 u57 u58 u59 u60 u61 u62 u63 u64 u65 u66 u67 u68 u69 u70 u71 u72 u73 u74 u75 u76 u77 u78 u79 u80 u81 u82 u83 u84 u85 u86 u87 u88 u89 u90 u91 u92 u93 u94 u95 u96 u97 u98 u99 u100 u101 u102 u103 u104 u105 u106 u107 u108 u109 u110 u111 u112 u113 u114 u115 u116 u117 u118 u119 u120 u121 u122 u123 u124 u125 u126 u127 u128 u129 u130 u131 u132 u133 u134 u135 u136 u137 u138 u139 u140 u141 u142 u143 u144 u145 u146 u147 u148 u149 u150 u151 u152 u153 u154 u155 u156 u157 u158 u159 u160 u161 u162 u163 u164 u165 u166 u167 u168 u169 u170 u171 u172 u173 u174 u175 u176 u177 u178 u179 u180 u181 u182 u183 u184 u185 u186 u187 u188 u189 u190 u191 u192 u193 u194 u195 u196 u197 u198 u199 u200 u201 u202 u203 u204 u205 u206 u207 u208 u209 u210 u211 u212 u213 u214 u215 u216 u217 u218 u219 u220 u221 u222 u223 u224 u225 u226 u227 u228 u229 u230 u231 u232 u233 u234 u235 u236 u237 : Value) :
    Code.wp Tryd.prog (spine 8 (Tryd.f11.body.getD .skip)) (bodyPost Tryd.prog Tryd.f11 (MPost l w)) ⟨#[.slice (some ⟨b, 0, none⟩) n n, u1, u2, u3, u4, u5, u6, .int .i64 ws, .int .i64 we, .int .i64 fs, .int .i64 fe, .bool en, .int .i64 es, .int .i64 ee, u14, u15, u16, u17, u18, u19, u20, u21, u22, u23, u24, u25, u26, u27, u28, u29, u30, u31, u32, u33, u34, u35, u36, u37, u38, u39, u40, u41, u42, u43, u44, u45, u46, u47, u48, u49, u50, u51, u52, u53, u54, u55, u56, u57, u58, u59, u60, u61, u62, u63, u64, u65, u66, u67, u68, u69, u70, u71, u72, u73, u74, u75, u76, u77, u78, u79, u80, u81, u82, u83, u84, u85, u86, u87, u88, u89, u90, u91, u92, u93, u94, u95, u96, u97, u98, u99, u100, u101, u102, u103, u104, u105, u106, u107, u108, u109, u110, u111, u112, u113, u114, u115, u116, u117, u118, u119, u120, u121, u122, u123, u124, u125, u126, u127, u128, u129, u130, u131, u132, u133, u134, u135, u136, u137, u138, u139, u140, u141, u142, u143, u144, u145, u146, u147, u148, u149, u150, u151, u152, u153, u154, u155, u156, u157, u158, u159, u160, u161, u162, u163, u164, u165, u166, u167, u168, u169, u170, u171, u172, u173, u174, u175, u176, u177, u178, u179, u180, u181, u182, u183, u184, u185, u186, u187, u188, u189, u190, u191, u192, u193, u194, u195, u196, u197, u198, u199, u200, u201, u202, u203, u204, u205, u206, u207, u208, u209, u210, u211, u212, u213, u214, u215, u216, u217, u218, u219, u220, u221, u222, u223, u224, u225, u226, u227, u228, u229, u230, u231, u232, u233, u234, u235, u236, u237], []⟩ wx := by
  obtain ⟨nf, hi, hz0, hz1, hz2⟩ := info_parts infoByte
  conv => arg 2; whnf
  go_wp2_with (at_make; refine wpList_make_own _ rfl _ _ 22 rfl wx.heap.size 5 nf (.int .u8 0) 1 Tryd.underlying22 hi hz0 hz1 _ _ _ n rfl rfl ?c1 ?b1 ?b2 ?b3 ?_)
  case c1 => go_num
  case b1 => rw [hz2]; omega
  case b2 => unfold maxLen; omega
  case b3 => omega
  intro w1 hown hgrow
  have hbel1 : Below wx.heap.size wx w1 := (Below.refl _ _).grown hgrow (Nat.le_refl _) (fun k hk => by cases hk)
  clear hgrow
  go_upto_block 4 with fail
  go_cut [18] from 120 to 131 (fun s18 wy => s18 = .slice (some ⟨wx.heap.size, 0, none⟩) wl n ∧ wy.ownsRow wx.heap.size 5 1 (.slice (some ⟨wx.heap.size, 0, none⟩) wl n) wl (vals wh) ∧ Below wx.heap.size wx wy)
  case first =>
    go_wp2_with fail
    go_loopw [18, 19] (fun s18 s19 wr => ∃ (j k : Nat), s19 = .int .i64 k ∧ s18 = .slice (some ⟨wx.heap.size, 0, none⟩) j n ∧ j ≤ wl ∧ ws + j ≤ k ∧ k ≤ ws + j ∧ wr.ownsRow wx.heap.size 5 1 (.slice (some ⟨wx.heap.size, 0, none⟩) j n) j (vals (wh.take j)) ∧ Below wx.heap.size wx wr) (fun _ s19 _ => we - (intOf s19).toNat)
    case atStart => exact ⟨0, ws, rfl, rfl, Nat.zero_le _, by omega, by omega, hown, hbel1⟩
    case round =>
      clear hown hbel1
      obtain ⟨j, k, rfl, rfl, hjm, hk1, hk2, hownr, hbw⟩ := hrel
      by_cases hlt : k < we
      · have hck : wr.cell? ⟨b, k, none⟩ = some (.int .u8 (bt l k).toNat) := (hbw.cell (p := ⟨b, k, none⟩) hbs).trans (HC.out k (by omega))
        have HT : Hid (vals (wh.take (j + 1)) = vals (wh.take j) ++ [.int .u8 (bt l k).toNat]) := by
          unfold Hid
          rw [take_bt wh j (by rw [HWL.out]; omega), HBW.out j (by omega), show ws + j = k by omega, vals_append]
          rfl
        go_wp2_with (at_builtin; refine wpList_append_fits _ rfl _ _ 22 rfl wx.heap.size 5 nf 1 Tryd.underlying22 hi hz1 wx.heap.size j n _ rfl (hownr.alloc _) ⟨wr.heap.size, 0, none⟩ 1 1 [.int .u8 (bt l k).toNat] rfl rfl ?a2 ?a3 ?a4 ?_)
        case a2 =>
          intro j u hj
          match j, hj with
          | 0, hj => simp at hj; subst hj; simp [Addr.add]
        case a3 => intro u hu; simp at hu; subst hu; rfl
        case a4 => omega
        intro w2 hown2 hgrow2
        have HO2 : Hid (w2.ownsRow wx.heap.size 5 1 (.slice (some ⟨wx.heap.size, 0, none⟩) (j + 1) n) (j + 1) (vals (wh.take (j + 1)))) := by
          unfold Hid
          rw [HT.out]
          exact hown2
        have hbw2 : Below wx.heap.size wx w2 := (hbw.alloc hbw.size _).grown hgrow2 (by have := hbw.size; simp; omega) (fun k hk => by have := Option.some.inj hk; omega)
        clear hown2 hgrow2 hownr
        go_wp2
        go_roundw
        case rel => exact ⟨j + 1, k + 1, by go_num, rfl, by omega, by omega, by omega, HO2.out, hbw2⟩
        case measure => simp [intOf]; omega
      · have hjm2 : j = wl := by omega
        have HO2 : Hid (wr.ownsRow wx.heap.size 5 1 (.slice (some ⟨wx.heap.size, 0, none⟩) wl n) wl (vals wh)) := by
          have := hownr
          rw [hjm2, List.take_of_length_le (by rw [HWL.out]; exact Nat.le_refl _)] at this
          exact this
        clear hownr
        go_wp2
        go_meet
        exact ⟨by rw [hjm2], HO2.out, hbw⟩
  case rest =>
  clear hown hbel1
  obtain ⟨rfl, hown1, hbel1⟩ := hcut
  go_upto_block 6 with fail
  go_cut [18] from 133 to 144 (fun s18 wy => s18 = .slice (some ⟨wx.heap.size, 0, none⟩) (wl + fl) n ∧ wy.ownsRow wx.heap.size 5 1 (.slice (some ⟨wx.heap.size, 0, none⟩) (wl + fl) n) (wl + fl) (vals (wh ++ fr)) ∧ Below wx.heap.size wx wy)
  case first =>
    go_wp2_with fail
    go_loopw [18, 20] (fun s18 s20 wr => ∃ (j k : Nat), s20 = .int .i64 k ∧ s18 = .slice (some ⟨wx.heap.size, 0, none⟩) (wl + j) n ∧ j ≤ fl ∧ fs + j ≤ k ∧ k ≤ fs + j ∧ wr.ownsRow wx.heap.size 5 1 (.slice (some ⟨wx.heap.size, 0, none⟩) (wl + j) n) (wl + j) (vals (wh ++ fr.take j)) ∧ Below wx.heap.size wx wr) (fun _ s20 _ => fe - (intOf s20).toNat)
    case atStart => exact ⟨0, fs, rfl, rfl, Nat.zero_le _, by omega, by omega, by simpa using hown1, hbel1⟩
    case round =>
      clear hown1 hbel1
      obtain ⟨j, k, rfl, rfl, hjm, hk1, hk2, hownr, hbw⟩ := hrel
      by_cases hlt : k < fe
      · have hck : wr.cell? ⟨b, k, none⟩ = some (.int .u8 (bt l k).toNat) := (hbw.cell (p := ⟨b, k, none⟩) hbs).trans (HC.out k (by omega))
        have HT : Hid (vals (wh ++ fr.take (j + 1)) = vals (wh ++ fr.take j) ++ [.int .u8 (bt l k).toNat]) := by
          unfold Hid
          rw [take_bt fr j (by rw [HFL.out]; omega), HBF.out j (by omega), show fs + j = k by omega, ← List.append_assoc, vals_append]
          rfl
        go_wp2_with (at_builtin; refine wpList_append_fits _ rfl _ _ 22 rfl wx.heap.size 5 nf 1 Tryd.underlying22 hi hz1 wx.heap.size (wl + j) n _ rfl (hownr.alloc _) ⟨wr.heap.size, 0, none⟩ 1 1 [.int .u8 (bt l k).toNat] rfl rfl ?a2 ?a3 ?a4 ?_)
        case a2 =>
          intro j u hj
          match j, hj with
          | 0, hj => simp at hj; subst hj; simp [Addr.add]
        case a3 => intro u hu; simp at hu; subst hu; rfl
        case a4 => omega
        intro w2 hown2 hgrow2
        have HO2 : Hid (w2.ownsRow wx.heap.size 5 1 (.slice (some ⟨wx.heap.size, 0, none⟩) (wl + j + 1) n) (wl + j + 1) (vals (wh ++ fr.take (j + 1)))) := by
          unfold Hid
          rw [HT.out]
          exact hown2
        have hbw2 : Below wx.heap.size wx w2 := (hbw.alloc hbw.size _).grown hgrow2 (by have := hbw.size; simp; omega) (fun k hk => by have := Option.some.inj hk; omega)
        clear hown2 hgrow2 hownr
        go_wp2
        go_roundw
        case rel => exact ⟨j + 1, k + 1, by go_num, rfl, by omega, by omega, by omega, HO2.out, hbw2⟩
        case measure => simp [intOf]; omega
      · have hjm2 : j = fl := by omega
        have HO2 : Hid (wr.ownsRow wx.heap.size 5 1 (.slice (some ⟨wx.heap.size, 0, none⟩) (wl + fl) n) (wl + fl) (vals (wh ++ fr))) := by
          have := hownr
          rw [hjm2, List.take_of_length_le (by rw [HFL.out]; exact Nat.le_refl _)] at this
          exact this
        clear hownr
        go_wp2
        go_meet
        exact ⟨by rw [hjm2], HO2.out, hbw⟩
  case rest =>
  clear hown1 hbel1
  obtain ⟨rfl, hown2, hbel2⟩ := hcut
  refine ‹∀ (a : Act) (w : World), Code.wp Tryd.prog (Code.seq (Code.region 80 _ _) _) _ a w → _› _ _ ?_
  have HLL : Hid ((wh ++ fr).length = wl + fl) := by unfold Hid; rw [List.length_append, HWL.out, HFL.out]
  exact m3b b n ws we wx.heap.size (wl + fl) l (wh ++ fr) wh fr en es ee w _ hn0 hn (by omega) hwe hdl HN
    (fun j hj => (hbel2.cell (p := ⟨b, j, none⟩) hbs).trans (HC.out j hj)) (byt_own hown2 HLL.out) HLL rfl (by unfold Hid; rw [HWL.out]; omega) HE
    (hbel.trans (hbel2.mono hbel.size)) (Nat.lt_of_lt_of_le hbs hbel2.size) (hown2.lt _ rfl).2 _ _ _ _ _ _ _ _ _ _ _ _ _ _ _ _ _ _ _ _ _ _ _ _ _ _ _ _ _ _ _ _ _ _ _ _ _ _ _ _ _ _ _ _ _ _ _ _ _ _ _ _ _ _ _ _ _ _ _ _ _ _ _ _ _ _ _ _ _ _ _ _ _ _ _ _ _ _ _ _ _ _ _ _ _ _ _ _ _ _ _ _ _ _ _ _ _ _ _ _ _ _ _ _ _ _ _ _ _ _ _ _ _ _ _ _ _ _ _ _ _ _ _ _ _ _ _ _ _ _ _ _ _ _ _ _ _ _ _ _ _ _ _ _ _ _ _ _ _ _ _ _ _ _ _ _ _ _ _ _ _ _ _ _ _ _ _ _ _ _ _ _ _ _ _ _ _ _ _ _ _ _ _ _ _ _ _ _ _ _ _ _ _ _ _ _ _ _ _ _ _ _ _ _ _ _ _ _ _ _ _ _ _ _ _ _ _ _ _ _ _ _ _ _ _ _ _ _ _ _ _
end Go.Proofs.Qxb6600755aDoor
