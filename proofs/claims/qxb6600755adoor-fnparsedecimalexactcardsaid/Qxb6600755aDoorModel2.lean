import Derived.Test.Qxb6600755aDoorModel3
namespace Go.Proofs.Qxb6600755aDoor
open Go.RowKit
set_option linter.unusedVariables false
set_option maxRecDepth 1000000

set_option maxHeartbeats 4000000 in
theorem m2 (b n st ws we fs fe : Nat) (l : List UInt8) (en : Bool) (es : Int) (w wx : World)
    (hn0 : 0 < n) (hn : n ≤ 1048576) (HN : Hid (l.length = n)) (HC : Hid (∀ j, j < n → wx.cell? ⟨b, j, none⟩ = some (.int .u8 (bt l j).toNat)))
    (HMS : Hid (MS l n st ws we fs fe en es))
    (hbel : Below w.heap.size w wx) (hbs : b < wx.heap.size) (u1 u2 u3 u4 u5 u14 u15 u16 u17 u18 u19 u20 u21 u22 u23 u24 u25 u26 u27 u28 u29 u30 u31 u32 u33 u34 u35 u36 u37 u38 u39 u40 u41 u42 u43 u44 u45 u46 u47 u48 u49 u50 u51 u52 u53 u54 u55 u56 u57 u58 u59 u60 u61 u62 u63 u64 u65 u66 u67 u68 u69 u70 u71 u72 u73 u74 u75 u76 u77 u78 u79 u80 u81 u82 u83 u84 u85 u86 u87 u88 u89 u90 u91 u92 u93 u94 u95 u96 u97 u98 u99 u100 u101 u102 u103 u104 u105 u106 u107 u108 u109 u110 u111 u112 u113 u114 u115 u116 u117 u118 u119 u120 u121 u122 u123 u124 u125 u126 u127 u128 u129 u130 u131 u132 u133 u134 u135 u136 u137 u138 u139 u140 u141 u142 u143 u144 u145 u146 u147 u148 u149 u150 u151 u152 u153 u154 u155 u156 u157 u158 u159 u160 u161 u162 u163 u164 u165 u166 u167 u168 u169 u170 u171 u172 u173 u174 u175 u176 u177 u178 u179 u180 u181 u182 u183 u184 u185 u186 u187 u188 u189 u190 u191 u192 u193 u194 u195 u196 u197 u198 u199 u200 u201 u202 u203 u204 u205 u206 u207 u208 u209 u210 u211 u212 u213 u214 u215 u216 u217 u218 u219 u220 u221 u222 u223 u224 u225 u226 u227 u228 u229 u230 u231 u232 u233 u234 u235 u236 u237 : Value) :
    Code.wp Tryd.prog (spine 7 (Tryd.f11.body.getD .skip)) (bodyPost Tryd.prog Tryd.f11 (MPost l w)) ⟨#[.slice (some ⟨b, 0, none⟩) n n, u1, u2, u3, u4, u5, .int .i64 st, .int .i64 ws, .int .i64 we, .int .i64 fs, .int .i64 fe, .bool en, .int .i64 es, .int .i64 (-1), u14, u15, u16, u17, u18, u19, u20, u21, u22, u23, u24, u25, u26, u27, u28, u29, u30, u31, u32, u33, u34, u35, u36, u37, u38, u39, u40, u41, u42, u43, u44, u45, u46, u47, u48, u49, u50, u51, u52, u53, u54, u55, u56, u57, u58, u59, u60, u61, u62, u63, u64, u65, u66, u67, u68, u69, u70, u71, u72, u73, u74, u75, u76, u77, u78, u79, u80, u81, u82, u83, u84, u85, u86, u87, u88, u89, u90, u91, u92, u93, u94, u95, u96, u97, u98, u99, u100, u101, u102, u103, u104, u105, u106, u107, u108, u109, u110, u111, u112, u113, u114, u115, u116, u117, u118, u119, u120, u121, u122, u123, u124, u125, u126, u127, u128, u129, u130, u131, u132, u133, u134, u135, u136, u137, u138, u139, u140, u141, u142, u143, u144, u145, u146, u147, u148, u149, u150, u151, u152, u153, u154, u155, u156, u157, u158, u159, u160, u161, u162, u163, u164, u165, u166, u167, u168, u169, u170, u171, u172, u173, u174, u175, u176, u177, u178, u179, u180, u181, u182, u183, u184, u185, u186, u187, u188, u189, u190, u191, u192, u193, u194, u195, u196, u197, u198, u199, u200, u201, u202, u203, u204, u205, u206, u207, u208, u209, u210, u211, u212, u213, u214, u215, u216, u217, u218, u219, u220, u221, u222, u223, u224, u225, u226, u227, u228, u229, u230, u231, u232, u233, u234, u235, u236, u237], []⟩ wx := by
  conv => arg 2; whnf
  go_upto_block 3 with fail
  go_cut [6, 7, 8, 9, 10, 11, 12, 13] from 102 to 115 (fun _ s7 s8 s9 s10 s11 s12 s13 wy => wx = wy ∧ ∃ (ws we fs fe wl fl : Nat) (wh fr : List UInt8) (en : Bool) (es ee : Int),
    s7 = .int .i64 ws ∧ s8 = .int .i64 we ∧ s9 = .int .i64 fs ∧ s10 = .int .i64 fe ∧ s11 = .bool en ∧ s12 = .int .i64 es ∧ s13 = .int .i64 ee ∧
    we ≤ n ∧ fe ≤ n ∧ ws + wl ≤ we ∧ we ≤ ws + wl ∧ fs + fl ≤ fe ∧ fe ≤ fs + fl ∧ wl + fl ≤ n ∧
    Hid (wh.length = wl) ∧ Hid (fr.length = fl) ∧ Hid (∀ j, j < wl → bt wh j = bt l (ws + j)) ∧ Hid (∀ j, j < fl → bt fr j = bt l (fs + j)) ∧
    Hid ((es = -1 ∧ parseL l = fin (NG l) wh fr 0) ∨ ∃ es' : Nat, es = es' ∧ es' < n ∧ ee = n ∧ Dgs l es' n ∧ parseL l = fin (NG l) wh fr (if en then -(expV ((l.take n).drop es')) else expV ((l.take n).drop es'))))
  case first =>
    have hle : n ≤ l.length := by rw [HN.out]; exact Nat.le_refl _
    have HLE : Hid (n ≤ l.length) := hle
    have HNL : Hid (l.length ≤ n) := by unfold Hid; rw [HN.out]; exact Nat.le_refl _
    clear hle
    rcases HMS.out with ⟨rfl, ⟨rfl, rfl, rfl, rfl, rfl, rfl⟩, h1⟩ | ⟨rfl, ⟨rfl, rfl, rfl, rfl, rfl, rfl⟩, h1, h2, hP⟩ | ⟨rfl, ⟨rfl, rfl, rfl, rfl, rfl⟩, h1, h2, h3, hP⟩ | ⟨rfl, ⟨rfl, rfl, rfl, rfl, rfl⟩, h1, h2, h3, hP⟩ | ⟨rfl, ⟨rfl, rfl, rfl, rfl⟩, h1, h2, h3, h4, hP⟩ | ⟨rfl, ⟨rfl, rfl, rfl, rfl⟩, h1, h2, h3, h4, hP⟩ | ⟨rfl, ⟨rfl, rfl⟩, h1, h2, h3, h4, h4', hP⟩ | ⟨rfl, rfl, h1, h2, h3, h4, h4', hP⟩ | ⟨rfl, es', rfl, h1, h2, h3, h4, h4', h5, h6, hP⟩
    · omega
    · have HPN : Hid (parseL l = none) := by
        unfold Hid
        rw [hP, drop_nil l 1 (by rw [HN.out]; omega)]
        rfl
      clear hP HMS
      go_wp2
      exact bodyPost_ret (v := .tuple #[.bool false, .bool false, .slice none 0 0, .int .i64 0]) (by simp [results, Tryd.results11, go_sem]) rfl ⟨hbel, Or.inl ⟨HPN, rfl⟩⟩
    · have hT : parseL l = fin (NG l) ((l.take n).drop ws) [] 0 := by
        have := t3_end (l := l) (ws := ws) (by rw [HN.out]; omega) (by rw [HN.out, show n = ws + 1 by omega]; exact s2_dgs (by rw [HN.out]; omega) h3) (Or.inl (by rw [HN.out]; omega)) hP
        rwa [HN.out] at this
      have HT : Hid (parseL l = fin (NG l) ((l.take n).drop ws) [] 0) := hT
      clear hT hP h3 HMS
      go_wp2
      go_meet
      exact ⟨rfl, ws, n, 0, 0, n - ws, 0, (l.take n).drop ws, [], false, -1, -1, rfl, rfl, rfl, rfl, rfl, rfl, rfl, by omega, by omega, by omega, by omega, by omega, by omega, by omega, mid_len l ws n HLE.out, rfl, fun j hj => mid_bt l ws n j HLE.out hj, fun j hj => absurd hj (by omega), Or.inl ⟨rfl, HT.out⟩⟩
    · have hT : parseL l = fin (NG l) ((l.take n).drop ws) [] 0 := by
        have := t3_end (l := l) (ws := ws) (by rw [HN.out]; omega) (by rw [HN.out]; exact h3) (Or.inr h2) hP
        rwa [HN.out] at this
      have HT : Hid (parseL l = fin (NG l) ((l.take n).drop ws) [] 0) := hT
      clear hT hP h2 h3 HMS
      go_wp2
      go_meet
      exact ⟨rfl, ws, n, 0, 0, n - ws, 0, (l.take n).drop ws, [], false, -1, -1, rfl, rfl, rfl, rfl, rfl, rfl, rfl, by omega, by omega, by omega, by omega, by omega, by omega, by omega, mid_len l ws n HLE.out, rfl, fun j hj => mid_bt l ws n j HLE.out hj, fun j hj => absurd hj (by omega), Or.inl ⟨rfl, HT.out⟩⟩
    · have HPN : Hid (parseL l = none) := t4_bad h1 h2 h4 hP (fun h => absurd h (by rw [HN.out]; omega))
      clear hP h4 HMS
      go_wp2
      exact bodyPost_ret (v := .tuple #[.bool false, .bool false, .slice none 0 0, .int .i64 0]) (by simp [results, Tryd.results11, go_sem]) rfl ⟨hbel, Or.inl ⟨HPN, rfl⟩⟩
    · have hT : parseL l = fin (NG l) ((l.take we).drop ws) ((l.take n).drop (we + 1)) 0 := by
        have := t5_end (l := l) (ws := ws) (we := we) (by rw [HN.out]; omega) h3 (by rw [HN.out]; exact h4) hP
        rwa [HN.out] at this
      have HT : Hid (parseL l = fin (NG l) ((l.take we).drop ws) ((l.take n).drop (we + 1)) 0) := hT
      clear hT hP h3 h4 HMS
      go_wp2
      go_meet
      exact ⟨rfl, ws, we, we + 1, n, we - ws, n - (we + 1), (l.take we).drop ws, (l.take n).drop (we + 1), false, -1, -1, rfl, rfl, rfl, rfl, rfl, rfl, rfl, by omega, by omega, by omega, by omega, by omega, by omega, by omega, mid_len l ws we (by have := HLE.out; omega), mid_len l (we + 1) n HLE.out, fun j hj => mid_bt l ws we j (by have := HLE.out; omega) hj, fun j hj => mid_bt l (we + 1) n j HLE.out hj, Or.inl ⟨rfl, HT.out⟩⟩
    · have HPN : Hid (parseL l = none) := t6_end (by rw [HN.out]; omega) hP
      clear hP HMS
      go_wp2
      exact bodyPost_ret (v := .tuple #[.bool false, .bool false, .slice none 0 0, .int .i64 0]) (by simp [results, Tryd.results11, go_sem]) rfl ⟨hbel, Or.inl ⟨HPN, rfl⟩⟩
    · have HPN : Hid (parseL l = none) := t7_bad hP (fun h => absurd h (by rw [HN.out]; omega))
      clear hP HMS
      go_wp2
      exact bodyPost_ret (v := .tuple #[.bool false, .bool false, .slice none 0 0, .int .i64 0]) (by simp [results, Tryd.results11, go_sem]) rfl ⟨hbel, Or.inl ⟨HPN, rfl⟩⟩
    · have hT : parseL l = fin (NG l) ((l.take we).drop ws) ((l.take fe).drop fs) (if en then -(expV ((l.take n).drop es')) else expV ((l.take n).drop es')) := by
        have := t8_end (l := l) (by rw [HN.out]; exact h5) (by rw [HN.out]; exact h6) hP
        rwa [HN.out] at this
      have HT : Hid (parseL l = fin (NG l) ((l.take we).drop ws) ((l.take fe).drop fs) (if en then -(expV ((l.take n).drop es')) else expV ((l.take n).drop es'))) := hT
      have HDG : Hid (Dgs l es' n) := h6
      clear hT hP h6 HMS
      go_wp2
      go_meet
      exact ⟨rfl, ws, we, fs, fe, we - ws, fe - fs, (l.take we).drop ws, (l.take fe).drop fs, en, es', n, rfl, rfl, rfl, rfl, rfl, rfl, rfl, by omega, by omega, by omega, by omega, by omega, by omega, by omega, mid_len l ws we (by have := HLE.out; omega), mid_len l fs fe (by have := HLE.out; omega), fun j hj => mid_bt l ws we j (by have := HLE.out; omega) hj, fun j hj => mid_bt l fs fe j (by have := HLE.out; omega) hj, Or.inr ⟨es', rfl, h5, rfl, HDG.out, HT.out⟩⟩
  case rest =>
  obtain ⟨rfl, ws2, we2, fs2, fe2, wl, fl, wh, fr, en2, es2, ee, rfl, rfl, rfl, rfl, rfl, rfl, rfl, q1, q2, q3, q4, q5, q6, q7, Q1, Q2, Q3, Q4, Q5⟩ := hcut
  refine ‹∀ (a : Act) (w : World), Code.wp Tryd.prog (Code.seq (Code.region 71 _ _) _) _ a w → _› _ _ ?_
  exact m3 b n ws2 we2 fs2 fe2 wl fl l wh fr en2 es2 ee w _ hn0 hn q1 q2 q3 q4 q5 q6 q7 HN HC Q1 Q2 Q3 Q4 Q5 hbel hbs _ _ _ _ _ _ _ _ _ _ _ _ _ _ _ _ _ _ _ _ _ _ _ _ _ _ _ _ _ _ _ _ _ _ _ _ _ _ _ _ _ _ _ _ _ _ _ _ _ _ _ _ _ _ _ _ _ _ _ _ _ _ _ _ _ _ _ _ _ _ _ _ _ _ _ _ _ _ _ _ _ _ _ _ _ _ _ _ _ _ _ _ _ _ _ _ _ _ _ _ _ _ _ _ _ _ _ _ _ _ _ _ _ _ _ _ _ _ _ _ _ _ _ _ _ _ _ _ _ _ _ _ _ _ _ _ _ _ _ _ _ _ _ _ _ _ _ _ _ _ _ _ _ _ _ _ _ _ _ _ _ _ _ _ _ _ _ _ _ _ _ _ _ _ _ _ _ _ _ _ _ _ _ _ _ _ _ _ _ _ _ _ _ _ _ _ _ _ _ _ _ _ _ _ _ _ _ _ _ _ _ _ _ _ _ _ _ _ _ _ _ _ _ _ _ _ _ _ _ _
end Go.Proofs.Qxb6600755aDoor
