import Derived.Test.Qxb6600755aDoorZZ
import Derived.Test.Qxb6600755aDoorMach
import Derived.Test.Qxb6600755aDoorExp
namespace Go.Proofs.Qxb6600755aDoor
open Go.RowKit
set_option linter.unusedVariables false
set_option maxRecDepth 100000

set_option maxHeartbeats 400000 in
theorem zzIsDigit_any (c : UInt8) (w : World) : Calls Tryd.prog 22 #[.int .u8 c.toNat] w fun e w' => e = .returned (.bool (isDig c)) ∧ w' = w := by
  by_cases h1 : (48 : Int) ≤ c.toNat
  · by_cases h2 : (c.toNat : Int) ≤ 57
    · have HW : Hid (isDig c = true) := (isDig_iff c).2 ⟨h1, h2⟩
      go_enter Tryd.func22, Tryd.ntmps22
      go_wp2
      go_ret
      exact ⟨ret_bool HW.out.symm, rfl⟩
    · have HW : Hid (isDig c = false) := (isDig_no c).2 (by omega)
      go_enter Tryd.func22, Tryd.ntmps22
      go_wp2
      go_ret
      exact ⟨ret_bool HW.out.symm, rfl⟩
  · have HW : Hid (isDig c = false) := (isDig_no c).2 (by omega)
    go_enter Tryd.func22, Tryd.ntmps22
    go_wp2
    go_ret
    exact ⟨ret_bool HW.out.symm, rfl⟩
/-- The value of at most 13 digits. -/
theorem mid_take (l : List UInt8) (a b m : Nat) (h : a + m ≤ b) : ((l.take b).drop a).take m = (l.take (a + m)).drop a := by
  rw [List.take_drop, List.take_take, Nat.min_eq_left h]
theorem dval_mid {l : List UInt8} {a b : Nat} (hd : Dgs l a b) (hb : b ≤ l.length) (h13 : b - a ≤ 13) : ∀ m, m ≤ b - a → 0 ≤ dval (((l.take b).drop a).take m) ∧ dval (((l.take b).drop a).take m) < 10000000000000 := by
  intro m hm
  have h1 := dval_lt hd m (by rw [mid_len l a b hb]; exact hm)
  have h3 : (10 : Nat) ^ m ≤ 10 ^ 13 := Nat.pow_le_pow_right (by omega) (by omega)
  have h4 : (10 : Nat) ^ 13 = 10000000000000 := by decide
  rw [h4] at h3
  omega
set_option maxHeartbeats 1000000 in
theorem digitsValue_any (b n : Nat) (l : List UInt8) (fr tt : Nat) (w : World) (hl : l.length = n) (hn : n ≤ 1048576) (hft : fr ≤ tt) (hto : tt ≤ n) (h13 : tt - fr ≤ 13) (hD : Dgs l fr tt)
    (hc : ∀ j, j < n → w.cell? ⟨b, j, none⟩ = some (.int .u8 (bt l j).toNat)) :
    Calls Tryd.prog 23 #[.slice (some ⟨b, 0, none⟩) n n, .int .i64 fr, .int .i64 tt] w fun e w' => e = .returned (.int .i64 (dval ((l.take tt).drop fr))) ∧ w' = w := by
  have HC : Hid (∀ j, j < n → w.cell? ⟨b, j, none⟩ = some (.int .u8 (bt l j).toNat)) := hc
  have HN : Hid (l.length = n) := hl
  have HD : Hid (Dgs l fr tt) := hD
  have HB : Hid (∀ m, m ≤ tt - fr → 0 ≤ dval (((l.take tt).drop fr).take m) ∧ dval (((l.take tt).drop fr).take m) < 10000000000000) := dval_mid hD (by omega) h13
  clear hc hl hD
  go_enter Tryd.func23, Tryd.ntmps23
  go_wp2_with fail
  go_loop [7, 8] (fun s7 s8 => ∃ (k : Nat) (v : Int), s8 = .int .i64 k ∧ s7 = .int .i64 v ∧ fr ≤ k ∧ k ≤ tt ∧ 0 ≤ v ∧ v < 10000000000000 ∧ Hid (dval ((l.take k).drop fr) = v)) (fun _ s8 => tt - (intOf s8).toNat)
  case atStart => exact ⟨fr, 0, rfl, rfl, Nat.le_refl _, hft, by omega, by omega, by unfold Hid; rw [mid_nil l fr fr (by omega)]; rfl⟩
  case round =>
    obtain ⟨k, v, rfl, rfl, hk0, hkt, hv0, hv1, HV⟩ := hrel
    by_cases hlt : k < tt
    · have hck := HC.out k (by omega)
      have hdk : isDig (bt l k) = true := by
        refine HD.out (bt l k) ?_
        have h1 : k - fr < ((l.take tt).drop fr).length := by rw [mid_len l fr tt (by rw [HN.out]; exact hto)]; omega
        have h2 := mid_bt l fr tt (k - fr) (by rw [HN.out]; exact hto) (by omega)
        rw [show fr + (k - fr) = k by omega] at h2
        rw [← h2, bt_eq _ _ h1]
        exact List.getElem_mem h1
      obtain ⟨hc1, hc2⟩ := (isDig_iff _).1 hdk
      have HS : Hid (dval ((l.take (k + 1)).drop fr) = v * 10 + (((bt l k).toNat : Int) - 48)) := by
        unfold Hid
        rw [mid_snoc l fr k hk0 (by rw [HN.out]; omega), dval_snoc, HV.out]
      have hb := HB.out (k + 1 - fr) (by omega)
      rw [mid_take l fr tt (k + 1 - fr) (by omega), show fr + (k + 1 - fr) = k + 1 by omega, HS.out] at hb
      obtain ⟨hb1, hb2⟩ := hb
      clear hdk
      go_wp2
      go_round
      case rel => exact ⟨k + 1, v * 10 + (((bt l k).toNat : Int) - 48), by go_num, rfl, by omega, by omega, hb1, hb2, HS⟩
      case measure => simp [intOf]; omega
    · have HE : Hid (dval ((l.take tt).drop fr) = v) := by
        unfold Hid
        rw [← HV.out, show k = tt by omega]
      go_wp2
      go_ret
      exact ⟨ret_int HE.out.symm, rfl⟩
set_option maxHeartbeats 1000000 in
theorem same_any (a1 a2 : Option Addr) (c1 c2 : Nat) (ds : List UInt8) (w : World) (hl : ds.length ≤ 1048576)
    (h1 : SlIs w (.slice a1 ds.length c1) ds) (h2 : SlIs w (.slice a2 ds.length c2) ds) :
    Calls Tryd.prog 13 #[.slice a1 ds.length c1, .slice a2 ds.length c2] w fun e w' => e = .returned (.bool true) ∧ Below w.heap.size w w' := by
  have HC1 : Hid (∀ j, j < ds.length → ∃ g o, a1 = some ⟨g, o, none⟩ ∧ Byt w g o ds) := by
    intro j hj
    rcases h1 with ⟨h, _⟩ | ⟨g, o, cap, h, _, hb⟩
    · rw [h] at hj; simp at hj
    · simp only [Value.slice.injEq] at h
      exact ⟨g, o, h.1, hb⟩
  have HC2 : Hid (∀ j, j < ds.length → ∃ g o, a2 = some ⟨g, o, none⟩ ∧ Byt w g o ds) := by
    intro j hj
    rcases h2 with ⟨h, _⟩ | ⟨g, o, cap, h, _, hb⟩
    · rw [h] at hj; simp at hj
    · simp only [Value.slice.injEq] at h
      exact ⟨g, o, h.1, hb⟩
  clear h1 h2
  generalize hn : ds.length = n at *
  have HN : Hid (ds.length = n) := hn
  clear hn
  go_enter Tryd.func13, Tryd.ntmps13
  go_wp2_with fail
  go_loopw [5] (fun i wr => Below w.heap.size w wr ∧ ∃ k : Nat, i = .int .i64 k ∧ k ≤ n) (fun i _ => n - (intOf i).toNat)
  case atStart => exact ⟨Below.refl _ _, 0, rfl, Nat.zero_le _⟩
  case round =>
    obtain ⟨hbw, k, rfl, hkn⟩ := hrel
    by_cases hlt : k < n
    · obtain ⟨g1, o1, rfl, hb1⟩ := HC1.out k hlt
      obtain ⟨g2, o2, rfl, hb2⟩ := HC2.out k hlt
      have q1 := hb1 k (by rw [HN.out]; exact hlt)
      have q2 := hb2 k (by rw [HN.out]; exact hlt)
      have hc1 : wr.cell? ⟨g1, o1 + k, none⟩ = some (.int .u8 (bt ds k).toNat) := (hbw.cell (p := ⟨g1, o1 + k, none⟩) (World.block_lt_of_cell? w _ q1)).trans q1
      have hc2 : wr.cell? ⟨g2, o2 + k, none⟩ = some (.int .u8 (bt ds k).toNat) := (hbw.cell (p := ⟨g2, o2 + k, none⟩) (World.block_lt_of_cell? w _ q2)).trans q2
      clear hb1 hb2 q1 q2
      go_wp2_with fail
      go_quiet (fail)
      go_wp2
      go_roundw
      case rel => exact ⟨below_drewN hbw _, k + 1, by go_num, by omega⟩
      case measure => simp [intOf]; omega
    · go_wp2
      go_ret
      exact ⟨rfl, hbw⟩
end Go.Proofs.Qxb6600755aDoor
