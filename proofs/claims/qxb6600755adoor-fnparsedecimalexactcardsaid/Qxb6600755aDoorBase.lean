import Derived.Test.Qxb6600755aDoorProg
import Derived.Test.Qxb6600755aDoorPlain
import Derived.WalkKit
import Derived.WalkSpells
import Derived.WalkLawsBesides
namespace Go.Proofs.Qxb6600755aDoor
open Go.RowKit
set_option linter.unusedVariables false
set_option maxRecDepth 100000

theorem ret_bool {a b : Bool} (h : a = b) : Ending.returned (.bool a) = .returned (.bool b) := by rw [h]
theorem ret_int {k : IntKind} {a b : Int} (h : a = b) : Ending.returned (.int k a) = .returned (.int k b) := by rw [h]
theorem ret_slice {a : Option Addr} {m n cap : Nat} (h : m = n) : Ending.returned (.slice a m cap) = .returned (.slice a n cap) := by rw [h]
def sliceLen : Value → Nat | .slice _ n _ => n | _ => 0

/-- The bytes l lie in memory from ⟨b, o⟩ on. -/
def Byt (w : World) (b o : Nat) (l : List UInt8) : Prop := ∀ j, j < l.length → w.cell? ⟨b, o + j, none⟩ = some (.int .u8 (bt l j).toNat)

set_option maxHeartbeats 400000 in
theorem isDigit_any (c : UInt8) (w : World) : Calls Tryd.prog 26 #[.int .u8 c.toNat] w fun e w' => e = .returned (.bool (isDig c)) ∧ w' = w := by
  by_cases h1 : (48 : Int) ≤ c.toNat
  · by_cases h2 : (c.toNat : Int) ≤ 57
    · have HW : Hid (isDig c = true) := (isDig_iff c).2 ⟨h1, h2⟩
      go_enter Tryd.func26, Tryd.ntmps26
      go_wp2
      go_ret
      exact ⟨ret_bool HW.out.symm, rfl⟩
    · have HW : Hid (isDig c = false) := (isDig_no c).2 (by omega)
      go_enter Tryd.func26, Tryd.ntmps26
      go_wp2
      go_ret
      exact ⟨ret_bool HW.out.symm, rfl⟩
  · have HW : Hid (isDig c = false) := (isDig_no c).2 (by omega)
    go_enter Tryd.func26, Tryd.ntmps26
    go_wp2
    go_ret
    exact ⟨ret_bool HW.out.symm, rfl⟩

set_option maxHeartbeats 400000 in
theorem trimRightByte_any (g off cap : Nat) (ds : List UInt8) (w : World) (hl : ds.length ≤ 1048577) (hcap : ds.length ≤ cap) (hc : Byt w g off ds) :
    Calls Tryd.prog 28 #[.slice (some ⟨g, off, none⟩) ds.length cap, .int .u8 48] w fun e w' => e = .returned (.slice (some ⟨g, off, none⟩) (trimZ ds).length cap) ∧ w' = w := by
  have HC : Hid (Byt w g off ds) := hc
  clear hc
  generalize hn : ds.length = n at *
  have HN : Hid (ds.length = n) := hn
  clear hn
  go_enter Tryd.func28, Tryd.ntmps28
  go_wp2
  go_loop [0] (fun t => ∃ m : Nat, m ≤ n ∧ t = .slice (some ⟨g, off, none⟩) m cap ∧ Hid (trimZ (ds.take m) = trimZ ds)) (fun t => sliceLen t)
  case atStart => exact ⟨n, Nat.le_refl _, rfl, by unfold Hid; rw [List.take_of_length_le (by rw [HN.out]; exact Nat.le_refl _)]⟩
  case round =>
    obtain ⟨m, hm, rfl, HA⟩ := hrel
    by_cases h0 : 0 < m
    · obtain ⟨m', rfl⟩ : ∃ m', m = m' + 1 := ⟨m - 1, by omega⟩
      have hcell : w.cell? ⟨g, off + m', none⟩ = some (.int .u8 (bt ds m').toNat) := HC.out m' (by rw [HN.out]; omega)
      have HM : Hid (ds.take (m' + 1) = ds.take m' ++ [bt ds m']) := take_bt ds m' (by rw [HN.out]; omega)
      by_cases hz : (((bt ds m').toNat : Int) == 48) = true
      · have HZ : Hid (trimZ (ds.take m') = trimZ ds) := by
          unfold Hid
          rw [← HA.out, HM.out, show bt ds m' = 48 from byte_eq (by simpa using hz), trimZ_snoc_zero]
        go_wp2
        go_round
        case rel => exact ⟨m', by omega, rfl, HZ⟩
        case measure => simp [sliceLen]
      · have hz' : (((bt ds m').toNat : Int) == 48) = false := by simpa using hz
        have HZ : Hid ((trimZ ds).length = m' + 1) := by
          unfold Hid
          rw [← HA.out, HM.out, trimZ_snoc_stop _ _ (byte_ne (by simpa using hz)), ← HM.out, List.length_take, HN.out]
          omega
        clear hz
        go_wp2
        go_ret
        exact ⟨ret_slice HZ.out.symm, rfl⟩
    · have HZ : Hid ((trimZ ds).length = m) := by
        unfold Hid
        rw [← HA.out, show m = 0 by omega]
        rfl
      go_wp2
      go_ret
      exact ⟨ret_slice HZ.out.symm, rfl⟩

set_option maxHeartbeats 400000 in
theorem trimRight_nil (a : Option Addr) (cap : Nat) (w : World) :
    Calls Tryd.prog 27 #[.slice a 0 cap, .string ⟨#[48]⟩] w fun e w' => e = .returned (.slice a 0 cap) ∧ w' = w := by
  go_enter Tryd.func27, Tryd.ntmps27
  go_wp2
  go_ret
  exact ⟨rfl, rfl⟩
set_option maxHeartbeats 400000 in
theorem trimRight_any (g off cap : Nat) (ds : List UInt8) (w : World) (hl : ds.length ≤ 1048577) (h0 : ds ≠ []) (hcap : ds.length ≤ cap) (hc : Byt w g off ds) :
    Calls Tryd.prog 27 #[.slice (some ⟨g, off, none⟩) ds.length cap, .string ⟨#[48]⟩] w fun e w' => e = .returned (.slice (some ⟨g, off, none⟩) (trimZ ds).length cap) ∧ w' = w := by
  have hi : ((⟨#[48]⟩ : ByteArray)[0]'(by decide)).toNat = 48 := rfl
  have hpos : ((ds.length : Int) == 0) = false := by
    have := List.length_pos_iff.2 h0
    simp
    exact h0
  have HT := trimRightByte_any g off cap ds w hl hcap hc
  have HT2 : Hid (Calls Tryd.prog 28 #[.slice (some ⟨g, off, none⟩) ds.length cap, .int .u8 48] w fun e w' => e = .returned (.slice (some ⟨g, off, none⟩) (trimZ ds).length cap) ∧ w' = w) := HT
  clear HT hc h0
  go_enter Tryd.func27, Tryd.ntmps27
  go_wp2_with (go_at_call 28; refine HT2.out.mono ?_; rintro e w' ⟨rfl, rfl⟩)
  go_ret
  exact ⟨rfl, rfl⟩

set_option maxHeartbeats 400000 in
theorem zz20 (a : Option Addr) (n cap : Nat) (w : World) (ha : n ≤ maxLen) :
    Calls Tryd.prog 20 #[.slice a n cap] w fun e w' => (∃ bb : Bool, e = .returned (.bool bb) ∧ (bb = true → n ≤ 1048576)) ∧ w' = w := by
  unfold maxLen at *
  go_enter Tryd.func20, Tryd.ntmps20
  go_wp2
  all_goals
    go_ret
    exact ⟨⟨_, rfl, fun h => by first | omega | cases h⟩, rfl⟩
set_option maxHeartbeats 400000 in
theorem zz17 (a : Option Addr) (n cap : Nat) (w : World) (ha : n ≤ maxLen) :
    Calls Tryd.prog 17 #[.slice a n cap] w fun e w' => (∃ bb : Bool, e = .returned (.bool bb) ∧ (bb = true → n ≤ 1048576)) ∧ w' = w := by
  unfold maxLen at *
  go_enter Tryd.func17, Tryd.ntmps17
  go_wp2
  all_goals
    go_ret
    exact ⟨⟨_, rfl, fun h => by first | omega | cases h⟩, rfl⟩
set_option maxHeartbeats 400000 in
theorem zz9 (a : Option Addr) (n cap : Nat) (w : World) (ha : n ≤ maxLen) :
    Calls Tryd.prog 9 #[.slice a n cap] w fun e w' => (∃ bb : Bool, e = .returned (.bool bb) ∧ (bb = true → n ≤ 1048576)) ∧ w' = w := by
  unfold maxLen at *
  go_enter Tryd.func9, Tryd.ntmps9
  go_wp2
  all_goals
    go_ret
    exact ⟨⟨_, rfl, fun h => by first | omega | cases h⟩, rfl⟩

/-! ### the copy -/
theorem infoByte : (Tryd.prog.info? 5).map (fun i => (i.zero, i.size, i.bytes)) = some (some (.int .u8 0), 1, 1) := by kernel_rfl
theorem eqNil (w : World) (a : Option Addr) (l c : Nat) : (binOp .eql 22 (.slice a l c) (.slice none 0 0)).run Tryd.prog w = .ok (.bool a.isNone) w := Lib.run_eql_slice_nil w 22 5 a l c 0 0 Tryd.underlying22
set_option maxHeartbeats 400000 in
theorem copy_nil (w : World) : Calls Tryd.prog 10 #[.slice none 0 0] w fun e w' => e = .returned (.slice none 0 0) ∧ w' = w := by
  have hq := eqNil
  go_enter Tryd.func10, Tryd.ntmps10
  go_wp2
  go_ret
  exact ⟨rfl, rfl⟩
set_option maxHeartbeats 1000000 in
theorem copy_any (b0 o0 cap : Nat) (l : List UInt8) (w : World) (hl : l.length ≤ 1048576) (hb0 : l ≠ [] → b0 < w.heap.size) (hc : Byt w b0 o0 l) :
    Calls Tryd.prog 10 #[.slice (some ⟨b0, o0, none⟩) l.length cap] w fun e w' => e = .returned (.slice (some ⟨w.heap.size, 0, none⟩) l.length l.length) ∧ Below w.heap.size w w' ∧ w.heap.size < w'.heap.size ∧ Byt w' w.heap.size 0 l := by
  have hq := eqNil
  have HC : Hid (Byt w b0 o0 l) := hc
  have HB0 : Hid (l ≠ [] → b0 < w.heap.size) := hb0
  clear hc hb0
  generalize hn : l.length = n at *
  have HN : Hid (l.length = n) := hn
  clear hn
  obtain ⟨i0, hi, hz0, hz1, hz2⟩ := info_parts infoByte
  go_enter Tryd.func10, Tryd.ntmps10
  go_wp2_with (at_make; refine wpList_make_full _ rfl _ _ 22 rfl w.heap.size 5 i0 (.int .u8 0) 1 Tryd.underlying22 hi hz0 hz1 _ _ _ _ n rfl rfl ?c0 ?c1 ?b1 ?b2 ?b3 ?_)
  case c0 => rfl
  case c1 => rfl
  case b1 => rw [hz2]; omega
  case b2 => unfold maxLen; omega
  case b3 => exact Nat.le_refl _
  intro w1 hown hgrow
  have hbel : Below w.heap.size w w1 := (Below.refl _ _).grown hgrow (Nat.le_refl _) (fun k hk => by cases hk)
  clear hgrow
  go_wp2_with fail
  go_loopw [4] (fun i wr => ∃ (k : Nat) (xs : List Value), k ≤ n ∧ i = .int .i64 k ∧ wr.ownsRow w.heap.size 5 1 (.slice (some ⟨w.heap.size, 0, none⟩) n n) n xs ∧ Below w.heap.size w wr ∧ Hid (∀ j, j < k → xs[j]? = some (.int .u8 (bt l j).toNat))) (fun i _ => n - (intOf i).toNat)
  case atStart => exact ⟨0, _, Nat.zero_le _, rfl, hown, hbel, fun j hj => by omega⟩
  case round =>
    obtain ⟨k, xs, hk, rfl, hownr, hbw, HX⟩ := hrel
    clear hown hbel
    have hxl : xs.length = n * 1 := hownr.1
    by_cases hlt : k < n
    · have hb : b0 < w.heap.size := HB0.out (fun e => by have := HN.out; rw [e] at this; simp at this; omega)
      have hcell : wr.cell? ⟨b0, o0 + k, none⟩ = some (.int .u8 (bt l k).toNat) := by
        rw [hbw.cell (p := ⟨b0, o0 + k, none⟩) hb]
        exact HC.out k (by rw [HN.out]; exact hlt)
      obtain ⟨u, hcu⟩ : ∃ u, wr.cell? ⟨w.heap.size, k, none⟩ = some u := ⟨xs[k]'(by omega), by rw [hownr.cellAt k (by omega), List.getElem?_eq_getElem (by omega)]⟩
      have hfz : wr.frozen? ⟨w.heap.size, k, none⟩ = false := hownr.frozenAt k
      have hst := hownr.stored k (.int .u8 (bt l k).toNat)
      have HST : Hid ((wr.setCell ⟨w.heap.size, k, none⟩ (.int .u8 (bt l k).toNat)).ownsRow w.heap.size 5 1 (.slice (some ⟨w.heap.size, 0, none⟩) n n) n (xs.set k (.int .u8 (bt l k).toNat))) := hst.1
      have HBW : Hid (Below w.heap.size w (wr.setCell ⟨w.heap.size, k, none⟩ (.int .u8 (bt l k).toNat))) := hbw.setCell (p := ⟨w.heap.size, k, none⟩) (Nat.le_refl _) _
      clear hst hownr
      go_wp2
      go_roundw
      case rel =>
        refine ⟨k + 1, _, by omega, by go_num, HST.out, HBW.out, fun j hj => ?_⟩
        by_cases hjk : j = k
        · subst hjk
          rw [List.getElem?_set_self (by omega)]
        · rw [List.getElem?_set_ne (fun e => hjk e.symm)]
          exact HX.out j (by omega)
      case measure => simp [intOf]; omega
    · go_wp2
      go_ret
      refine ⟨rfl, hbw, ?_, fun j hj => ?_⟩
      · rcases hownr.2 with ⟨h1, _⟩ | ⟨g, cap', cur, h1, _, hg, _⟩
        · cases h1
        · simp only [Value.slice.injEq, Option.some.injEq, Addr.mk.injEq, and_true, true_and] at h1
          obtain ⟨rfl, _⟩ := h1
          rcases Nat.lt_or_ge w.heap.size wr.heap.size with h | h
          · exact h
          · rw [Array.getElem?_eq_none h] at hg; cases hg
      · rw [HN.out] at hj
        rw [Nat.zero_add, hownr.cellAt j (by omega)]
        exact HX.out j (by omega)

/-! ### KindOf -/
set_option maxHeartbeats 400000 in
theorem kindOf_num (b o cap n : Nat) (c : UInt8) (w : World) (hl : n ≤ 1048576) (h0 : 0 < n) (hc : w.cell? ⟨b, o, none⟩ = some (.int .u8 c.toNat)) (hk : c = 45 ∨ isDig c = true) :
    Calls Tryd.prog 21 #[.slice (some ⟨b, o, none⟩) n cap] w fun e w' => e = .returned (.string ⟨#[110, 117, 109, 98, 101, 114]⟩) ∧ w' = w := by
  have hnz : ((n : Int) == 0) = false := by simp; omega
  by_cases h45 : ((c.toNat : Int) == 45) = true
  · clear hk
    go_enter Tryd.func21, Tryd.ntmps21
    go_wp2
    go_ret
    exact ⟨rfl, rfl⟩
  · have h45' : ((c.toNat : Int) == 45) = false := by simpa using h45
    have hd := (isDig_iff c).1 (hk.resolve_left (byte_ne (by simpa using h45)))
    obtain ⟨h1, h2⟩ := hd
    clear h45 hk
    go_enter Tryd.func21, Tryd.ntmps21
    go_wp2
    go_ret
    exact ⟨rfl, rfl⟩
end Go.Proofs.Qxb6600755aDoor
