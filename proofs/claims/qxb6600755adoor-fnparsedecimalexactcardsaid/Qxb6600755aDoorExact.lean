import Derived.Test.Qxb6600755aDoorModel1
namespace Go.Proofs.Qxb6600755aDoor
open Go.RowKit
set_option linter.unusedVariables false
set_option maxRecDepth 1000000

set_option maxHeartbeats 4000000 in
theorem model_empty (a : Option Addr) (w : World) : Calls Tryd.prog 11 #[.slice a 0 0] w (MPost [] w) := by
  have HPN : Hid (parseL [] = none) := parseL_nil
  go_enter Tryd.func11, Tryd.ntmps11
  go_wp2_with fail
  go_loop [6, 14] (fun s6 s14 => s6 = .int .i64 0 ∧ s14 = .int .i64 0) (fun _ _ => 0)
  case atStart => exact ⟨rfl, rfl⟩
  case round =>
  obtain ⟨rfl, rfl⟩ := hrel
  go_wp2
  exact bodyPost_ret (v := .tuple #[.bool false, .bool false, .slice none 0 0, .int .i64 0]) (by simp [results, Tryd.results11, go_sem]) rfl ⟨Below.refl _ _, Or.inl ⟨HPN, rfl⟩⟩
theorem Cp.below {w w2 w3 : World} {a' : Option Addr} {l : List UInt8} (h : Cp w w2 a' l) (hb : Below w2.heap.size w2 w3) : Cp w w3 a' l := by
  refine ⟨h.1.trans (hb.mono h.1.size), ?_⟩
  rcases h.2 with h2 | ⟨h1, h2, h3⟩
  · exact Or.inl h2
  · exact Or.inr ⟨h1, Nat.lt_of_lt_of_le h2 hb.size, fun j hj => (hb.cell (p := ⟨w.heap.size, 0 + j, none⟩) h2).trans (h3 j hj)⟩
theorem model_cp {w w' : World} {a' : Option Addr} {l : List UInt8} (h : Cp w w' a' l) (hl : l.length ≤ 1048576) :
    Calls Tryd.prog 11 #[.slice a' l.length l.length] w' (MPost l w') := by
  rcases h with ⟨_, ⟨rfl, rfl⟩ | ⟨rfl, h2, h3⟩⟩
  · exact model_empty none w'
  · cases l with
    | nil => exact model_empty _ w'
    | cons c t => exact model_core w.heap.size (c :: t) w' (by simp) hl h2 (fun j hj => by have := h3 j hj; rwa [Nat.zero_add] at this)

/-! ### the digits are no longer than the text -/
theorem fin_len {ng ng' : Bool} {wh fr ds : List UInt8} {e ex : Int} (h : fin ng wh fr e = some (ng', ds, ex)) : ds.length ≤ (wh ++ fr).length := by
  unfold fin at h
  by_cases h0 : trimZ (noZ (wh ++ fr)) = []
  · rw [if_pos h0] at h
    injection h with h
    injection h with h1 h2
    injection h2 with h2 h3
    rw [← h2]
    exact Nat.zero_le _
  · rw [if_neg h0] at h
    injection h with h
    injection h with h1 h2
    injection h2 with h2 h3
    rw [← h2]
    exact Nat.le_trans (trimZ_len _) (List.dropWhile_sublist _).length_le
theorem P1_len {ng ng' : Bool} {l1 ds : List UInt8} {ex : Int} (h : P1 ng l1 = some (ng', ds, ex)) : ds.length ≤ l1.length := by
  unfold P1 at h
  split at h
  · cases h
  · obtain ⟨fr, e, pre, h1, h2, h3, h4⟩ := P2_fin h
    have g1 := fin_len h1
    have g2 : (mant (aft l1)).length ≤ (aft l1).length := (List.takeWhile_sublist _).length_le
    have g3 := congrArg List.length (dg_aft l1)
    rw [h3] at g2
    rw [List.length_append] at g1 g2 g3
    omega
theorem parse_len {l ds : List UInt8} {ng : Bool} {ex : Int} (h : parseL l = some (ng, ds, ex)) : ds.length ≤ l.length := by
  unfold parseL at h
  split at h
  · have := P1_len h
    rw [List.length_drop] at this
    omega
  · exact P1_len h
theorem SlIs.form {w : World} {v : Value} {ds : List UInt8} (h : SlIs w v ds) : ∃ a c, v = .slice a ds.length c := by
  rcases h with ⟨h1, h⟩ | ⟨g, off, cap, h, _⟩
  · exact ⟨none, 0, by rw [h, h1]; rfl⟩
  · exact ⟨_, _, h⟩

set_option maxHeartbeats 2000000 in
theorem law3 (a : Option Addr) (cap : Nat) (l : List UInt8) (w : World) (h : ArgIs w a cap l) (hm : l.length ≤ maxLen) :
    Calls Tryd.prog 3 #[.slice a l.length cap] w fun e w' => e = .returned (.bool true) ∧ Below w.heap.size w w' := by
  have HCO : Hid (l.length ≤ 1048576 → Calls Tryd.prog 10 #[.slice a l.length cap] w fun e w' => ∃ a', e = .returned (.slice a' l.length l.length) ∧ Cp w w' a' l) := copy_arg a cap l w h
  have HMC : Hid (∀ w' a', Cp w w' a' l → l.length ≤ 1048576 → Calls Tryd.prog 11 #[.slice a' l.length l.length] w' (MPost l w')) := fun w' a' h1 h2 => model_cp h1 h2
  have HPC : Hid (∀ w' a', Cp w w' a' l → l.length ≤ 1048576 → Calls Tryd.prog 12 #[.slice a' l.length l.length] w' (ZPost l w')) := fun w' a' h1 h2 => parse_cp h1 h2
  clear h
  generalize hn : l.length = n at *
  have HN : Hid (l.length = n) := hn
  clear hn
  go_enter Tryd.func3, Tryd.ntmps3
  go_wp2_with fail
  refine (zz9 a n cap w hm).mono ?_
  rintro e w1 ⟨⟨bb, rfl, hbb⟩, rfl⟩
  cases bb with
  | false =>
    go_wp2
    go_ret
    exact ⟨rfl, Below.refl _ _⟩
  | true =>
    have hn20 : n ≤ 1048576 := hbb rfl
    clear hbb
    go_wp2_with fail
    refine (HCO.out hn20).mono ?_
    rintro e w2 ⟨a', rfl, hcp⟩
    go_wp2_with fail
    refine (HMC.out w2 a' hcp hn20).mono ?_
    rintro e w3 ⟨hb3, ⟨HP, rfl⟩ | ⟨ng, dv, ds, ex, HP, rfl, HS⟩⟩
    · go_wp2_with fail
      refine (HPC.out w3 a' (hcp.below hb3) hn20).mono ?_
      rintro e w4 ⟨hb4, ⟨HP2, rfl⟩ | ⟨ng2, dv2, ds2, ex2, HP2, rfl, HS2⟩⟩
      · go_wp2
        go_ret
        exact ⟨rfl, (hcp.below hb3).1.trans (hb4.mono (hcp.below hb3).1.size)⟩
      · exact absurd (HP.out.symm.trans HP2.out) (by simp)
    · go_wp2_with fail
      refine (HPC.out w3 a' (hcp.below hb3) hn20).mono ?_
      rintro e w4 ⟨hb4, ⟨HP2, rfl⟩ | ⟨ng2, dv2, ds2, ex2, HP2, rfl, HS2⟩⟩
      · exact absurd (HP.out.symm.trans HP2.out) (by simp)
      · have heq := HP.out.symm.trans HP2.out
        simp only [Option.some.injEq, Prod.mk.injEq] at heq
        obtain ⟨rfl, rfl, rfl⟩ := heq
        have hdl : ds.length ≤ 1048576 := by
          have := parse_len HP.out
          rw [HN.out] at this
          omega
        have HS' := HS.below hb4
        obtain ⟨a1, c1, rfl⟩ := HS'.form
        obtain ⟨a2, c2, rfl⟩ := HS2.form
        have HSA : Hid (Calls Tryd.prog 13 #[.slice a2 ds.length c2, .slice a1 ds.length c1] w4 fun e w' => e = .returned (.bool true) ∧ Below w4.heap.size w4 w') := same_any a2 a1 c2 c1 ds w4 hdl HS2 HS'
        have hbb : Below w1.heap.size w1 w4 := (hcp.below hb3).1.trans (hb4.mono (hcp.below hb3).1.size)
        clear HS' HS HS2 HP HP2 hdl
        generalize ds.length = dn at *
        go_wp2_with (go_at_call 13; refine HSA.out.mono ?_; rintro e w' ⟨rfl, hb5⟩)
        go_ret
        exact ⟨rfl, hbb.trans (hb5.mono hbb.size)⟩
end Go.Proofs.Qxb6600755aDoor
