import Derived.Test.Qxb6600755aDoorParse2
namespace Go.Proofs.Qxb6600755aDoor
open Go.RowKit
set_option linter.unusedVariables false
set_option maxRecDepth 1000000

theorem byt_mid {w : World} {b n i k : Nat} {l : List UInt8} (h : ∀ j, j < n → w.cell? ⟨b, j, none⟩ = some (.int .u8 (bt l j).toNat)) (hl : l.length = n) (hk : k ≤ n) : Byt w b i ((l.take k).drop i) := fun j hj => by
  rw [mid_len l i k (by omega)] at hj
  rw [mid_bt l i k j (by omega) hj]
  exact h (i + j) (by omega)
theorem heapR (w : World) (o1 o2 : Obj) : ((w.alloc o1).alloc o2).heap[w.heap.size]? = some o1 := heap_alloc2_old w o1 o2
theorem heapD (w : World) (o1 o2 : Obj) : ((w.alloc o1).alloc o2).heap[w.heap.size + 1]? = some o2 := heap_alloc2_new w o1 o2
set_option maxHeartbeats 4000000 in
theorem parse_core (b : Nat) (l : List UInt8) (w : World) (hn : 0 < l.length) (hl : l.length ≤ 1048576) (hb : b < w.heap.size) (hc : ∀ j, j < l.length → w.cell? ⟨b, j, none⟩ = some (.int .u8 (bt l j).toNat)) :
    Calls Tryd.prog 24 #[.slice (some ⟨b, 0, none⟩) l.length l.length] w (ParsePost l w) := by
  have HC : Hid (∀ j, j < l.length → w.cell? ⟨b, j, none⟩ = some (.int .u8 (bt l j).toNat)) := hc
  have hc0 := hc 0 hn
  clear hc
  have HPN : Hid (bt l 0 = 45 → parseL l = P1 true (l.drop 1)) := P0_neg l hn
  have HPP : Hid (bt l 0 ≠ 45 → parseL l = P1 false (l.drop 0)) := P0_pos l hn
  generalize hnn : l.length = n at *
  have HN : Hid (l.length = n) := hnn
  clear hnn
  have hb1 : b < w.heap.size + 1 := by omega
  have hb2 : b < w.heap.size + 1 + 1 := by omega
  go_enter Tryd.func24, Tryd.ntmps24
  go_upto_if 22 with fail
  go_cut [5] from 12 to 26 (fun s5 wx => ∃ (ng : Bool) (i0 : Nat), s5 = .int .i64 i0 ∧ wx = (w.alloc (.cells #[.bool false, .slice none 0 0, .int .i64 0] 38)).alloc (.cells #[.bool ng, .slice none 0 0, .int .i64 0] 38) ∧ i0 ≤ n ∧ Hid (parseL l = P1 ng (l.drop i0)))
  case first =>
    by_cases h45 : (((bt l 0).toNat : Int) == 45) = true
    · go_wp2
      go_meet
      exact ⟨true, 1, rfl, rfl, by omega, HPN.out (byte_eq (by simpa using h45))⟩
    · have h45' : (((bt l 0).toNat : Int) == 45) = false := by simpa using h45
      have HP : Hid (parseL l = P1 false (l.drop 0)) := HPP.out (byte_ne (by simpa using h45))
      clear h45
      go_wp2
      go_meet
      exact ⟨false, 0, rfl, rfl, by omega, HP⟩
  case rest =>
  obtain ⟨ng, i0, rfl, rfl, hi0, HP1⟩ := hcut
  clear HPN HPP hc0
  go_upto_block 0 with fail
  go_cut [5] from 27 to 39 (fun s5 wx => wx = (w.alloc (.cells #[.bool false, .slice none 0 0, .int .i64 0] 38)).alloc (.cells #[.bool ng, .slice none 0 0, .int .i64 0] 38) ∧ ∃ i1 : Nat, s5 = .int .i64 i1 ∧ i0 ≤ i1 ∧ i1 ≤ n ∧ Hid (dg (l.drop i0) = (l.take i1).drop i0 ∧ aft (l.drop i0) = l.drop i1))
  case first =>
    go_wp2_with fail
    go_loop [5] (fun i => ∃ k : Nat, i = .int .i64 k ∧ i0 ≤ k ∧ k ≤ n ∧ Hid (∀ c ∈ (l.take k).drop i0, isDig c = true)) (fun i => n - (intOf i).toNat)
    case atStart => exact ⟨i0, by first | rfl | go_num, Nat.le_refl _, by omega, by unfold Hid; rw [List.drop_of_length_le (by rw [List.length_take]; omega)]; simp⟩
    case round =>
      obtain ⟨k, rfl, hk0, hkn, HA⟩ := hrel
      by_cases hlt : k < n
      · have hck := HC.out k hlt
        by_cases hd : isDig (bt l k) = true
        · have HD : Hid (∀ c ∈ (l.take (k + 1)).drop i0, isDig c = true) := mid_dig l i0 k hk0 (by rw [HN.out]; exact hlt) HA.out hd
          go_wp2_with (go_at_call 26; refine (isDigit_any _ _).mono ?_; rintro e w' ⟨rfl, rfl⟩)
          go_round
          case rel => exact ⟨k + 1, by go_num, by omega, by omega, HD⟩
          case measure => simp [intOf]; omega
        · have hd' : isDig (bt l k) = false := by simpa using hd
          have HD : Hid (dg (l.drop i0) = (l.take k).drop i0 ∧ aft (l.drop i0) = l.drop k) := dg_between l i0 k hk0 (by rw [HN.out]; exact hkn) HA.out (fun _ => hd')
          clear hd
          go_wp2_with (go_at_call 26; refine (isDigit_any _ _).mono ?_; rintro e w' ⟨rfl, rfl⟩)
          go_meet
          exact ⟨rfl, k, rfl, hk0, hkn, HD⟩
      · have HD : Hid (dg (l.drop i0) = (l.take k).drop i0 ∧ aft (l.drop i0) = l.drop k) := dg_between l i0 k hk0 (by rw [HN.out]; exact hkn) HA.out (fun h => absurd h (by rw [HN.out]; exact hlt))
        go_wp2
        go_meet
        exact ⟨rfl, k, rfl, hk0, hkn, HD⟩
  case rest =>
  obtain ⟨rfl, i1, rfl, hi01, hi1, HD1⟩ := hcut
  by_cases hw0 : i0 = i1
  · have HP : Hid (parseL l = none) := by
      unfold Hid
      rw [HP1.out]
      exact P1_bad0 _ _ (by rw [HD1.out.1]; exact mid_nil l i0 i1 (by omega))
    have hni0 : (i1 : Int) - i0 = 0 := by omega
    by_cases hni : n = i0
    · go_wp2
      exact bodyPost_ret (v := .tuple #[.agg #[.bool false, .slice none 0 0, .int .i64 0], .bool false]) (by simp [results, Tryd.results24, go_sem]) rfl (post_none HP (belowW _ _ _))
    · go_wp2
      exact bodyPost_ret (v := .tuple #[.agg #[.bool false, .slice none 0 0, .int .i64 0], .bool false]) (by simp [results, Tryd.results24, go_sem]) rfl (post_none HP (belowW _ _ _))
  obtain ⟨wl, hsub⟩ : ∃ wl, i1 - i0 = wl := ⟨_, rfl⟩
  have hw1 : i0 + wl ≤ i1 := by omega
  have hw2 : i1 ≤ i0 + wl := by omega
  have hwl0 : 0 < wl := by omega
  have hni : ¬ n = i0 := by omega
  have hci := HC.out i0 (by omega)
  clear hw0
  by_cases hbad : 1 < wl ∧ (((bt l i0).toNat : Int) == 48) = true
  · have HP : Hid (parseL l = none) := by
      unfold Hid
      rw [HP1.out]
      refine P1_bad1 _ _ ?_ ?_
      · rw [HD1.out.1, mid_len l _ _ (by rw [HN.out]; exact hi1)]; omega
      · rw [HD1.out.1, mid_head l _ _ (by omega) (by rw [HN.out]; exact hi1)]
        rw [show bt l i0 = 48 from byte_eq (by simpa using hbad.2)]
    obtain ⟨hbad1, hbad2⟩ := hbad
    have hwlz : ((wl : Int) == 0) = false := by simp; omega
    have hwl1 : (1 : Int) < wl := by omega
    go_wp2
    exact bodyPost_ret (v := .tuple #[.agg #[.bool false, .slice none 0 0, .int .i64 0], .bool false]) (by simp [results, Tryd.results24, go_sem]) rfl (post_none HP (belowW _ _ _))
  have HP2 : Hid (parseL l = P2 ng ((l.take i1).drop i0) (l.drop i1)) := by
    unfold Hid
    rw [HP1.out, P1_ok, HD1.out.1, HD1.out.2]
    · rw [HD1.out.1]; exact mid_ne l _ _ (by omega) (by rw [HN.out]; exact hi1)
    · rw [HD1.out.1, mid_len l _ _ (by rw [HN.out]; exact hi1), mid_head l _ _ (by omega) (by rw [HN.out]; exact hi1)]
      rintro ⟨h1, h2⟩
      exact hbad ⟨by omega, by rw [Option.some.inj h2]; rfl⟩
  have HBAD : Hid (¬ (1 < wl ∧ (((bt l i0).toNat : Int) == 48) = true)) := hbad
  clear hbad HP1 HD1
  go_upto_region 10 with fail
  go_cut [7, 57] from 40 to 57 (fun s7 s57 wx => wx = (w.alloc (.cells #[.bool false, .slice none 0 0, .int .i64 0] 38)).alloc (.cells #[.bool ng, .slice none 0 0, .int .i64 0] 38) ∧ s7 = .slice (some ⟨b, i0, none⟩) wl (n - i0) ∧ s57 = .bool false)
  case first =>
    have hwlz : ((wl : Int) == 0) = false := by simp; omega
    by_cases hw1' : (1 : Int) < wl
    · have h48 : (((bt l i0).toNat : Int) == 48) = false := by
        rw [← Bool.not_eq_true]
        exact fun h => HBAD.out ⟨by omega, h⟩
      go_wp2
      go_meet
      exact ⟨rfl, rfl, rfl⟩
    · go_wp2
      go_meet
      exact ⟨rfl, rfl, rfl⟩
  case rest =>
  obtain ⟨rfl, rfl, rfl⟩ := hcut
  clear HBAD hci
  go_upto_region 13 with fail
  go_cut [69] from 59 to 68 (fun s69 wx => wx = (w.alloc (.cells #[.bool false, .slice none 0 0, .int .i64 0] 38)).alloc (.cells #[.bool ng, .slice none 0 0, .int .i64 0] 38) ∧ s69 = .bool (isAt l i1 46))
  case first =>
    by_cases hlt : i1 < n
    · have hck := HC.out i1 hlt
      have HAT : Hid (isAt l i1 46 = decide (((bt l i1).toNat : Int) = (46 : UInt8).toNat)) := isAt_at l i1 46 (by rw [HN.out]; exact hlt)
      by_cases h46 : (((bt l i1).toNat : Int) == 46) = true
      · have HT : Hid (isAt l i1 46 = true) := by
          unfold Hid
          rw [HAT.out]
          exact decide_eq_true (by simpa using h46)
        go_wp2
        go_meet
        exact ⟨rfl, by rw [HT.out]⟩
      · have h46' : (((bt l i1).toNat : Int) == 46) = false := by simpa using h46
        have HT : Hid (isAt l i1 46 = false) := by
          unfold Hid
          rw [HAT.out]
          exact decide_eq_false (by simpa using h46)
        clear h46
        go_wp2
        go_meet
        exact ⟨rfl, by rw [HT.out]⟩
    · have HT : Hid (isAt l i1 46 = false) := isAt_end l i1 46 (by rw [HN.out]; exact hlt)
      go_wp2
      go_meet
      exact ⟨rfl, by rw [HT.out]⟩
  case rest =>
  obtain ⟨rfl, rfl⟩ := hcut
  go_upto_if 69 with fail
  go_cut [5, 8] from 69 to 93 (fun s5 s8 wx => wx = (w.alloc (.cells #[.bool false, .slice none 0 0, .int .i64 0] 38)).alloc (.cells #[.bool ng, .slice none 0 0, .int .i64 0] 38) ∧ ∃ (i2 : Nat) (fr : List UInt8), s5 = .int .i64 i2 ∧ i1 ≤ i2 ∧ i2 ≤ n ∧ Hid (parseL l = P3 ng ((l.take i1).drop i0) fr (l.drop i2)) ∧
    ∃ (fa : Option Addr) (fl fc : Nat), s8 = .slice fa fl fc ∧ fl ≤ n ∧ Hid ((fl = 0 ∧ fr = [] ∧ fa = none ∧ fc = 0) ∨ ∃ f0, fa = some ⟨b, f0, none⟩ ∧ fr = (l.take i2).drop f0 ∧ fl = i2 - f0 ∧ f0 < i2 ∧ i1 ≤ f0))
  case first =>
    cases hdot : isAt l i1 46 with
    | false =>
      go_wp2
      go_meet
      exact ⟨rfl, i1, [], rfl, Nat.le_refl _, hi1, HP2.out.trans (P2_no _ _ _ _ hdot), none, 0, 0, rfl, Nat.zero_le _, Or.inl ⟨rfl, rfl, rfl, rfl⟩⟩
    | true =>
      have hlt1 : i1 < n := by have := isAt_lt hdot; rw [HN.out] at this; exact this
      have HD0 : Hid (parseL l = if dg (l.drop (i1 + 1)) = [] then none else P3 ng ((l.take i1).drop i0) (dg (l.drop (i1 + 1))) (aft (l.drop (i1 + 1)))) := HP2.out.trans (P2_dot _ _ _ _ hdot)
      clear hdot
      go_wp2_with fail
      go_loop [5] (fun i => ∃ k : Nat, i = .int .i64 k ∧ i1 + 1 ≤ k ∧ k ≤ n ∧ Hid (∀ c ∈ (l.take k).drop (i1 + 1), isDig c = true)) (fun i => n - (intOf i).toNat)
      case atStart => exact ⟨i1 + 1, by first | rfl | go_num, Nat.le_refl _, by omega, by unfold Hid; rw [List.drop_of_length_le (by rw [List.length_take]; omega)]; simp⟩
      case round =>
        obtain ⟨k, rfl, hk0, hkn, HA⟩ := hrel
        by_cases hlt : k < n
        · have hck := HC.out k hlt
          by_cases hd : isDig (bt l k) = true
          · have HD : Hid (∀ c ∈ (l.take (k + 1)).drop (i1 + 1), isDig c = true) := mid_dig l (i1 + 1) k hk0 (by rw [HN.out]; exact hlt) HA.out hd
            go_wp2_with (go_at_call 26; refine (isDigit_any _ _).mono ?_; rintro e w' ⟨rfl, rfl⟩)
            go_round
            case rel => exact ⟨k + 1, by go_num, by omega, by omega, HD⟩
            case measure => simp [intOf]; omega
          · have hd' : isDig (bt l k) = false := by simpa using hd
            have HD : Hid (dg (l.drop (i1 + 1)) = (l.take k).drop (i1 + 1) ∧ aft (l.drop (i1 + 1)) = l.drop k) := dg_between l (i1 + 1) k hk0 (by rw [HN.out]; exact hkn) HA.out (fun _ => hd')
            clear hd
            have hkb : i1 + 1 ≤ k := hk0
            obtain ⟨fl, hsub2⟩ : ∃ fl, k - (i1 + 1) = fl := ⟨_, rfl⟩
            by_cases hf0 : k = i1 + 1
            · have HPN : Hid (parseL l = none) := by
                unfold Hid
                rw [HD0.out, if_pos (by rw [HD.out.1]; exact mid_nil l _ _ (by omega))]
              have hfl0 : fl = 0 := by omega
              have hflz : ((fl : Int) == 0) = true := by simp; omega
              clear hf0 hfl0
              have hni2 : ¬ n = i1 + 1 := by omega
              go_wp2_with (go_at_call 26; refine (isDigit_any _ _).mono ?_; rintro e w' ⟨rfl, rfl⟩)
              exact bodyPost_ret (v := .tuple #[.agg #[.bool false, .slice none 0 0, .int .i64 0], .bool false]) (by simp [results, Tryd.results24, go_sem]) rfl (post_none HPN (belowW _ _ _))
            · have hni2 : ¬ n = i1 + 1 := by omega
              have hflz : ((fl : Int) == 0) = false := by simp; omega
              have HPS : Hid (parseL l = P3 ng ((l.take i1).drop i0) ((l.take k).drop (i1 + 1)) (l.drop k)) := by
                unfold Hid
                rw [HD0.out, HD.out.1, HD.out.2, if_neg (mid_ne l _ _ (by omega) (by rw [HN.out]; exact hkn))]
              go_wp2_with (go_at_call 26; refine (isDigit_any _ _).mono ?_; rintro e w' ⟨rfl, rfl⟩)
              go_meet
              exact ⟨rfl, k, (l.take k).drop (i1 + 1), rfl, by omega, hkn, HPS, some ⟨b, i1 + 1, none⟩, fl, n - (i1 + 1), rfl, by omega, Or.inr ⟨i1 + 1, rfl, rfl, hsub2.symm, by omega, by omega⟩⟩
        · have HD : Hid (dg (l.drop (i1 + 1)) = (l.take k).drop (i1 + 1) ∧ aft (l.drop (i1 + 1)) = l.drop k) := dg_between l (i1 + 1) k hk0 (by rw [HN.out]; exact hkn) HA.out (fun h => absurd h (by rw [HN.out]; exact hlt))
          have hkb : i1 + 1 ≤ k := hk0
          obtain ⟨fl, hsub2⟩ : ∃ fl, k - (i1 + 1) = fl := ⟨_, rfl⟩
          by_cases hf0 : k = i1 + 1
          · have HPN : Hid (parseL l = none) := by
              unfold Hid
              rw [HD0.out, if_pos (by rw [HD.out.1]; exact mid_nil l _ _ (by omega))]
            have hfl0 : fl = 0 := by omega
            have hflz : ((fl : Int) == 0) = true := by simp; omega
            have hni2 : n = i1 + 1 := by omega
            clear hf0 hfl0
            go_wp2
            exact bodyPost_ret (v := .tuple #[.agg #[.bool false, .slice none 0 0, .int .i64 0], .bool false]) (by simp [results, Tryd.results24, go_sem]) rfl (post_none HPN (belowW _ _ _))
          · have hni2 : ¬ n = i1 + 1 := by omega
            have hflz : ((fl : Int) == 0) = false := by simp; omega
            have HPS : Hid (parseL l = P3 ng ((l.take i1).drop i0) ((l.take k).drop (i1 + 1)) (l.drop k)) := by
              unfold Hid
              rw [HD0.out, HD.out.1, HD.out.2, if_neg (mid_ne l _ _ (by omega) (by rw [HN.out]; exact hkn))]
            go_wp2
            go_meet
            exact ⟨rfl, k, (l.take k).drop (i1 + 1), rfl, by omega, hkn, HPS, some ⟨b, i1 + 1, none⟩, fl, n - (i1 + 1), rfl, by omega, Or.inr ⟨i1 + 1, rfl, rfl, hsub2.symm, by omega, by omega⟩⟩
  case rest =>
  obtain ⟨rfl, i2, fr, rfl, h12, hi2, HP3, fa, fl, fc, rfl, hfln, HFR⟩ := hcut
  clear HP2
  refine ‹∀ (a : Act) (w : World), Code.wp Tryd.prog (Code.seq (Code.region 21 _ _) _) _ a w → _› _ _ ?_
  have HCW : Hid (∀ j, j < n → ((w.alloc (.cells #[.bool false, .slice none 0 0, .int .i64 0] 38)).alloc (.cells #[.bool ng, .slice none 0 0, .int .i64 0] 38)).cell? ⟨b, j, none⟩ = some (.int .u8 (bt l j).toNat)) := fun j hj => ((belowW w _ _).cell (p := ⟨b, j, none⟩) hb).trans (HC.out j hj)
  have HWL : Hid (((l.take i1).drop i0).length = wl) := by unfold Hid; rw [mid_len l _ _ (by rw [HN.out]; exact hi1)]; exact hsub
  have HBW : Hid (Byt ((w.alloc (.cells #[.bool false, .slice none 0 0, .int .i64 0] 38)).alloc (.cells #[.bool ng, .slice none 0 0, .int .i64 0] 38)) b i0 ((l.take i1).drop i0)) := byt_mid HCW.out HN.out hi1
  have hwf : wl + fl ≤ 1048576 := by
    rcases HFR.out with ⟨h1, _⟩ | ⟨f0, _, _, h3, h4, h5⟩
    · omega
    · omega
  have HF : Hid ((fl = 0 ∧ fr = []) ∨ (fr.length = fl ∧ 0 < fl ∧ ∃ f0, fa = some ⟨b, f0, none⟩ ∧ Byt ((w.alloc (.cells #[.bool false, .slice none 0 0, .int .i64 0] 38)).alloc (.cells #[.bool ng, .slice none 0 0, .int .i64 0] 38)) b f0 fr)) := by
    rcases HFR.out with ⟨h1, h2, _⟩ | ⟨f0, h1, h2, h3, h4, h5⟩
    · exact Or.inl ⟨h1, h2⟩
    · refine Or.inr ⟨?_, by omega, f0, h1, ?_⟩
      · rw [h2, mid_len l _ _ (by rw [HN.out]; exact hi2), h3]
      · rw [h2]; exact byt_mid HCW.out HN.out hi2
  exact stage2 b i0 wl (n - i0) n i2 fl fc fa l ((l.take i1).drop i0) fr ng w _ hl hi2 (by omega) (by omega) (by omega) hwf HN HCW HWL HBW HF (belowW w _ _) (by simp; omega) (by omega) (by omega) (by simp) (heapR w _ _) (heapD w _ _) HP3 _ _ _ _ _ _ _ _ _ _ _ _ _ _ _ _ _ _ _ _ _ _ _ _ _ _ _ _ _ _ _ _ _ _ _ _ _ _ _ _ _ _ _ _ _ _ _ _ _ _ _ _ _ _ _ _ _ _ _ _ _ _ _ _ _ _ _ _ _ _ _ _ _ _ _ _ _ _ _ _ _ _ _ _ _ _ _ _ _ _ _ _ _ _ _ _ _ _ _ _ _ _ _ _ _ _ _ _ _ _ _ _ _ _ _ _ _ _ _ _ _ _ _ _ _ _ _ _ _ _ _ _ _ _ _ _ _ _ _ _ _ _ _ _ _ _ _ _ _ _ _ _ _ _ _ _ _ _ _ _ _ _ _ _ _ _ _ _ _ _ _ _ _ _ _ _ _ _ _ _ _ _ _ _ _ _ _ _ _ _ _ _ _ _ _ _ _ _ _ _ _ _ _ _ _ _ _ _ _ _ _ _
end Go.Proofs.Qxb6600755aDoor
