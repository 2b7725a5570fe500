import Derived.Test.Qxb6600698aDoorWalks
import Derived.Test.Qxb6600698aDoorPlain2
namespace Go.Proofs.Qxb6600698aDoor
open Go.Shelf Go.RowKit
set_option linter.unusedVariables false
set_option maxRecDepth 100000

theorem ret_int {k : IntKind} {a b : Int} (h : a = b) : Ending.returned (.int k a) = .returned (.int k b) := by rw [h]

set_option maxHeartbeats 1000000 in
theorem badCtl_any (c : UInt8) (w : World) : Calls Tryd.prog 33 #[.int .u8 c.toNat] w fun e w' => e = .returned (.bool (bad c)) ∧ w' = w := by
  by_cases h1 : (c.toNat : Int) ≤ 8
  · have HB : Hid (bad c = true) := (bad_iff c).2 (by omega)
    go_enter Tryd.func33, Tryd.ntmps33
    go_wp2
    go_ret
    exact ⟨ret_bool HB.out.symm, rfl⟩
  by_cases h2 : (10 : Int) ≤ c.toNat
  · by_cases h3 : (c.toNat : Int) ≤ 31
    · have HB : Hid (bad c = true) := (bad_iff c).2 (by omega)
      go_enter Tryd.func33, Tryd.ntmps33
      go_wp2
      go_ret
      exact ⟨ret_bool HB.out.symm, rfl⟩
    · by_cases h4 : ((c.toNat : Int) == 127) = true
      · have HB : Hid (bad c = true) := (bad_iff c).2 (by simp at h4; omega)
        go_enter Tryd.func33, Tryd.ntmps33
        go_wp2
        go_ret
        exact ⟨ret_bool HB.out.symm, rfl⟩
      · have h4' : ((c.toNat : Int) == 127) = false := by simpa using h4
        have HB : Hid (bad c = false) := by
          unfold Hid
          rw [← Bool.not_eq_true, bad_iff]
          simp at h4
          omega
        clear h4
        go_enter Tryd.func33, Tryd.ntmps33
        go_wp2
        go_ret
        exact ⟨ret_bool HB.out.symm, rfl⟩
  · have h4' : ((c.toNat : Int) == 127) = false := by simp; omega
    have HB : Hid (bad c = false) := by
      unfold Hid
      rw [← Bool.not_eq_true, bad_iff]
      omega
    go_enter Tryd.func33, Tryd.ntmps33
    go_wp2
    go_ret
    exact ⟨ret_bool HB.out.symm, rfl⟩

def fe (s : ByteArray) : Nat := foldEnd s.data.toList
theorem fe_no (s : ByteArray) (h : starts s.data.toList = false) : fe s = 0 := by unfold fe foldEnd; rw [if_neg (by rw [h]; simp)]
theorem fe_yes (s : ByteArray) (h : starts s.data.toList = true) : fe s = scan s.data.toList := by unfold fe foldEnd; rw [if_pos h]

set_option maxHeartbeats 2000000 in
theorem foldEnd_any (s : ByteArray) (w : World) (hs : s.size ≤ 1048577) :
    Calls Tryd.prog 23 #[.string s] w fun e w' => e = .returned (.int .i64 (fe s)) ∧ w' = w := by
  by_cases h0 : ((s.size : Int) == 0) = true
  · have HF : Hid (fe s = 0) := fe_no s (by
      have := starts_end s 0 (by have := beq_iff_eq.1 h0; omega)
      simpa using this)
    go_enter Tryd.func23, Tryd.ntmps23
    go_wp2
    go_ret
    exact ⟨ret_int (by rw [HF.out]; rfl), rfl⟩
  have h0' : ((s.size : Int) == 0) = false := by simpa using h0
  have hpos : 0 < s.size := by
    have : ¬ (s.size : Int) = 0 := fun e => h0 (beq_iff_eq.2 e)
    omega
  clear h0
  by_cases hw : ws s[0] = false
  · have HF : Hid (fe s = 0) := fe_no s (by
      have := starts_at s 0 hpos
      rw [List.drop_zero] at this
      rw [this]; exact hw)
    go_enter Tryd.func23, Tryd.ntmps23
    go_wp2_with (go_at_call 17; refine (isWS_any _ _).mono ?_; rintro e w' ⟨rfl, rfl⟩)
    go_ret
    exact ⟨ret_int (by rw [HF.out]; rfl), rfl⟩
  have hw' : ws s[0] = true := by simpa using hw
  have HF : Hid (fe s = scan s.data.toList) := fe_yes s (by
      have := starts_at s 0 hpos
      rw [List.drop_zero] at this
      rw [this]; exact hw')
  clear hw
  go_enter Tryd.func23, Tryd.ntmps23
  go_wp2_with (go_at_call 17; refine (isWS_any _ _).mono ?_; rintro e w' ⟨rfl, rfl⟩)
  go_loop [3] (fun i => ∃ k : Nat, k ≤ s.size ∧ i = .int .i64 k ∧ Hid (k + scan (s.data.toList.drop k) = scan s.data.toList)) (fun i => s.size - (intOf i).toNat)
  case atStart => exact ⟨0, Nat.zero_le _, rfl, by unfold Hid; simp⟩
  case round =>
    obtain ⟨k, hk, rfl, HA⟩ := hrel
    by_cases hlt : k < s.size
    · by_cases h10 : ((s[k].toNat : Int) == 10) = true
      · have H10 : Hid (s[k] = 10) := byte_eq (by simpa using h10)
        by_cases hke : ((k : Int) + 1 == s.size) = true
        · have HR : Hid (fe s = k + 1) := by
            unfold Hid
            rw [HF.out, ← HA.out, scan_hit s k hlt H10.out (starts_end s _ (by simp at hke; omega))]
          clear hw'
          go_wp2
          go_ret
          exact ⟨ret_int (by rw [HR.out]; go_num), rfl⟩
        · have hke' : ((k : Int) + 1 == s.size) = false := by simpa using hke
          have hk1 : k + 1 < s.size := by simp at hke; omega
          clear hke
          by_cases hws : ws s[k + 1] = false
          · have HR : Hid (fe s = k + 1) := by
              unfold Hid
              rw [HF.out, ← HA.out, scan_hit s k hlt H10.out (by rw [starts_at s _ hk1]; exact hws)]
            clear hw'
            go_wp2_with (go_at_call 17; refine (isWS_any _ _).mono ?_; rintro e w' ⟨rfl, rfl⟩)
            go_ret
            exact ⟨ret_int (by rw [HR.out]; go_num), rfl⟩
          · have hws' : ws s[k + 1] = true := by simpa using hws
            have HN : Hid (scan (s.data.toList.drop k) = scan (s.data.toList.drop (k + 1)) + 1) := scan_miss s k hlt (by rw [starts_at s _ hk1, hws']; simp)
            clear hw' hws
            go_wp2_with (go_at_call 17; refine (isWS_any _ _).mono ?_; rintro e w' ⟨rfl, rfl⟩)
            go_round
            case rel => exact ⟨k + 1, by omega, by go_num, by unfold Hid; have := HA.out; rw [HN.out] at this; omega⟩
            case measure => simp [intOf]; omega
      · have h10' : ((s[k].toNat : Int) == 10) = false := by simpa using h10
        have HN : Hid (scan (s.data.toList.drop k) = scan (s.data.toList.drop (k + 1)) + 1) := scan_miss s k hlt (fun h => byte_ne (by simpa using h10) h.1)
        clear hw' h10
        go_wp2
        go_round
        case rel => exact ⟨k + 1, by omega, by go_num, by unfold Hid; have := HA.out; rw [HN.out] at this; omega⟩
        case measure => simp [intOf]; omega
    · have HR : Hid (fe s = s.size) := by
        unfold Hid
        have := HA.out
        rw [scan_end s k hlt] at this
        rw [HF.out, ← this]
        omega
      clear hw'
      go_wp2
      go_ret
      exact ⟨ret_int (by rw [HR.out]), rfl⟩

def bb (s : ByteArray) : Bool := blockBad s.data.toList
set_option maxHeartbeats 2000000 in
theorem blockBad_any (s : ByteArray) (w : World) (hs : s.size ≤ 1048577) :
    Calls Tryd.prog 24 #[.string s] w fun e w' => e = .returned (.bool (bb s)) ∧ w' = w := by
  go_enter Tryd.func24, Tryd.ntmps24
  go_wp2
  go_loop [3] (fun i => ∃ k : Nat, k ≤ s.size ∧ i = .int .i64 k ∧ Hid (blockBad (s.data.toList.drop k) = bb s)) (fun i => s.size - (intOf i).toNat)
  case atStart => exact ⟨0, Nat.zero_le _, rfl, by unfold Hid bb; simp⟩
  case round =>
    obtain ⟨k, hk, rfl, HA⟩ := hrel
    by_cases hlt : k < s.size
    · by_cases h10 : ((s[k].toNat : Int) == 10) = true
      · have HN : Hid (blockBad (s.data.toList.drop k) = blockBad (s.data.toList.drop (k + 1))) := blk_LF s k hlt (byte_eq (by simpa using h10))
        go_wp2
        go_round
        case rel => exact ⟨k + 1, by omega, by go_num, HN.out.symm.trans HA.out⟩
        case measure => simp [intOf]; omega
      have h10' : ((s[k].toNat : Int) == 10) = false := by simpa using h10
      have HN10 : Hid (s[k] ≠ 10) := byte_ne (by simpa using h10)
      clear h10
      by_cases h13 : ((s[k].toNat : Int) == 13) = true
      · have H13 : Hid (s[k] = 13) := byte_eq (by simpa using h13)
        by_cases hke : ((k : Int) + 1 == s.size) = true
        · have HN : Hid (blockBad (s.data.toList.drop k) = blockBad (s.data.toList.drop (k + 1))) := blk_CR_end s k hlt H13.out (by simp at hke; omega)
          go_wp2
          go_round
          case rel => exact ⟨k + 1, by omega, by go_num, HN.out.symm.trans HA.out⟩
          case measure => simp [intOf]; omega
        have hke' : ((k : Int) + 1 == s.size) = false := by simpa using hke
        have hk1 : k + 1 < s.size := by simp at hke; omega
        clear hke
        by_cases h10b : ((s[k + 1].toNat : Int) == 10) = true
        · have HN : Hid (blockBad (s.data.toList.drop k) = blockBad (s.data.toList.drop (k + 1))) := blk_CR_LF s k hk1 H13.out (byte_eq (by simpa using h10b))
          go_wp2
          go_round
          case rel => exact ⟨k + 1, by omega, by go_num, HN.out.symm.trans HA.out⟩
          case measure => simp [intOf]; omega
        have h10b' : ((s[k + 1].toNat : Int) == 10) = false := by simpa using h10b
        have HN : Hid (blockBad (s.data.toList.drop k) = if bad s[k] then true else blockBad (s.data.toList.drop (k + 1))) := blk_other s k hlt HN10.out (Or.inr ⟨hk1, byte_ne (by simpa using h10b)⟩)
        have HR : Hid (bb s = true) := by
          unfold Hid
          rw [← HA.out, HN.out, H13.out]
          rfl
        have hb13 : bad s[k] = true := by rw [H13.out]; decide
        clear h10b
        go_wp2_with (go_at_call 33; refine (badCtl_any _ _).mono ?_; rintro e w' ⟨rfl, rfl⟩)
        go_ret
        exact ⟨ret_bool HR.out.symm, rfl⟩
      have h13' : ((s[k].toNat : Int) == 13) = false := by simpa using h13
      have HN : Hid (blockBad (s.data.toList.drop k) = if bad s[k] then true else blockBad (s.data.toList.drop (k + 1))) := blk_other s k hlt HN10.out (Or.inl (byte_ne (by simpa using h13)))
      clear h13
      by_cases hbd : bad s[k] = true
      · have HR : Hid (bb s = true) := by
          unfold Hid
          rw [← HA.out, HN.out, if_pos hbd]
        go_wp2_with (go_at_call 33; refine (badCtl_any _ _).mono ?_; rintro e w' ⟨rfl, rfl⟩)
        go_ret
        exact ⟨ret_bool HR.out.symm, rfl⟩
      · have hbd' : bad s[k] = false := by simpa using hbd
        have HR : Hid (blockBad (s.data.toList.drop (k + 1)) = bb s) := by
          unfold Hid
          rw [← HA.out, HN.out, if_neg hbd]
        clear hbd
        go_wp2_with (go_at_call 33; refine (badCtl_any _ _).mono ?_; rintro e w' ⟨rfl, rfl⟩)
        go_round
        case rel => exact ⟨k + 1, by omega, by go_num, HR⟩
        case measure => simp [intOf]; omega
    · have HR : Hid (bb s = false) := by
        unfold Hid
        rw [← HA.out, blk_end s k hlt]
      go_wp2
      go_ret
      exact ⟨ret_bool HR.out.symm, rfl⟩

set_option maxHeartbeats 2000000 in
theorem trimWS_any (s : ByteArray) (w : World) (hs : s.size ≤ 1048577) :
    Calls Tryd.prog 25 #[.string s] w fun e w' => (∃ t : ByteArray, e = .returned (.string t) ∧ Hid (t.data.toList = trim s.data.toList)) ∧ w' = w := by
  go_enter Tryd.func25, Tryd.ntmps25
  go_wp2
  go_loop [3] (fun i => ∃ k : Nat, k ≤ s.size ∧ i = .int .i64 k ∧ Hid (trimL (s.data.toList.drop k) = trimL s.data.toList)) (fun i => s.size - (intOf i).toNat)
  case atStart => exact ⟨0, Nat.zero_le _, rfl, by unfold Hid; simp⟩
  case round =>
    obtain ⟨lo, hlo, rfl, HA⟩ := hrel
    have core : ∀ (HL : trimL s.data.toList = s.data.toList.drop lo), Hid (trim s.data.toList = trimR (s.data.toList.drop lo)) := fun HL => by
      unfold Hid trim
      rw [trim_comm, HL]
    by_cases hgo : ∃ h : lo < s.size, ws (s[lo]'h) = true
    · obtain ⟨hlt, hw⟩ := hgo
      have HN : Hid (trimL (s.data.toList.drop lo) = trimL (s.data.toList.drop (lo + 1))) := trimL_ws s lo hlt hw
      clear core
      go_wp2_with (go_at_call 17; refine (isWS_any _ _).mono ?_; rintro e w' ⟨rfl, rfl⟩)
      go_round
      case rel => exact ⟨lo + 1, by omega, by go_num, HN.out.symm.trans HA.out⟩
      case measure => simp [intOf]; omega
    · have HL : Hid (trim s.data.toList = trimR (s.data.toList.drop lo)) := by
        refine core ?_
        rw [← HA.out]
        by_cases hlt : lo < s.size
        · exact trimL_stop s lo hlt (by
            rw [← Bool.not_eq_true]
            exact fun h => hgo ⟨hlt, h⟩)
        · exact trimL_end s lo hlt
      have hstop : (h : lo < s.size) → ws (s[lo]'h) = false := fun h => by
        rw [← Bool.not_eq_true]
        exact fun h2 => hgo ⟨h, h2⟩
      clear hgo core HA
      by_cases hlt : lo < s.size
      · have hws := hstop hlt
        clear hstop
        go_wp2_with (go_at_call 17; refine (isWS_any _ _).mono ?_; rintro e w' ⟨rfl, rfl⟩)
        go_loop [4] (fun i => ∃ hi : Nat, lo ≤ hi ∧ hi ≤ s.size ∧ i = .int .i64 hi ∧ Hid (trimR ((s.data.toList.take hi).drop lo) = trim s.data.toList)) (fun i => (intOf i).toNat)
        case atStart => exact ⟨s.size, by omega, Nat.le_refl _, rfl, by unfold Hid; rw [HL.out, List.take_of_length_le (by simp)]⟩
        case round =>
          obtain ⟨hi, hlh, hhs, rfl, HB⟩ := hrel
          by_cases hgt : lo < hi
          · obtain ⟨h', rfl⟩ : ∃ h', hi = h' + 1 := ⟨hi - 1, by omega⟩
            have HM : Hid ((s.data.toList.take (h' + 1)).drop lo = (s.data.toList.take h').drop lo ++ [s[h']'(by omega)]) := mid_snoc s lo (h' + 1) hgt hhs
            by_cases hw2 : ws (s[h']'(by omega)) = true
            · have HN : Hid (trimR ((s.data.toList.take h').drop lo) = trim s.data.toList) := by
                unfold Hid
                rw [← HB.out, HM.out, trimR_snoc_ws _ _ hw2]
              clear hws
              go_wp2_with (go_at_call 17; refine (isWS_any _ _).mono ?_; rintro e w' ⟨rfl, rfl⟩)
              go_round
              case rel => exact ⟨h', by omega, by omega, by go_num, HN⟩
              case measure => simp [intOf] <;> omega
            · have hw2' : ws (s[h']'(by omega)) = false := by simpa using hw2
              have HR : Hid ((s.extract lo (h' + 1)).data.toList = trim s.data.toList) := by
                unfold Hid
                rw [ext_list, ← HB.out, HM.out, trimR_snoc_stop _ _ hw2']
              clear hw2
              clear hws
              go_wp2_with (go_at_call 17; refine (isWS_any _ _).mono ?_; rintro e w' ⟨rfl, rfl⟩)
              go_ret
              exact ⟨⟨_, rfl, HR⟩, rfl⟩
          · have HE : Hid (hi = lo) := (by omega : hi = lo)
            have HR : Hid ((s.extract lo hi).data.toList = trim s.data.toList) := by
              unfold Hid
              rw [ext_list, ← HB.out, HE.out, List.drop_of_length_le (by rw [List.length_take]; omega)]
              all_goals rfl
            clear hws
            go_wp2
            go_ret
            exact ⟨⟨_, rfl, HR⟩, rfl⟩
      · clear hstop
        go_wp2
        go_loop [4] (fun i => ∃ hi : Nat, lo ≤ hi ∧ hi ≤ s.size ∧ i = .int .i64 hi ∧ Hid (trimR ((s.data.toList.take hi).drop lo) = trim s.data.toList)) (fun i => (intOf i).toNat)
        case atStart => exact ⟨s.size, by omega, Nat.le_refl _, rfl, by unfold Hid; rw [HL.out, List.take_of_length_le (by simp)]⟩
        case round =>
          obtain ⟨hi, hlh, hhs, rfl, HB⟩ := hrel
          by_cases hgt : lo < hi
          · exact absurd hhs (by omega)
          · have HE : Hid (hi = lo) := (by omega : hi = lo)
            have HR : Hid ((s.extract lo hi).data.toList = trim s.data.toList) := by
              unfold Hid
              rw [ext_list, ← HB.out, HE.out, List.drop_of_length_le (by rw [List.length_take]; omega)]
              all_goals rfl
            go_wp2
            go_ret
            exact ⟨⟨_, rfl, HR⟩, rfl⟩
end Go.Proofs.Qxb6600698aDoor
