import Derived.Test.Qxb6600369aFmtRec
import Derived.BigQuiet
import Derived.Deep.QuietTactic
namespace Go.Proofs.Qxb6600369aFmt
open Go.RowKit Go.Maps
set_option linter.unusedVariables false
set_option maxRecDepth 100000

theorem ret_str {s t : ByteArray} (h : s = t) : Ending.returned (.string s) = .returned (.string t) := by rw [h]
theorem ret_int {k : IntKind} {a b : Int} (h : a = b) : Ending.returned (.int k a) = .returned (.int k b) := by rw [h]
theorem ret_bool {a b : Bool} (h : a = b) : Ending.returned (.bool a) = .returned (.bool b) := by rw [h]
theorem ret_ssi {a a' b b' : ByteArray} {p p' : Int} (h1 : a = a') (h2 : b = b') (h3 : p = p') : Ending.returned (.tuple #[.string a, .string b, .int .i64 p]) = .returned (.tuple #[.string a', .string b', .int .i64 p']) := by rw [h1, h2, h3]
def strLen : Value → Nat | .string u => u.size | _ => 0

set_option maxHeartbeats 400000 in
theorem trimLeftByte_any (s : ByteArray) (w : World) (hs : s.size ≤ 1048576) :
    Calls Tryf.prog 20 #[.string s, .int .u8 48] w fun e w' => e = .returned (.string ⟨(noZ s.data.toList).toArray⟩) ∧ w' = w := by
  go_enter Tryf.func20, Tryf.ntmps20
  go_wp2
  go_loop [0] (fun t => ∃ u : ByteArray, t = .string u ∧ u.size ≤ s.size ∧ noZ u.data.toList = noZ s.data.toList) (fun t => strLen t)
  case atStart => exact ⟨s, rfl, Nat.le_refl _, rfl⟩
  case round =>
    obtain ⟨u, rfl, hu, hall⟩ := hrel
    have HA : Hid (noZ u.data.toList = noZ s.data.toList) := hall
    clear hall
    by_cases hlt : 0 < u.size
    · by_cases hz : ((u[0].toNat : Int) == 48) = true
      · have HN : Hid (noZ (u.data.toList.drop 0) = noZ (u.data.toList.drop (0 + 1))) := noZ_zero u 0 hlt (by simpa using hz)
        go_wp2
        go_round
        case rel => exact ⟨u.extract 1 u.size, rfl, by simp; omega, by rw [ext_list, List.take_of_length_le (by simp)]; exact HN.out.symm.trans HA.out⟩
        case measure => simp [strLen]; omega
      · have hz' : ((u[0].toNat : Int) == 48) = false := by simpa using hz
        have HN : Hid (noZ (u.data.toList.drop 0) = u.data.toList.drop 0) := noZ_stop u 0 hlt (by simpa using hz)
        clear hz
        go_wp2
        go_ret
        exact ⟨ret_str (ba_eq (by rw [← HA.out]; exact HN.out.symm)), rfl⟩
    · have HZ : Hid (u.data.toList = []) := by
        have : u.data.toList.length = 0 := by rw [← ba_size]; omega
        exact List.length_eq_zero_iff.1 this
      go_wp2
      go_ret
      exact ⟨ret_str (ba_eq (by rw [← HA.out, HZ.out]; rfl)), rfl⟩

set_option maxHeartbeats 400000 in
theorem trimZeros_any (s : ByteArray) (w : World) (hs : s.size ≤ 1048576) :
    Calls Tryf.prog 12 #[.string s] w fun e w' => e = .returned (.string ⟨(noZ s.data.toList).toArray⟩) ∧ w' = w := by
  go_enter Tryf.func12, Tryf.ntmps12
  go_wp2
  go_loop [3] (fun i => ∃ k : Nat, k ≤ s.size ∧ i = .int .i64 k ∧ noZ (s.data.toList.drop k) = noZ s.data.toList) (fun i => s.size - (intOf i).toNat)
  case atStart => exact ⟨0, Nat.zero_le _, rfl, rfl⟩
  case round =>
    obtain ⟨k, hk, rfl, hall⟩ := hrel
    have HA : Hid (noZ (s.data.toList.drop k) = noZ s.data.toList) := hall
    clear hall
    by_cases hlt : k < s.size
    · by_cases hz : ((s[k].toNat : Int) == 48) = true
      · have HN : Hid (noZ (s.data.toList.drop k) = noZ (s.data.toList.drop (k + 1))) := noZ_zero s k hlt (by simpa using hz)
        go_wp2
        go_round
        case rel => exact ⟨k + 1, by omega, by go_num, HN.out.symm.trans HA.out⟩
        case measure => simp [intOf]; omega
      · have hz' : ((s[k].toNat : Int) == 48) = false := by simpa using hz
        have HN : Hid (noZ (s.data.toList.drop k) = s.data.toList.drop k) := noZ_stop s k hlt (by simpa using hz)
        clear hz
        go_wp2
        go_ret
        exact ⟨ret_str (by rw [← HA.out, HN.out, ext_mk, List.take_of_length_le (by simp)]), rfl⟩
    · have HZ : Hid (k = s.size) := (by omega : k = s.size)
      have HN : Hid (noZ (s.data.toList.drop s.size) = []) := noZ_end s
      go_wp2
      go_ret
      exact ⟨ret_str (by rw [← HA.out, HZ.out, HN.out, ext_mk, List.take_of_length_le (by simp), List.drop_of_length_le (by simp)]), rfl⟩

set_option maxHeartbeats 400000 in
theorem trimLeft_any (s : ByteArray) (w : World) (hs : s.size ≤ 1048576) :
    Calls Tryf.prog 19 #[.string s, .string ⟨#[48]⟩] w fun e w' => e = .returned (.string ⟨(noZ s.data.toList).toArray⟩) ∧ w' = w := by
  have hi : ((⟨#[48]⟩ : ByteArray)[0]'(by decide)).toNat = 48 := rfl
  by_cases he : s.toList.isEmpty = true
  · have HZ : Hid (s.data.toList = []) := by rw [← ByteArray.toList_eq]; exact List.isEmpty_iff.1 he
    go_enter Tryf.func19, Tryf.ntmps19
    go_wp2
    go_ret
    exact ⟨ret_str (ba_eq (by rw [HZ.out]; rfl)), rfl⟩
  · have he' : s.toList.isEmpty = false := by simpa using he
    clear he
    go_enter Tryf.func19, Tryf.ntmps19
    go_wp2_with (go_at_call 20; refine (trimLeftByte_any _ _ hs).mono ?_; rintro e w' ⟨rfl, rfl⟩)
    go_ret
    exact ⟨rfl, rfl⟩

set_option maxHeartbeats 400000 in
theorem split_any (s : ByteArray) (w : World) (hs : s.size ≤ 1048576) :
    Calls Tryf.prog 11 #[.string s] w fun e w' => e = .returned (.tuple #[.string ⟨(splitL s.data.toList).1.toArray⟩, .string ⟨(splitL s.data.toList).2.1.toArray⟩, .int .i64 (splitL s.data.toList).2.2]) ∧ Below w.heap.size w w' := by
  go_enter Tryf.func11, Tryf.ntmps11
  go_wp2
  go_loop [5, 6, 7] (fun p c i => ∃ k : Nat, k ≤ s.size ∧ i = .int .i64 k ∧ p = .int .i64 ((s.data.toList.take k).count 46 : Nat) ∧
    (((s.data.toList.take k).count 46 = 0 ∧ c = .int .i64 s.size) ∨ (0 < (s.data.toList.take k).count 46 ∧ ∃ j : Nat, j < k ∧ c = .int .i64 j ∧ s.data.toList.idxOf 46 = j))) (fun _ _ i => s.size - (intOf i).toNat)
  case atStart => exact ⟨0, Nat.zero_le _, rfl, rfl, Or.inl ⟨rfl, rfl⟩⟩
  case round =>
    obtain ⟨k, hk, rfl, rfl, hc⟩ := hrel
    have hcl : (s.data.toList.take k).count 46 ≤ k := Nat.le_trans List.count_le_length (List.length_take_le _ _)
    by_cases hlt : k < s.size
    · have HS : Hid ((s.data.toList.take (k + 1)).count 46 = (s.data.toList.take k).count 46 + if (s[k].toNat : Int) = 46 then 1 else 0) := count_snoc s k hlt
      by_cases h46 : ((s[k].toNat : Int) == 46) = true
      · have H46 : Hid ((s[k].toNat : Int) = 46) := (by simpa using h46 : (s[k].toNat : Int) = 46)
        have HF : (s.data.toList.take k).count 46 = 0 → s.data.toList.idxOf 46 = k := fun h => idx_first s k hlt H46.out h
        rcases hc with ⟨h0, rfl⟩ | ⟨h0, j, hj, rfl, hidx⟩
        · have HI : Hid (s.data.toList.idxOf 46 = k) := HF h0
          have hb : (((((s.data.toList.take k).count 46 : Nat) : Int)) == 0) = true := by simp [h0]
          have H0 : Hid ((s.data.toList.take k).count 46 = 0) := h0
          clear h0 HF
          generalize (s.data.toList.take k).count 46 = p at *
          go_wp2
          go_round
          case rel => exact ⟨k + 1, by omega, by go_num, by rw [HS.out, if_pos H46.out]; go_num, Or.inr ⟨by rw [HS.out, if_pos H46.out]; omega, k, by omega, rfl, HI.out⟩⟩
          case measure => simp [intOf]; omega
        · have hb : (((((s.data.toList.take k).count 46 : Nat) : Int)) == 0) = false := by simp; omega
          have HI : Hid (s.data.toList.idxOf 46 = j) := hidx
          clear hidx HF
          generalize (s.data.toList.take k).count 46 = p at *
          go_wp2
          go_round
          case rel => exact ⟨k + 1, by omega, by go_num, by rw [HS.out, if_pos H46.out]; go_num, Or.inr ⟨by rw [HS.out, if_pos H46.out]; omega, j, by omega, rfl, HI.out⟩⟩
          case measure => simp [intOf]; omega
      · have h46' : ((s[k].toNat : Int) == 46) = false := by simpa using h46
        have H46 : Hid (¬ (s[k].toNat : Int) = 46) := (by simpa using h46 : ¬ (s[k].toNat : Int) = 46)
        clear h46
        have HC : Hid _ := hc
        clear hc
        generalize (s.data.toList.take k).count 46 = p at *
        go_wp2
        go_round
        case rel =>
          have e : (s.data.toList.take (k + 1)).count 46 = p := by rw [HS.out, if_neg H46.out]; rfl
          refine ⟨k + 1, by omega, by go_num, by rw [e], ?_⟩
          rw [e]
          rcases HC.out with h | ⟨h0, j, hj, h1, h2⟩
          · exact Or.inl h
          · exact Or.inr ⟨h0, j, by omega, h1, h2⟩
        case measure => simp [intOf]; omega
    · have HZ : Hid (s.data.toList.take k = s.data.toList) := List.take_of_length_le (by rw [← ba_size]; omega)
      rcases hc with ⟨h0, rfl⟩ | ⟨h0, j, hj, rfl, hidx⟩
      · have HP : Hid (splitL s.data.toList = (s.data.toList, [], 0)) := by
          rw [HZ.out] at h0
          unfold splitL Hid
          rw [if_pos h0]
        have hb : (((((s.data.toList.take k).count 46 : Nat) : Int)) == 0) = true := by simp [h0]
        clear h0 HZ
        generalize (s.data.toList.take k).count 46 = p at *
        go_wp2
        go_ret3
        rw [HP.out]
        exact ⟨rfl, Below.refl _ _⟩
      · have HP : Hid (splitL s.data.toList = (s.data.toList.take j, s.data.toList.drop (j + 1), (s.data.toList.take k).count 46)) := by
          rw [HZ.out] at h0 ⊢
          unfold splitL Hid
          rw [if_neg (by omega), hidx]
        have hb : (((((s.data.toList.take k).count 46 : Nat) : Int)) == 0) = false := by simp; omega
        have hj1 : ((j : Int) + 1) ≤ s.size := by omega
        have hj2 : (j : Int) ≤ s.size := by omega
        clear HZ hidx
        generalize (s.data.toList.take k).count 46 = p at *
        go_wp2
        go_quiet (fail)
        go_wp2
        go_ret3
        rw [HP.out]
        refine ⟨?_, below_drewN (Below.refl _ _) _⟩
        exact ret_ssi (by rw [ext_mk]; rfl) (by rw [ext_mk, List.take_of_length_le (by simp)]) rfl

set_option maxHeartbeats 1000000 in
theorem cmpBytes_any (a b : ByteArray) (w : World) (ha : a.size ≤ 1048576) (hb : b.size ≤ 1048576) :
    Calls Tryf.prog 14 #[.string a, .string b] w fun e w' => e = .returned (.int .i64 (cmpL a.data.toList b.data.toList)) ∧ Below w.heap.size w w' := by
  by_cases hlen : (b.size : Int) < a.size
  · go_enter Tryf.func14, Tryf.ntmps14
    go_wp2
    go_loopw [6] (fun i wr => Below w.heap.size w wr ∧ ∃ k : Nat, k ≤ b.size ∧ i = .int .i64 k ∧ cmpL (a.data.toList.drop k) (b.data.toList.drop k) = cmpL a.data.toList b.data.toList) (fun i _ => b.size - (intOf i).toNat)
    case atStart => exact ⟨Below.refl _ _, 0, Nat.zero_le _, rfl, rfl⟩
    case round =>
      obtain ⟨hbel, k, hk, rfl, hc⟩ := hrel
      have HC : Hid (cmpL (a.data.toList.drop k) (b.data.toList.drop k) = cmpL a.data.toList b.data.toList) := hc
      clear hc
      by_cases hlt : k < b.size
      · have hka : k < a.size := by omega
        have hkb : k < b.size := by omega
        by_cases h1 : (a[k].toNat : Int) < b[k].toNat
        · have HF : Hid (cmpL (a.data.toList.drop k) (b.data.toList.drop k) = -1) := cmp_lt a b k hka hkb h1
          go_wp2
          go_quiet (fail)
          go_wp2
          go_ret
          exact ⟨ret_int (HF.out.symm.trans HC.out), below_drewN hbel _⟩
        · by_cases h2 : (b[k].toNat : Int) < a[k].toNat
          · have HF : Hid (cmpL (a.data.toList.drop k) (b.data.toList.drop k) = 1) := cmp_gt a b k hka hkb h2
            go_wp2
            go_quiet (fail)
            go_wp2
            go_quiet (fail)
            go_wp2
            go_ret
            exact ⟨ret_int (HF.out.symm.trans HC.out), below_drewN (below_drewN hbel _) _⟩
          · have HF : Hid (cmpL (a.data.toList.drop k) (b.data.toList.drop k) = cmpL (a.data.toList.drop (k + 1)) (b.data.toList.drop (k + 1))) := cmp_step a b k hka hkb (by omega)
            go_wp2
            go_quiet (fail)
            go_wp2
            go_quiet (fail)
            go_wp2
            go_roundw
            case rel => exact ⟨below_drewN hbel _, k + 1, by omega, by go_num, HF.out.symm.trans HC.out⟩
            case measure => simp [intOf]; omega
      · have HF : Hid (cmpL (a.data.toList.drop k) (b.data.toList.drop k) = 1) := cmp_endB a b k (by omega) (by omega)
        go_wp2
        go_ret
        exact ⟨ret_int (HF.out.symm.trans HC.out), hbel⟩
  · go_enter Tryf.func14, Tryf.ntmps14
    go_wp2
    go_loopw [6] (fun i wr => Below w.heap.size w wr ∧ ∃ k : Nat, k ≤ a.size ∧ i = .int .i64 k ∧ cmpL (a.data.toList.drop k) (b.data.toList.drop k) = cmpL a.data.toList b.data.toList) (fun i _ => a.size - (intOf i).toNat)
    case atStart => exact ⟨Below.refl _ _, 0, Nat.zero_le _, rfl, rfl⟩
    case round =>
      obtain ⟨hbel, k, hk, rfl, hc⟩ := hrel
      have HC : Hid (cmpL (a.data.toList.drop k) (b.data.toList.drop k) = cmpL a.data.toList b.data.toList) := hc
      clear hc
      by_cases hlt : k < a.size
      · have hka : k < a.size := by omega
        have hkb : k < b.size := by omega
        by_cases h1 : (a[k].toNat : Int) < b[k].toNat
        · have HF : Hid (cmpL (a.data.toList.drop k) (b.data.toList.drop k) = -1) := cmp_lt a b k hka hkb h1
          go_wp2
          go_quiet (fail)
          go_wp2
          go_ret
          exact ⟨ret_int (HF.out.symm.trans HC.out), below_drewN hbel _⟩
        · by_cases h2 : (b[k].toNat : Int) < a[k].toNat
          · have HF : Hid (cmpL (a.data.toList.drop k) (b.data.toList.drop k) = 1) := cmp_gt a b k hka hkb h2
            go_wp2
            go_quiet (fail)
            go_wp2
            go_quiet (fail)
            go_wp2
            go_ret
            exact ⟨ret_int (HF.out.symm.trans HC.out), below_drewN (below_drewN hbel _) _⟩
          · have HF : Hid (cmpL (a.data.toList.drop k) (b.data.toList.drop k) = cmpL (a.data.toList.drop (k + 1)) (b.data.toList.drop (k + 1))) := cmp_step a b k hka hkb (by omega)
            go_wp2
            go_quiet (fail)
            go_wp2
            go_quiet (fail)
            go_wp2
            go_roundw
            case rel => exact ⟨below_drewN hbel _, k + 1, by omega, by go_num, HF.out.symm.trans HC.out⟩
            case measure => simp [intOf]; omega
      · by_cases h3 : (a.size : Int) < b.size
        · have HF : Hid (cmpL (a.data.toList.drop k) (b.data.toList.drop k) = -1) := cmp_endA a b k (by omega) (by omega)
          go_wp2
          go_ret
          exact ⟨ret_int (HF.out.symm.trans HC.out), hbel⟩
        · have HF : Hid (cmpL (a.data.toList.drop k) (b.data.toList.drop k) = 0) := cmp_end a b k (by omega) (by omega)
          go_wp2
          go_ret
          exact ⟨ret_int (HF.out.symm.trans HC.out), hbel⟩
end Go.Proofs.Qxb6600369aFmt
