import Derived.Test.Qxb6600369aFmtProg
import Derived.Test.Qxb6600369aFmtPlain
import Derived.WalkKit
import Derived.WalkSpells
import Derived.WalkLawsBesides
namespace Go.Proofs.Qxb6600369aFmt
open Go.RowKit

set_option maxHeartbeats 400000 in
theorem allDigits_any (s : ByteArray) (w : World) (hs : s.size ≤ maxLen) :
    Calls Tryf.prog 7 #[.string s] w fun e w' => e = .returned (.bool (allDig s)) ∧ w' = w := by
  unfold maxLen at hs
  go_enter Tryf.func7, Tryf.ntmps7
  go_wp2
  go_loop [3] (fun i => ∃ k : Nat, k ≤ s.size ∧ i = .int .i64 k ∧ (s.data.toList.take k).all isDig = true) (fun i => s.size - (intOf i).toNat)
  case atStart => exact ⟨0, Nat.zero_le _, rfl, rfl⟩
  case round =>
    obtain ⟨k, hk, rfl, hall⟩ := hrel
    by_cases hlt : k < s.size
    · have hsn := take_snoc s k hlt
      have HS : Hid (s.data.toList.take (k + 1) = s.data.toList.take k ++ [s[k]]) := hsn
      have HA : Hid ((s.data.toList.take k).all isDig = true) := hall
      clear hsn hall
      by_cases hlo : (s[k].toNat : Int) < 48
      · have HF : Hid (allDig s = false) := allDig_no s k hlt (by omega)
        go_wp2
        go_ret
        rw [HF.out]
        exact ⟨rfl, rfl⟩
      · by_cases hhi : 57 < (s[k].toNat : Int)
        · have HF : Hid (allDig s = false) := allDig_no s k hlt (by omega)
          go_wp2
          go_ret
          rw [HF.out]
          exact ⟨rfl, rfl⟩
        · go_wp2
          go_round
          case rel => exact ⟨k + 1, by omega, by go_num, by rw [HS.out, List.all_append, HA.out]; simp [(isDig_iff s[k]).2 ⟨by omega, by omega⟩]⟩
          case measure => simp [intOf]; omega
    · have hz : k = s.size := by omega
      have HF : Hid (allDig s = true) := allDig_yes s (hz ▸ hall)
      clear hall hz
      go_wp2
      go_ret
      rw [HF.out]
      exact ⟨rfl, rfl⟩
end Go.Proofs.Qxb6600369aFmt
