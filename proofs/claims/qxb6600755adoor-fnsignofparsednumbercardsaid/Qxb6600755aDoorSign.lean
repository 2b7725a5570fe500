import Derived.Test.Qxb6600755aDoorZZ
import Derived.Test.Qxb6600755aDoorMant
namespace Go.Proofs.Qxb6600755aDoor
open Go.RowKit
set_option linter.unusedVariables false
set_option maxRecDepth 100000

def signN (ng : Bool) (n : Nat) : Int := if n = 0 then 0 else if ng then -1 else 1
theorem signN_eq (ng : Bool) (ds : List UInt8) : signN ng ds.length = signS ng ds := by
  unfold signN signS
  cases ds with
  | nil => rfl
  | cons c t => simp
set_option maxHeartbeats 400000 in
theorem sign_any (ng : Bool) (a : Option Addr) (n cap : Nat) (ex : Int) (w : World) :
    Calls Tryd.prog 25 #[.agg #[.bool ng, .slice a n cap, .int .i64 ex]] w fun e w' => e = .returned (.int .i64 (signN ng n)) ∧ Below w.heap.size w w' := by
  by_cases h0 : n = 0
  · have HS : Hid (signN ng n = 0) := by unfold Hid signN; rw [if_pos h0]
    subst h0
    go_enter Tryd.func25, Tryd.ntmps25
    go_wp2
    go_ret
    exact ⟨ret_int HS.out.symm, (Below.refl _ _).alloc (Nat.le_refl _) _⟩
  · have hz : ((n : Int) == 0) = false := by simp; omega
    cases ng with
    | true =>
      have HS : Hid (signN true n = -1) := by unfold Hid signN; rw [if_neg h0]; rfl
      go_enter Tryd.func25, Tryd.ntmps25
      go_wp2
      go_ret
      exact ⟨ret_int HS.out.symm, (Below.refl _ _).alloc (Nat.le_refl _) _⟩
    | false =>
      have HS : Hid (signN false n = 1) := by unfold Hid signN; rw [if_neg h0]; rfl
      go_enter Tryd.func25, Tryd.ntmps25
      go_wp2
      go_ret
      exact ⟨ret_int HS.out.symm, (Below.refl _ _).alloc (Nat.le_refl _) _⟩
set_option maxHeartbeats 400000 in
theorem zzsign_any (ng : Bool) (a : Option Addr) (n cap : Nat) (ex : Int) (w : World) :
    Calls Tryd.prog 18 #[.bool ng, .slice a n cap, .int .i64 ex] w fun e w' => e = .returned (.int .i64 (signN ng n)) ∧ Below w.heap.size w w' := by
  go_enter Tryd.func18, Tryd.ntmps18
  go_wp2_with (go_at_call 25; refine (sign_any _ _ _ _ _ _).mono ?_; rintro e w' ⟨rfl, hb⟩)
  go_ret
  exact ⟨rfl, hb⟩

def nzT (l : List UInt8) (k : Nat) : Bool := (l.take k).any nz
theorem nzT_zero (l : List UInt8) : nzT l 0 = false := rfl
theorem nzT_succ (l : List UInt8) (k : Nat) (h : k < l.length) : nzT l (k + 1) = (nzT l k || nz (bt l k)) := by
  unfold nzT
  rw [take_bt l k h, List.any_append]
  simp
theorem nzL_end (l : List UInt8) (k : Nat) (hk : ¬ k < l.length) (h : ∀ c ∈ l.take k, isEc c = false) : nzL l = nzT l k := by
  unfold nzL nzT
  rw [List.take_of_length_le (by omega)] at h
  rw [mant_end l h, List.take_of_length_le (by omega)]
theorem nzL_at (l : List UInt8) (k : Nat) (hk : k < l.length) (h : ∀ c ∈ l.take k, isEc c = false) (he : isEc (bt l k) = true) : nzL l = nzT l k := by
  unfold nzL nzT
  rw [mant_at l k hk h he]
theorem noE_succ (l : List UInt8) (k : Nat) (hk : k < l.length) (h : ∀ c ∈ l.take k, isEc c = false) (he : isEc (bt l k) = false) : ∀ c ∈ l.take (k + 1), isEc c = false := by
  rw [take_bt l k hk]
  intro c hc
  rcases List.mem_append.1 hc with hc | hc
  · exact h c hc
  · rw [List.mem_singleton.1 hc]; exact he
set_option maxHeartbeats 2000000 in
theorem law6 (a : Option Addr) (cap : Nat) (l : List UInt8) (w : World) (h : ArgIs w a cap l) (hm : l.length ≤ maxLen) :
    Calls Tryd.prog 6 #[.slice a l.length cap] w fun e w' => e = .returned (.bool true) ∧ Below w.heap.size w w' := by
  have HCO : Hid (l.length ≤ 1048576 → Calls Tryd.prog 10 #[.slice a l.length cap] w fun e w' => ∃ a', e = .returned (.slice a' l.length l.length) ∧ Cp w w' a' l) := copy_arg a cap l w h
  have HPC : Hid (∀ w' a', Cp w w' a' l → l.length ≤ 1048576 → Calls Tryd.prog 12 #[.slice a' l.length l.length] w' (ZPost l w')) := fun w' a' h1 h2 => parse_cp h1 h2
  clear h
  generalize hn : l.length = n at *
  have HN : Hid (l.length = n) := hn
  clear hn
  go_enter Tryd.func6, Tryd.ntmps6
  go_wp2_with fail
  refine (zz17 a n cap w hm).mono ?_
  rintro e w1 ⟨⟨bb, rfl, hbb⟩, rfl⟩
  cases bb with
  | false =>
    go_wp2
    go_ret
    exact ⟨rfl, Below.refl _ _⟩
  | true =>
    have hn20 : n ≤ 1048576 := hbb rfl
    clear hbb
    go_wp2_with fail
    refine (HCO.out hn20).mono ?_
    rintro e w2 ⟨a', rfl, hcp⟩
    go_wp2_with fail
    refine (HPC.out w2 a' hcp hn20).mono ?_
    rintro e w3 ⟨hb3, ⟨HP, rfl⟩ | ⟨ng, dv, ds, ex, HP, rfl, HS⟩⟩
    · go_wp2
      go_ret
      exact ⟨rfl, hcp.1.trans (hb3.mono hcp.1.size)⟩
    · have HSG : Hid (signN ng ds.length = wantS l) := (signN_eq ng ds).trans (sign_law HP.out)
      obtain ⟨c0, hc0, hk0⟩ := kind_law HP.out
      have hne : l ≠ [] := by
        rintro rfl
        cases hc0
      obtain ⟨hcb, ⟨_, h2⟩ | ⟨rfl, h2, h3⟩⟩ := hcp
      · exact absurd h2 hne
      obtain ⟨da, dc, rfl⟩ : ∃ da dc, dv = .slice da ds.length dc := by
        rcases HS with ⟨h1, h⟩ | ⟨g, off, cap, h, _⟩
        · exact ⟨none, 0, by rw [h, h1]; rfl⟩
        · exact ⟨_, _, h⟩
      have hn0 : 0 < n := by
        have := List.length_pos_iff.2 hne
        rw [HN.out] at this
        exact this
      clear hne hc0 hk0 HS HP
      generalize ds.length = dn at *
      go_wp2_with fail
      refine (zzsign_any _ _ _ _ _ _).mono ?_
      rintro e w4 ⟨rfl, hb4⟩
      have hbb : Below w1.heap.size w1 w4 := (hcb.trans (hb3.mono hcb.size)).trans (hb4.mono (Nat.le_trans hcb.size hb3.size))
      have HC : Hid (∀ j, j < n → w4.cell? ⟨w1.heap.size, j, none⟩ = some (.int .u8 (bt l j).toNat)) := fun j hj => by
        rw [hb4.cell (p := ⟨w1.heap.size, j, none⟩) (Nat.lt_of_lt_of_le h2 hb3.size), hb3.cell (p := ⟨w1.heap.size, j, none⟩) h2]
        have := h3 j (by rw [HN.out]; exact hj)
        rwa [Nat.zero_add] at this
      clear h3 h2 hb3 hb4 hcb
      generalize signN ng dn = gt at *
      go_upto_block 0 with fail
      go_cut [8] from 33 to 54 (fun s8 wy => w4 = wy ∧ s8 = .bool (nzL l))
      case first =>
        go_wp2_with fail
        go_loop [8, 9] (fun s8 s9 => ∃ k : Nat, s9 = .int .i64 k ∧ s8 = .bool (nzT l k) ∧ k ≤ n ∧ Hid (∀ c ∈ l.take k, isEc c = false)) (fun _ s9 => n - (intOf s9).toNat)
        case atStart => exact ⟨0, rfl, rfl, Nat.zero_le _, by unfold Hid; simp⟩
        case round =>
          obtain ⟨k, rfl, rfl, hkn, HA⟩ := hrel
          by_cases hlt : k < n
          · have hck := HC.out k hlt
            cases hE : isEc (bt l k) with
            | true =>
              have HNL : Hid (nzL l = nzT l k) := nzL_at l k (by rw [HN.out]; exact hlt) HA.out hE
              have hE2 := (isEc_iff _).1 hE
              by_cases he1 : (((bt l k).toNat : Int) == 101) = true
              · clear hE2
                go_wp2
                go_meet
                exact ⟨rfl, by rw [HNL.out]⟩
              · have he1' : (((bt l k).toNat : Int) == 101) = false := by simpa using he1
                have he2 : (((bt l k).toNat : Int) == 69) = true := by
                  rcases hE2 with h | h
                  · exact absurd (by simpa using h) he1
                  · simpa using h
                clear he1 hE2
                go_wp2
                go_meet
                exact ⟨rfl, by rw [HNL.out]⟩
            | false =>
              have HA2 : Hid (∀ c ∈ l.take (k + 1), isEc c = false) := noE_succ l k (by rw [HN.out]; exact hlt) HA.out hE
              have HNS : Hid (nzT l (k + 1) = (nzT l k || nz (bt l k))) := nzT_succ l k (by rw [HN.out]; exact hlt)
              have hE2 : ¬ (((bt l k).toNat : Int) = 101 ∨ ((bt l k).toNat : Int) = 69) := fun h => by rw [(isEc_iff _).2 h] at hE; cases hE
              have he1 : (((bt l k).toNat : Int) == 101) = false := by simp; omega
              have he2 : (((bt l k).toNat : Int) == 69) = false := by simp; omega
              clear hE2
              by_cases h49 : (49 : Int) ≤ (bt l k).toNat
              · by_cases h57 : ((bt l k).toNat : Int) ≤ 57
                · have HT : Hid (nzT l (k + 1) = true) := by
                    unfold Hid
                    rw [HNS.out, (nz_iff _).2 ⟨h49, h57⟩, Bool.or_true]
                  go_wp2
                  go_round
                  case rel => exact ⟨k + 1, by go_num, by rw [HT.out], by omega, HA2⟩
                  case measure => simp [intOf]; omega
                · have HT : Hid (nzT l (k + 1) = nzT l k) := by
                    unfold Hid
                    rw [HNS.out, (nz_no _).2 (fun h => h57 h.2), Bool.or_false]
                  go_wp2
                  go_round
                  case rel => exact ⟨k + 1, by go_num, by rw [HT.out], by omega, HA2⟩
                  case measure => simp [intOf]; omega
              · have HT : Hid (nzT l (k + 1) = nzT l k) := by
                  unfold Hid
                  rw [HNS.out, (nz_no _).2 (fun h => h49 h.1), Bool.or_false]
                go_wp2
                go_round
                case rel => exact ⟨k + 1, by go_num, by rw [HT.out], by omega, HA2⟩
                case measure => simp [intOf]; omega
          · have HNL : Hid (nzL l = nzT l k) := nzL_end l k (by rw [HN.out]; exact hlt) HA.out
            go_wp2
            go_meet
            exact ⟨rfl, by rw [HNL.out]⟩
      case rest =>
      obtain ⟨rfl, rfl⟩ := hcut
      have hck := HC.out 0 hn0
      cases hz : nzL l with
      | false =>
        have hg : gt = 0 := by
          rw [HSG.out]
          unfold wantS
          rw [hz]; rfl
        subst hg
        go_wp2
        go_ret
        exact ⟨rfl, hbb⟩
      | true =>
        have hh : l.head? = some (bt l 0) := by
          have := head_at l 0 (by rw [HN.out]; exact hn0)
          rwa [List.drop_zero] at this
        by_cases h45 : (((bt l 0).toNat : Int) == 45) = true
        · have hg : gt = -1 := by
            rw [HSG.out]
            unfold wantS
            rw [hz, if_pos rfl, if_pos (by rw [hh, show bt l 0 = 45 from byte_eq (by simpa using h45)])]
          subst hg
          clear hh HSG
          go_wp2
          go_ret
          exact ⟨rfl, hbb⟩
        · have h45' : (((bt l 0).toNat : Int) == 45) = false := by simpa using h45
          have hg : gt = 1 := by
            rw [HSG.out]
            unfold wantS
            rw [hz, if_pos rfl, if_neg (by rw [hh]; intro e; exact byte_ne (d := 45) (by simpa using h45) (Option.some.inj e))]
          subst hg
          clear hh HSG h45
          go_wp2
          go_ret
          exact ⟨rfl, hbb⟩
end Go.Proofs.Qxb6600755aDoor
