import Derived.Test.Qxb6600755aDoorParse
namespace Go.Proofs.Qxb6600755aDoor
open Go.RowKit
set_option linter.unusedVariables false
set_option maxRecDepth 1000000

theorem parseL_nil : parseL [] = none := rfl
set_option maxHeartbeats 4000000 in
theorem parse_empty (a : Option Addr) (w : World) : Calls Tryd.prog 24 #[.slice a 0 0] w (ParsePost [] w) := by
  have HP : Hid (parseL [] = none) := parseL_nil
  cases a with
  | none =>
    go_enter Tryd.func24, Tryd.ntmps24
    go_wp2
    go_loop [5] (fun i => i = .int .i64 0) (fun _ => 0)
    case atStart => rfl
    case round =>
    subst hrel
    go_wp2
    exact bodyPost_ret (v := .tuple #[.agg #[.bool false, .slice none 0 0, .int .i64 0], .bool false]) (by simp [results, Tryd.results24, go_sem]) rfl (post_none HP (belowW _ _ _))
  | some p =>
    go_enter Tryd.func24, Tryd.ntmps24
    go_wp2
    go_loop [5] (fun i => i = .int .i64 0) (fun _ => 0)
    case atStart => rfl
    case round =>
    subst hrel
    go_wp2
    exact bodyPost_ret (v := .tuple #[.agg #[.bool false, .slice none 0 0, .int .i64 0], .bool false]) (by simp [results, Tryd.results24, go_sem]) rfl (post_none HP (belowW _ _ _))

def ZPost (l : List UInt8) (w : World) (e : Ending) (w' : World) : Prop :=
  Below w.heap.size w w' ∧ ((Hid (parseL l = none) ∧ e = .returned (.tuple #[.bool false, .slice none 0 0, .int .i64 0, .bool false])) ∨
    ∃ (ng : Bool) (dv : Value) (ds : List UInt8) (ex : Int), Hid (parseL l = some (ng, ds, ex)) ∧ e = .returned (.tuple #[.bool ng, dv, .int .i64 ex, .bool true]) ∧ SlIs w' dv ds)
theorem SlIs.below {w w' : World} {v : Value} {ds : List UInt8} (h : SlIs w v ds) (hb : Below w.heap.size w w') : SlIs w' v ds := by
  rcases h with h | ⟨g, off, cap, h1, h2, h3⟩
  · exact Or.inl h
  · exact Or.inr ⟨g, off, cap, h1, Nat.lt_of_lt_of_le h2 hb.size, fun j hj => (hb.cell (p := ⟨g, off + j, none⟩) h2).trans (h3 j hj)⟩
set_option maxHeartbeats 1000000 in
theorem zz_parse (v : Value) (l : List UInt8) (w : World) (h : Calls Tryd.prog 24 #[v] w (ParsePost l w)) : Calls Tryd.prog 12 #[v] w (ZPost l w) := by
  have HH : Hid (Calls Tryd.prog 24 #[v] w (ParsePost l w)) := h
  clear h
  go_enter Tryd.func12, Tryd.ntmps12
  go_wp2_with fail
  refine HH.out.mono ?_
  rintro e w' ⟨hb, ⟨HP, rfl⟩ | ⟨ng, dv, ds, ex, HP, rfl, HS⟩⟩
  · go_wp2_with fail
    go_quiet (fail)
    go_wp2
    exact bodyPost_ret (v := .tuple #[.bool false, .slice none 0 0, .int .i64 0, .bool false]) (by simp [results, Tryd.results12, go_sem]) rfl ⟨below_drewN (hb.alloc hb.size _) _, Or.inl ⟨HP, rfl⟩⟩
  · obtain ⟨a, n, cap, rfl⟩ : ∃ a n cap, dv = .slice a n cap := by
      rcases HS with ⟨_, h⟩ | ⟨g, off, cap, h, _⟩
      · exact ⟨_, _, _, h⟩
      · exact ⟨_, _, _, h⟩
    have HS2 : Hid (SlIs w' (.slice a n cap) ds) := HS
    clear HS
    go_wp2_with fail
    go_quiet (fail)
    go_wp2
    refine bodyPost_ret (v := .tuple #[.bool ng, .slice a n cap, .int .i64 ex, .bool true]) (by simp [results, Tryd.results12, go_sem]) rfl ⟨?_, Or.inr ⟨_, _, _, _, HP, rfl, ?_⟩⟩
    · exact below_drewN (hb.alloc hb.size _) _
    · exact HS2.out.below (below_drewN ((Below.refl _ _).alloc (Nat.le_refl _) _) _)

/-! ### the argument and its copy -/
/-- The slice that came in holds the bytes l. -/
def ArgIs (w : World) (a : Option Addr) (cap : Nat) (l : List UInt8) : Prop :=
  (a = none ∧ cap = 0 ∧ l = []) ∨ (∃ p, a = some p ∧ l = []) ∨ ∃ b o, a = some ⟨b, o, none⟩ ∧ l ≠ [] ∧ b < w.heap.size ∧ Byt w b o l
/-- The copy. -/
def Cp (w w' : World) (a' : Option Addr) (l : List UInt8) : Prop :=
  Below w.heap.size w w' ∧ ((a' = none ∧ l = []) ∨ (a' = some ⟨w.heap.size, 0, none⟩ ∧ w.heap.size < w'.heap.size ∧ Byt w' w.heap.size 0 l))
set_option maxHeartbeats 1000000 in
theorem copy_empty (p : Addr) (cap : Nat) (w : World) :
    Calls Tryd.prog 10 #[.slice (some p) 0 cap] w fun e w' => e = .returned (.slice (some ⟨w.heap.size, 0, none⟩) 0 0) ∧ Below w.heap.size w w' ∧ w.heap.size < w'.heap.size := by
  have hq := eqNil
  obtain ⟨i0, hi, hz0, hz1, hz2⟩ := info_parts infoByte
  go_enter Tryd.func10, Tryd.ntmps10
  go_wp2_with (at_make; refine wpList_make_full _ rfl _ _ 22 rfl w.heap.size 5 i0 (.int .u8 0) 1 Tryd.underlying22 hi hz0 hz1 _ _ _ _ 0 rfl rfl ?c0 ?c1 ?b1 ?b2 ?b3 ?_)
  case c0 => rfl
  case c1 => rfl
  case b1 => omega
  case b2 => unfold maxLen; omega
  case b3 => exact Nat.le_refl _
  intro w1 hown hgrow
  have hbel : Below w.heap.size w w1 := (Below.refl _ _).grown hgrow (Nat.le_refl _) (fun k hk => by cases hk)
  have hlt : w.heap.size < w1.heap.size := (hown.lt _ rfl).2
  clear hgrow hown
  go_wp2_with fail
  go_loop [4] (fun i => i = .int .i64 0) (fun _ => 0)
  case atStart => rfl
  case round =>
  subst hrel
  go_wp2
  go_ret
  exact ⟨rfl, hbel, hlt⟩
theorem copy_arg (a : Option Addr) (cap : Nat) (l : List UInt8) (w : World) (h : ArgIs w a cap l) (hl : l.length ≤ 1048576) :
    Calls Tryd.prog 10 #[.slice a l.length cap] w fun e w' => ∃ a', e = .returned (.slice a' l.length l.length) ∧ Cp w w' a' l := by
  rcases h with ⟨rfl, rfl, rfl⟩ | ⟨p, rfl, rfl⟩ | ⟨b, o, rfl, hne, hb, hc⟩
  · refine (copy_nil w).mono ?_
    rintro e w' ⟨rfl, rfl⟩
    exact ⟨none, rfl, Below.refl _ _, Or.inl ⟨rfl, rfl⟩⟩
  · refine (copy_empty p cap w).mono ?_
    rintro e w' ⟨rfl, h1, h2⟩
    exact ⟨_, rfl, h1, Or.inr ⟨rfl, h2, fun j hj => absurd hj (by simp)⟩⟩
  · refine (copy_any b o cap l w hl (fun _ => hb) hc).mono ?_
    rintro e w' ⟨rfl, h1, h2, h3⟩
    exact ⟨_, rfl, h1, Or.inr ⟨rfl, h2, h3⟩⟩
theorem parse_cp {w w' : World} {a' : Option Addr} {l : List UInt8} (h : Cp w w' a' l) (hl : l.length ≤ 1048576) :
    Calls Tryd.prog 12 #[.slice a' l.length l.length] w' (ZPost l w') := by
  refine zz_parse _ l w' ?_
  rcases h with ⟨_, ⟨rfl, rfl⟩ | ⟨rfl, h2, h3⟩⟩
  · exact parse_empty none w'
  · cases l with
    | nil => exact parse_empty _ w'
    | cons c t => exact parse_core w.heap.size (c :: t) w' (by simp) hl h2 (fun j hj => by have := h3 j hj; rwa [Nat.zero_add] at this)

/-! ### law 8 -/
set_option maxHeartbeats 1000000 in
theorem law8 (a : Option Addr) (cap : Nat) (l : List UInt8) (w : World) (h : ArgIs w a cap l) (hm : l.length ≤ maxLen) :
    Calls Tryd.prog 8 #[.slice a l.length cap] w fun e w' => e = .returned (.bool true) ∧ Below w.heap.size w w' := by
  have HCO : Hid (l.length ≤ 1048576 → Calls Tryd.prog 10 #[.slice a l.length cap] w fun e w' => ∃ a', e = .returned (.slice a' l.length l.length) ∧ Cp w w' a' l) := copy_arg a cap l w h
  have HPC : Hid (∀ w' a', Cp w w' a' l → l.length ≤ 1048576 → Calls Tryd.prog 12 #[.slice a' l.length l.length] w' (ZPost l w')) := fun w' a' h1 h2 => parse_cp h1 h2
  clear h
  generalize hn : l.length = n at *
  have HN : Hid (l.length = n) := hn
  clear hn
  go_enter Tryd.func8, Tryd.ntmps8
  go_wp2_with fail
  refine (zz20 a n cap w hm).mono ?_
  rintro e w1 ⟨⟨bb, rfl, hbb⟩, rfl⟩
  cases bb with
  | false =>
    go_wp2
    go_ret
    exact ⟨rfl, Below.refl _ _⟩
  | true =>
    have hn20 : n ≤ 1048576 := hbb rfl
    clear hbb
    go_wp2_with fail
    refine (HCO.out hn20).mono ?_
    rintro e w2 ⟨a', rfl, hcp⟩
    go_wp2_with fail
    refine (HPC.out w2 a' hcp hn20).mono ?_
    rintro e w3 ⟨hb3, ⟨HP, rfl⟩ | ⟨ng, dv, ds, ex, HP, rfl, HS⟩⟩
    · go_wp2
      go_ret
      exact ⟨rfl, hcp.1.trans (hb3.mono hcp.1.size)⟩
    · obtain ⟨c, hc, hk⟩ := kind_law HP.out
      obtain ⟨t, rfl⟩ : ∃ t, l = c :: t := by
        cases l with
        | nil => cases hc
        | cons d t => exact ⟨t, by rw [show d = c from Option.some.inj hc]⟩
      obtain ⟨hcb, ⟨_, h2⟩ | ⟨rfl, h2, h3⟩⟩ := hcp
      · cases h2
      have hcell : w3.cell? ⟨w1.heap.size, 0, none⟩ = some (.int .u8 c.toNat) := (hb3.cell (p := ⟨w1.heap.size, 0, none⟩) h2).trans (h3 0 (by simp))
      have hn0 : 0 < n := by have := HN.out; simp at this; omega
      have HKN : Hid (Calls Tryd.prog 21 #[.slice (some ⟨w1.heap.size, 0, none⟩) n n] w3 fun e w' => e = .returned (.string ⟨#[110, 117, 109, 98, 101, 114]⟩) ∧ w' = w3) := kindOf_num _ 0 n n c w3 hn20 hn0 hcell hk
      have hbb : Below w1.heap.size w1 w3 := hcb.trans (hb3.mono hcb.size)
      clear hcell h3 hk hc hb3 hcb HS
      go_wp2_with fail
      refine HKN.out.mono ?_
      rintro e w4 ⟨rfl, rfl⟩
      go_wp2
      go_ret
      exact ⟨rfl, hbb⟩
end Go.Proofs.Qxb6600755aDoor
