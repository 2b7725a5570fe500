import Derived.Test.Qxb6600755aDoorBase
import Derived.Deep.DeepCutAuto
import Derived.Deep.CutBlock
import Derived.BigQuiet
import Derived.Deep.QuietTactic
namespace Go.Proofs.Qxb6600755aDoor
open Go.RowKit
set_option linter.unusedVariables false
set_option maxRecDepth 100000

/-- A slice value of bytes: nil, or the bytes in memory. -/
def SlIs (w : World) (v : Value) (ds : List UInt8) : Prop := (ds = [] ∧ v = .slice none 0 0) ∨ ∃ g off cap, v = .slice (some ⟨g, off, none⟩) ds.length cap ∧ g < w.heap.size ∧ Byt w g off ds
def ParsePost (l : List UInt8) (w : World) (e : Ending) (w' : World) : Prop :=
  Below w.heap.size w w' ∧ ((Hid (parseL l = none) ∧ e = .returned (.tuple #[.agg #[.bool false, .slice none 0 0, .int .i64 0], .bool false])) ∨
    ∃ (ng : Bool) (dv : Value) (ds : List UInt8) (ex : Int), Hid (parseL l = some (ng, ds, ex)) ∧ e = .returned (.tuple #[.agg #[.bool ng, dv, .int .i64 ex], .bool true]) ∧ SlIs w' dv ds)
theorem P0_neg (l : List UInt8) (h : 0 < l.length) (h45 : bt l 0 = 45) : parseL l = P1 true (l.drop 1) := by
  unfold parseL
  have := head_at l 0 h
  rw [List.drop_zero] at this
  rw [this, h45, if_pos rfl]
theorem P0_pos (l : List UInt8) (h : 0 < l.length) (h45 : bt l 0 ≠ 45) : parseL l = P1 false (l.drop 0) := by
  unfold parseL
  have := head_at l 0 h
  rw [List.drop_zero] at this
  rw [this, if_neg (by simpa using h45), List.drop_zero]

theorem post_none {l : List UInt8} {w w' : World} (HP : Hid (parseL l = none)) (hb : Below w.heap.size w w') :
    ParsePost l w (.returned (.tuple #[.agg #[.bool false, .slice none 0 0, .int .i64 0], .bool false])) w' := ⟨hb, Or.inl ⟨HP, rfl⟩⟩
theorem belowW (w : World) (o1 o2 : Obj) : Below w.heap.size w ((w.alloc o1).alloc o2) := ((Below.refl _ _).alloc (Nat.le_refl _) _).alloc (by simp) _
/-- Does the byte c stand at place k? -/
def isAt (l : List UInt8) (k : Nat) (c : UInt8) : Bool := decide ((l.drop k).head? = some c)
theorem isAt_end (l : List UInt8) (k : Nat) (c : UInt8) (h : ¬ k < l.length) : isAt l k c = false := by unfold isAt; rw [head_end l k h]; simp
theorem isAt_at (l : List UInt8) (k : Nat) (c : UInt8) (h : k < l.length) : isAt l k c = decide (((bt l k).toNat : Int) = c.toNat) := by
  unfold isAt
  rw [head_at l k h]
  by_cases e : bt l k = c
  · rw [e]; simp
  · have : ¬ ((bt l k).toNat : Int) = c.toNat := fun h => e (byte_eq h)
    simp [this, e]
theorem isAt_lt {l : List UInt8} {k : Nat} {c : UInt8} (h : isAt l k c = true) : k < l.length := by
  rcases Nat.lt_or_ge k l.length with h1 | h1
  · exact h1
  · rw [isAt_end l k c (by omega)] at h; cases h
theorem isAt_head {l : List UInt8} {k : Nat} {c : UInt8} : isAt l k c = true ↔ (l.drop k).head? = some c := by unfold isAt; simp
theorem isAt_nhead {l : List UInt8} {k : Nat} {c : UInt8} : isAt l k c = false ↔ ¬ (l.drop k).head? = some c := by unfold isAt; simp
theorem P1_bad0 (ng : Bool) (l1 : List UInt8) (h : dg l1 = []) : P1 ng l1 = none := by unfold P1; rw [if_pos (Or.inl h)]
theorem P1_bad1 (ng : Bool) (l1 : List UInt8) (h : 1 < (dg l1).length) (h2 : (dg l1).head? = some 48) : P1 ng l1 = none := by unfold P1; rw [if_pos (Or.inr ⟨h, h2⟩)]
theorem P1_ok (ng : Bool) (l1 : List UInt8) (h0 : dg l1 ≠ []) (h : ¬ (1 < (dg l1).length ∧ (dg l1).head? = some 48)) : P1 ng l1 = P2 ng (dg l1) (aft l1) := by
  unfold P1; rw [if_neg (fun hh => hh.elim h0 h)]
theorem mid_head (l : List UInt8) (st k : Nat) (hs : st < k) (hk : k ≤ l.length) : ((l.take k).drop st).head? = some (bt l st) := by
  have h1 := mid_bt l st k 0 hk (by omega)
  have h2 : 0 < ((l.take k).drop st).length := by rw [mid_len l st k hk]; omega
  have := head_at ((l.take k).drop st) 0 h2
  rw [List.drop_zero] at this
  rw [this, h1, Nat.add_zero]
theorem mid_ne (l : List UInt8) (st k : Nat) (hs : st < k) (hk : k ≤ l.length) : (l.take k).drop st ≠ [] := fun e => by
  have := mid_len l st k hk
  rw [e] at this
  simp at this
  omega
theorem mid_nil (l : List UInt8) (st k : Nat) (hs : ¬ st < k) : (l.take k).drop st = [] := List.drop_of_length_le (by rw [List.length_take]; omega)
theorem P2_dot (ng : Bool) (wh l : List UInt8) (k : Nat) (h : isAt l k 46 = true) : P2 ng wh (l.drop k) = if dg (l.drop (k + 1)) = [] then none else P3 ng wh (dg (l.drop (k + 1))) (aft (l.drop (k + 1))) := by
  unfold P2
  rw [if_pos (isAt_head.1 h), List.drop_drop]
theorem P2_no (ng : Bool) (wh l : List UInt8) (k : Nat) (h : isAt l k 46 = false) : P2 ng wh (l.drop k) = P3 ng wh [] (l.drop k) := by
  unfold P2
  rw [if_neg (isAt_nhead.1 h)]
def isE (l : List UInt8) (k : Nat) : Bool := isAt l k 101 || isAt l k 69
def isPM (l : List UInt8) (k : Nat) : Bool := isAt l k 43 || isAt l k 45
theorem P3_e (ng : Bool) (wh fr l : List UInt8) (k : Nat) (h : isE l k = true) : P3 ng wh fr (l.drop k) = P4 ng wh fr (l.drop (k + 1)) := by
  unfold P3
  unfold isE at h
  rw [Bool.or_eq_true, isAt_head, isAt_head] at h
  rw [if_pos h, List.drop_drop]
theorem P3_no (ng : Bool) (wh fr l : List UInt8) (k : Nat) (h : isE l k = false) : P3 ng wh fr (l.drop k) = if l.drop k = [] then fin ng wh fr 0 else none := by
  unfold P3
  unfold isE at h
  rw [Bool.or_eq_false_iff, isAt_nhead, isAt_nhead] at h
  rw [if_neg (fun hh => hh.elim h.1 h.2)]
theorem P4_sign (ng : Bool) (wh fr l : List UInt8) (k : Nat) (h : isPM l k = true) : P4 ng wh fr (l.drop k) = P5 ng wh fr (isAt l k 45) (l.drop (k + 1)) := by
  unfold P4
  unfold isPM at h
  rw [Bool.or_eq_true, isAt_head, isAt_head] at h
  rw [if_pos h, List.drop_drop]
  have e : ((l.drop k).head? == some 45) = isAt l k 45 := by
    unfold isAt
    rw [Bool.eq_iff_iff]; simp
  rw [e]
theorem P4_no (ng : Bool) (wh fr l : List UInt8) (k : Nat) (h : isPM l k = false) : P4 ng wh fr (l.drop k) = P5 ng wh fr false (l.drop k) := by
  unfold P4
  unfold isPM at h
  rw [Bool.or_eq_false_iff, isAt_nhead, isAt_nhead] at h
  rw [if_neg (fun hh => hh.elim h.1 h.2)]
theorem P5_none (ng : Bool) (wh fr : List UInt8) (en : Bool) (l5 : List UInt8) (h : dg l5 = []) : P5 ng wh fr en l5 = none := by unfold P5; rw [if_pos h]
theorem P5_more (ng : Bool) (wh fr : List UInt8) (en : Bool) (l5 : List UInt8) (h : dg l5 ≠ []) : P5 ng wh fr en l5 = if aft l5 = [] then fin ng wh fr (if en then -(expV (dg l5)) else expV (dg l5)) else none := by
  unfold P5
  rw [if_neg h]
  by_cases h2 : aft l5 = []
  · simp [h2]
  · simp [h2]
/-! ### pieces of the function's text -/
def sndC : Code → Code
  | .seq _ c => c
  | c => c
def spine : Nat → Code → Code
  | 0, c => c
  | n + 1, c => spine n (sndC c)
end Go.Proofs.Qxb6600755aDoor
