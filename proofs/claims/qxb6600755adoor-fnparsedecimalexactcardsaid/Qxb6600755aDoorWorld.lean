import Derived.Test.Qxb6600755aDoorRows
import Derived.Test.Qxb6600755aDoorZZ
import Derived.ProofKit
import Derived.ChangeSlices
import Derived.Carry
import Derived.Deep.DeepLaidRun
namespace Go.Proofs.Qxb6600755aDoor
open Go.ChangeShapes Go.WideShapes Go.ChangeAt Go.RowKit

def putBlock (h : Array Obj) (g : Nat) (cs : Array Value) : Array Obj := h.modify g fun
    | .cells _ t frozen => .cells cs t frozen
    | o => o
def cellOf : DataW Unit → Value
  | .lit (.int k n) => .int k n
  | _ => undef
def partsOf : DataW Unit → List (DataW Unit)
  | .agg l => l
  | _ => []
def worldOf (P : Program) (os : Os) : World :=
  let w0 := World.holding P os ⟨#[], #[], []⟩
  { w0 with heap := putBlock (putBlock w0.heap 0 ((partsOf Rows.laid_unicode_utf8_first).map cellOf).toArray) 1 (((partsOf Rows.laid_unicode_utf8_acceptRanges).flatMap partsOf).map cellOf).toArray }
theorem laid_met (os : Os) (args : Array Value) : laidMet Tryd.prog Rows.fnKindOfNumberAgreesWithParseDecimalRow.laid ((worldOf Tryd.prog os).forCall (fun _ _ => 0) ⟨#[], args, []⟩).memory :=
  laidMet_of_run3 10 (by kernel_rfl) (by kernel_rfl) (by kernel_rfl)
theorem own : ownKnob Tryd.prog.godebug = none := by kernel_rfl
theorem laidOut : laidOutB Tryd.prog = true := by kernel_rfl
theorem cells5 : Tryd.prog.cellsOf 5 = 1 := by kernel_rfl

theorem byte_of {n : Int} (h : (Lit.int .u8 n).wf = true) : n = (((UInt8.ofNat n.toNat).toNat : Nat) : Int) := by
  have h2 : 0 ≤ n ∧ n < 256 := by
    have e1 : IntKind.u8.min = 0 := rfl
    have e2 : IntKind.u8.max = 255 := rfl
    simp [Lit.wf, e1, e2] at h
    omega
  have : (UInt8.ofNat n.toNat).toNat = n.toNat := by
    rw [UInt8.toNat_ofNat']
    omega
  rw [this]
  omega
/-- The argument, opened: a list of bytes. -/
theorem open_bytes {H : Type} {enc : TypeId × Value → H} {W : World} {base : Nat} {v : Value} {d : DataW H} {p : List MemPlace} (hok : Value.okWide Tryd.prog W .any base 22 v) (h : DataW.Trod enc Tryd.prog W 0 (fun _ => true) true 22 v d p) :
    ∃ (a : Option Addr) (l : List UInt8) (cap : Nat), v = .slice a l.length cap ∧ ArgIs W a cap l ∧ l.length ≤ maxLen := by
  obtain ⟨a0, len, cap, rfl⟩ := okWide_slice Tryd.underlying22 hok
  obtain ⟨fuel, hf⟩ := h
  rcases open_ints Tryd.underlying22 Tryd.underlying5 cells5 hf with ⟨hcs, hx⟩ | ⟨a, len', cap', zs, hcs, _, hl, hm, hz, hx, hcell, hwz⟩
  · simp [Value.cells] at hcs
    obtain ⟨rfl, rfl, rfl⟩ := hcs
    exact ⟨none, [], 0, rfl, Or.inl ⟨rfl, rfl, rfl⟩, Nat.zero_le _⟩
  · simp [Value.cells] at hcs
    obtain ⟨rfl, rfl, rfl⟩ := hcs
    simp only [if_true] at hz
    by_cases h0 : len = 0
    · subst h0
      exact ⟨some a, [], cap, rfl, Or.inr (Or.inl ⟨a, rfl, rfl⟩), Nat.zero_le _⟩
    · obtain ⟨b, off, spot⟩ := a
      have hspot : spot = none := by simpa [Addr.add] using World.cell?_spot (hcell 0 (by omega))
      subst hspot
      have hcell' : ∀ j, j < zs.length → W.cell? ⟨b, off + j, none⟩ = some (.int .u8 (zs.getD j 0)) := fun j hj => by rw [← add_plain]; exact hcell j hj
      have hll : ((zs.take len).map fun n => UInt8.ofNat n.toNat).length = len := by rw [List.length_map, List.length_take]; omega
      refine ⟨_, (zs.take len).map fun n => UInt8.ofNat n.toNat, cap, by rw [hll], Or.inr (Or.inr ⟨b, off, rfl, ?_, ?_, fun j hj => ?_⟩), by omega⟩
      · intro e
        rw [e] at hll
        simp at hll
        omega
      · have := World.block_lt_of_cell? W _ (hcell' 0 (by omega))
        exact this
      · rw [hll] at hj
        rw [hcell' j (by omega)]
        have e1 : bt ((zs.take len).map fun n => UInt8.ofNat n.toNat) j = UInt8.ofNat (zs.getD j 0).toNat := by
          rw [bt_eq _ _ (by rw [hll]; exact hj)]
          simp [List.getD, List.getElem?_eq_getElem (show j < zs.length by omega)]
        rw [e1]
        have e2 : zs.getD j 0 ∈ zs := by
          rw [List.getD, List.getElem?_eq_getElem (show j < zs.length by omega)]
          exact List.getElem_mem _
        rw [← byte_of (hwz _ e2)]
end Go.Proofs.Qxb6600755aDoor
