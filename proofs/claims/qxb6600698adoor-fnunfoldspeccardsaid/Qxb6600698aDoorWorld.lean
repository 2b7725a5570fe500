import Derived.Test.Qxb6600698aDoorRows
import Derived.ProofKit
import Derived.Deep.DeepLaidRun
namespace Go.Proofs.Qxb6600698aDoor
open Go.ChangeShapes Go.WideShapes Go.ChangeAt Go.RowKit

def putBlock (h : Array Obj) (g : Nat) (cs : Array Value) : Array Obj := h.modify g fun
    | .cells _ t frozen => .cells cs t frozen
    | o => o
def cellOf : DataW Unit → Value
  | .lit (.int k n) => .int k n
  | _ => undef
def partsOf : DataW Unit → List (DataW Unit)
  | .agg l => l
  | _ => []
def worldOf (P : Program) (os : Os) : World :=
  let w0 := World.holding P os ⟨#[], #[], []⟩
  { w0 with heap := putBlock (putBlock w0.heap 0 ((partsOf Rows.laid_unicode_utf8_first).map cellOf).toArray) 1 (((partsOf Rows.laid_unicode_utf8_acceptRanges).flatMap partsOf).map cellOf).toArray }
theorem laid_met (os : Os) (args : Array Value) : laidMet Tryd.prog Rows.fnUnfoldSpecRow.laid ((worldOf Tryd.prog os).forCall (fun _ _ => 0) ⟨#[], args, []⟩).memory :=
  laidMet_of_run3 10 (by kernel_rfl) (by kernel_rfl) (by kernel_rfl)
end Go.Proofs.Qxb6600698aDoor
