/-
  Words that the laws of OnceFunc, OnceValue and OnceValues share: an action in its box, behind calls.
-/
import Derived.Test.YtpkippcbocmmkaaFuncG
import Derived.Test.YtpkippcbocmmkaaApp
import Derived.Test.YtpkippcbocmmkaaByValue
import Derived.Deep.RegionHeld3
import Derived.Deep.DeepCutAuto
import Derived.BigQuiet
import Derived.IntWalk
namespace Go.Proofs.Ytpkippcbocmmkaa
open Go.ChangeShapes Go.WideShapes Go.ChangeAt Go.RowKit Go.Deep

theorem funcTold_length (p : Bool) (c : Int) (k : Nat) : (funcTold p c k).length = k := by simp [funcTold]

theorem Below.undrew {B m : Nat} {w w' : World} (h : Below B (w.drewN m) w') : Below B w w' := ⟨h.os, h.tape, h.output, h.size, h.block⟩

/-- An action that is boxed. -/
def actCells (av : Int) (ap : Bool) (ac : Int) : Array Value := #[.int .i64 av, .bool ap, .int .i64 ac]

/-- Behind a first call: the box as it was, and what was there. -/
theorem box_after {w w0 w' : World} {B : Nat} {av ac : Int} {ap : Bool} (hb : Below B w w0) (h0 : Blk w0 B 43 (actCells av ap ac)) (h : Below w0.heap.size w0 w') :
    Blk w' B 43 (actCells av ap ac) ∧ Below B w w' ∧ w0.heap.size ≤ w'.heap.size :=
  ⟨h0.below h h0.lt, hb.trans (h.mono (Nat.le_of_lt h0.lt)), h.size⟩

end Go.Proofs.Ytpkippcbocmmkaa
