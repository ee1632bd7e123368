/-
  Words that the laws of OnceFunc, OnceValue and OnceValues share: an action in its box, behind calls.
-/
import Derived.Test.YtpkippcbocmmkaaFuncG
import Derived.Test.YtpkippcbocmmkaaApp
import Derived.Test.YtpkippcbocmmkaaByValue
import Derived.Deep.RegionHeld3
import Derived.Deep.DeepCutAuto
import Derived.BigQuiet
import Derived.IntWalk
namespace Go.Proofs.Ytpkippcbocmmkaa
open Go.ChangeShapes Go.WideShapes Go.ChangeAt Go.RowKit Go.Deep

theorem funcTold_length (p : Bool) (c : Int) (k : Nat) : (funcTold p c k).length = k := by simp [funcTold]

theorem Below.undrew {B m : Nat} {w w' : World} (h : Below B (w.drewN m) w') : Below B w w' := ⟨h.os, h.tape, h.output, h.size, h.block⟩

/-- An action that is boxed. -/
def actCells (av : Int) (ap : Bool) (ac : Int) : Array Value := #[.int .i64 av, .bool ap, .int .i64 ac]

/-- Behind a first call: the box as it was, and what was there. -/
theorem box_after {w w0 w' : World} {B : Nat} {av ac : Int} {ap : Bool} (hb : Below B w w0) (h0 : Blk w0 B 43 (actCells av ap ac)) (h : Below w0.heap.size w0 w') :
    Blk w' B 43 (actCells av ap ac) ∧ Below B w w' ∧ w0.heap.size ≤ w'.heap.size :=
  ⟨h0.below h h0.lt, hb.trans (h.mono (Nat.le_of_lt h0.lt)), h.size⟩

theorem funcTold_at (p : Bool) (c : Int) (n k : Nat) (h : k < (funcTold p c n).length) : (funcTold p c n)[k] = funcRow p c k := by simp [funcTold]

/-- The first row and another, of what OnceFunc returned. -/
theorem func_reads {w : World} {B : Nat} {A : Option Addr} {n : Nat} {p : Bool} {c : Int} (h : Rd w B 4 A n (toldRow (funcTold p c n))) {k : Nat} (hk : k < n) :
    ∃ b off, A = some ⟨b, off, none⟩ ∧ (w.cell? ⟨b, off + k * 4, none⟩ = some (.bool (k == 0)) ∧ w.cell? ⟨b, off + k * 4 + 2, none⟩ = some (.bool p) ∧ w.cell? ⟨b, off + k * 4 + 3, none⟩ = some (.int .i64 (if p then c else 0))) ∧
      (w.cell? ⟨b, off, none⟩ = some (.bool true) ∧ w.cell? ⟨b, off + 2, none⟩ = some (.bool p) ∧ w.cell? ⟨b, off + 3, none⟩ = some (.int .i64 (if p then c else 0))) := by
  have h1 := h.told (k := k) (by rw [funcTold_length]; exact hk) (funcTold_length p c n)
  have h0 := h.told (k := 0) (by rw [funcTold_length]; omega) (funcTold_length p c n)
  simp only [funcTold_at] at h1 h0
  obtain ⟨b, off, rfl, _, s0, _, s2, s3⟩ := h1
  obtain ⟨b', off', e, _, t0, _, t2, t3⟩ := h0
  injection e with e
  injection e with e1 e2
  subst e1 e2
  simp only [Nat.zero_mul, Nat.add_zero] at t0 t2 t3
  exact ⟨b, off, rfl, ⟨s0, s2, s3⟩, t0, t2, t3⟩

theorem max_zero (x : Int) (w : World) : (Builtin.max_ #[3, 3] 3 #[.int .i64 x, .int .i64 0]).run Try.prog w = .ok (.int .i64 (x.toNat : Int)) w := by
  have e : (x.toNat : Int) = if x < 0 then 0 else x := by split <;> omega
  rw [e]
  simp [Builtin.max_, Builtin.max2, go_sem]

end Go.Proofs.Ytpkippcbocmmkaa
