/-
  A step and an action that are handed over by value, opened.
-/
import Derived.Test.YtpkippcbocmmkaaOpen
namespace Go.Proofs.Ytpkippcbocmmkaa
open Go.ChangeShapes Go.WideShapes Go.ChangeAt Go.RowKit Go.Deep Go.Joins

section
variable {H : Type} {enc : TypeId × Value → H} {w : World} {base b0 : Nat} {spare : Nat → Bool} {held : Bool} {r : Reach} {v : Value} {d : DataW H} {p : List MemPlace}

set_option maxRecDepth 100000 in
theorem open_step (hv : Value.okWide Try.prog w r b0 30 v) (h : DataW.Trod enc Try.prog w base spare held 30 v d p) : ∃ s : Step, v = .agg (stepCells s) ∧ StepWf s := by
  obtain ⟨c0, c1, c2, c3, y0, y1, y2, y3, m, rfl, _, _, h0, h1, h2, h3⟩ := open_agg4 Try.underlying30 (by kernel_rfl) cells30 hv h
  obtain ⟨o, e0, _, w0⟩ := DataW.trod_int Try.underlying3 h0
  obtain ⟨i, e1, _, w1⟩ := DataW.trod_int Try.underlying3 h1
  obtain ⟨q, e2, _⟩ := DataW.trod_bool Try.underlying4 h2
  obtain ⟨c, e3, _, w3⟩ := DataW.trod_int Try.underlying3 h3
  simp at e0 e1 e2 e3
  subst e0 e1 e2 e3
  exact ⟨⟨o, i, q, c⟩, rfl, w0, w1, w3⟩

set_option maxRecDepth 100000 in
theorem open_action (hv : Value.okWide Try.prog w r b0 43 v) (h : DataW.Trod enc Try.prog w base spare held 43 v d p) :
    ∃ (a : Int) (q : Bool) (c : Int), v = .agg #[.int .i64 a, .bool q, .int .i64 c] ∧ (Lit.int .i64 a).wf = true ∧ (Lit.int .i64 c).wf = true := by
  obtain ⟨c0, c1, c2, y0, y1, y2, m, rfl, _, _, h0, h1, h2⟩ := open_agg3 Try.underlying43 (by kernel_rfl) cells43 hv h
  obtain ⟨a, e0, _, w0⟩ := DataW.trod_int Try.underlying3 h0
  obtain ⟨q, e1, _⟩ := DataW.trod_bool Try.underlying4 h1
  obtain ⟨c, e2, _, w2⟩ := DataW.trod_int Try.underlying3 h2
  simp at e0 e1 e2
  subst e0 e1 e2
  exact ⟨a, q, c, rfl, w0, w2⟩
end

end Go.Proofs.Ytpkippcbocmmkaa
