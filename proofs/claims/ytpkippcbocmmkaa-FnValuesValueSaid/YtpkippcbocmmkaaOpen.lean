/-
  How the laws' arguments are opened: a slice of steps as a plain list of steps, with the bound that the form's own reach gives; an action as its three fields.
-/
import Derived.Test.YtpkippcbocmmkaaSame
import Derived.ProofKit
import Derived.OpenShut
import Derived.ShutString
import Derived.ChangeOld
import Derived.Below
import Derived.SizedLaws
import Derived.Deep.Slices
import Derived.Deep.Fields
import Derived.Lib.SmallJoins
namespace Go.Proofs.Ytpkippcbocmmkaa
open Go.ChangeShapes Go.WideShapes Go.ChangeAt Go.RowKit Go.Deep

theorem own : ownKnob Try.prog.godebug = none := by kernel_rfl
theorem laidOut : laidOutB Try.prog = true := by kernel_rfl
theorem cells30 : Try.prog.cellsOf 30 = 4 := by kernel_rfl
theorem cells75 : Try.prog.cellsOf 75 = 4 := by kernel_rfl
theorem cells43 : Try.prog.cellsOf 43 = 3 := by kernel_rfl
theorem bytes30 : Try.prog.bytesOf 30 = 32 := by kernel_rfl
theorem bytes75 : Try.prog.bytesOf 75 = 32 := by kernel_rfl

/-- A list out of its elements. -/
theorem list_of {α : Type} (Q : Nat → α → Prop) : ∀ n : Nat, (∀ i, i < n → ∃ a, Q i a) → ∃ l : List α, l.length = n ∧ ∀ i (h : i < l.length), Q i l[i] := by
  intro n
  induction n with
  | zero => intro _; exact ⟨[], rfl, fun i h => by simp at h⟩
  | succ n ih =>
    intro h
    obtain ⟨l, hl, hq⟩ := ih (fun i hi => h i (by omega))
    obtain ⟨a, ha⟩ := h n (by omega)
    refine ⟨l ++ [a], by simp [hl], fun i hi => ?_⟩
    by_cases e : i < l.length
    · rw [List.getElem_append_left e]
      exact hq i e
    · have e' : i = n := by simp at hi; omega
      subst e'
      rw [List.getElem_append_right (by omega)]
      simpa using ha

theorem four_of {α : Type} {l : List α} (h : l.length = 4) : ∃ a b c d, l = [a, b, c, d] := by
  match l, h with
  | [a, b, c, d], _ => exact ⟨a, b, c, d, rfl⟩

/-- What is known of a step's numbers. -/
def StepWf (s : Step) : Prop := (Lit.int .i64 s.once).wf = true ∧ (Lit.int .i64 s.inner).wf = true ∧ (Lit.int .i64 s.code).wf = true

/-- Cells that hold steps, row by row, read as the steps. -/
theorem rd_of_steps {w : World} {b off : Nat} {l : List Step} (h : ∀ i (hi : i < l.length), w.cell? ⟨b, off + i * 4, none⟩ = some (.int .i64 l[i].once) ∧ w.cell? ⟨b, off + i * 4 + 1, none⟩ = some (.int .i64 l[i].inner) ∧
    w.cell? ⟨b, off + i * 4 + 2, none⟩ = some (.bool l[i].panics) ∧ w.cell? ⟨b, off + i * 4 + 3, none⟩ = some (.int .i64 l[i].code)) :
    ∀ j u, (stepRow l)[j]? = some u → w.cell? ⟨b, off + j, none⟩ = some u := by
  intro j u hu
  have hj : j < l.length * 4 := by
    have := (List.getElem?_eq_some_iff.1 hu).1
    rwa [stepRow_length] at this
  have hi : j / 4 < l.length := by omega
  have hr := stepRow_at l (j / 4) hi (j % 4) (by omega)
  rw [show j / 4 * 4 + j % 4 = j by omega] at hr
  rw [hr] at hu
  obtain ⟨h0, h1, h2, h3⟩ := h (j / 4) hi
  have hlt : j % 4 < 4 := by omega
  have hcase : j % 4 = 0 ∨ j % 4 = 1 ∨ j % 4 = 2 ∨ j % 4 = 3 := by omega
  rcases hcase with e | e | e | e <;> rw [e] at hu <;> simp [stepCells] at hu <;> subst hu
  · rw [show off + j = off + j / 4 * 4 by omega]; exact h0
  · rw [show off + j = off + j / 4 * 4 + 1 by omega]; exact h1
  · rw [show off + j = off + j / 4 * 4 + 2 by omega]; exact h2
  · rw [show off + j = off + j / 4 * 4 + 3 by omega]; exact h3

section
variable {H : Type} {enc : TypeId × Value → H} {w : World} {base : Nat} {spare : Nat → Bool} {held : Bool}

/-- A slice of structs of a step's four fields, opened. -/
theorem open_steps {t e : TypeId} {f0 f1 f2 f3 : Field} {fuel : Nat} {A : Option Addr} {len cap : Nat} {x : DataW H × List MemPlace} (ht : Try.prog.underlying t = some (.slice e)) (he : Try.prog.underlying e = some (.struct #[f0, f1, f2, f3]))
    (hone : oneCellFields Try.prog #[f0, f1, f2, f3] = true) (hC : Try.prog.cellsOf e = 4) (t0 : f0.type = 3) (t1 : f1.type = 3) (t2 : f2.type = 4) (t3 : f3.type = 3)
    (h : DataW.trod enc Try.prog w base spare held fuel t [.slice A len cap] = some x) :
    ∃ l : List Step, l.length = len ∧ Rd w w.heap.size 4 A len (stepRow l) ∧ (∀ s ∈ l, StepWf s) ∧ ((x.1 = .nil ∧ len = 0) ∨ ∃ elems sp, x.1 = .slice elems sp ∧ elems.length = len) := by
  rcases open_slice ht h with ⟨hcs, hx⟩ | ⟨a, len', cap', m, n, D, Pl, hcs, hb, hl, hm, hmm, hx, hi⟩
  · simp at hcs
    obtain ⟨rfl, rfl, rfl⟩ := hcs
    refine ⟨[], rfl, ⟨rfl, fun h => absurd h (by omega)⟩, by simp, .inl ⟨by rw [hx], rfl⟩⟩
  · simp at hcs
    obtain ⟨rfl, rfl, rfl⟩ := hcs
    have hlm : len ≤ m := by rw [hmm]; split <;> omega
    have hel : ∀ i, i < len → ∃ s : Step, (w.cell? (a.add (i * 4)) = some (.int .i64 s.once) ∧ w.cell? ((a.add (i * 4)).add 1) = some (.int .i64 s.inner) ∧ w.cell? ((a.add (i * 4)).add 2) = some (.bool s.panics) ∧ w.cell? ((a.add (i * 4)).add 3) = some (.int .i64 s.code)) ∧ StepWf s := by
      intro i hi'
      obtain ⟨cs', hc, ht'⟩ := hi i (by omega)
      rw [hC] at hc
      obtain ⟨ys, n', hn', hy, hlen, hyl, hf⟩ := DataW.trod_struct he ht'
      obtain ⟨_, hcl, hat⟩ := World.cells?_some hc
      rw [hC] at hlen
      obtain ⟨v0, v1, v2, v3, rfl⟩ := four_of hlen
      have field : ∀ (j : Nat) (f : Field), #[f0, f1, f2, f3][j]? = some f → ∃ y, DataW.trod enc Try.prog w base spare held n' f.type (([v0, v1, v2, v3].drop j).take 1) = some y := by
        intro j f hj
        obtain ⟨ho, hk⟩ := hone_of hone j f hj
        have h1 := hf j f hj
        rw [ho, hk] at h1
        have hjl : j < ys.length := by rw [hyl]; exact (Array.getElem?_eq_some_iff.1 hj).1
        exact ⟨ys[j], h1.trans (List.getElem?_eq_getElem hjl)⟩
      obtain ⟨y0, q0⟩ := field 0 f0 rfl
      obtain ⟨y1, q1⟩ := field 1 f1 rfl
      obtain ⟨y2, q2⟩ := field 2 f2 rfl
      obtain ⟨y3, q3⟩ := field 3 f3 rfl
      rw [t0] at q0
      rw [t1] at q1
      rw [t2] at q2
      rw [t3] at q3
      obtain ⟨o, e0, _, w0⟩ := DataW.trod_int Try.underlying3 q0
      obtain ⟨nn, e1, _, w1⟩ := DataW.trod_int Try.underlying3 q1
      obtain ⟨p, e2, _⟩ := DataW.trod_bool Try.underlying4 q2
      obtain ⟨c, e3, _, w3⟩ := DataW.trod_int Try.underlying3 q3
      simp at e0 e1 e2 e3
      subst e0 e1 e2 e3
      exact ⟨⟨o, nn, p, c⟩, ⟨(by have := hat 0 (by omega); simpa [Addr.add] using this), hat 1 (by omega), hat 2 (by omega), hat 3 (by omega)⟩, w0, w1, w3⟩
    obtain ⟨l, hll, hq⟩ := list_of _ len hel
    refine ⟨l, hll, ⟨by rw [stepRow_length, hll], fun hn => ?_⟩, ?_, .inr ⟨_, _, by rw [hx], by simp⟩⟩
    · have h0 := (hq 0 (by omega)).1.1
      simp [Addr.add] at h0
      have hspot := World.cell?_spot h0
      obtain ⟨b, off, spot⟩ := a
      simp at hspot
      subst hspot
      refine ⟨b, off, rfl, World.block_lt_of_cell? w _ h0, rd_of_steps fun i hi => ?_⟩
      have e0 : (⟨b, off, none⟩ : Addr).add (i * 4) = ⟨b, off + i * 4, none⟩ := by unfold Addr.add; split <;> simp_all
      have hh := (hq i hi).1
      rw [e0] at hh
      exact hh
    · intro s hs
      obtain ⟨i, hi, rfl⟩ := List.mem_iff_getElem.1 hs
      exact (hq i hi).2

end

end Go.Proofs.Ytpkippcbocmmkaa
