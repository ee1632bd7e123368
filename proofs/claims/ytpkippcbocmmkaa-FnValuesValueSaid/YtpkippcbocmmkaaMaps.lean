/-
  The map of impl.Do, from a number to a new instance: what it holds, as a plain function from numbers to blocks (MapAt); made, kept, read and written.
-/
import Derived.Test.YtpkippcbocmmkaaRun
import Derived.Maps.OwnOps
import Derived.Maps.Views
namespace Go.Proofs.Ytpkippcbocmmkaa
open Go.RowKit Go.Maps

/-- How an element, a pointer to a block's head or nil, reads. -/
def ptrElem : Value → Option (DataW Unit × List MemPlace)
  | .pointer (some ⟨b, 0, none⟩) => some (.lit (.int .u64 b), [])
  | .pointer none => some (.nil, [])
  | _ => none

/-- A block's number, or nil, as a datum. -/
def blockData : Option Nat → DataW Unit
  | some b => .lit (.int .u64 b)
  | none => .nil

theorem ptrElem_some (b : Nat) : ptrElem (.pointer (some ⟨b, 0, none⟩)) = some (.lit (.int .u64 b), []) := rfl
theorem ptrElem_none : ptrElem (.pointer none) = some (.nil, []) := rfl

theorem ptrElem_inv {v : Value} {b : Nat} {ps : List MemPlace} (h : ptrElem v = some (.lit (.int .u64 b), ps)) : v = .pointer (some ⟨b, 0, none⟩) := by
  unfold ptrElem at h
  split at h
  · rename_i b'
    simp at h
    have : b' = b := by omega
    rw [this]
  · simp at h
  · cases h

/-- Block m of w is a map of at most n entries, from the number k to the block f k. -/
def MapAt (w : World) (m n : Nat) (f : Int → Option Nat) : Prop :=
  ∃ D : DataW Unit, w.ownsMap Try.prog 3 ptrElem m n D ∧ ∀ k : Int, D.atKey (.int .i64 k) .nil = blockData (f k)

/-- f with k turned to b. -/
def fput (f : Int → Option Nat) (k : Int) (b : Nat) (j : Int) : Option Nat := if j = k then some b else f j

theorem key3 : Keyed Try.prog 3 := int_keyed Try.underlying3
theorem zero58 (w : World) : (zeroValue 58).run Try.prog w = .ok (.pointer none) w := by kernel_rfl

theorem MapAt.made (w : World) : MapAt (w.alloc (.map #[] 0)) w.heap.size 0 (fun _ => none) :=
  ⟨.map [], World.ownsMap_made w _ _ _, fun _ => rfl⟩

theorem MapAt.block {w w' : World} {m n : Nat} {f : Int → Option Nat} (h : MapAt w m n f) (hb : w'.heap[m]? = w.heap[m]?) : MapAt w' m n f := by
  obtain ⟨D, ⟨es, clock, h1, h2⟩, h3⟩ := h
  exact ⟨D, ⟨es, clock, hb.trans h1, h2⟩, h3⟩

theorem MapAt.obj {w : World} {m n : Nat} {f : Int → Option Nat} (h : MapAt w m n f) : ∃ es clock, w.heap[m]? = some (.map es clock) := by
  obtain ⟨D, ⟨es, clock, h1, h2⟩, h3⟩ := h
  exact ⟨es, clock, h1⟩

theorem MapAt.lt {w : World} {m n : Nat} {f : Int → Option Nat} (h : MapAt w m n f) : m < w.heap.size := by
  obtain ⟨es, clock, h1⟩ := h.obj
  exact (Array.getElem?_eq_some_iff.1 h1).1

theorem MapAt.ne {w : World} {m n : Nat} {f : Int → Option Nat} (h : MapAt w m n f) {g : Nat} {t : TypeId} {cs : Array Value} (hb : Blk w g t cs) : g ≠ m := by
  rintro rfl
  obtain ⟨es, clock, h1⟩ := h.obj
  unfold Blk at hb
  rw [hb] at h1
  cases h1

theorem MapAt.chg {w w' : World} {S : Nat → Prop} {m n : Nat} {f : Int → Option Nat} (h : MapAt w m n f) (hc : Chg S w w') (hm : ¬ S m) : MapAt w' m n f :=
  h.block (hc.block m h.lt hm)

theorem MapAt.alloc {w : World} {m n : Nat} {f : Int → Option Nat} (h : MapAt w m n f) (o : Obj) : MapAt (w.alloc o) m n f :=
  h.block (Below.heap_alloc w o m h.lt)

/-- 'm[k]'. -/
theorem MapAt.look {w : World} {m n : Nat} {f : Int → Option Nat} (h : MapAt w m n f) {k : Int} (hw : (Lit.int .i64 k).wf = true) {b : Nat} (hf : f k = some b) :
    (Instr.lookup 57 (.map (some m)) (.int .i64 k) false).run Try.prog w = .ok (.pointer (some ⟨b, 0, none⟩)) w := by
  obtain ⟨D, hown, hat⟩ := h
  obtain ⟨v, ps, hrun, hv⟩ := hown.lookup key3 Try.underlying57 (zero58 w) ptrElem_none (keyOf_int_mk Try.underlying3 hw)
  rw [hat k, hf] at hv
  rw [ptrElem_inv hv] at hrun
  exact hrun

/-- 'm[k] = p', p a new pointer to the head of block b. -/
theorem wpList_put {w : World} {m n : Nat} {f : Int → Option Nat} {ops : Array Oper} {rest : List Oper} {o : Oper} {a : Act} {Q : Exit → Act → World → Prop}
    (h : MapAt w m n f) (hn : n < maxLen) (hg : o.guard = none) (mo xo vo : Operand) (hop : o.op = Op.mapUpdate 57 mo xo vo) {k : Int} {b : Nat}
    (hm : a.eval mo = .map (some m)) (hx : a.eval xo = .int .i64 k) (hv : a.eval vo = .pointer (some ⟨b, 0, none⟩)) (hw : (Lit.int .i64 k).wf = true)
    (hK : ∀ w', MapAt w' m (n + 1) (fput f k b) → Chg (· = m) w w' → wpList Try.prog ops Q rest (a.put o.dst undef) w') :
    wpList Try.prog ops Q (o :: rest) a w := by
  obtain ⟨D, hown, hat⟩ := h
  refine wpList_mapUpdate_own w hg mo xo vo 57 hop 3 58 key3 Try.underlying57 ptrElem m n D hm hown hn _ _ (.int .i64 k) hx hv (keyOf_int_mk Try.underlying3 hw) (.lit (.int .u64 b)) [] (ptrElem_some b) ?_
  intro w' hown' hgr
  have hD : IsMap D := by
    obtain ⟨es, clock, _, _, _, rfl⟩ := hown
    exact ⟨_, rfl⟩
  refine hK w' ⟨_, hown', fun j => ?_⟩ ⟨hgr.os, hgr.tape, hgr.output, hgr.size, fun i hi hne => hgr.block i hi (fun e => hne (by injection e))⟩
  unfold fput
  by_cases hj : j = k
  · subst hj
    rw [if_pos rfl, atKey_put_same hD (show WideAt.IsKeyLit (.int .i64 j) from trivial)]
    rfl
  · rw [if_neg hj, atKey_put_other (by intro e; injection e with _ e; exact hj e)]
    exact hat j

end Go.Proofs.Ytpkippcbocmmkaa
