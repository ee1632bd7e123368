/-
  Plain words on worlds, no program in sight: a block that is known whole (Blk), a change that touches only named blocks (Chg), a slice that reads as a list of cells (Rd).
-/
import Derived.WalkKit
import Derived.Laws.OwnMore
import Derived.Deep.Draws
import Derived.OneCell
namespace Go.Proofs.Ytpkippcbocmmkaa
open Go.RowKit

/-- Block g of w is just the cells cs, of element type t; none is frozen. -/
def Blk (w : World) (g : Nat) (t : TypeId) (cs : Array Value) : Prop := w.heap[g]? = some (.cells cs t (0, 0))

/-- w' is w with new blocks, and with changes to blocks of S alone. -/
structure Chg (S : Nat → Prop) (w w' : World) : Prop where
  os : w'.os = w.os
  tape : w'.tape = w.tape
  output : w'.output = w.output
  size : w.heap.size ≤ w'.heap.size
  block : ∀ k, k < w.heap.size → ¬ S k → w'.heap[k]? = w.heap[k]?

section
variable {w w' w'' : World} {S S' : Nat → Prop} {g : Nat} {t : TypeId} {cs : Array Value}

theorem Chg.refl (S : Nat → Prop) (w : World) : Chg S w w := ⟨rfl, rfl, rfl, Nat.le_refl _, fun _ _ _ => rfl⟩
theorem Chg.mono (h : Chg S w w') (hS : ∀ k, k < w.heap.size → S k → S' k) : Chg S' w w' :=
  ⟨h.os, h.tape, h.output, h.size, fun k hk hn => h.block k hk fun hs => hn (hS k hk hs)⟩
theorem Chg.trans (h : Chg S w w') (h' : Chg S w' w'') : Chg S w w'' :=
  ⟨h'.os.trans h.os, h'.tape.trans h.tape, h'.output.trans h.output, Nat.le_trans h.size h'.size, fun k hk hn => (h'.block k (Nat.lt_of_lt_of_le hk h.size) hn).trans (h.block k hk hn)⟩
theorem Chg.drew (h : Chg S w w') : Chg S w w'.drew := ⟨h.os, h.tape, h.output, h.size, h.block⟩
theorem Chg.alloc (h : Chg S w w') (o : Obj) : Chg S w (w'.alloc o) :=
  h.trans ⟨rfl, rfl, rfl, by simp, fun k hk _ => Below.heap_alloc w' o k hk⟩
theorem Chg.setCell (h : Chg S w w') {p : Addr} (hp : S p.block ∨ w.heap.size ≤ p.block) (u : Value) : Chg S w (w'.setCell p u) :=
  ⟨h.os, h.tape, h.output, by simpa [World.setCell] using h.size, fun k hk hn => (Below.heap_setCell w' p u k (by
    rintro rfl
    rcases hp with hp | hp
    · exact hn hp
    · omega)).trans (h.block k hk hn)⟩
theorem Chg.grown (h : Chg S w w') {row : Option Nat} (hg : w'.grownBy w'' row) (hr : ∀ k, row = some k → S k ∨ w.heap.size ≤ k) : Chg S w w'' :=
  ⟨hg.os.trans h.os, hg.tape.trans h.tape, hg.output.trans h.output, Nat.le_trans h.size hg.size, fun k hk hn => (hg.block k (Nat.lt_of_lt_of_le hk h.size) (fun e => by
    rcases hr k e.symm with hs | hs
    · exact hn hs
    · omega)).trans (h.block k hk hn)⟩
theorem Chg.below {B : Nat} (h : Chg S w w') (hB : B ≤ w.heap.size) (hS : ∀ k, S k → B ≤ k) : Below B w w' :=
  ⟨h.os, h.tape, h.output, h.size, fun k hk => h.block k (by omega) fun hs => by have := hS k hs; omega⟩
theorem Chg.of_below {B : Nat} (h : Below B w w') (hB : ∀ k, k < w.heap.size → ¬ S k → k < B) : Chg S w w' :=
  ⟨h.os, h.tape, h.output, h.size, fun k hk hn => h.block k (hB k hk hn)⟩
/-- A change, seen from an older world: what lies at or past the older world's end is new. -/
theorem Chg.from {S0 : Nat → Prop} (h0 : Chg S0 w w') (h : Chg S w' w'') (hS : ∀ k, S k → S0 k ∨ w.heap.size ≤ k) : Chg S0 w w'' :=
  ⟨h.os.trans h0.os, h.tape.trans h0.tape, h.output.trans h0.output, Nat.le_trans h0.size h.size, fun k hk hn => (h.block k (Nat.lt_of_lt_of_le hk h0.size) (fun hs => by
    rcases hS k hs with h1 | h1
    · exact hn h1
    · omega)).trans (h0.block k hk hn)⟩

theorem Blk.lt (h : Blk w g t cs) : g < w.heap.size := by
  rcases Nat.lt_or_ge g w.heap.size with hlt | hge
  · exact hlt
  · unfold Blk at h; rw [Array.getElem?_eq_none hge] at h; cases h
theorem Blk.cell (h : Blk w g t cs) (i : Nat) : w.cell? ⟨g, i, none⟩ = cs[i]? := cell_of_row w g i cs t (0, 0) h
theorem Blk.frozen (h : Blk w g t cs) (i : Nat) : w.frozen? ⟨g, i, none⟩ = false := frozen_of_row w g i cs t h
theorem Blk.new (w : World) (t : TypeId) (cs : Array Value) : Blk (w.alloc (.cells cs t)) w.heap.size t cs := heap_alloc_new w _
theorem Blk.drew (h : Blk w g t cs) : Blk w.drew g t cs := h
theorem Blk.alloc (h : Blk w g t cs) (o : Obj) : Blk (w.alloc o) g t cs := (Below.heap_alloc w o g h.lt).trans h
theorem Blk.set_ (h : Blk w g t cs) (i : Nat) (u : Value) : Blk (w.setCell ⟨g, i, none⟩ u) g t (cs.setIfInBounds i u) := by
  unfold Blk at h ⊢
  simp [World.setCell, Array.getElem?_modify, h]
theorem Blk.far (h : Blk w g t cs) {p : Addr} (hp : g ≠ p.block) (u : Value) : Blk (w.setCell p u) g t cs := (Below.heap_setCell w p u g hp).trans h
theorem Blk.chg (h : Blk w g t cs) (hc : Chg S w w') (hg : ¬ S g) : Blk w' g t cs := (hc.block g h.lt hg).trans h
theorem Blk.below {B : Nat} (h : Blk w g t cs) (hb : Below B w w') (hg : g < B) : Blk w' g t cs := (hb.block g hg).trans h
theorem Blk.grown {row : Option Nat} (h : Blk w g t cs) (hb : w.grownBy w' row) (hg : some g ≠ row) : Blk w' g t cs := (hb.block g h.lt hg).trans h
theorem Blk.ne_ {g' : Nat} {t' : TypeId} {cs' : Array Value} (h : Blk w g t cs) (h' : Blk w g' t' cs') (hne : t ≠ t') : g ≠ g' := by
  rintro rfl
  unfold Blk at h h'
  rw [h] at h'
  injection h' with h'
  injection h' with _ ht
  exact hne ht
theorem Blk.unique {cs' : Array Value} (h : Blk w g t cs) (h' : Blk w g t cs') : cs = cs' := by
  unfold Blk at h h'
  rw [h] at h'
  injection h' with h'
  injection h'
theorem own_blk_ne {base : Nat} {e : TypeId} {size n : Nat} {v : Value} {xs : List Value} (h : w.ownsRow base e size v n xs) (hg : Blk w g t cs) (hne : e ≠ t) : v.ownBlock ≠ some g := by
  rcases h.2 with ⟨rfl, _⟩ | ⟨g', cap, cur, rfl, _, hh, _⟩
  · simp [Value.ownBlock]
  · intro he
    have : g' = g := by simpa [Value.ownBlock] using he
    subst this
    exact Blk.ne_ (t := e) hh hg hne rfl
end

theorem own_chg {w w' : World} {S : Nat → Prop} {base : Nat} {e : TypeId} {size n : Nat} {v : Value} {xs : List Value} (h : w.ownsRow base e size v n xs) (hc : Chg S w w') (hv : ∀ g, v.ownBlock = some g → ¬ S g) : w'.ownsRow base e size v n xs := by
  refine ⟨h.1, ?_⟩
  have hl := h.lt
  rcases h.2 with hn | ⟨g, cap, cur, rfl, hb, hgg, rest⟩
  · exact .inl hn
  · exact .inr ⟨g, cap, cur, rfl, hb, (hc.block g (hl g rfl).2 (hv g rfl)).trans hgg, rest⟩

theorem own_mono {w : World} {base base' : Nat} {e : TypeId} {size n : Nat} {v : Value} {xs : List Value} (h : w.ownsRow base e size v n xs) (hb : base' ≤ base) : w.ownsRow base' e size v n xs := by
  refine ⟨h.1, ?_⟩
  rcases h.2 with hn | ⟨g, cap, cur, rfl, hbg, rest⟩
  · exact .inl hn
  · exact .inr ⟨g, cap, cur, rfl, Nat.le_trans hb hbg, rest⟩

theorem block_add (a : Addr) (n : Nat) : (a.add n).block = a.block := by unfold Addr.add; split <;> rfl
theorem add_add' (a : Addr) (i j : Nat) : (a.add i).add j = a.add (i + j) := by
  unfold Addr.add
  by_cases hi : i = 0 <;> by_cases hj : j = 0 <;> simp [hi, hj, Nat.add_assoc]

/-- The slice value '.slice A n c' reads, below block B, as the cells xs (size cells an element); nil is let in. -/
def Rd (w : World) (B size : Nat) (A : Option Addr) (n : Nat) (xs : List Value) : Prop :=
  xs.length = n * size ∧ (0 < n → ∃ b off, A = some ⟨b, off, none⟩ ∧ b < B ∧ ∀ j u, xs[j]? = some u → w.cell? ⟨b, off + j, none⟩ = some u)

section
variable {w w' : World} {B B' size n : Nat} {A : Option Addr} {xs : List Value}
theorem Rd.keep (h : Rd w B size A n xs) (hk : ∀ p : Addr, p.block < B → w'.cell? p = w.cell? p) : Rd w' B size A n xs :=
  ⟨h.1, fun hn => by
    obtain ⟨b, off, e, hb, hc⟩ := h.2 hn
    exact ⟨b, off, e, hb, fun j u hu => (hk _ hb).trans (hc j u hu)⟩⟩
theorem Rd.more (h : Rd w B size A n xs) (hB : B ≤ B') : Rd w B' size A n xs :=
  ⟨h.1, fun hn => by
    obtain ⟨b, off, e, hb, hc⟩ := h.2 hn
    exact ⟨b, off, e, by omega, hc⟩⟩
theorem Rd.below (h : Rd w B size A n xs) (hb : Below B w w') : Rd w' B size A n xs := h.keep fun _ hp => hb.cell hp
theorem Rd.of_own {base : Nat} {e : TypeId} {c : Nat} (h : w.ownsRow base e size (.slice A n c) n xs) : Rd w w.heap.size size A n xs := by
  refine ⟨h.1, fun hn => ?_⟩
  have hl := h.lt
  rcases h.2 with ⟨hv, h0⟩ | ⟨g, cap, cur, hv, _⟩
  · omega
  · have hA : A = some ⟨g, 0, none⟩ := by injection hv
    subst hA
    refine ⟨_, _, rfl, (hl g rfl).2, fun j u hu => ?_⟩
    have := h.cells (g := g) rfl j u hu
    rwa [show (⟨g, 0, none⟩ : Addr).add j = ⟨g, 0 + j, none⟩ by unfold Addr.add; split <;> simp_all] at this
end

/-- The form of an owned value. -/
theorem own_form {w : World} {base : Nat} {e : TypeId} {size n : Nat} {v : Value} {xs : List Value} (h : w.ownsRow base e size v n xs) : ∃ A c, v = .slice A n c := by
  rcases h.2 with ⟨rfl, rfl⟩ | ⟨g, cap, cur, rfl, _⟩
  · exact ⟨none, 0, rfl⟩
  · exact ⟨_, _, rfl⟩

end Go.Proofs.Ytpkippcbocmmkaa
