/-
  impl.Do: the contract: for every list of steps it returns a new slice that tells of each step what the plain law doTold says, and nothing that was there has turned.
-/
import Derived.Test.YtpkippcbocmmkaaStepDo
import Derived.Laws.EntriesVeiled
namespace Go.Proofs.Ytpkippcbocmmkaa
open Go.RowKit Go.Maps

/-- The cells of steps, one behind the other. -/
def stepRow (l : List Step) : List Value := l.flatMap fun s => (stepCells s).toList

/-- The cells of what is told. -/
def toldCells (t : Told) : Array Value := #[.bool t.ran, .bool t.inner, .bool t.panicked, .int .i64 t.code]
def toldRow (l : List Told) : List Value := l.flatMap fun t => (toldCells t).toList

theorem stepRow_length (l : List Step) : (stepRow l).length = l.length * 4 := by
  induction l with
  | nil => rfl
  | cons s l ih => simp only [stepRow, List.flatMap_cons, List.length_append, List.length_cons] at ih ⊢; rw [ih]; simp [stepCells]; omega

theorem stepRow_at (l : List Step) (k : Nat) (h : k < l.length) (j : Nat) (hj : j < 4) : (stepRow l)[k * 4 + j]? = (stepCells l[k])[j]? := by
  induction l generalizing k with
  | nil => simp at h
  | cons s l ih =>
    cases k with
    | zero =>
      simp only [stepRow, List.flatMap_cons, Nat.zero_mul, Nat.zero_add, List.getElem_cons_zero]
      rw [List.getElem?_append_left (by simp [stepCells]; omega)]
      simp
    | succ k =>
      have := ih k (by simpa using h)
      simp only [stepRow, List.flatMap_cons, List.getElem_cons_succ] at this ⊢
      rw [List.getElem?_append_right (by simp [stepCells]; omega)]
      simp only [stepCells, List.length_cons, List.length_nil] at this ⊢
      rw [← this]
      congr 1
      simp
      omega

theorem Rd.step {w : World} {B : Nat} {A : Option Addr} {n : Nat} {l : List Step} (h : Rd w B 4 A n (stepRow l)) {k : Nat} (hk : k < l.length) (hn : l.length = n) :
    ∃ b off, A = some ⟨b, off, none⟩ ∧ b < B ∧ w.cell? ⟨b, off + k * 4, none⟩ = some (.int .i64 l[k].once) ∧ w.cell? ⟨b, off + k * 4 + 1, none⟩ = some (.int .i64 l[k].inner) ∧
      w.cell? ⟨b, off + k * 4 + 2, none⟩ = some (.bool l[k].panics) ∧ w.cell? ⟨b, off + k * 4 + 3, none⟩ = some (.int .i64 l[k].code) := by
  obtain ⟨b, off, e, hb, hc⟩ := h.2 (by omega)
  refine ⟨b, off, e, hb, ?_, ?_, ?_, ?_⟩
  · exact hc (k * 4) _ (stepRow_at l k hk 0 (by omega))
  · exact hc (k * 4 + 1) _ (stepRow_at l k hk 1 (by omega))
  · exact hc (k * 4 + 2) _ (stepRow_at l k hk 2 (by omega))
  · exact hc (k * 4 + 3) _ (stepRow_at l k hk 3 (by omega))

/-- Behind k rounds of the first loop. -/
def L1 (w : World) (l : List Step) (k : Nat) (wr : World) : Prop :=
  Blk wr (w.heap.size + 1) 57 #[.map (some w.heap.size)] ∧ Below w.heap.size w wr ∧
    ∃ f, MapAt wr w.heap.size (2 * k) f ∧ Inj f ∧ OS f fresh wr ∧ (∀ j b, f j = some b → w.heap.size ≤ b) ∧ ∀ s ∈ l.take k, (∃ A, f s.once = some A) ∧ (∃ B, f s.inner = some B)

/-- Behind k rounds of the second loop. -/
def L2 (w : World) (l : List Step) (k : Nat) (v : Value) (wr : World) : Prop :=
  Blk wr (w.heap.size + 1) 57 #[.map (some w.heap.size)] ∧ Below w.heap.size w wr ∧ wr.ownsRow w.heap.size 26 4 v k (toldRow (doTold fresh (l.take k))) ∧
    ∃ f n, MapAt wr w.heap.size n f ∧ Inj f ∧ OS f (doUsed fresh (l.take k)) wr ∧ (∀ j b, f j = some b → w.heap.size ≤ b) ∧ ∀ s ∈ l, (∃ A, f s.once = some A) ∧ (∃ B, f s.inner = some B)

theorem L1_start (w : World) (l : List Step) : L1 w l 0 ((w.alloc (.map #[] 0)).alloc (.cells #[.map (some w.heap.size)] 57)) := by
  refine ⟨?_, ?_, fun _ => none, (MapAt.made w).alloc _, (fun _ _ _ h => by simp at h), (fun _ _ h => by simp at h), (fun _ _ h => by simp at h), (fun s hs => by simp at hs)⟩
  · have := Blk.new (w.alloc (.map #[] 0)) 57 #[.map (some w.heap.size)]
    simpa using this
  · exact ((Below.refl _ w).alloc (Nat.le_refl _) _).alloc (by simp) _

/-- A new instance for k. -/
theorem put_inj {f : Int → Option Nat} {w : World} {used : Int → Bool} (hi : Inj f) (ho : OS f used w) {k : Int} {b : Nat} (hb : w.heap.size ≤ b) : Inj (fput f k b) := by
  have hne : ∀ j, f j ≠ some b := fun j h => by have := (ho j b h).lt; omega
  intro j j' c h h'
  unfold fput at h h'
  by_cases e : j = k <;> by_cases e' : j' = k
  · rw [e, e']
  · rw [if_pos e] at h; rw [if_neg e'] at h'
    exact absurd (by rw [h', ← h]) (hne j')
  · rw [if_neg e] at h; rw [if_pos e'] at h'
    exact absurd (by rw [h, ← h']) (hne j)
  · rw [if_neg e] at h; rw [if_neg e'] at h'
    exact hi j j' c h h'

theorem put_os {f : Int → Option Nat} {w w' : World} (ho : OS f fresh w) {k : Int} {b : Nat} (hw : ∀ c, c < w.heap.size → Blk w c 70 (once false) → Blk w' c 70 (once false)) (hb : Blk w' b 70 (once false)) : OS (fput f k b) fresh w' := by
  intro j c h
  unfold fput at h
  by_cases e : j = k
  · rw [if_pos e] at h
    injection h with h
    subst h
    exact hb
  · rw [if_neg e] at h
    exact hw c (ho j c h).lt (ho j c h)

theorem put_dom {f : Int → Option Nat} {k : Int} {b : Nat} {j : Int} (h : ∃ c, f j = some c) : ∃ c, fput f k b j = some c := by
  unfold fput
  split
  · exact ⟨_, rfl⟩
  · exact h
theorem put_self (f : Int → Option Nat) (k : Int) (b : Nat) : ∃ c, fput f k b k = some c := ⟨b, by simp [fput]⟩

/-- In the middle of a round of the first loop: what is read there. -/
theorem L1_mid {w wr w1 : World} {s : Step} (hbo : Blk wr (w.heap.size + 1) 57 #[.map (some w.heap.size)]) (c1 : Chg (· = w.heap.size) ((wr.alloc (.cells (stepCells s) 30)).alloc (.cells (once false) 70)) w1) :
    w1.cell? ⟨w.heap.size + 1, 0, none⟩ = some (.map (some w.heap.size)) ∧ w1.cell? ⟨wr.heap.size, 1, none⟩ = some (.int .i64 s.inner) := by
  have hsz := hbo.lt
  have b1 : Blk w1 (w.heap.size + 1) 57 #[.map (some w.heap.size)] := ((hbo.alloc _).alloc _).chg c1 (by show ¬ _ = _; omega)
  have b2 : Blk w1 wr.heap.size 30 (stepCells s) := ((Blk.new wr 30 (stepCells s)).alloc _).chg c1 (by show ¬ _ = _; omega)
  exact ⟨b1.c1, b2.cell 1⟩

/-- One round of the first loop. -/
theorem L1_next {w : World} {l : List Step} {k : Nat} {wr w1 w2 : World} {f : Int → Option Nat} (hlt : k < l.length) (hbo : Blk wr (w.heap.size + 1) 57 #[.map (some w.heap.size)]) (hbel : Below w.heap.size w wr)
    (hm : MapAt wr w.heap.size (2 * k) f) (hi : Inj f) (hos : OS f fresh wr) (hge : ∀ j b, f j = some b → w.heap.size ≤ b) (hdom : ∀ s ∈ l.take k, (∃ A, f s.once = some A) ∧ (∃ B, f s.inner = some B))
    (c1 : Chg (· = w.heap.size) ((wr.alloc (.cells (stepCells l[k]) 30)).alloc (.cells (once false) 70)) w1)
    (m2 : MapAt w2 w.heap.size (2 * k + 1 + 1) (fput (fput f l[k].once (wr.heap.size + 1)) l[k].inner w1.heap.size)) (c2 : Chg (· = w.heap.size) (w1.alloc (.cells (once false) 70)) w2) : L1 w l (k + 1) w2 := by
  have hsz := hbo.lt
  have hs1 : wr.heap.size + 2 ≤ w1.heap.size := by have := c1.size; simp at this; omega
  have b1 : Blk w1 (wr.heap.size + 1) 70 (once false) := by
    have := Blk.new (wr.alloc (.cells (stepCells l[k]) 30)) 70 (once false)
    simp only [World.size_alloc] at this
    exact this.chg c1 (by show ¬ _ = _; omega)
  have b2 : Blk w2 w1.heap.size 70 (once false) := (Blk.new w1 70 (once false)).chg c2 (by show ¬ _ = _; omega)
  have n1 : wr.heap.size + 1 ≠ w.heap.size := by omega
  have os1 : OS (fput f l[k].once (wr.heap.size + 1)) fresh w1 := put_os hos (fun c _ hb => ((hb.alloc _).alloc _).chg c1 (fun e => hm.ne hb e)) b1
  have i1 : Inj (fput f l[k].once (wr.heap.size + 1)) := put_inj hi hos (by omega)
  have os2 : OS (fput (fput f l[k].once (wr.heap.size + 1)) l[k].inner w1.heap.size) fresh w2 := by
    have ne : ∀ c j, fput f l[k].once (wr.heap.size + 1) j = some c → c ≠ w.heap.size := by
      intro c j h
      unfold fput at h
      split at h
      · injection h with h; omega
      · exact hm.ne (hos j c h)
    intro j c h
    by_cases e : j = l[k].inner
    · have : c = w1.heap.size := by simp [fput, e] at h; omega
      subst this
      exact b2
    · have h' : fput f l[k].once (wr.heap.size + 1) j = some c := by
        unfold fput at h ⊢
        rw [if_neg e] at h
        exact h
      exact ((os1 j c h').alloc _).chg c2 (ne c j h')
  have i2 : Inj (fput (fput f l[k].once (wr.heap.size + 1)) l[k].inner w1.heap.size) := put_inj i1 os1 (Nat.le_refl _)
  have bo1 : Blk w1 (w.heap.size + 1) 57 #[.map (some w.heap.size)] := ((hbo.alloc _).alloc _).chg c1 (by show ¬ _ = _; omega)
  have bo2 : Blk w2 (w.heap.size + 1) 57 #[.map (some w.heap.size)] := (bo1.alloc _).chg c2 (by show ¬ _ = _; omega)
  have d0 : Below w.heap.size w ((wr.alloc (.cells (stepCells l[k]) 30)).alloc (.cells (once false) 70)) := (hbel.alloc (by omega) _).alloc (by simp; omega) _
  have d1 : Below w.heap.size w w1 := d0.trans (c1.below (by simp; omega) (fun j e => Nat.le_of_eq e.symm))
  have d2 : Below w.heap.size w w2 := (d1.alloc (by omega) _).trans (c2.below (by simp; omega) (fun j e => Nat.le_of_eq e.symm))
  have g2 : ∀ j b, fput (fput f l[k].once (wr.heap.size + 1)) l[k].inner w1.heap.size j = some b → w.heap.size ≤ b := by
    intro j b h
    unfold fput at h
    split at h
    · injection h with h; omega
    · split at h
      · injection h with h; omega
      · exact hge j b h
  refine ⟨bo2, d2, _, m2, i2, os2, g2, ?_⟩
  intro s hs
  rw [List.take_succ_eq_append_getElem hlt, List.mem_append, List.mem_singleton] at hs
  rcases hs with hs | rfl
  · exact ⟨put_dom (put_dom (hdom s hs).1), put_dom (put_dom (hdom s hs).2)⟩
  · exact ⟨put_dom (put_self _ _ _), put_self _ _ _⟩

theorem info26 : (Try.prog.info? 26).map (fun i => (i.zero, i.size, i.bytes)) = some (some (.agg #[.bool false, .bool false, .bool false, .int .i64 0]), 4, 16) := by kernel_rfl

theorem L2_start {w wr : World} {l : List Step} (h : L1 w l l.length wr) : L2 w l 0 (.slice (some ⟨wr.heap.size, 0, none⟩) 0 0) (wr.alloc (.cells #[] 26)) := by
  obtain ⟨hbo, hbel, f, hm, hi, hos, hge, hdom⟩ := h
  have hsz := hbo.lt
  refine ⟨hbo.alloc _, hbel.alloc (by omega) _, ?_, f, _, hm.alloc _, hi, fun j b hj => (hos j b hj).alloc _, hge, fun s hs => hdom s (by rw [List.take_length]; exact hs)⟩
  exact World.ownsRow_made wr #[] 0 (by omega) (by simp [maxLen]) rfl

theorem toldRow_append (a b : List Told) : toldRow (a ++ b) = toldRow a ++ toldRow b := by simp [toldRow]

/-- The cells of a block that has just been made. -/
theorem new_cells (w : World) (cs : Array Value) (e : TypeId) (n : Nat) (hn : n = w.heap.size) : ∀ j u, cs.toList[j]? = some u → (w.alloc (.cells cs e)).cell? ((⟨n, 0, none⟩ : Addr).add j) = some u := by
  intro j u h
  subst hn
  rw [show (⟨w.heap.size, 0, none⟩ : Addr).add j = ⟨w.heap.size, j, none⟩ by unfold Addr.add; split <;> simp_all]
  rw [(Blk.new w e cs).cell j]
  simpa using h

theorem toldCells_one (T : Told) : ∀ u ∈ (toldCells T).toList, u.oneCell' = true := by
  intro u hu
  simp only [toldCells, List.mem_cons, List.not_mem_nil, or_false] at hu
  rcases hu with rfl | rfl | rfl | rfl <;> rfl

/-- A round of the second loop, behind the call: the slice is as it was. -/
theorem L2_own {w wr w1 : World} {v : Value} {k : Nat} {xs : List Value} {f : Int → Option Nat} {used : Int → Bool} {o1 o2 : Obj} (hown : wr.ownsRow w.heap.size 26 4 v k xs) (hos : OS f used wr)
    (hc : Chg (fun k => k = wr.heap.size + 1 ∨ ∃ j, f j = some k) ((wr.alloc o1).alloc o2) w1) (x y : Value) :
    ((w1.setCell ⟨wr.heap.size + 1, 2, none⟩ x).setCell ⟨wr.heap.size + 1, 3, none⟩ y).ownsRow w.heap.size 26 4 v k xs := by
  have h1 : w1.ownsRow w.heap.size 26 4 v k xs := own_chg ((hown.alloc o1).alloc o2) hc (by
    intro g hg hS
    rcases hS with h | ⟨j, h⟩
    · have := (hown.lt g hg).2; omega
    · exact own_blk_ne hown (hos j g h) (by decide) hg)
  have hlt : v.ownBlock ≠ some (wr.heap.size + 1) := fun e => by have := (hown.lt _ e).2; omega
  exact ownsRow_setCell_other (ownsRow_setCell_other h1 hlt x) hlt y

/-- One round of the second loop. -/
theorem L2_next {w wr w1 w2 : World} {l : List Step} {k : Nat} {v v' : Value} {f : Int → Option Nat} {n : Nat} (hlt : k < l.length) (hbo : Blk wr (w.heap.size + 1) 57 #[.map (some w.heap.size)]) (hbel : Below w.heap.size w wr)
    (hown : wr.ownsRow w.heap.size 26 4 v k (toldRow (doTold fresh (l.take k)))) (hm : MapAt wr w.heap.size n f) (hi : Inj f) (hos : OS f (doUsed fresh (l.take k)) wr) (hge : ∀ j b, f j = some b → w.heap.size ≤ b)
    (hdom : ∀ s ∈ l, (∃ A, f s.once = some A) ∧ (∃ B, f s.inner = some B)) {o1 o2 o3 : Obj} {x y : Value}
    (hc : Chg (fun k => k = wr.heap.size + 1 ∨ ∃ j, f j = some k) ((wr.alloc o1).alloc o2) w1) (hos1 : OS f (stepUsed (doUsed fresh (l.take k)) l[k]) w1)
    (hown2 : w2.ownsRow w.heap.size 26 4 v' (k + 1) (toldRow (doTold fresh (l.take k)) ++ (toldCells (stepTold (doUsed fresh (l.take k)) l[k])).toList))
    (hg : (((w1.setCell ⟨wr.heap.size + 1, 2, none⟩ x).setCell ⟨wr.heap.size + 1, 3, none⟩ y).alloc o3).grownBy w2 v.ownBlock) : L2 w l (k + 1) v' w2 := by
  have hsz := hbo.lt
  have htake : l.take (k + 1) = l.take k ++ [l[k]] := List.take_succ_eq_append_getElem hlt
  have hs1 : wr.heap.size + 2 ≤ w1.heap.size := by have := hc.size; simp at this; omega
  have nbo : some (w.heap.size + 1) ≠ v.ownBlock := fun e => own_blk_ne hown hbo (by decide) e.symm
  have bo1 : Blk w1 (w.heap.size + 1) 57 #[.map (some w.heap.size)] := ((hbo.alloc _).alloc _).chg hc (by
    rintro (h | ⟨j, h⟩)
    · omega
    · exact (hbo.ne_ (hos j _ h) (by decide)) rfl)
  have bo2 := ((((bo1.far (p := ⟨wr.heap.size + 1, 2, none⟩) (by show w.heap.size + 1 ≠ wr.heap.size + 1; omega) x).far (p := ⟨wr.heap.size + 1, 3, none⟩) (by show w.heap.size + 1 ≠ wr.heap.size + 1; omega) y).alloc o3).grown hg nbo)
  have d1 : Below w.heap.size w w1 := ((hbel.alloc (by omega) o1).alloc (by simp; omega) o2).trans (hc.below (by simp; omega) (by
    rintro j (h | ⟨j', h⟩)
    · omega
    · exact hge _ _ h))
  have d2 : Below w.heap.size w (((w1.setCell ⟨wr.heap.size + 1, 2, none⟩ x).setCell ⟨wr.heap.size + 1, 3, none⟩ y).alloc o3) :=
    ((d1.setCell (p := ⟨wr.heap.size + 1, 2, none⟩) (by show w.heap.size ≤ wr.heap.size + 1; omega) x).setCell (p := ⟨wr.heap.size + 1, 3, none⟩) (by show w.heap.size ≤ wr.heap.size + 1; omega) y).alloc (by simp [World.setCell]; omega) o3
  have d3 : Below w.heap.size w w2 := d2.grown hg (by simp [World.setCell]; omega) (fun j e => (hown.lt j e).1)
  have hm1 : MapAt w1 w.heap.size n f := ((hm.alloc o1).alloc o2).chg hc (by
    rintro (h | ⟨j, h⟩)
    · omega
    · exact hm.ne (hos j _ h) rfl)
  have nm : some w.heap.size ≠ v.ownBlock := by
    intro e
    rcases hown.2 with ⟨rfl, _⟩ | ⟨g, cap, cur, rfl, _, hh, _⟩
    · simp [Value.ownBlock] at e
    · have : w.heap.size = g := by simpa [Value.ownBlock] using e
      exact hm.ne (t := 26) (cs := cur) hh this.symm
  have hm2 : MapAt w2 w.heap.size n f := by
    have e1 : (((w1.setCell ⟨wr.heap.size + 1, 2, none⟩ x).setCell ⟨wr.heap.size + 1, 3, none⟩ y).alloc o3).heap[w.heap.size]? = w1.heap[w.heap.size]? := by
      rw [Below.heap_alloc _ _ _ (by simp [World.setCell]; omega), Below.heap_setCell _ _ _ _ (by show w.heap.size ≠ wr.heap.size + 1; omega), Below.heap_setCell _ _ _ _ (by show w.heap.size ≠ wr.heap.size + 1; omega)]
    exact hm1.block ((hg.block _ (by simp [World.setCell]; omega) nm).trans e1)
  refine ⟨bo2, d3, ?_, f, n, hm2, hi, ?_, hge, hdom⟩
  · rw [htake, doTold_append, toldRow_append]
    simpa [doTold, toldRow] using hown2
  · rw [htake, doUsed_append]
    intro j b hj
    have lb := (hos j b hj).lt
    have b1 := hos1 j b hj
    refine Blk.grown (((b1.far (p := ⟨wr.heap.size + 1, 2, none⟩) (by show b ≠ wr.heap.size + 1; omega) x).far (p := ⟨wr.heap.size + 1, 3, none⟩) (by show b ≠ wr.heap.size + 1; omega) y).alloc o3) hg ?_
    exact fun e => own_blk_ne hown (hos j b hj) (by decide) e.symm

set_option maxHeartbeats 1000000 in
theorem do_any (A : Option Addr) (cap : Nat) (l : List Step) (w : World) (hr : Rd w w.heap.size 4 A l.length (stepRow l)) (hlen : l.length * 32 ≤ 140737488355328)
    (hwf : ∀ s ∈ l, (Lit.int .i64 s.once).wf = true ∧ (Lit.int .i64 s.inner).wf = true) :
    Calls Try.prog 18 #[.slice A l.length cap] w fun e w' => ∃ v, e = .returned v ∧ w'.ownsRow w.heap.size 26 4 v l.length (toldRow (doTold fresh l)) ∧ Below w.heap.size w w' := by
  have hmm := @run_makeMap Try.prog
  have hmf : ∀ (fn : Fn) (first cap : Array Value) (w : World), (Instr.makeFunc fn first cap).run Try.prog w = .ok (.func fn first cap) w := fun _ _ _ _ => rfl
  have HR := Lib.hid hr
  have HW := Lib.hid hwf
  clear hr hwf
  go_enter Try.func18, Try.ntmps18
  go_wp2_with fail
  go_loopw [13] (fun i wr => ∃ k : Nat, k ≤ l.length ∧ i = .int .i64 k ∧ L1 w l k wr) (fun i _ => l.length - (intOf i).toNat)
  case atStart => exact ⟨0, Nat.zero_le _, rfl, L1_start w l⟩
  case round =>
    obtain ⟨k, hk, rfl, hL⟩ := hrel
    have HL := Lib.hid hL
    clear hL
    by_cases hlt : k < l.length
    · obtain ⟨hbo, hbel, f, hm, hi, hos, hge, hdom⟩ := HL.out
      have ho := hbo.c1
      have hsz := hbo.lt
      obtain ⟨b, off, rfl, hb, s0, s1, s2, s3⟩ := (HR.out.below hbel).step hlt rfl
      have hm0 := (hm.alloc (.cells (stepCells l[k]) 30)).alloc (.cells (once false) 70)
      have hwf := HW.out l[k] (List.getElem_mem hlt)
      have BO := Lib.hid hbo
      have BE := Lib.hid hbel
      have HI := Lib.hid hi
      have HO := Lib.hid hos
      have HD := Lib.hid hdom
      have HG := Lib.hid hge
      have HM := Lib.hid hm
      have H0 := Lib.hid hm0
      have HWF := Lib.hid hwf
      clear hbo hbel hi hos hdom hge hm hm0 hwf HL
      go_wp2_with (first
        | (at_mapUpdate; have _t := H0; refine wpList_put H0.out (by unfold maxLen; omega) rfl _ _ _ rfl rfl rfl rfl HWF.out.1 ?_; intro w1 hm1 hc1; clear H0; obtain ⟨o1, i1⟩ := L1_mid BO.out hc1; have H1 := Lib.hid (hm1.alloc (.cells (once false) 70)); have C1 := Lib.hid hc1; clear hm1 hc1)
        | (at_mapUpdate; refine wpList_put H1.out (by unfold maxLen; omega) rfl _ _ _ rfl rfl rfl rfl HWF.out.2 ?_; intro w2 hm2 hc2; have H2 := Lib.hid (L1_next hlt BO.out BE.out HM.out HI.out HO.out HG.out HD.out C1.out hm2 hc2); clear hm2 hc2))
      go_roundw
      case rel => exact ⟨k + 1, by omega, by go_num, H2.out⟩
      case measure => simp [intOf]; omega
    · obtain rfl : k = l.length := by omega
      have H2 := Lib.hid (L2_start HL.out)
      clear HL hlt hk
      go_wp2_with fail
      go_loopw [6, 31] (fun v i wr => ∃ k : Nat, k ≤ l.length ∧ i = .int .i64 k ∧ L2 w l k v wr) (fun _ i _ => l.length - (intOf i).toNat)
      case atStart => exact ⟨0, Nat.zero_le _, rfl, H2.out⟩
      case round =>
        clear H2
        obtain ⟨k, hk, rfl, hL⟩ := hrel
        have HL := Lib.hid hL
        clear hL
        by_cases hlt : k < l.length
        · obtain ⟨hbo, hbel, hown, f, n, hm, hi, hos, hge, hdom⟩ := HL.out
          have ho := hbo.c1
          have hsz := hbo.lt
          obtain ⟨b, off, rfl, hb, s0, s1, s2, s3⟩ := (HR.out.below hbel).step hlt rfl
          obtain ⟨⟨A, hA⟩, ⟨B, hB⟩⟩ := hdom l[k] (List.getElem_mem hlt)
          have hwf := HW.out l[k] (List.getElem_mem hlt)
          have hcall := run_step (wr.heap.size + 1) wr.heap.size (w.heap.size + 1) w.heap.size n A B f (doUsed fresh (l.take k)) l[k] ((wr.alloc (.cells (stepCells l[k]) 30)).alloc (.cells #[.bool false, .bool false, .bool false, .int .i64 0] 26))
            (by have := Blk.new (wr.alloc (.cells (stepCells l[k]) 30)) 26 #[.bool false, .bool false, .bool false, .int .i64 0]; simpa using this) ((Blk.new wr 30 (stepCells l[k])).alloc _) ((hbo.alloc _).alloc _) ((hm.alloc _).alloc _) hi (fun j b hj => ((hos j b hj).alloc _).alloc _) hwf.1 hwf.2 hA hB
          have HC := Lib.hid hcall
          have BO := Lib.hid hbo
          have BE := Lib.hid hbel
          have HI := Lib.hid hi
          have HO := Lib.hid hos
          have HD := Lib.hid hdom
          have HG := Lib.hid hge
          have HM := Lib.hid hm
          have HV := Lib.hid hown
          clear hcall hbo hbel hi hos hdom hge hm hwf HL hown hA hB
          go_wp2_with fail
          refine HC.out.mono ?_
          clear HC
          rintro e w1 ⟨rfl, ht1, hos1, hc1⟩
          obtain ⟨T, hT⟩ : ∃ T, T = stepTold (doUsed fresh (l.take k)) l[k] := ⟨_, rfl⟩
          rw [← hT] at ht1 ⊢
          obtain ⟨t0, t1, t2, t3⟩ := ht1.c4
          have z2 := ht1.frozen 2
          have z3 := ht1.frozen 3
          have hw1 : wr.heap.size + 1 < w1.heap.size := ht1.lt
          have hkb : w.heap.size < w1.heap.size := by omega
          have HT := Lib.hid hT
          have O1 := Lib.hid hos1
          have C1 := Lib.hid hc1
          have V1 := Lib.hid (L2_own HV.out HO.out hc1 (.bool T.panicked) (.int .i64 T.code))
          obtain ⟨i0, hi0, hz0, hz1, hz2⟩ := info_parts info26
          clear hT hos1 hc1 ht1
          go_wp2_with (at_builtin; refine wpList_append_own _ rfl (.tmp 43) (.tmp 45) 23 rfl w.heap.size 26 i0 _ 4 16 Try.underlying23 hi0 hz0 hz1 hz2 rfl (by decide) _ _ _ rfl (V1.out.alloc _) ⟨w1.heap.size, 0, none⟩ 1 1 (toldCells T).toList rfl rfl ?c1 ?c2 ?c3 ?c4 ?c5 ?_)
          case c1 => exact new_cells _ _ _ _ (by simp [World.setCell])
          case c2 => exact toldCells_one T
          case c3 => unfold maxLen; omega
          case c4 => omega
          case c5 => simp; omega
          intro v' w2 hown2 hg2 _
          have H3 := Lib.hid (L2_next hlt BO.out BE.out HV.out HM.out HI.out HO.out HG.out HD.out C1.out O1.out (by rw [← HT.out]; exact hown2) hg2)
          clear hown2 hg2
          go_wp2
          go_roundw
          case rel => exact ⟨k + 1, by omega, by go_num, H3.out⟩
          case measure => simp [intOf]; omega
        · obtain rfl : k = l.length := by omega
          obtain ⟨_, hbel, hown, _⟩ := HL.out
          rw [List.take_length] at hown
          have HV := Lib.hid hown
          have HB := Lib.hid hbel
          clear hown hbel HL
          go_wp2_with fail
          go_ret
          exact ⟨_, rfl, HV.out, HB.out⟩

end Go.Proofs.Ytpkippcbocmmkaa
