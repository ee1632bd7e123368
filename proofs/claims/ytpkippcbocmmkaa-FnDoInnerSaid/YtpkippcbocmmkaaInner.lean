/-
  The law FnDoInner: an inner call uses its instance up: a call of it behind that does nothing: for every list of steps and every step the law returns true, and each argument reads as it read before.
-/
import Derived.Test.YtpkippcbocmmkaaApp
import Derived.Test.YtpkippcbocmmkaaByValue
import Derived.Deep.RegionHeld3
import Derived.Deep.AppendLies
import Derived.IntWalk
import Derived.Deep.DeepCutAuto
namespace Go.Proofs.Ytpkippcbocmmkaa
open Go.ChangeShapes Go.WideShapes Go.ChangeAt Go.RowKit Go.Deep

theorem step_append_rd {P : Program} {w : World} {ops : Array Oper} {o : Oper} {a : Act} {K : Act → World → Prop} {Q : Exit → Act → World → Prop} {E : Prop} (hgd : o.guard = none) (s x : Operand) (t : TypeId)
    (ho : o.op = .call { callee := .builtin .append, args := #[s, x], argTypes := #[t, t] })
    (base : Nat) (e : TypeId) (i : TypeInfo) (z : Value) (size bytes : Nat) (ht : P.underlying t = some (.slice e)) (hi : P.info? e = some i) (hz : i.zero = some z)
    (hsize : i.size = size) (hby : i.bytes = bytes) (hzs : z.cells.size = size) (hsz : 0 < size)
    (v : Value) (n : Nat) (xs : List Value) (hs : a.eval s = v) (hown : w.ownsRow base e size v n xs)
    (B : Nat) (A : Option Addr) (m c : Nat) (news : List Value) (hx : a.eval x = .slice A m c) (hr : Rd w B size A m news) (h1 : ∀ u ∈ news, u.oneCell' = true)
    (h63 : n + m ≤ maxLen) (hbytes : (n + m) * bytes ≤ 140737488355328) (hbase : base ≤ w.heap.size)
    (h : ∀ v' w', w'.ownsRow base e size v' (n + m) (xs ++ news) → w.grownBy w' v.ownBlock → (v'.ownBlock = v.ownBlock ∨ v'.ownBlock = some w.heap.size) → K (a.put o.dst v') w') :
    if Region.wanted o (yielded ops a.tmps) = true then Oper.wp P o a w K Q else E := by
  have hw : Region.wanted o (yielded ops a.tmps) = true := by simp [Region.wanted, hgd]
  rw [if_pos hw]
  obtain ⟨v', w', hrun, h2, h3, h4⟩ := run_append_rd (P := P) base t o.type e i z size bytes ht hi hz hsize hby hzs hsz v n xs hown B A m c news hr h1 h63 hbytes hbase
  unfold Oper.wp execOp
  simp only [ho, resolve, invoke, builtin, Sem.run_bind, Sem.run_pure, Result.andThen_ok, List.map_toArray, List.map_cons, List.map_nil, hs, hx, hrun]
  exact h v' w' h2 h3 h4

/-- The three steps that the law appends. -/
def three (s : Step) : List Step := [s, ⟨s.once, s.once, true, 0⟩, ⟨s.inner, s.inner, true, 5⟩]

/-- Their cells, as the statement lays them. -/
def threeCells (s : Step) : Array Value := #[.int .i64 s.once, .int .i64 s.inner, .bool s.panics, .int .i64 s.code, .int .i64 s.once, .int .i64 s.once, .bool true, .int .i64 0, .int .i64 s.inner, .int .i64 s.inner, .bool true, .int .i64 5]

theorem three_cells (s : Step) : (threeCells s).toList = stepRow (three s) := rfl

theorem own_empty {W : World} {base b : Nat} (h : Blk W b 30 #[]) (hb : base ≤ b) : W.ownsRow base 30 4 (.slice (some ⟨b, 0, none⟩) 0 0) 0 [] :=
  ⟨rfl, .inr ⟨b, 0, #[], rfl, hb, h, Nat.le_refl _, Nat.zero_le _, rfl, rfl⟩⟩

theorem rd_three {W : World} {b : Nat} {s : Step} (h : Blk W b 30 (threeCells s)) : Rd W W.heap.size 4 (some ⟨b, 0, none⟩) 3 (stepRow (three s)) := by
  refine ⟨rfl, fun _ => ⟨b, 0, rfl, h.lt, fun j u hu => ?_⟩⟩
  rw [← three_cells] at hu
  rw [Nat.zero_add, h.cell j]
  simpa using hu

/-- Behind the first append: what the second one and the loads want. -/
theorem mid_facts {w W w1 : World} {s : Step} {b : Nat} (hbs : Blk W w.heap.size 30 (stepCells s)) (hW : Below w.heap.size w W) (hb : w.heap.size < b)
    (hg : W.grownBy w1 (some b)) :
    Below w.heap.size w w1 ∧ w.heap.size < w1.heap.size ∧ (w1.cell? ⟨w.heap.size, 0, none⟩ = some (.int .i64 s.once) ∧ w1.cell? ⟨w.heap.size, 1, none⟩ = some (.int .i64 s.inner) ∧ w1.cell? ⟨w.heap.size, 2, none⟩ = some (.bool s.panics) ∧ w1.cell? ⟨w.heap.size, 3, none⟩ = some (.int .i64 s.code)) ∧
      ∀ g t cs, Blk W g t cs → g ≠ b → Blk w1 g t cs := by
  have h1 : Blk w1 w.heap.size 30 (stepCells s) := hbs.grown hg (by intro e; injection e with e; omega)
  exact ⟨hW.grown hg (Nat.le_of_lt hbs.lt) (fun j e => by injection e with e; omega), h1.lt, ⟨h1.cell 0, h1.cell 1, h1.cell 2, h1.cell 3⟩, fun g t cs h hne => h.grown hg (by intro e; injection e with e; exact hne e)⟩

theorem not_head {w W : World} {v1 : Value} {b : Nat} (h : v1.ownBlock = some b ∨ v1.ownBlock = some W.heap.size) (hb : w.heap.size < b) (hW : w.heap.size < W.heap.size) : v1.ownBlock ≠ some w.heap.size := by
  intro e
  rcases h with h | h <;> rw [e] at h <;> injection h with h <;> omega

theorem far_cells {w W w2 : World} {v1 : Value} {s : Step} (hg : W.grownBy w2 v1.ownBlock) (hv : v1.ownBlock ≠ some w.heap.size)
    (q0 : W.cell? ⟨w.heap.size, 0, none⟩ = some (.int .i64 s.once)) (q1 : W.cell? ⟨w.heap.size, 1, none⟩ = some (.int .i64 s.inner)) (q2 : W.cell? ⟨w.heap.size, 2, none⟩ = some (.bool s.panics)) (q3 : W.cell? ⟨w.heap.size, 3, none⟩ = some (.int .i64 s.code)) :
    w2.cell? ⟨w.heap.size, 0, none⟩ = some (.int .i64 s.once) ∧ w2.cell? ⟨w.heap.size, 1, none⟩ = some (.int .i64 s.inner) ∧ w2.cell? ⟨w.heap.size, 2, none⟩ = some (.bool s.panics) ∧ w2.cell? ⟨w.heap.size, 3, none⟩ = some (.int .i64 s.code) :=
  ⟨hg.cell q0 (fun e => hv e.symm), hg.cell q1 (fun e => hv e.symm), hg.cell q2 (fun e => hv e.symm), hg.cell q3 (fun e => hv e.symm)⟩

theorem three_wf {l : List Step} {s : Step} (h : ∀ t ∈ l, StepWf t) (hs : StepWf s) : ∀ t ∈ l ++ three s, StepWf t := by
  intro t ht
  rcases List.mem_append.1 ht with ht | ht
  · exact h t ht
  · simp only [three, List.mem_cons, List.not_mem_nil, or_false] at ht
    rcases ht with rfl | rfl | rfl
    · exact hs
    · exact ⟨hs.1, hs.1, rfl⟩
    · exact ⟨hs.2.1, hs.2.1, rfl⟩

/-- What is seen of the three steps. -/
theorem three_told (l : List Step) (s : Step) : doTold fresh (l ++ three s) = doTold fresh l ++ [stepTold (doUsed fresh l) s, .zero, stepTold (stepUsed (doUsed fresh l) s) ⟨s.inner, s.inner, true, 5⟩] := by
  rw [doTold_append]
  have e1 : stepTold (stepUsed (doUsed fresh l) s) ⟨s.once, s.once, true, 0⟩ = .zero := by simp [stepTold, stepUsed_self]
  have e2 : stepUsed (stepUsed (doUsed fresh l) s) ⟨s.once, s.once, true, 0⟩ = stepUsed (doUsed fresh l) s := by
    rw [stepUsed]
    exact if_pos (stepUsed_self _ _)
  simp [three, doTold, e1, e2]

theorem get_back {α : Type} (a : List α) (x y z : α) : (a ++ [x, y, z])[a.length]? = some x ∧ (a ++ [x, y, z])[a.length + 1]? = some y ∧ (a ++ [x, y, z])[a.length + 2]? = some z := by
  refine ⟨?_, ?_, ?_⟩ <;> rw [List.getElem?_append_right (by omega)] <;> simp

/-- What the law reads of the three. -/
theorem inner_reads {w : World} {B : Nat} {A : Option Addr} {l : List Step} {s : Step} (h : Rd w B 4 A (l.length + 3) (toldRow (doTold fresh (l ++ three s)))) :
    ∃ b off, A = some ⟨b, off, none⟩ ∧ b < B ∧ w.cell? ⟨b, off + l.length * 4, none⟩ = some (.bool (stepTold (doUsed fresh l) s).ran) ∧
      (w.cell? ⟨b, off + (l.length + 1) * 4, none⟩ = some (.bool false) ∧ w.cell? ⟨b, off + (l.length + 1) * 4 + 1, none⟩ = some (.bool false) ∧ w.cell? ⟨b, off + (l.length + 1) * 4 + 2, none⟩ = some (.bool false) ∧ w.cell? ⟨b, off + (l.length + 1) * 4 + 3, none⟩ = some (.int .i64 0)) ∧
      ∃ T : Told, T = stepTold (stepUsed (doUsed fresh l) s) ⟨s.inner, s.inner, true, 5⟩ ∧ w.cell? ⟨b, off + (l.length + 2) * 4, none⟩ = some (.bool T.ran) ∧ w.cell? ⟨b, off + (l.length + 2) * 4 + 1, none⟩ = some (.bool T.inner) ∧ w.cell? ⟨b, off + (l.length + 2) * 4 + 2, none⟩ = some (.bool T.panicked) ∧ w.cell? ⟨b, off + (l.length + 2) * 4 + 3, none⟩ = some (.int .i64 T.code) := by
  have hl : (doTold fresh (l ++ three s)).length = l.length + 3 := by rw [doTold_length]; simp [three]
  have hg := get_back (doTold fresh l) (stepTold (doUsed fresh l) s) .zero (stepTold (stepUsed (doUsed fresh l) s) ⟨s.inner, s.inner, true, 5⟩)
  rw [← three_told, doTold_length] at hg
  obtain ⟨g1, g2, g3⟩ := hg
  rw [List.getElem?_eq_getElem (by omega)] at g1 g2 g3
  have g1 := Option.some.inj g1
  have g2 := Option.some.inj g2
  have g3 := Option.some.inj g3
  obtain ⟨b, off, e, hb, c0, _⟩ := h.told (k := l.length) (by omega) hl
  obtain ⟨b1, off1, e1, _, d0, d1, d2, d3⟩ := h.told (k := l.length + 1) (by omega) hl
  obtain ⟨b2, off2, e2, _, f0, f1, f2, f3⟩ := h.told (k := l.length + 2) (by omega) hl
  rw [e] at e1 e2
  injection e1 with e1
  injection e1 with e1 e1'
  injection e2 with e2
  injection e2 with e2 e2'
  subst e1 e1' e2 e2'
  rw [g1] at c0
  rw [g2] at d0 d1 d2 d3
  rw [g3] at f0 f1 f2 f3
  exact ⟨b, off, e, hb, c0, ⟨d0, d1, d2, d3⟩, _, rfl, f0, f1, f2, f3⟩

/-- The three worlds in which the first append may stand, by the orders that the statement allows. -/
theorem inner_w1 (w : World) (s : Step) : Blk (((w.alloc (.cells (stepCells s) 30)).alloc (.cells #[] 30)).drew) w.heap.size 30 (stepCells s) ∧ Below w.heap.size w (((w.alloc (.cells (stepCells s) 30)).alloc (.cells #[] 30)).drew) ∧ Blk (((w.alloc (.cells (stepCells s) 30)).alloc (.cells #[] 30)).drew) (w.heap.size + 1) 30 #[] := by
  refine ⟨(Blk.new w 30 (stepCells s)).alloc _, (((Below.refl _ w).alloc (Nat.le_refl _) _).alloc (by simp) _).drew, ?_⟩
  have := Blk.new (w.alloc (.cells (stepCells s) 30)) 30 #[]
  simp only [World.size_alloc] at this
  exact this
theorem inner_w2 (w : World) (s : Step) : Blk ((((w.alloc (.cells (stepCells s) 30)).alloc (.cells #[] 30)).alloc (.cells (threeCells s) 30)).drew) w.heap.size 30 (stepCells s) ∧ Below w.heap.size w ((((w.alloc (.cells (stepCells s) 30)).alloc (.cells #[] 30)).alloc (.cells (threeCells s) 30)).drew) ∧ Blk ((((w.alloc (.cells (stepCells s) 30)).alloc (.cells #[] 30)).alloc (.cells (threeCells s) 30)).drew) (w.heap.size + 1) 30 #[] ∧ Blk ((((w.alloc (.cells (stepCells s) 30)).alloc (.cells #[] 30)).alloc (.cells (threeCells s) 30)).drew) (w.heap.size + 2) 30 (threeCells s) := by
  refine ⟨((Blk.new w 30 (stepCells s)).alloc _).alloc _, ((((Below.refl _ w).alloc (Nat.le_refl _) _).alloc (by simp) _).alloc (by simp; omega) _).drew, ?_, ?_⟩
  · have := (Blk.new (w.alloc (.cells (stepCells s) 30)) 30 #[]).alloc (.cells (threeCells s) 30)
    simp only [World.size_alloc] at this
    exact this
  · have := Blk.new ((w.alloc (.cells (stepCells s) 30)).alloc (.cells #[] 30)) 30 (threeCells s)
    simp only [World.size_alloc] at this
    exact this
theorem inner_w3 (w : World) (s : Step) : Blk ((((w.alloc (.cells (stepCells s) 30)).alloc (.cells (threeCells s) 30)).alloc (.cells #[] 30)).drew) w.heap.size 30 (stepCells s) ∧ Below w.heap.size w ((((w.alloc (.cells (stepCells s) 30)).alloc (.cells (threeCells s) 30)).alloc (.cells #[] 30)).drew) ∧ Blk ((((w.alloc (.cells (stepCells s) 30)).alloc (.cells (threeCells s) 30)).alloc (.cells #[] 30)).drew) (w.heap.size + 2) 30 #[] ∧ Blk ((((w.alloc (.cells (stepCells s) 30)).alloc (.cells (threeCells s) 30)).alloc (.cells #[] 30)).drew) (w.heap.size + 1) 30 (threeCells s) := by
  refine ⟨((Blk.new w 30 (stepCells s)).alloc _).alloc _, ((((Below.refl _ w).alloc (Nat.le_refl _) _).alloc (by simp) _).alloc (by simp; omega) _).drew, ?_, ?_⟩
  · have := Blk.new ((w.alloc (.cells (stepCells s) 30)).alloc (.cells (threeCells s) 30)) 30 #[]
    simp only [World.size_alloc] at this
    exact this
  · have := (Blk.new (w.alloc (.cells (stepCells s) 30)) 30 (threeCells s)).alloc (.cells #[] 30)
    simp only [World.size_alloc] at this
    exact this

set_option maxRecDepth 100000 in
set_option maxHeartbeats 1000000 in
theorem inner_walk (A : Option Addr) (cap : Nat) (l : List Step) (s : Step) (w : World) (hr : Rd w w.heap.size 4 A l.length (stepRow l)) (hlen : l.length * 32 ≤ 140737488351232) (hwf : ∀ s ∈ l, StepWf s) (hws : StepWf s) :
    Calls Try.prog 6 #[.slice A l.length cap, .agg (stepCells s)] w fun e w' => e = .returned (.bool true) ∧ Below w.heap.size w w' := by
  obtain ⟨i0, hi0, hz0, hz1, hz2⟩ := info_parts info30
  have hb0 : Below w.heap.size w (w.alloc (.cells (stepCells s) 30)) := (Below.refl _ w).alloc (Nat.le_refl _) _
  have hbs := Blk.new w 30 (stepCells s)
  by_cases hio : s.inner = s.once
  · have hiob : (s.inner == s.once) = true := by simp [hio]
    have B0 := Lib.hid hb0
    clear hb0 hbs hio hr hwf hws
    unfold stepCells at *
    go_enter Try.func6, Try.ntmps6
    go_wp2_with fail
    go_ret
    exact ⟨rfl, B0.out⟩
  · have hiob : (s.inner == s.once) = false := by simp [hio]
    have HI := Lib.hid hio
    have HR := Lib.hid hr
    have HW := Lib.hid hwf
    have HS := Lib.hid hws
    have B0 := Lib.hid hb0
    have BS := Lib.hid hbs
    clear hb0 hbs hio hr hwf hws
    obtain ⟨ba1, bb1, be1⟩ := inner_w1 w s
    obtain ⟨ba2, bb2, be2, bt2⟩ := inner_w2 w s
    obtain ⟨ba3, bb3, be3, bt3⟩ := inner_w3 w s
    have BA1 := Lib.hid ba1
    have BB1 := Lib.hid bb1
    have BE1 := Lib.hid be1
    have BA2 := Lib.hid ba2
    have BB2 := Lib.hid bb2
    have BE2 := Lib.hid be2
    have BT2 := Lib.hid bt2
    have BA3 := Lib.hid ba3
    have BB3 := Lib.hid bb3
    have BE3 := Lib.hid be3
    have BT3 := Lib.hid bt3
    clear ba1 bb1 be1 ba2 bb2 be2 bt2 ba3 bb3 be3 bt3
    unfold stepCells threeCells at *
    go_enter Try.func6, Try.ntmps6
    go_upto_region 3 with fail
    go_cut [5] (fun v5 wx => wx.ownsRow w.heap.size 30 4 v5 (l.length + 3) (stepRow (l ++ three s)) ∧ Below w.heap.size w wx)
    case first =>
      go_region_held3 (fun w' => w'.cell? ⟨w.heap.size, 0, none⟩ = some (.int .i64 s.once) ∧ w'.cell? ⟨w.heap.size, 1, none⟩ = some (.int .i64 s.inner) ∧ w'.cell? ⟨w.heap.size, 2, none⟩ = some (.bool s.panics) ∧ w'.cell? ⟨w.heap.size, 3, none⟩ = some (.int .i64 s.code)) (go_keep)
        (first | (refine step_append_rd (by rfl) (.tmp 13) (.tmp 14) 22 (by rfl) w.heap.size 30 i0 _ 4 32 Try.underlying22 hi0 hz0 hz1 hz2 rfl (by decide) _ 0 [] (by rfl) (own_empty BE1.out (Nat.le_add_right _ 1)) w.heap.size A l.length cap (stepRow l) (by rfl) (HR.out.below BB1.out) (stepRow_one l) (by unfold maxLen; omega) (by omega) BB1.out.size ?_; intro v1 w1 hown1 hg1 hat1; simp only [Nat.zero_add, List.nil_append] at hown1; obtain ⟨hm1, hm2, hm3, hm4⟩ := mid_facts (b := w.heap.size + 1) BA1.out BB1.out (by omega) hg1; have NV := Lib.hid (not_head (b := w.heap.size + 1) hat1 (by omega) BA1.out.lt); have O1 := Lib.hid hown1; have M1 := Lib.hid hm1; clear hown1 hg1 hat1 hm1 hm4; obtain ⟨q0, q1, q2, q3⟩ := hm3) | (refine step_append_rd (by rfl) (.tmp 13) (.tmp 14) 22 (by rfl) w.heap.size 30 i0 _ 4 32 Try.underlying22 hi0 hz0 hz1 hz2 rfl (by decide) _ 0 [] (by rfl) (own_empty BE2.out (Nat.le_add_right _ 1)) w.heap.size A l.length cap (stepRow l) (by rfl) (HR.out.below BB2.out) (stepRow_one l) (by unfold maxLen; omega) (by omega) BB2.out.size ?_; intro v1 w1 hown1 hg1 hat1; simp only [Nat.zero_add, List.nil_append] at hown1; obtain ⟨hm1, hm2, hm3, hm4⟩ := mid_facts (b := w.heap.size + 1) BA2.out BB2.out (by omega) hg1; have NV := Lib.hid (not_head (b := w.heap.size + 1) hat1 (by omega) BA2.out.lt); have O1 := Lib.hid hown1; have M1 := Lib.hid hm1; have R2 := Lib.hid (rd_three (hm4 _ _ _ BT2.out (by omega))); clear hown1 hg1 hat1 hm1 hm4; obtain ⟨q0, q1, q2, q3⟩ := hm3) | (refine step_append_rd (by rfl) (.tmp 13) (.tmp 14) 22 (by rfl) w.heap.size 30 i0 _ 4 32 Try.underlying22 hi0 hz0 hz1 hz2 rfl (by decide) _ 0 [] (by rfl) (own_empty BE3.out (Nat.le_add_right _ 2)) w.heap.size A l.length cap (stepRow l) (by rfl) (HR.out.below BB3.out) (stepRow_one l) (by unfold maxLen; omega) (by omega) BB3.out.size ?_; intro v1 w1 hown1 hg1 hat1; simp only [Nat.zero_add, List.nil_append] at hown1; obtain ⟨hm1, hm2, hm3, hm4⟩ := mid_facts (b := w.heap.size + 2) BA3.out BB3.out (by omega) hg1; have NV := Lib.hid (not_head (b := w.heap.size + 2) hat1 (by omega) BA3.out.lt); have O1 := Lib.hid hown1; have M1 := Lib.hid hm1; have R3 := Lib.hid (rd_three (hm4 _ _ _ BT3.out (by omega))); clear hown1 hg1 hat1 hm1 hm4; obtain ⟨q0, q1, q2, q3⟩ := hm3) | (refine step_append_rd (by rfl) (.tmp 15) (.tmp 27) 22 (by rfl) w.heap.size 30 i0 _ 4 32 Try.underlying22 hi0 hz0 hz1 hz2 rfl (by decide) v1 l.length (stepRow l) (by rfl) O1.out _ _ 3 3 (stepRow (three s)) (by rfl) R2.out (stepRow_one _) (by unfold maxLen; omega) (by omega) M1.out.size ?_; intro v2 w2 hown2 hg2 hat2; have O2 := Lib.hid hown2; have M2 := Lib.hid (below_own M1.out O1.out hg2 M1.out.size); obtain ⟨q0', q1', q2', q3'⟩ := far_cells hg2 NV.out q0 q1 q2 q3; clear hown2 hg2 hat2) | (refine step_append_rd (by rfl) (.tmp 15) (.tmp 27) 22 (by rfl) w.heap.size 30 i0 _ 4 32 Try.underlying22 hi0 hz0 hz1 hz2 rfl (by decide) v1 l.length (stepRow l) (by rfl) O1.out _ _ 3 3 (stepRow (three s)) (by rfl) R3.out (stepRow_one _) (by unfold maxLen; omega) (by omega) M1.out.size ?_; intro v2 w2 hown2 hg2 hat2; have O2 := Lib.hid hown2; have M2 := Lib.hid (below_own M1.out O1.out hg2 M1.out.size); obtain ⟨q0', q1', q2', q3'⟩ := far_cells hg2 NV.out q0 q1 q2 q3; clear hown2 hg2 hat2) | (refine step_append_rd (by rfl) (.tmp 15) (.tmp 27) 22 (by rfl) w.heap.size 30 i0 _ 4 32 Try.underlying22 hi0 hz0 hz1 hz2 rfl (by decide) v1 l.length (stepRow l) (by rfl) (O1.out.alloc _) _ _ 3 3 (stepRow (three s)) (by rfl) (rd_three (Blk.new w1 30 _)) (stepRow_one _) (by unfold maxLen; omega) (by omega) (Nat.le_trans M1.out.size (by simp)) ?_; intro v2 w2 hown2 hg2 hat2; have O2 := Lib.hid hown2; have M2 := Lib.hid (below_own (M1.out.alloc M1.out.size _) (O1.out.alloc _) hg2 (Nat.le_trans M1.out.size (by simp))); obtain ⟨q0', q1', q2', q3'⟩ := far_cells hg2 NV.out (by rw [World.cell?_alloc_past _ _ _ hm2]; exact q0) (by rw [World.cell?_alloc_past _ _ _ hm2]; exact q1) (by rw [World.cell?_alloc_past _ _ _ hm2]; exact q2) (by rw [World.cell?_alloc_past _ _ _ hm2]; exact q3); clear hown2 hg2 hat2))
      all_goals (go_wp2_with fail; go_meet; exact ⟨by rw [stepRow_append]; exact O2.out, M2.out⟩)
    case rest =>
      obtain ⟨hown5, hb5⟩ := hcut
      obtain ⟨A5, c5, rfl⟩ := own_form hown5
      have O5 := Lib.hid hown5
      have B5 := Lib.hid hb5
      clear hown5 hb5
      go_wp2_with fail
      refine (do_n A5 c5 (l.length + 3) (l ++ three s) (by simp [three]) wc (Rd.of_own O5.out) (by omega) (three_wf HW.out HS.out)).mono ?_
      rintro e w6 ⟨v6, rfl, hown6, hb6⟩
      obtain ⟨A6, c6, rfl⟩ := own_form hown6
      have B6 := Lib.hid (B5.out.trans (hb6.mono B5.out.size))
      obtain ⟨b, off, rfl, hb, s0, ⟨t0, t1, t2, t3⟩, T, hT, r0, r1, r2, r3⟩ := inner_reads (Rd.of_own hown6)
      clear hown6 hb6
      cases hu : doUsed fresh l s.once
      · have q1 : (stepTold (doUsed fresh l) s).ran = true := by simp [stepTold, hu]
        have q2 : stepUsed (doUsed fresh l) s s.inner = true := by simp [stepUsed, hu, mark_self]
        have q3 : T = .zero := by rw [hT, stepTold]; exact if_pos q2
        rw [q1] at s0
        rw [q3] at r0 r1 r2 r3
        simp only [Told.zero] at r0 r1 r2 r3
        clear q1 q2 q3 hT hu
        have hnot : ∀ (x : Bool) (w : World), (Op.unary .not (.bool x)).run Try.prog w = .ok (.bool (!x)) w := fun _ _ => rfl
        go_wp2_with fail
        go_ret
        exact ⟨rfl, B6.out.alloc B6.out.size _⟩
      · have q1 : (stepTold (doUsed fresh l) s).ran = false := by simp [stepTold, hu, Told.zero]
        rw [q1] at s0
        clear q1 hT hu
        have hnot : ∀ (x : Bool) (w : World), (Op.unary .not (.bool x)).run Try.prog w = .ok (.bool (!x)) w := fun _ _ => rfl
        go_wp2_with fail
        go_ret
        exact ⟨rfl, B6.out.alloc B6.out.size _⟩

set_option maxRecDepth 100000 in
theorem inner_lifted (os : Os) (started : os.Started) (H : Type) (enc : TypeId × Value → H) :
    ReturnsInHanded {} Try.checked os 6 .any (Rows.fnDoInnerSpec.pre6 enc Try.prog Try.f6 Rows.fnDoInnerRow.domain false) (Rows.fnDoInnerSpec.post enc Try.prog Try.f6 false true false false) := by
  refine returnsInHanded_of_change_sized (C := Try.checked) own started (by kernel_rfl) Try.func6
    (ChangeSpec.witness6 (enc := enc) (C := Try.checked) false ⟨#[], #[.slice none 0 0, .agg #[.int .i64 0, .int .i64 0, .bool false, .int .i64 0]], []⟩ 8 (by kernel_rfl) (by kernel_rfl) (by kernel_rfl) (by kernel_rfl)) ?_
  intro W base args ds gs before hval0 hW hcnd hsz0 _
  have hsz : (DataW.weightsEach Try.prog (Try.f6.params.toList ++ Rows.fnDoInnerSpec.plain.varTypes Try.prog) (ds ++ gs)).all (· ≤ reachBytes) = true := hsz0
  have hval : ∀ (j : Nat) t v, Try.f6.params[j]? = some t → args[j]? = some v → Value.okWide Try.prog W .any base t v := hval0
  have hW' := hW
  obtain ⟨p, q, hA0, hV, rfl, hfz, hnd⟩ := hW
  have hA : DataW.TrodAll enc Try.prog W 0 (fun _ => true) true Try.f6.params.toList args.toList ds p := hA0
  rw [Try.params6] at hA hval hsz
  obtain ⟨v0, vs0, d0, ds0, p0, q0, hargs, rfl, rfl, h0, r0⟩ := trodAll_cons hA
  obtain ⟨v1, vs1, d1, ds1, p1, q1, rfl, rfl, rfl, h1, r1⟩ := trodAll_cons r0
  obtain ⟨rfl, rfl, rfl⟩ := trodAll_nil r1
  obtain rfl : args = #[v0, v1] := by cases args; simp_all
  obtain ⟨rfl, rfl⟩ := trodVars_none hV
  have k0 := h0
  have lt0 : ∀ x ∈ p0, x.block < W.heap.size := by obtain ⟨m, hm⟩ := k0; exact DataW.trod_lt m _ _ _ hm
  have k1 := h1
  have lt1 : ∀ x ∈ p1, x.block < W.heap.size := by obtain ⟨m, hm⟩ := k1; exact DataW.trod_lt m _ _ _ hm
  obtain ⟨a0, len0, cap0, rfl⟩ := okWide_slice Try.underlying22 (hval 0 22 v0 rfl rfl)
  obtain ⟨l0, hll0, hrd0, hwf0, hx0⟩ : ∃ l : List Step, l.length = len0 ∧ Rd W W.heap.size 4 a0 len0 (stepRow l) ∧ (∀ s ∈ l, StepWf s) ∧ ((d0 = .nil ∧ len0 = 0) ∨ ∃ elems sp, d0 = .slice elems sp ∧ elems.length = len0) := by
    obtain ⟨fuel, hf⟩ := h0
    exact open_steps (x := (d0, p0)) Try.underlying22 Try.underlying30 (by kernel_rfl) cells30 rfl rfl rfl rfl hf
  have hlen0 : l0.length * 32 ≤ 140737488351232 := by
    rcases hx0 with ⟨_, h⟩ | ⟨elems, sp, rfl, h⟩
    · omega
    · have := sized_slice hsz (j := 0) (t := 22) (e := 30) rfl rfl Try.underlying22
      rw [bytes30] at this
      simp only [reachBytes] at this
      omega
  obtain ⟨s1, rfl, ws1⟩ := open_step (hval 1 30 v1 rfl rfl) h1
  subst hll0
  clear hA0 hval0 hsz0
  refine (inner_walk a0 cap0 l0 s1 W hrd0 hlen0 hwf0 ws1).mono fun e W' ⟨he, bel⟩ => ?_
  subst he
  exact ⟨_, rfl, _, _, _, [], _, [], hW', trodAll_mk1 (shut_bool Try.underlying4 _), (trodAll_cons_mk (Below.trod laidOut (by kernel_rfl) (of_decide_eq_true (by kernel_rfl)) k0 bel lt0) (trodAll_cons_mk (Below.trod laidOut (by kernel_rfl) (of_decide_eq_true (by kernel_rfl)) k1 bel lt1) trodAll_mk0)), rfl, bel.frame _, fun h => by cases h⟩

/-- The statement. -/
theorem inner_holds : Rows.FnDoInnerSaid :=
  OpenClaim.holds_of_wide 6 Try.f6 rfl rfl rfl rfl rfl rfl rfl ⟨rfl, rfl, rfl, rfl, rfl⟩ rfl rfl rfl rfl rfl (by kernel_rfl) Try.func6 (by kernel_rfl)
    (of_decide_eq_true (by kernel_rfl)) (by unfold Func.isWrapper; first | (rw [if_pos (by decide +kernel)]; kernel_rfl) | (rw [if_neg (by decide +kernel)]; exact ⟨rfl, rfl⟩))
    (fun os started H enc _ => inner_lifted os started H enc)

end Go.Proofs.Ytpkippcbocmmkaa
