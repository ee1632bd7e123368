/-
  append onto a row of the call's own from whatever source (nil let in); the front of a slice; impl.Do at a slice of the call's own.
-/
import Derived.Test.YtpkippcbocmmkaaOpen
import Derived.Maps.AppendAt
namespace Go.Proofs.Ytpkippcbocmmkaa
open Go.ChangeShapes Go.WideShapes Go.ChangeAt Go.RowKit Go.Deep

section
variable {P : Program} {w : World}

theorem run_append_rd (base : Nat) (t ty e : TypeId) (i : TypeInfo) (z : Value) (size bytes : Nat) (ht : P.underlying t = some (.slice e)) (hi : P.info? e = some i) (hz : i.zero = some z)
    (hsize : i.size = size) (hby : i.bytes = bytes) (hzs : z.cells.size = size) (hsz : 0 < size)
    (v : Value) (n : Nat) (xs : List Value) (hown : w.ownsRow base e size v n xs)
    (B : Nat) (A : Option Addr) (m c : Nat) (news : List Value) (hr : Rd w B size A m news) (h1 : ∀ u ∈ news, u.oneCell' = true)
    (h63 : n + m ≤ maxLen) (hbytes : (n + m) * bytes ≤ 140737488355328) (hbase : base ≤ w.heap.size) :
    ∃ v' w', (Builtin.append_ #[t, t] ty #[v, .slice A m c]).run P w = .ok v' w' ∧ w'.ownsRow base e size v' (n + m) (xs ++ news) ∧ w.grownBy w' v.ownBlock ∧ (v'.ownBlock = v.ownBlock ∨ v'.ownBlock = some w.heap.size) := by
  rcases A with _ | ad
  · have hm : m = 0 := by
      rcases Nat.eq_zero_or_pos m with h0 | h0
      · exact h0
      · obtain ⟨b, off, h, _⟩ := hr.2 h0
        cases h
    subst hm
    have hn : news = [] := List.eq_nil_of_length_eq_zero (by simpa using hr.1)
    subst hn
    refine ⟨v, w, ?_, by simpa using hown, ⟨rfl, rfl, rfl, Nat.le_refl _, fun _ _ _ => rfl⟩, .inl rfl⟩
    rcases hown.2 with ⟨rfl, rfl⟩ | ⟨g, cap, cur, rfl, _, _, hnc, _⟩
    · simp [Builtin.append_, run_underlying ht, sizeOf, typeInfo, hi, Builtin.lenOf, Builtin.firstCells]
    · simp [Builtin.append_, run_underlying ht, sizeOf, typeInfo, hi, Builtin.lenOf, Builtin.firstCells, hnc, storeCells]
  · have hcells : ∀ j u, news[j]? = some u → w.cell? (ad.add j) = some u := by
      intro j u hu
      rcases Nat.eq_zero_or_pos m with h0 | h0
      · subst h0
        have hn : news = [] := List.eq_nil_of_length_eq_zero (by simpa using hr.1)
        subst hn
        simp at hu
      · obtain ⟨b, off, h, _, hc⟩ := hr.2 h0
        injection h with h
        subst h
        rw [show (⟨b, off, none⟩ : Addr).add j = ⟨b, off + j, none⟩ by unfold Addr.add; split <;> simp_all]
        exact hc j u hu
    obtain ⟨v', w', hrun, h2, h3, _, h5⟩ := run_append_own_at (P := P) w base t ty e i z size bytes ht hi hz hsize hby hzs hsz v n xs hown ad m c news hr.1 hcells h1 h63 hbytes hbase
    exact ⟨v', w', hrun, h2, h3, h5⟩

theorem wpList_append_rd {ops : Array Oper} {rest : List Oper} {o : Oper} {a : Act} {Q : Exit → Act → World → Prop} (hgd : o.guard = none) (s x : Operand) (t : TypeId)
    (ho : o.op = .call { callee := .builtin .append, args := #[s, x], argTypes := #[t, t] })
    (base : Nat) (e : TypeId) (i : TypeInfo) (z : Value) (size bytes : Nat) (ht : P.underlying t = some (.slice e)) (hi : P.info? e = some i) (hz : i.zero = some z)
    (hsize : i.size = size) (hby : i.bytes = bytes) (hzs : z.cells.size = size) (hsz : 0 < size)
    (v : Value) (n : Nat) (xs : List Value) (hs : a.eval s = v) (hown : w.ownsRow base e size v n xs)
    (B : Nat) (A : Option Addr) (m c : Nat) (news : List Value) (hx : a.eval x = .slice A m c) (hr : Rd w B size A m news) (h1 : ∀ u ∈ news, u.oneCell' = true)
    (h63 : n + m ≤ maxLen) (hbytes : (n + m) * bytes ≤ 140737488355328) (hbase : base ≤ w.heap.size)
    (h : ∀ v' w', w'.ownsRow base e size v' (n + m) (xs ++ news) → w.grownBy w' v.ownBlock → (v'.ownBlock = v.ownBlock ∨ v'.ownBlock = some w.heap.size) → wpList P ops Q rest (a.put o.dst v') w') : wpList P ops Q (o :: rest) a w := by
  refine wpList_plain hgd fun _ hK => ?_
  obtain ⟨v', w', hrun, h2, h3, h4⟩ := run_append_rd (P := P) base t o.type e i z size bytes ht hi hz hsize hby hzs hsz v n xs hown B A m c news hr h1 h63 hbytes hbase
  unfold Oper.wp execOp
  simp only [ho, resolve, invoke, builtin, Sem.run_bind, Sem.run_pure, Result.andThen_ok, List.map_toArray, List.map_cons, List.map_nil, hs, hx, hrun]
  exact hK _ _ (h v' w' h2 h3 h4)
end

/-- The front of a slice. -/
theorem Rd.front {w : World} {B size : Nat} {A : Option Addr} {n m : Nat} {xs ys : List Value} (h : Rd w B size A (n + m) (xs ++ ys)) (hx : xs.length = n * size) : Rd w B size A n xs := by
  refine ⟨hx, fun hn => ?_⟩
  obtain ⟨b, off, e, hb, hc⟩ := h.2 (by omega)
  exact ⟨b, off, e, hb, fun j u hu => hc j u (by
    have hj := (List.getElem?_eq_some_iff.1 hu).1
    rw [List.getElem?_append_left hj]
    exact hu)⟩

theorem own_cap {w : World} {base : Nat} {e : TypeId} {size n : Nat} {v : Value} {xs : List Value} (h : w.ownsRow base e size v n xs) : ∃ A c, v = .slice A n c ∧ n ≤ c ∧ c ≤ maxLen := by
  rcases h.2 with ⟨rfl, rfl⟩ | ⟨g, cap, cur, rfl, _, _, h1, h2, _⟩
  · exact ⟨none, 0, rfl, Nat.le_refl _, Nat.zero_le _⟩
  · exact ⟨_, _, rfl, h1, h2⟩

theorem stepRow_append (a b : List Step) : stepRow (a ++ b) = stepRow a ++ stepRow b := by simp [stepRow]

theorem stepRow_one (l : List Step) : ∀ u ∈ stepRow l, u.oneCell' = true := by
  intro u hu
  simp only [stepRow, List.mem_flatMap] at hu
  obtain ⟨s, _, hs⟩ := hu
  simp only [stepCells, List.mem_cons, List.not_mem_nil, or_false] at hs
  rcases hs with rfl | rfl | rfl | rfl <;> rfl

theorem info30 : (Try.prog.info? 30).map (fun i => (i.zero, i.size, i.bytes)) = some (some (.agg #[.int .i64 0, .int .i64 0, .bool false, .int .i64 0]), 4, 32) := by kernel_rfl

/-- Behind an append onto a row of the call's own. -/
theorem below_own {B : Nat} {a w w' : World} {e : TypeId} {size n : Nat} {v : Value} {xs : List Value} (hb : Below B a w) (hown : w.ownsRow B e size v n xs) (hg : w.grownBy w' v.ownBlock) (hB : B ≤ w.heap.size) : Below B a w' :=
  hb.grown hg hB (fun j h => (hown.lt j h).1)

/-- impl.Do, the length under another name. -/
theorem do_n (A : Option Addr) (cap n : Nat) (l : List Step) (hn : l.length = n) (w : World) (hr : Rd w w.heap.size 4 A n (stepRow l)) (hlen : n * 32 ≤ 140737488355328)
    (hwf : ∀ s ∈ l, StepWf s) :
    Calls Try.prog 18 #[.slice A n cap] w fun e w' => ∃ v, e = .returned v ∧ w'.ownsRow w.heap.size 26 4 v n (toldRow (doTold fresh l)) ∧ Below w.heap.size w w' := by
  subst hn
  exact do_any A cap l w hr hlen (fun s hs => ⟨(hwf s hs).1, (hwf s hs).2.1⟩)

/-- laws.same, of a slice that was there and one that impl.Do has made. -/
theorem same_after {w3 w4 : World} {A3 A4 : Option Addr} {c3 c4 n : Nat} {ts : List Told} (hn : ts.length = n) (h3 : Rd w3 w3.heap.size 4 A3 n (toldRow ts)) (h4 : w4.ownsRow w3.heap.size 26 4 (.slice A4 n c4) n (toldRow ts)) (hb : Below w3.heap.size w3 w4) (hlen : n ≤ 9223372036854775807) :
    Calls Try.prog 19 #[.slice A3 n c3, .slice A4 n c4] w4 fun e w' => e = .returned (.bool true) ∧ Below w3.heap.size w3 w' := by
  subst hn
  refine (same_any A3 A4 c3 c4 w3.heap.size w4.heap.size ts w4 (h3.below hb) (Rd.of_own h4) hlen).mono ?_
  rintro e w' ⟨rfl, m, rfl⟩
  exact ⟨rfl, below_drewN hb m⟩

end Go.Proofs.Ytpkippcbocmmkaa
