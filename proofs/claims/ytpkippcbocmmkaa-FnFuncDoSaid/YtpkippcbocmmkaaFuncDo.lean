/-
  The law FnFuncDo: OnceFunc's function, called a number of times, tells what as many calls of Do of one instance tell, where the action does not panic, and at the first call also where it does: for every action and every number of calls the law returns true, and each argument reads as it read before.
-/
import Derived.Test.YtpkippcbocmmkaaFuncW
namespace Go.Proofs.Ytpkippcbocmmkaa
open Go.ChangeShapes Go.WideShapes Go.ChangeAt Go.RowKit Go.Deep

/-- The step of an action. -/
def actStep (p : Bool) (c : Int) : Step := ⟨0, 0, p, c⟩

theorem told_used (p : Bool) (c : Int) (n : Nat) : ∀ used : Int → Bool, used 0 = true → doTold used (List.replicate n (actStep p c)) = List.replicate n .zero := by
  induction n with
  | zero => intro used _; rfl
  | succ n ih =>
    intro used hu
    have e1 : stepTold used (actStep p c) = .zero := by simp [stepTold, actStep, hu]
    have e2 : stepUsed used (actStep p c) = used := by simp [stepUsed, actStep, hu]
    rw [List.replicate_succ, List.replicate_succ, doTold, e1, e2, ih used hu]

theorem told_first (p : Bool) (c : Int) (n : Nat) : doTold fresh (List.replicate (n + 1) (actStep p c)) = ⟨true, false, p, if p then c else 0⟩ :: List.replicate n .zero := by
  have e1 : stepTold fresh (actStep p c) = ⟨true, false, p, if p then c else 0⟩ := by cases p <;> rfl
  have e2 : stepUsed fresh (actStep p c) 0 = true := by simp [stepUsed, actStep, fresh, mark_self]
  rw [List.replicate_succ, doTold, e1, told_used p c n _ e2]

theorem func_first_row (p : Bool) (c : Int) (n : Nat) : funcTold p c (n + 1) = ⟨true, false, p, if p then c else 0⟩ :: (List.range n).map (fun i => funcRow p c (i + 1)) := by
  simp [funcTold, List.range_succ_eq_map, funcRow, Function.comp_def]

/-- Without a panic the two tell the same. -/
theorem func_do (c : Int) (n : Nat) : doTold fresh (List.replicate n (actStep false c)) = funcTold false c n := by
  cases n with
  | zero => rfl
  | succ n =>
    have h : (List.range n).map (fun i => funcRow false c (i + 1)) = List.replicate n Told.zero := by
      rw [List.eq_replicate_iff]
      refine ⟨by simp, ?_⟩
      intro b hb
      obtain ⟨i, _, rfl⟩ := List.mem_map.1 hb
      simp [funcRow, Told.zero]
    rw [told_first, func_first_row, h]

theorem stepCells_one (s : Step) : ∀ u ∈ (stepCells s).toList, u.oneCell' = true := by
  intro u hu
  simp only [stepCells, List.mem_cons, List.not_mem_nil, or_false] at hu
  rcases hu with rfl | rfl | rfl | rfl <;> rfl

/-- Behind k rounds. -/
structure FdL (w : World) (av : Int) (p : Bool) (c : Int) (k : Nat) (v : Value) (wr : World) : Prop where
  ba : Blk wr w.heap.size 43 (actCells av p c)
  own : wr.ownsRow w.heap.size 30 4 v k (stepRow (List.replicate k (actStep p c)))
  below : Below w.heap.size w wr

theorem FdL_start (w : World) (av : Int) (p : Bool) (c : Int) :
    FdL w av p c 0 (.slice (some ⟨w.heap.size + 1, 0, none⟩) 0 0) ((w.alloc (.cells #[.int .i64 av, .bool p, .int .i64 c] 43)).alloc (.cells #[] 30)) := by
  refine ⟨(Blk.new w 43 (actCells av p c)).alloc _, ?_, ((Below.refl _ w).alloc (Nat.le_refl _) _).alloc (by simp) _⟩
  have := World.ownsRow_made (base := w.heap.size) (e := 30) (size := 4) (w.alloc (.cells #[.int .i64 av, .bool p, .int .i64 c] 43)) #[] 0 (by simp) (by simp [maxLen]) rfl
  simpa [stepRow] using this

theorem FdL_next {w wr w2 : World} {av : Int} {p : Bool} {c : Int} {k : Nat} {v v' : Value} {o : Obj} (h : FdL w av p c k v wr)
    (hown : w2.ownsRow w.heap.size 30 4 v' (k + 1) (stepRow (List.replicate k (actStep p c)) ++ (stepCells (actStep p c)).toList)) (hg : (wr.alloc o).grownBy w2 v.ownBlock) : FdL w av p c (k + 1) v' w2 := by
  refine ⟨(h.ba.alloc o).grown hg (fun e => own_blk_ne h.own h.ba (by decide) e.symm), ?_, (h.below.alloc h.below.size o).grown hg (by have := h.below.size; simp; omega) (fun j e => (h.own.lt j e).1)⟩
  rw [List.replicate_succ', stepRow_append]
  simpa [stepRow] using hown

/-- The first row of what Do returned. -/
theorem do_read {w : World} {B : Nat} {A : Option Addr} {n : Nat} {p : Bool} {c : Int} (h : Rd w B 4 A n (toldRow (doTold fresh (List.replicate n (actStep p c))))) (hn : 0 < n) :
    ∃ b off, A = some ⟨b, off, none⟩ ∧ w.cell? ⟨b, off, none⟩ = some (.bool true) ∧ w.cell? ⟨b, off + 1, none⟩ = some (.bool false) ∧ w.cell? ⟨b, off + 2, none⟩ = some (.bool p) ∧ w.cell? ⟨b, off + 3, none⟩ = some (.int .i64 (if p then c else 0)) := by
  obtain ⟨m, rfl⟩ : ∃ m, n = m + 1 := ⟨n - 1, by omega⟩
  rw [told_first] at h
  obtain ⟨b, off, e, _, s0, s1, s2, s3⟩ := h.told (k := 0) (by simp) (by simp)
  simp only [Nat.zero_mul, Nat.add_zero, List.getElem_cons_zero] at s0 s1 s2 s3
  exact ⟨b, off, e, s0, s1, s2, s3⟩

/-- The first row of what OnceFunc returned. -/
theorem func_read0 {w : World} {B : Nat} {A : Option Addr} {n : Nat} {p : Bool} {c : Int} (h : Rd w B 4 A n (toldRow (funcTold p c n))) (hn : 0 < n) :
    ∃ b off, A = some ⟨b, off, none⟩ ∧ w.cell? ⟨b, off, none⟩ = some (.bool true) ∧ w.cell? ⟨b, off + 1, none⟩ = some (.bool false) ∧ w.cell? ⟨b, off + 2, none⟩ = some (.bool p) ∧ w.cell? ⟨b, off + 3, none⟩ = some (.int .i64 (if p then c else 0)) := by
  obtain ⟨m, rfl⟩ : ∃ m, n = m + 1 := ⟨n - 1, by omega⟩
  rw [func_first_row] at h
  obtain ⟨b, off, e, _, s0, s1, s2, s3⟩ := h.told (k := 0) (by simp) (by simp)
  simp only [Nat.zero_mul, Nat.add_zero, List.getElem_cons_zero] at s0 s1 s2 s3
  exact ⟨b, off, e, s0, s1, s2, s3⟩

set_option maxRecDepth 100000 in
set_option maxHeartbeats 2000000 in
theorem funcDo_walk (av : Int) (ap : Bool) (ac x : Int) (w : World) (_ : (Lit.int .i64 av).wf = true) (hc : (Lit.int .i64 ac).wf = true) (_ : (Lit.int .i64 x).wf = true) :
    Calls Try.prog 14 #[.agg #[.int .i64 av, .bool ap, .int .i64 ac], .int .i64 x] w fun e w' => e = .returned (.bool true) ∧ Below w.heap.size w w' := by
  obtain ⟨i0, hi0, hz0, hz1, hz2⟩ := info_parts info30
  have hb0 : Below w.heap.size w (w.alloc (.cells #[.int .i64 av, .bool ap, .int .i64 ac] 43)) := (Below.refl _ w).alloc (Nat.le_refl _) _
  have B0 := Lib.hid hb0
  have HST := Lib.hid (FdL_start w av ap ac)
  have HC := Lib.hid hc
  clear hb0 hc
  by_cases hx : x > 1048576
  · go_enter Try.func14, Try.ntmps14
    go_wp2_with fail
    go_ret
    exact ⟨rfl, B0.out⟩
  · have hx' : x ≤ 1048576 := by omega
    obtain ⟨N, hN⟩ : ∃ N, x.toNat = N := ⟨_, rfl⟩
    have hN1 : N ≤ 1048576 := by omega
    go_enter Try.func14, Try.ntmps14
    go_wp2_with fail
    go_loopw [5, 6] (fun v i wr => ∃ k : Nat, k ≤ N ∧ i = .int .i64 k ∧ FdL w av ap ac k v wr) (fun _ i _ => N - (intOf i).toNat)
    case atStart => exact ⟨0, Nat.zero_le _, rfl, HST.out⟩
    case round =>
      clear HST B0
      obtain ⟨k, hk, rfl, hL⟩ := hrel
      have HL := Lib.hid hL
      clear hL
      by_cases hlt : (k : Int) < x
      · obtain ⟨a0, a1, a2⟩ := HL.out.ba.c3
        have hsz := HL.out.ba.lt
        go_wp2_with (at_builtin; refine wpList_append_own _ rfl (.tmp 17) (.tmp 23) 22 rfl w.heap.size 30 i0 _ 4 32 Try.underlying22 hi0 hz0 hz1 hz2 rfl (by decide) _ _ _ rfl (HL.out.own.alloc _) ⟨wr.heap.size, 0, none⟩ 1 1 (stepCells (actStep ap ac)).toList rfl rfl ?c1 ?c2 ?c3 ?c4 ?c5 ?_)
        case c1 => exact new_cells _ _ _ _ rfl
        case c2 => exact stepCells_one _
        case c3 => unfold maxLen; omega
        case c4 => omega
        case c5 => simp; omega
        intro v' w2 hown2 hg2 _
        have H3 := Lib.hid (FdL_next HL.out hown2 hg2)
        clear hown2 hg2 HL
        go_wp2
        go_roundw
        case rel => exact ⟨k + 1, by omega, by go_num, H3.out⟩
        case measure => simp [intOf]; omega
      · obtain rfl : k = N := by omega
        have HN := Lib.hid hN
        clear hN
        obtain ⟨a0, a1, a2⟩ := HL.out.ba.c3
        have hsz := HL.out.ba.lt
        have hown := HL.out.own
        obtain ⟨A, cp, rfl⟩ := own_form hown
        have RL := Lib.hid (Rd.of_own hown)
        clear hown
        go_wp2_with fail
        refine (onceFunc_any av ap ac x _ hx').mono ?_
        rintro e w1 ⟨v, rfl, ho, hb⟩
        rw [HN.out] at ho
        obtain ⟨A1, c1, rfl⟩ := own_form ho
        obtain ⟨k1, k2, k3⟩ := box_after HL.out.below HL.out.ba hb
        have R1 := Lib.hid (Rd.of_own ho)
        have B1 := Lib.hid k2
        have BA1 := Lib.hid k1
        have RL1 := Lib.hid ((RL.out.below hb).more k3)
        clear ho hb k1 k2 HL a0 a1 a2 RL
        go_wp2_with fail
        refine (do_n A cp k (List.replicate k (actStep ap ac)) (by simp) w1 RL1.out (by omega) (fun s hs => by rw [List.eq_of_mem_replicate hs]; exact ⟨rfl, rfl, HC.out⟩)).mono ?_
        rintro e w2 ⟨v, rfl, ho, hb⟩
        obtain ⟨A2, c2, rfl⟩ := own_form ho
        obtain ⟨k1, k2, _⟩ := box_after B1.out BA1.out hb
        obtain ⟨a0, a1, a2⟩ := k1.c3
        have O2 := Lib.hid ho
        have R1' := Lib.hid (R1.out.below hb)
        have B12 := Lib.hid hb
        have B2 := Lib.hid k2
        clear ho hb k1 k2 BA1
        by_cases hz : k = 0
        · subst hz
          have hz' : doTold fresh (List.replicate 0 (actStep ap ac)) = funcTold ap ac 0 := rfl
          have O2' := Lib.hid (show w2.ownsRow w1.heap.size 26 4 (.slice A2 0 c2) 0 (toldRow (funcTold ap ac 0)) from O2.out)
          clear O2 hz'
          cases ap
          · go_wp2_with fail
            refine (same_after (funcTold_length false ac 0) R1.out O2'.out B12.out (by omega)).mono ?_
            rintro e w3 ⟨rfl, hb3⟩
            have B3 := Lib.hid hb3
            clear hb3
            go_wp2
            go_ret
            exact ⟨rfl, B1.out.trans (B3.out.mono B1.out.size)⟩
          · go_wp2_with fail
            refine (same_after (funcTold_length true ac 0) R1.out O2'.out B12.out (by omega)).mono ?_
            rintro e w3 ⟨rfl, hb3⟩
            have B3 := Lib.hid hb3
            clear hb3
            go_wp2
            go_ret
            exact ⟨rfl, B1.out.trans (B3.out.mono B1.out.size)⟩
        · cases ap
          · have O2' := Lib.hid (show w2.ownsRow w1.heap.size 26 4 (.slice A2 k c2) k (toldRow (funcTold false ac k)) by rw [← func_do]; exact O2.out)
            clear O2
            go_wp2_with fail
            refine (same_after (funcTold_length false ac k) R1.out O2'.out B12.out (by omega)).mono ?_
            rintro e w3 ⟨rfl, hb3⟩
            have B3 := Lib.hid hb3
            clear hb3
            go_wp2
            go_ret
            exact ⟨rfl, B1.out.trans (B3.out.mono B1.out.size)⟩
          · obtain ⟨b, off, rfl, s0, s1, s2, s3⟩ := func_read0 R1'.out (by omega)
            obtain ⟨b', off', rfl, t0, t1, t2, t3⟩ := do_read (Rd.of_own O2.out) (by omega)
            have hpos : (0 : Int) < (k : Int) := by omega
            go_wp2_with fail
            go_quiet (fail)
            go_wp2
            go_ret
            exact ⟨rfl, below_drewN B2.out _⟩

set_option maxRecDepth 100000 in
theorem funcDo_lifted (os : Os) (started : os.Started) (H : Type) (enc : TypeId × Value → H) :
    ReturnsInHanded {} Try.checked os 14 .any (Rows.fnFuncDoSpec.pre6 enc Try.prog Try.f14 Rows.fnFuncDoRow.domain false) (Rows.fnFuncDoSpec.post enc Try.prog Try.f14 false true false false) := by
  refine returnsInHanded_of_change_sized (C := Try.checked) own started (by kernel_rfl) Try.func14
    (ChangeSpec.witness6 (enc := enc) (C := Try.checked) false ⟨#[], #[.agg #[.int .i64 0, .bool false, .int .i64 0], .int .i64 0], []⟩ 8 (by kernel_rfl) (by kernel_rfl) (by kernel_rfl) (by kernel_rfl)) ?_
  intro W base args ds gs before hval0 hW hcnd hsz0 _
  have hsz : (DataW.weightsEach Try.prog (Try.f14.params.toList ++ Rows.fnFuncDoSpec.plain.varTypes Try.prog) (ds ++ gs)).all (· ≤ reachBytes) = true := hsz0
  have hval : ∀ (j : Nat) t v, Try.f14.params[j]? = some t → args[j]? = some v → Value.okWide Try.prog W .any base t v := hval0
  have hW' := hW
  obtain ⟨p, q, hA0, hV, rfl, hfz, hnd⟩ := hW
  have hA : DataW.TrodAll enc Try.prog W 0 (fun _ => true) true Try.f14.params.toList args.toList ds p := hA0
  rw [Try.params14] at hA hval hsz
  obtain ⟨v0, vs0, d0, ds0, p0, q0, hargs, rfl, rfl, h0, r0⟩ := trodAll_cons hA
  obtain ⟨v1, vs1, d1, ds1, p1, q1, rfl, rfl, rfl, h1, r1⟩ := trodAll_cons r0
  obtain ⟨rfl, rfl, rfl⟩ := trodAll_nil r1
  obtain rfl : args = #[v0, v1] := by cases args; simp_all
  obtain ⟨rfl, rfl⟩ := trodVars_none hV
  have k0 := h0
  have lt0 : ∀ x ∈ p0, x.block < W.heap.size := by obtain ⟨m, hm⟩ := k0; exact DataW.trod_lt m _ _ _ hm
  have k1 := h1
  have lt1 : ∀ x ∈ p1, x.block < W.heap.size := by obtain ⟨m, hm⟩ := k1; exact DataW.trod_lt m _ _ _ hm
  obtain ⟨av0, ap0, ac0, rfl, wv0, wc0⟩ := open_action (hval 0 43 v0 rfl rfl) h0
  obtain ⟨x1, rfl, rfl, rfl, wx1⟩ := open_int Try.underlying3 (hval 1 3 v1 rfl rfl) h1
  clear hA0 hval0 hsz0
  refine (funcDo_walk av0 ap0 ac0 x1 W wv0 wc0 wx1).mono fun e W' ⟨he, bel⟩ => ?_
  subst he
  exact ⟨_, rfl, _, _, _, [], _, [], hW', trodAll_mk1 (shut_bool Try.underlying4 _), (trodAll_cons_mk (Below.trod laidOut (by kernel_rfl) (of_decide_eq_true (by kernel_rfl)) k0 bel lt0) (trodAll_cons_mk (Below.trod laidOut (by kernel_rfl) (of_decide_eq_true (by kernel_rfl)) k1 bel lt1) trodAll_mk0)), rfl, bel.frame _, fun h => by cases h⟩

/-- The statement. -/
theorem funcDo_holds : Rows.FnFuncDoSaid :=
  OpenClaim.holds_of_wide 14 Try.f14 rfl rfl rfl rfl rfl rfl rfl ⟨rfl, rfl, rfl, rfl, rfl⟩ rfl rfl rfl rfl rfl (by kernel_rfl) Try.func14 (by kernel_rfl)
    (of_decide_eq_true (by kernel_rfl)) (by unfold Func.isWrapper; first | (rw [if_pos (by decide +kernel)]; kernel_rfl) | (rw [if_neg (by decide +kernel)]; exact ⟨rfl, rfl⟩))
    (fun os started H enc _ => funcDo_lifted os started H enc)

end Go.Proofs.Ytpkippcbocmmkaa
