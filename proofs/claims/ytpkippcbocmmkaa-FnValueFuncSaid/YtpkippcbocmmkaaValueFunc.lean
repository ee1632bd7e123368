/-
  The law FnValueFunc: OnceValue's function runs, panics and tells as OnceFunc's does, and returns the action's value where it does not panic: for every action and every number of calls the law returns true, and each argument reads as it read before.
-/
import Derived.Test.YtpkippcbocmmkaaFuncV
namespace Go.Proofs.Ytpkippcbocmmkaa
open Go.ChangeShapes Go.WideShapes Go.ChangeAt Go.RowKit Go.Deep

set_option maxRecDepth 100000 in
set_option maxHeartbeats 2000000 in
theorem valueFunc_walk (av : Int) (ap : Bool) (ac x : Int) (w : World) (hv : (Lit.int .i64 av).wf = true) (_ : (Lit.int .i64 ac).wf = true) (_ : (Lit.int .i64 x).wf = true) :
    Calls Try.prog 16 #[.agg #[.int .i64 av, .bool ap, .int .i64 ac], .int .i64 x] w fun e w' => e = .returned (.bool true) ∧ Below w.heap.size w w' := by
  have hb0 : Below w.heap.size w (w.alloc (.cells #[.int .i64 av, .bool ap, .int .i64 ac] 43)) := (Below.refl _ w).alloc (Nat.le_refl _) _
  have hba : Blk (w.alloc (.cells #[.int .i64 av, .bool ap, .int .i64 ac] 43)) w.heap.size 43 (actCells av ap ac) := Blk.new w 43 _
  have B0 := Lib.hid hb0
  have BA := Lib.hid hba
  have HV := Lib.hid hv
  have hnot : ∀ (x : Bool) (w : World), (Op.unary .not (.bool x)).run Try.prog w = .ok (.bool (!x)) w := fun _ _ => rfl
  clear hb0 hba hv
  by_cases hx : x > 1048576
  · go_enter Try.func16, Try.ntmps16
    go_wp2_with fail
    go_ret
    exact ⟨rfl, B0.out⟩
  · have hx' : x ≤ 1048576 := by omega
    obtain ⟨N, hN⟩ : ∃ N, x.toNat = N := ⟨_, rfl⟩
    have hN1 : N ≤ 1048576 := by omega
    have HN := Lib.hid hN
    clear hN
    have hmx : ∀ w : World, (Builtin.max_ #[3, 3] 3 #[.int .i64 x, .int .i64 0]).run Try.prog w = .ok (.int .i64 (N : Int)) w := fun w => by rw [← HN.out]; exact max_zero x w
    go_enter Try.func16, Try.ntmps16
    go_wp2_with fail
    refine (onceFunc_any av ap ac x _ hx').mono ?_
    rintro e w1 ⟨v, rfl, ho, hb⟩
    rw [HN.out] at ho
    obtain ⟨A, c, rfl⟩ := own_form ho
    obtain ⟨k1, k2, _⟩ := box_after B0.out BA.out hb
    have R1 := Lib.hid (Rd.of_own ho)
    have B1 := Lib.hid k2
    have BA1 := Lib.hid k1
    obtain ⟨p0, p1, p2⟩ := k1.c3
    clear ho hb k1 k2 B0 BA
    go_wp2_with fail
    refine (onceValue_any av ap ac x _ HV.out hx').mono ?_
    rintro e w2 ⟨v, rfl, ho, hb⟩
    rw [HN.out] at ho
    obtain ⟨A2, c2, rfl⟩ := own_form ho
    obtain ⟨k1, k2, _⟩ := box_after B1.out BA1.out hb
    have R2 := Lib.hid (Rd.of_own ho)
    have R1' := Lib.hid (R1.out.below hb)
    have B2 := Lib.hid k2
    have BA2 := Lib.hid k1
    clear ho hb k1 k2 B1 BA1 R1 p0 p1 p2
    go_wp2_with fail
    go_loopw [30] (fun i wr => ∃ k : Nat, k ≤ N ∧ i = .int .i64 k ∧ ∃ m, wr = w2.drewN m) (fun i _ => N - (intOf i).toNat)
    case atStart => exact ⟨0, Nat.zero_le _, rfl, 0, rfl⟩
    case round =>
      obtain ⟨k, hk, rfl, m, rfl⟩ := hrel
      by_cases hlt : k < N
      · obtain ⟨b, off, rfl, s0, s2, s3⟩ := func_read R1'.out hlt
        obtain ⟨b', off', rfl, t0, t1, t2, t3⟩ := val_read R2.out hlt
        obtain ⟨a0, a1, a2⟩ := BA2.out.c3
        obtain ⟨f, hf⟩ : ∃ f, f = (k == 0) := ⟨_, rfl⟩
        rw [← hf] at s0 t1
        clear hf
        cases ap
        · simp only [if_neg Bool.false_ne_true] at t0 t3 s3
          go_wp2_with fail
          go_quiet (fail)
          go_wp2
          go_roundw
          case rel => exact ⟨k + 1, by omega, by go_num, m + nq, rfl⟩
          case measure => simp [intOf]; omega
        · simp only [if_true] at t0 t3 s3
          go_wp2_with fail
          go_quiet (fail)
          go_wp2
          go_roundw
          case rel => exact ⟨k + 1, by omega, by go_num, m + nq, rfl⟩
          case measure => simp [intOf]; omega
      · go_wp2_with fail
        go_ret
        exact ⟨rfl, below_drewN B2.out _⟩

set_option maxRecDepth 100000 in
theorem valueFunc_lifted (os : Os) (started : os.Started) (H : Type) (enc : TypeId × Value → H) :
    ReturnsInHanded {} Try.checked os 16 .any (Rows.fnValueFuncSpec.pre6 enc Try.prog Try.f16 Rows.fnValueFuncRow.domain false) (Rows.fnValueFuncSpec.post enc Try.prog Try.f16 false true false false) := by
  refine returnsInHanded_of_change_sized (C := Try.checked) own started (by kernel_rfl) Try.func16
    (ChangeSpec.witness6 (enc := enc) (C := Try.checked) false ⟨#[], #[.agg #[.int .i64 0, .bool false, .int .i64 0], .int .i64 0], []⟩ 8 (by kernel_rfl) (by kernel_rfl) (by kernel_rfl) (by kernel_rfl)) ?_
  intro W base args ds gs before hval0 hW hcnd hsz0 _
  have hsz : (DataW.weightsEach Try.prog (Try.f16.params.toList ++ Rows.fnValueFuncSpec.plain.varTypes Try.prog) (ds ++ gs)).all (· ≤ reachBytes) = true := hsz0
  have hval : ∀ (j : Nat) t v, Try.f16.params[j]? = some t → args[j]? = some v → Value.okWide Try.prog W .any base t v := hval0
  have hW' := hW
  obtain ⟨p, q, hA0, hV, rfl, hfz, hnd⟩ := hW
  have hA : DataW.TrodAll enc Try.prog W 0 (fun _ => true) true Try.f16.params.toList args.toList ds p := hA0
  rw [Try.params16] at hA hval hsz
  obtain ⟨v0, vs0, d0, ds0, p0, q0, hargs, rfl, rfl, h0, r0⟩ := trodAll_cons hA
  obtain ⟨v1, vs1, d1, ds1, p1, q1, rfl, rfl, rfl, h1, r1⟩ := trodAll_cons r0
  obtain ⟨rfl, rfl, rfl⟩ := trodAll_nil r1
  obtain rfl : args = #[v0, v1] := by cases args; simp_all
  obtain ⟨rfl, rfl⟩ := trodVars_none hV
  have k0 := h0
  have lt0 : ∀ x ∈ p0, x.block < W.heap.size := by obtain ⟨m, hm⟩ := k0; exact DataW.trod_lt m _ _ _ hm
  have k1 := h1
  have lt1 : ∀ x ∈ p1, x.block < W.heap.size := by obtain ⟨m, hm⟩ := k1; exact DataW.trod_lt m _ _ _ hm
  obtain ⟨av0, ap0, ac0, rfl, wv0, wc0⟩ := open_action (hval 0 43 v0 rfl rfl) h0
  obtain ⟨x1, rfl, rfl, rfl, wx1⟩ := open_int Try.underlying3 (hval 1 3 v1 rfl rfl) h1
  clear hA0 hval0 hsz0
  refine (valueFunc_walk av0 ap0 ac0 x1 W wv0 wc0 wx1).mono fun e W' ⟨he, bel⟩ => ?_
  subst he
  exact ⟨_, rfl, _, _, _, [], _, [], hW', trodAll_mk1 (shut_bool Try.underlying4 _), (trodAll_cons_mk (Below.trod laidOut (by kernel_rfl) (of_decide_eq_true (by kernel_rfl)) k0 bel lt0) (trodAll_cons_mk (Below.trod laidOut (by kernel_rfl) (of_decide_eq_true (by kernel_rfl)) k1 bel lt1) trodAll_mk0)), rfl, bel.frame _, fun h => by cases h⟩

/-- The statement. -/
theorem valueFunc_holds : Rows.FnValueFuncSaid :=
  OpenClaim.holds_of_wide 16 Try.f16 rfl rfl rfl rfl rfl rfl rfl ⟨rfl, rfl, rfl, rfl, rfl⟩ rfl rfl rfl rfl rfl (by kernel_rfl) Try.func16 (by kernel_rfl)
    (of_decide_eq_true (by kernel_rfl)) (by unfold Func.isWrapper; first | (rw [if_pos (by decide +kernel)]; kernel_rfl) | (rw [if_neg (by decide +kernel)]; exact ⟨rfl, rfl⟩))
    (fun os started H enc _ => valueFunc_lifted os started H enc)

end Go.Proofs.Ytpkippcbocmmkaa
