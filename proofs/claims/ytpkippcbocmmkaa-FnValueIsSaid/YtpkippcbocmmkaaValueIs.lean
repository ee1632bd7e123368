/-
  The law FnValueIs: OnceValue returns, in every field, what the reference returns: for every action and every number of calls the law returns true, and each argument reads as it read before.
-/
import Derived.Test.YtpkippcbocmmkaaFuncV
namespace Go.Proofs.Ytpkippcbocmmkaa
open Go.ChangeShapes Go.WideShapes Go.ChangeAt Go.RowKit Go.Deep

set_option maxRecDepth 100000 in
set_option maxHeartbeats 2000000 in
theorem valueIs_walk (av : Int) (ap : Bool) (ac x : Int) (w : World) (hv : (Lit.int .i64 av).wf = true) (_ : (Lit.int .i64 ac).wf = true) (_ : (Lit.int .i64 x).wf = true) :
    Calls Try.prog 12 #[.agg #[.int .i64 av, .bool ap, .int .i64 ac], .int .i64 x] w fun e w' => e = .returned (.bool true) ∧ Below w.heap.size w w' := by
  have hb0 : Below w.heap.size w (w.alloc (.cells #[.int .i64 av, .bool ap, .int .i64 ac] 43)) := (Below.refl _ w).alloc (Nat.le_refl _) _
  have hba : Blk (w.alloc (.cells #[.int .i64 av, .bool ap, .int .i64 ac] 43)) w.heap.size 43 (actCells av ap ac) := Blk.new w 43 _
  have B0 := Lib.hid hb0
  have BA := Lib.hid hba
  have HV := Lib.hid hv
  clear hb0 hba hv
  by_cases hx : x > 1048576
  · go_enter Try.func12, Try.ntmps12
    go_wp2_with fail
    go_quiet (fail)
    go_wp2
    go_ret
    exact ⟨rfl, below_drewN B0.out _⟩
  · have hx' : x ≤ 1048576 := by omega
    have hxd : decide (1048576 < x) = false := by simp; omega
    have h1 : ∀ m, Calls Try.prog 32 #[.agg #[.int .i64 av, .bool ap, .int .i64 ac], .int .i64 x] ((w.alloc (.cells #[.int .i64 av, .bool ap, .int .i64 ac] 43)).drewN m) fun e w' =>
        ∃ A c, e = .returned (.slice A x.toNat c) ∧ Rd w' w'.heap.size 4 A x.toNat (resRow (valTold av ap ac x.toNat)) ∧ Blk w' w.heap.size 43 (actCells av ap ac) ∧ Below w.heap.size w w' := fun m =>
      (onceValue_any av ap ac x _ HV.out hx').mono fun e w' ⟨v, he, ho, hb⟩ => by
        obtain ⟨A, c, rfl⟩ := own_form ho
        obtain ⟨k1, k2, _⟩ := box_after B0.out BA.out (Below.undrew hb)
        exact ⟨A, c, he, Rd.of_own ho, k1, k2⟩
    have H1 := Lib.hid h1
    clear h1
    go_enter Try.func12, Try.ntmps12
    go_wp2_with fail
    go_region_held3 (fun w' => w'.cell? ⟨w.heap.size, 0, none⟩ = some (.int .i64 av) ∧ w'.cell? ⟨w.heap.size, 1, none⟩ = some (.bool ap) ∧ w'.cell? ⟨w.heap.size, 2, none⟩ = some (.int .i64 ac)) (go_keep)
      (first | (go_at_call 32; refine (H1.out _).mono ?_; rintro e w4 ⟨A4, c4, rfl, hr4, ba4, hb4⟩; obtain ⟨q0, q1, q2⟩ := ba4.c3; have R4 := Lib.hid hr4; have B4 := Lib.hid hb4; have BA4 := Lib.hid ba4; clear hr4 hb4 ba4) | (go_at_call 33; refine (specValue_any av ap ac x _ hx').mono ?_; rintro e w5 ⟨v5, rfl, ho5, hb5⟩; obtain ⟨A5, c5, rfl⟩ := own_form ho5; obtain ⟨ba5, bw5, sz5⟩ := box_after B4.out BA4.out hb5; obtain ⟨q0', q1', q2'⟩ := ba5.c3; have O5 := Lib.hid ho5; have B5 := Lib.hid hb5; have BW5 := Lib.hid bw5; clear ho5 hb5 bw5 ba5) | (go_at_call 31; refine (equal_after (valTold_length av ap ac x.toNat) R4.out O5.out B5.out (by omega)).mono ?_; rintro e w6 ⟨rfl, hb6⟩; obtain ⟨p0, p1, p2⟩ := (BA4.out.below hb6 BA4.out.lt).c3; have B6 := Lib.hid hb6; clear hb6))
    all_goals go_wp2
    all_goals go_ret
    all_goals exact ⟨rfl, B4.out.trans (B6.out.mono B4.out.size)⟩

set_option maxRecDepth 100000 in
theorem valueIs_lifted (os : Os) (started : os.Started) (H : Type) (enc : TypeId × Value → H) :
    ReturnsInHanded {} Try.checked os 12 .any (Rows.fnValueIsSpec.pre6 enc Try.prog Try.f12 Rows.fnValueIsRow.domain false) (Rows.fnValueIsSpec.post enc Try.prog Try.f12 false true false false) := by
  refine returnsInHanded_of_change_sized (C := Try.checked) own started (by kernel_rfl) Try.func12
    (ChangeSpec.witness6 (enc := enc) (C := Try.checked) false ⟨#[], #[.agg #[.int .i64 0, .bool false, .int .i64 0], .int .i64 0], []⟩ 8 (by kernel_rfl) (by kernel_rfl) (by kernel_rfl) (by kernel_rfl)) ?_
  intro W base args ds gs before hval0 hW hcnd hsz0 _
  have hsz : (DataW.weightsEach Try.prog (Try.f12.params.toList ++ Rows.fnValueIsSpec.plain.varTypes Try.prog) (ds ++ gs)).all (· ≤ reachBytes) = true := hsz0
  have hval : ∀ (j : Nat) t v, Try.f12.params[j]? = some t → args[j]? = some v → Value.okWide Try.prog W .any base t v := hval0
  have hW' := hW
  obtain ⟨p, q, hA0, hV, rfl, hfz, hnd⟩ := hW
  have hA : DataW.TrodAll enc Try.prog W 0 (fun _ => true) true Try.f12.params.toList args.toList ds p := hA0
  rw [Try.params12] at hA hval hsz
  obtain ⟨v0, vs0, d0, ds0, p0, q0, hargs, rfl, rfl, h0, r0⟩ := trodAll_cons hA
  obtain ⟨v1, vs1, d1, ds1, p1, q1, rfl, rfl, rfl, h1, r1⟩ := trodAll_cons r0
  obtain ⟨rfl, rfl, rfl⟩ := trodAll_nil r1
  obtain rfl : args = #[v0, v1] := by cases args; simp_all
  obtain ⟨rfl, rfl⟩ := trodVars_none hV
  have k0 := h0
  have lt0 : ∀ x ∈ p0, x.block < W.heap.size := by obtain ⟨m, hm⟩ := k0; exact DataW.trod_lt m _ _ _ hm
  have k1 := h1
  have lt1 : ∀ x ∈ p1, x.block < W.heap.size := by obtain ⟨m, hm⟩ := k1; exact DataW.trod_lt m _ _ _ hm
  obtain ⟨av0, ap0, ac0, rfl, wv0, wc0⟩ := open_action (hval 0 43 v0 rfl rfl) h0
  obtain ⟨x1, rfl, rfl, rfl, wx1⟩ := open_int Try.underlying3 (hval 1 3 v1 rfl rfl) h1
  clear hA0 hval0 hsz0
  refine (valueIs_walk av0 ap0 ac0 x1 W wv0 wc0 wx1).mono fun e W' ⟨he, bel⟩ => ?_
  subst he
  exact ⟨_, rfl, _, _, _, [], _, [], hW', trodAll_mk1 (shut_bool Try.underlying4 _), (trodAll_cons_mk (Below.trod laidOut (by kernel_rfl) (of_decide_eq_true (by kernel_rfl)) k0 bel lt0) (trodAll_cons_mk (Below.trod laidOut (by kernel_rfl) (of_decide_eq_true (by kernel_rfl)) k1 bel lt1) trodAll_mk0)), rfl, bel.frame _, fun h => by cases h⟩

/-- The statement. -/
theorem valueIs_holds : Rows.FnValueIsSaid :=
  OpenClaim.holds_of_wide 12 Try.f12 rfl rfl rfl rfl rfl rfl rfl ⟨rfl, rfl, rfl, rfl, rfl⟩ rfl rfl rfl rfl rfl (by kernel_rfl) Try.func12 (by kernel_rfl)
    (of_decide_eq_true (by kernel_rfl)) (by unfold Func.isWrapper; first | (rw [if_pos (by decide +kernel)]; kernel_rfl) | (rw [if_neg (by decide +kernel)]; exact ⟨rfl, rfl⟩))
    (fun os started H enc _ => valueIs_lifted os started H enc)

end Go.Proofs.Ytpkippcbocmmkaa
