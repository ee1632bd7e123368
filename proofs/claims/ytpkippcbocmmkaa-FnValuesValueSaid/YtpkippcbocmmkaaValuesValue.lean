/-
  The law FnValuesValue: OnceValues' function tells as OnceValue's does, and returns the text where it does not panic: for every action, every text and every number of calls the law returns true, and each argument reads as it read before.
-/
import Derived.Test.YtpkippcbocmmkaaFuncV
import Derived.Test.YtpkippcbocmmkaaValuesG
import Derived.ChangeMaps5
import Derived.Laws.Strings
import Derived.ShutString
namespace Go.Proofs.Ytpkippcbocmmkaa
open Go.ChangeShapes Go.WideShapes Go.ChangeAt Go.RowKit Go.Deep
open Go.ChangeMaps (open_string)

set_option maxRecDepth 100000 in
set_option maxHeartbeats 4000000 in
theorem valuesValue_walk (av : Int) (ap : Bool) (ac : Int) (S : ByteArray) (x : Int) (w : World) (hv : (Lit.int .i64 av).wf = true) (_ : (Lit.int .i64 ac).wf = true) (_ : S.size ≤ maxLen) (_ : (Lit.int .i64 x).wf = true) :
    Calls Try.prog 17 #[.agg #[.int .i64 av, .bool ap, .int .i64 ac], .string S, .int .i64 x] w fun e w' => e = .returned (.bool true) ∧ Below w.heap.size w w' := by
  have hb0 : Below w.heap.size w (w.alloc (.cells #[.int .i64 av, .bool ap, .int .i64 ac] 43)) := (Below.refl _ w).alloc (Nat.le_refl _) _
  have hba : Blk (w.alloc (.cells #[.int .i64 av, .bool ap, .int .i64 ac] 43)) w.heap.size 43 (actCells av ap ac) := Blk.new w 43 _
  have B0 := Lib.hid hb0
  have BA := Lib.hid hba
  have HV := Lib.hid hv
  have hnot : ∀ (x : Bool) (w : World), (Op.unary .not (.bool x)).run Try.prog w = .ok (.bool (!x)) w := fun _ _ => rfl
  clear hb0 hba hv
  by_cases hx : x > 1048576
  · go_enter Try.func17, Try.ntmps17
    go_wp2_with fail
    go_ret
    exact ⟨rfl, B0.out⟩
  · have hx' : x ≤ 1048576 := by omega
    obtain ⟨N, hN⟩ : ∃ N, x.toNat = N := ⟨_, rfl⟩
    have hN1 : N ≤ 1048576 := by omega
    have HN := Lib.hid hN
    clear hN
    have hmx : ∀ w : World, (Builtin.max_ #[3, 3] 3 #[.int .i64 x, .int .i64 0]).run Try.prog w = .ok (.int .i64 (N : Int)) w := fun w => by rw [← HN.out]; exact max_zero x w
    go_enter Try.func17, Try.ntmps17
    go_wp2_with fail
    refine (onceValues_any av ap ac S x _ HV.out hx').mono ?_
    rintro e w1 ⟨v, rfl, ho, hb⟩
    rw [HN.out] at ho
    obtain ⟨A, c, rfl⟩ := own_form ho
    obtain ⟨k1, k2, _⟩ := box_after B0.out BA.out hb
    have R1 := Lib.hid (Rd.of_own ho)
    have B1 := Lib.hid k2
    have BA1 := Lib.hid k1
    obtain ⟨p0, p1, p2⟩ := k1.c3
    clear ho hb k1 k2 B0 BA
    go_wp2_with fail
    refine (onceValue_any av ap ac x _ HV.out hx').mono ?_
    rintro e w2 ⟨v, rfl, ho, hb⟩
    rw [HN.out] at ho
    obtain ⟨A2, c2, rfl⟩ := own_form ho
    obtain ⟨k1, k2, _⟩ := box_after B1.out BA1.out hb
    have R2 := Lib.hid (Rd.of_own ho)
    have R1' := Lib.hid (R1.out.below hb)
    have B2 := Lib.hid k2
    have BA2 := Lib.hid k1
    clear ho hb k1 k2 B1 BA1 R1 p0 p1 p2
    go_wp2_with fail
    go_loopw [33] (fun i wr => ∃ k : Nat, k ≤ N ∧ i = .int .i64 k ∧ ∃ m, wr = w2.drewN m) (fun i _ => N - (intOf i).toNat)
    case atStart => exact ⟨0, Nat.zero_le _, rfl, 0, rfl⟩
    case round =>
      obtain ⟨k, hk, rfl, m, rfl⟩ := hrel
      by_cases hlt : k < N
      · obtain ⟨b, off, rfl, s0, s1, s2, s3, s4⟩ := vals_read R1'.out hlt
        obtain ⟨b', off', rfl, t0, t1, t2, t3⟩ := val_read R2.out hlt
        obtain ⟨a0, a1, a2⟩ := BA2.out.c3
        obtain ⟨f, hf⟩ : ∃ f, f = (k == 0) := ⟨_, rfl⟩
        rw [← hf] at s2 t1
        clear hf
        cases ap
        · simp only [if_neg Bool.false_ne_true] at t0 t3 s0 s1 s4
          go_wp2_with fail
          simp only [List.append_eq, List.cons_append, List.nil_append]
          go_quiet (fail)
          go_wp2
          go_roundw
          case rel => exact ⟨k + 1, by omega, by go_num, m + nq, rfl⟩
          case measure => simp [intOf]; omega
        · simp only [if_true] at t0 t3 s0 s1 s4
          go_wp2_with fail
          simp only [List.append_eq, List.cons_append, List.nil_append]
          go_quiet (fail)
          go_wp2
          go_roundw
          case rel => exact ⟨k + 1, by omega, by go_num, m + nq, rfl⟩
          case measure => simp [intOf]; omega
      · go_wp2_with fail
        go_ret
        exact ⟨rfl, below_drewN B2.out _⟩

set_option maxRecDepth 100000 in
theorem valuesValue_lifted (os : Os) (started : os.Started) (H : Type) (enc : TypeId × Value → H) :
    ReturnsInHanded {} Try.checked os 17 .any (Rows.fnValuesValueSpec.pre6 enc Try.prog Try.f17 Rows.fnValuesValueRow.domain false) (Rows.fnValuesValueSpec.post enc Try.prog Try.f17 false true false false) := by
  refine returnsInHanded_of_change_sized (C := Try.checked) own started (by kernel_rfl) Try.func17
    (ChangeSpec.witness6 (enc := enc) (C := Try.checked) false ⟨#[], #[.agg #[.int .i64 0, .bool false, .int .i64 0], .string ⟨#[]⟩, .int .i64 0], []⟩ 8 (by kernel_rfl) (by kernel_rfl) (by kernel_rfl) (by kernel_rfl)) ?_
  intro W base args ds gs before hval0 hW hcnd hsz0 _
  have hsz : (DataW.weightsEach Try.prog (Try.f17.params.toList ++ Rows.fnValuesValueSpec.plain.varTypes Try.prog) (ds ++ gs)).all (· ≤ reachBytes) = true := hsz0
  have hval : ∀ (j : Nat) t v, Try.f17.params[j]? = some t → args[j]? = some v → Value.okWide Try.prog W .any base t v := hval0
  have hW' := hW
  obtain ⟨p, q, hA0, hV, rfl, hfz, hnd⟩ := hW
  have hA : DataW.TrodAll enc Try.prog W 0 (fun _ => true) true Try.f17.params.toList args.toList ds p := hA0
  rw [Try.params17] at hA hval hsz
  obtain ⟨v0, vs0, d0, ds0, p0, q0, hargs, rfl, rfl, h0, r0⟩ := trodAll_cons hA
  obtain ⟨v1, vs1, d1, ds1, p1, q1, rfl, rfl, rfl, h1, r1⟩ := trodAll_cons r0
  obtain ⟨v2, vs2, d2, ds2, p2, q2, rfl, rfl, rfl, h2, r2⟩ := trodAll_cons r1
  obtain ⟨rfl, rfl, rfl⟩ := trodAll_nil r2
  obtain rfl : args = #[v0, v1, v2] := by cases args; simp_all
  obtain ⟨rfl, rfl⟩ := trodVars_none hV
  have k0 := h0
  have lt0 : ∀ x ∈ p0, x.block < W.heap.size := by obtain ⟨m, hm⟩ := k0; exact DataW.trod_lt m _ _ _ hm
  have k1 := h1
  have lt1 : ∀ x ∈ p1, x.block < W.heap.size := by obtain ⟨m, hm⟩ := k1; exact DataW.trod_lt m _ _ _ hm
  have k2 := h2
  have lt2 : ∀ x ∈ p2, x.block < W.heap.size := by obtain ⟨m, hm⟩ := k2; exact DataW.trod_lt m _ _ _ hm
  obtain ⟨av0, ap0, ac0, rfl, wv0, wc0⟩ := open_action (hval 0 43 v0 rfl rfl) h0
  obtain ⟨s1, rfl, rfl, rfl, hs1⟩ := open_string Try.underlying9 (hval 1 9 v1 rfl rfl) h1
  obtain ⟨x2, rfl, rfl, rfl, wx2⟩ := open_int Try.underlying3 (hval 2 3 v2 rfl rfl) h2
  clear hA0 hval0 hsz0
  refine (valuesValue_walk av0 ap0 ac0 s1 x2 W wv0 wc0 hs1 wx2).mono fun e W' ⟨he, bel⟩ => ?_
  subst he
  exact ⟨_, rfl, _, _, _, [], _, [], hW', trodAll_mk1 (shut_bool Try.underlying4 _), (trodAll_cons_mk (Below.trod laidOut (by kernel_rfl) (of_decide_eq_true (by kernel_rfl)) k0 bel lt0) (trodAll_cons_mk (Below.trod laidOut (by kernel_rfl) (of_decide_eq_true (by kernel_rfl)) k1 bel lt1) (trodAll_cons_mk (Below.trod laidOut (by kernel_rfl) (of_decide_eq_true (by kernel_rfl)) k2 bel lt2) trodAll_mk0))), rfl, bel.frame _, fun h => by cases h⟩

/-- The statement. -/
theorem valuesValue_holds : Rows.FnValuesValueSaid :=
  OpenClaim.holds_of_wide 17 Try.f17 rfl rfl rfl rfl rfl rfl rfl ⟨rfl, rfl, rfl, rfl, rfl⟩ rfl rfl rfl rfl rfl (by kernel_rfl) Try.func17 (by kernel_rfl)
    (of_decide_eq_true (by kernel_rfl)) (by unfold Func.isWrapper; first | (rw [if_pos (by decide +kernel)]; kernel_rfl) | (rw [if_neg (by decide +kernel)]; exact ⟨rfl, rfl⟩))
    (fun os started H enc _ => valuesValue_lifted os started H enc)

end Go.Proofs.Ytpkippcbocmmkaa
