/-
  The law FnFuncFront: what fewer calls tell is the front of what more calls tell, of OnceFunc's function and of OnceValue's: for every action and every two numbers of calls the law returns true, and each argument reads as it read before.
-/
import Derived.Test.YtpkippcbocmmkaaFuncV
namespace Go.Proofs.Ytpkippcbocmmkaa
open Go.ChangeShapes Go.WideShapes Go.ChangeAt Go.RowKit Go.Deep

theorem funcTold_split (p : Bool) (c : Int) (m n : Nat) (h : m ≤ n) : ∃ t, funcTold p c n = funcTold p c m ++ t := by
  refine ⟨((List.range (n - m)).map (fun i => m + i)).map (funcRow p c), ?_⟩
  obtain ⟨d, rfl⟩ : ∃ d, n = m + d := ⟨n - m, by omega⟩
  rw [Nat.add_sub_cancel_left]
  unfold funcTold
  rw [List.range_add, List.map_append]

theorem valTold_split (v : Int) (p : Bool) (c : Int) (m n : Nat) (h : m ≤ n) : ∃ t, valTold v p c n = valTold v p c m ++ t := by
  refine ⟨((List.range (n - m)).map (fun i => m + i)).map (valRow v p c), ?_⟩
  obtain ⟨d, rfl⟩ : ∃ d, n = m + d := ⟨n - m, by omega⟩
  rw [Nat.add_sub_cancel_left]
  unfold valTold
  rw [List.range_add, List.map_append]

/-- The front of what OnceFunc returned. -/
theorem func_front {w : World} {B : Nat} {A : Option Addr} {m n : Nat} {p : Bool} {c : Int} (hm : m ≤ n) (h : Rd w B 4 A n (toldRow (funcTold p c n))) : Rd w B 4 A m (toldRow (funcTold p c m)) := by
  obtain ⟨d, rfl⟩ : ∃ d, n = m + d := ⟨n - m, by omega⟩
  obtain ⟨t, ht⟩ := funcTold_split p c m (m + d) hm
  rw [ht, toldRow_append] at h
  exact h.front (by rw [toldRow_length, funcTold_length])

theorem val_front {w : World} {B : Nat} {A : Option Addr} {m n : Nat} {v : Int} {p : Bool} {c : Int} (hm : m ≤ n) (h : Rd w B 4 A n (resRow (valTold v p c n))) : Rd w B 4 A m (resRow (valTold v p c m)) := by
  obtain ⟨d, rfl⟩ : ∃ d, n = m + d := ⟨n - m, by omega⟩
  obtain ⟨t, ht⟩ := valTold_split v p c m (m + d) hm
  rw [ht, resRow_append] at h
  exact h.front (by rw [resRow_length, valTold_length])

set_option maxRecDepth 100000 in
set_option maxHeartbeats 4000000 in
theorem funcFront_walk (av : Int) (ap : Bool) (ac x y : Int) (w : World) (hv : (Lit.int .i64 av).wf = true) (_ : (Lit.int .i64 ac).wf = true) (_ : (Lit.int .i64 x).wf = true) (_ : (Lit.int .i64 y).wf = true) :
    Calls Try.prog 15 #[.agg #[.int .i64 av, .bool ap, .int .i64 ac], .int .i64 x, .int .i64 y] w fun e w' => e = .returned (.bool true) ∧ Below w.heap.size w w' := by
  have hb0 : Below w.heap.size w (w.alloc (.cells #[.int .i64 av, .bool ap, .int .i64 ac] 43)) := (Below.refl _ w).alloc (Nat.le_refl _) _
  have hba : Blk (w.alloc (.cells #[.int .i64 av, .bool ap, .int .i64 ac] 43)) w.heap.size 43 (actCells av ap ac) := Blk.new w 43 _
  have B0 := Lib.hid hb0
  have BA := Lib.hid hba
  have HV := Lib.hid hv
  clear hb0 hba hv
  by_cases hx : x > 1048576
  · go_enter Try.func15, Try.ntmps15
    go_wp2_with fail
    go_ret
    exact ⟨rfl, B0.out⟩
  · by_cases hy : y > 1048576
    · go_enter Try.func15, Try.ntmps15
      go_wp2_with fail
      go_ret
      exact ⟨rfl, B0.out⟩
    · by_cases hxy : x > y
      · go_enter Try.func15, Try.ntmps15
        go_wp2_with fail
        go_ret
        exact ⟨rfl, B0.out⟩
      · have hx' : x ≤ 1048576 := by omega
        have hy' : y ≤ 1048576 := by omega
        obtain ⟨M, hM⟩ : ∃ M, x.toNat = M := ⟨_, rfl⟩
        obtain ⟨N, hN⟩ : ∃ N, y.toNat = N := ⟨_, rfl⟩
        have hN1 : N ≤ 1048576 := by omega
        have hMN : M ≤ N := by omega
        have hmx : ∀ w : World, (Builtin.max_ #[3, 3] 3 #[.int .i64 x, .int .i64 0]).run Try.prog w = .ok (.int .i64 (M : Int)) w := fun w => by rw [← hM]; exact max_zero x w
        have hmy : ∀ w : World, (Builtin.max_ #[3, 3] 3 #[.int .i64 y, .int .i64 0]).run Try.prog w = .ok (.int .i64 (N : Int)) w := fun w => by rw [← hN]; exact max_zero y w
        have HM := Lib.hid hM
        have HN := Lib.hid hN
        clear hM hN
        go_enter Try.func15, Try.ntmps15
        go_wp2_with fail
        refine (onceFunc_any av ap ac y _ hy').mono ?_
        rintro e w1 ⟨v, rfl, ho, hb⟩
        rw [HN.out] at ho
        obtain ⟨A1, c1, rfl, hc1, hm1⟩ := own_cap ho
        obtain ⟨k1, k2, _⟩ := box_after B0.out BA.out hb
        have R1 := Lib.hid (Rd.of_own ho)
        have B1 := Lib.hid k2
        have BA1 := Lib.hid k1
        obtain ⟨p0, p1, p2⟩ := k1.c3
        clear ho hb k1 k2 B0 BA
        go_wp2_with fail
        refine (onceValue_any av ap ac y _ HV.out hy').mono ?_
        rintro e w2 ⟨v, rfl, ho, hb⟩
        rw [HN.out] at ho
        obtain ⟨A2, c2, rfl, hc2, hm2⟩ := own_cap ho
        obtain ⟨k1, k2, k3⟩ := box_after B1.out BA1.out hb
        have R2 := Lib.hid (val_front hMN (Rd.of_own ho))
        have R1' := Lib.hid (func_front hMN ((R1.out.below hb).more k3))
        have B2 := Lib.hid k2
        have BA2 := Lib.hid k1
        have h29 : ∀ m, Calls Try.prog 29 #[.agg #[.int .i64 av, .bool ap, .int .i64 ac], .int .i64 x] (w2.drewN m) fun e w' =>
            ∃ A c, e = .returned (.slice A M c) ∧ w'.ownsRow w2.heap.size 26 4 (.slice A M c) M (toldRow (funcTold ap ac M)) ∧ Below w2.heap.size w2 w' := fun m =>
          (onceFunc_any av ap ac x _ hx').mono fun e w' ⟨v, he, ho, hb⟩ => by
            rw [HM.out] at ho
            obtain ⟨A, c, rfl⟩ := own_form ho
            exact ⟨A, c, he, ho, Below.undrew hb⟩
        have h32 : ∀ w4, Calls Try.prog 32 #[.agg #[.int .i64 av, .bool ap, .int .i64 ac], .int .i64 x] w4 fun e w' =>
            ∃ A c, e = .returned (.slice A M c) ∧ w'.ownsRow w4.heap.size 56 4 (.slice A M c) M (resRow (valTold av ap ac M)) ∧ Below w4.heap.size w4 w' := fun w4 =>
          (onceValue_any av ap ac x _ HV.out hx').mono fun e w' ⟨v, he, ho, hb⟩ => by
            rw [HM.out] at ho
            obtain ⟨A, c, rfl⟩ := own_form ho
            exact ⟨A, c, he, ho, hb⟩
        have H29 := Lib.hid h29
        have H32 := Lib.hid h32
        obtain ⟨q0, q1, q2⟩ := k1.c3
        have hs0 : (0 : Int) ≤ (M : Int) := Int.natCast_nonneg _
        have hs1 : (M : Int) ≤ (c1 : Int) := by omega
        have hs2 : (M : Int) ≤ (c2 : Int) := by omega
        clear ho hb k1 k2 B1 BA1 R1 p0 p1 p2 h29 h32
        go_wp2_with fail
        go_region_held3 (fun w' => w'.cell? ⟨w.heap.size, 0, none⟩ = some (.int .i64 av) ∧ w'.cell? ⟨w.heap.size, 1, none⟩ = some (.bool ap) ∧ w'.cell? ⟨w.heap.size, 2, none⟩ = some (.int .i64 ac)) (go_keep)
          (first | (go_at_call 29; refine (H29.out _).mono ?_; rintro e w3 ⟨A3, c3, rfl, ho3, hb3⟩; obtain ⟨x0, x1, x2⟩ := (BA2.out.below hb3 BA2.out.lt).c3; have O3 := Lib.hid ho3; have B3 := Lib.hid hb3; clear ho3 hb3) | (go_at_call 19; refine (same_after (funcTold_length ap ac M) R1'.out O3.out B3.out (by omega)).mono ?_; rintro e w4 ⟨rfl, hb4⟩; obtain ⟨y0, y1, y2⟩ := (BA2.out.below hb4 BA2.out.lt).c3; have BA4 := Lib.hid (BA2.out.below hb4 BA2.out.lt); have R4 := Lib.hid ((R2.out.below hb4).more hb4.size); have B4 := Lib.hid hb4; clear hb4) | (go_at_call 32; refine (H32.out _).mono ?_; rintro e w5 ⟨A5, c5, rfl, ho5, hb5⟩; obtain ⟨z0, z1, z2⟩ := (BA4.out.below hb5 BA4.out.lt).c3; have O5 := Lib.hid ho5; have B5 := Lib.hid hb5; clear ho5 hb5) | (go_at_call 31; refine (equal_after (valTold_length av ap ac M) R4.out O5.out B5.out (by omega)).mono ?_; rintro e w6 ⟨rfl, hb6⟩; obtain ⟨r0, r1, r2⟩ := (BA4.out.below hb6 BA4.out.lt).c3; have B6 := Lib.hid hb6; clear hb6))
        all_goals go_wp2
        all_goals go_ret
        all_goals exact ⟨rfl, (B2.out.trans (B4.out.mono B2.out.size)).trans (B6.out.mono (Nat.le_trans B2.out.size B4.out.size))⟩

set_option maxRecDepth 100000 in
theorem funcFront_lifted (os : Os) (started : os.Started) (H : Type) (enc : TypeId × Value → H) :
    ReturnsInHanded {} Try.checked os 15 .any (Rows.fnFuncFrontSpec.pre6 enc Try.prog Try.f15 Rows.fnFuncFrontRow.domain false) (Rows.fnFuncFrontSpec.post enc Try.prog Try.f15 false true false false) := by
  refine returnsInHanded_of_change_sized (C := Try.checked) own started (by kernel_rfl) Try.func15
    (ChangeSpec.witness6 (enc := enc) (C := Try.checked) false ⟨#[], #[.agg #[.int .i64 0, .bool false, .int .i64 0], .int .i64 0, .int .i64 0], []⟩ 8 (by kernel_rfl) (by kernel_rfl) (by kernel_rfl) (by kernel_rfl)) ?_
  intro W base args ds gs before hval0 hW hcnd hsz0 _
  have hsz : (DataW.weightsEach Try.prog (Try.f15.params.toList ++ Rows.fnFuncFrontSpec.plain.varTypes Try.prog) (ds ++ gs)).all (· ≤ reachBytes) = true := hsz0
  have hval : ∀ (j : Nat) t v, Try.f15.params[j]? = some t → args[j]? = some v → Value.okWide Try.prog W .any base t v := hval0
  have hW' := hW
  obtain ⟨p, q, hA0, hV, rfl, hfz, hnd⟩ := hW
  have hA : DataW.TrodAll enc Try.prog W 0 (fun _ => true) true Try.f15.params.toList args.toList ds p := hA0
  rw [Try.params15] at hA hval hsz
  obtain ⟨v0, vs0, d0, ds0, p0, q0, hargs, rfl, rfl, h0, r0⟩ := trodAll_cons hA
  obtain ⟨v1, vs1, d1, ds1, p1, q1, rfl, rfl, rfl, h1, r1⟩ := trodAll_cons r0
  obtain ⟨v2, vs2, d2, ds2, p2, q2, rfl, rfl, rfl, h2, r2⟩ := trodAll_cons r1
  obtain ⟨rfl, rfl, rfl⟩ := trodAll_nil r2
  obtain rfl : args = #[v0, v1, v2] := by cases args; simp_all
  obtain ⟨rfl, rfl⟩ := trodVars_none hV
  have k0 := h0
  have lt0 : ∀ x ∈ p0, x.block < W.heap.size := by obtain ⟨m, hm⟩ := k0; exact DataW.trod_lt m _ _ _ hm
  have k1 := h1
  have lt1 : ∀ x ∈ p1, x.block < W.heap.size := by obtain ⟨m, hm⟩ := k1; exact DataW.trod_lt m _ _ _ hm
  have k2 := h2
  have lt2 : ∀ x ∈ p2, x.block < W.heap.size := by obtain ⟨m, hm⟩ := k2; exact DataW.trod_lt m _ _ _ hm
  obtain ⟨av0, ap0, ac0, rfl, wv0, wc0⟩ := open_action (hval 0 43 v0 rfl rfl) h0
  obtain ⟨x1, rfl, rfl, rfl, wx1⟩ := open_int Try.underlying3 (hval 1 3 v1 rfl rfl) h1
  obtain ⟨x2, rfl, rfl, rfl, wx2⟩ := open_int Try.underlying3 (hval 2 3 v2 rfl rfl) h2
  clear hA0 hval0 hsz0
  refine (funcFront_walk av0 ap0 ac0 x1 x2 W wv0 wc0 wx1 wx2).mono fun e W' ⟨he, bel⟩ => ?_
  subst he
  exact ⟨_, rfl, _, _, _, [], _, [], hW', trodAll_mk1 (shut_bool Try.underlying4 _), (trodAll_cons_mk (Below.trod laidOut (by kernel_rfl) (of_decide_eq_true (by kernel_rfl)) k0 bel lt0) (trodAll_cons_mk (Below.trod laidOut (by kernel_rfl) (of_decide_eq_true (by kernel_rfl)) k1 bel lt1) (trodAll_cons_mk (Below.trod laidOut (by kernel_rfl) (of_decide_eq_true (by kernel_rfl)) k2 bel lt2) trodAll_mk0))), rfl, bel.frame _, fun h => by cases h⟩

/-- The statement. -/
theorem funcFront_holds : Rows.FnFuncFrontSaid :=
  OpenClaim.holds_of_wide 15 Try.f15 rfl rfl rfl rfl rfl rfl rfl ⟨rfl, rfl, rfl, rfl, rfl⟩ rfl rfl rfl rfl rfl (by kernel_rfl) Try.func15 (by kernel_rfl)
    (of_decide_eq_true (by kernel_rfl)) (by unfold Func.isWrapper; first | (rw [if_pos (by decide +kernel)]; kernel_rfl) | (rw [if_neg (by decide +kernel)]; exact ⟨rfl, rfl⟩))
    (fun os started H enc _ => funcFront_lifted os started H enc)

end Go.Proofs.Ytpkippcbocmmkaa
