/-
  The law FnExactDo: impl.Do returns, in every field, what the reference returns, leaves its argument unmodified, and returns memory that it shares neither with its argument nor with the result of another call: for every list of steps the law returns true, and each argument reads as it read before.
-/
import Derived.Test.YtpkippcbocmmkaaMarks
import Derived.Test.YtpkippcbocmmkaaSpecDo
namespace Go.Proofs.Ytpkippcbocmmkaa
open Go.ChangeShapes Go.WideShapes Go.ChangeAt Go.RowKit Go.Deep

/-- 'markToldS(a, 1)', a nil or not. -/
theorem markToldS_own (base n cap : Nat) (A : Option Addr) (xs : List Value) (w : World) (hown : w.ownsRow base 26 4 (.slice A n cap) n xs) (hlen : n ≤ 1048576) :
    Calls Try.prog 27 #[.slice A n cap, .int .i64 1] w fun e w' => e = .returned (.int .i64 (markK n)) ∧ w'.ownsRow base 26 4 (.slice A n cap) n (toldRow (marksT n)) ∧ Chg (fun g => (Value.slice A n cap).ownBlock = some g) w w' := by
  rcases hown.2 with ⟨hv, hn⟩ | ⟨g, c, cur, hv, _⟩
  · injection hv with h1 h2 h3
    subst h1 h2 h3
    have hm : markK 0 = 1 := rfl
    rw [hm]
    clear hm
    have hf : w.ownsRow base 26 4 (.slice none 0 0) 0 (toldRow (marksT 0)) := World.ownsRow_nil w base 26 4
    have HF := Lib.hid hf
    clear hf hown hn
    go_enter Try.func27, Try.ntmps27
    go_wp2_with fail
    refine wp_loop_rounds 1 ?_
    rw [rounds_succ]
    go_wp2_with fail
    go_ret
    exact ⟨rfl, HF.out, Chg.refl _ _⟩
  · injection hv with h1 h2 h3
    subst h1 h3
    refine (markToldS_any base g n cap xs w hown hlen).mono ?_
    rintro e w' ⟨h1, h2, h3⟩
    exact ⟨h1, h2, h3.mono (fun k _ hk => by rw [hk]; rfl)⟩

/-- 'markStepS(a, 1)', a nil or not. -/
theorem markStepS_own (base n cap : Nat) (A : Option Addr) (xs : List Value) (w : World) (hown : w.ownsRow base 30 4 (.slice A n cap) n xs) (hlen : n ≤ 1048576) :
    Calls Try.prog 26 #[.slice A n cap, .int .i64 1] w fun e w' => e = .returned (.int .i64 (markK n)) ∧ Chg (fun g => (Value.slice A n cap).ownBlock = some g) w w' := by
  rcases hown.2 with ⟨hv, hn⟩ | ⟨g, c, cur, hv, _⟩
  · injection hv with h1 h2 h3
    subst h1 h2 h3
    have hm : markK 0 = 1 := rfl
    rw [hm]
    clear hm hown hn
    go_enter Try.func26, Try.ntmps26
    go_wp2_with fail
    refine wp_loop_rounds 1 ?_
    rw [rounds_succ]
    go_wp2_with fail
    go_ret
    exact ⟨rfl, Chg.refl _ _⟩
  · injection hv with h1 h2 h3
    subst h1 h3
    refine (markStepS_any base g n cap xs w hown hlen).mono ?_
    rintro e w' ⟨h1, h3⟩
    exact ⟨h1, h3.mono (fun k _ hk => by rw [hk]; rfl)⟩

theorem wf_pairs {l : List Step} (h : ∀ s ∈ l, StepWf s) : ∀ s ∈ l, (Lit.int .i64 s.once).wf = true ∧ (Lit.int .i64 s.inner).wf = true := fun s hs => ⟨(h s hs).1, (h s hs).2.1⟩

set_option maxRecDepth 100000 in
set_option maxHeartbeats 4000000 in
theorem exact_walk (A : Option Addr) (cap : Nat) (l : List Step) (w : World) (hr : Rd w w.heap.size 4 A l.length (stepRow l)) (hlen : l.length * 32 ≤ 140737488351232) (hwf : ∀ s ∈ l, StepWf s) :
    Calls Try.prog 9 #[.slice A l.length cap] w fun e w' => e = .returned (.bool true) ∧ Below w.heap.size w w' := by
  have HS := Lib.hid (sz_any A l.length cap w (by omega))
  have HR := Lib.hid hr
  have HW := Lib.hid hwf
  clear hr hwf
  have hnot : ∀ (x : Bool) (w : World), (Op.unary .not (.bool x)).run Try.prog w = .ok (.bool (!x)) w := fun _ _ => rfl
  by_cases hsm : (l.length : Int) ≤ 1048576
  · rw [if_pos hsm] at HS
    have hsm' : l.length ≤ 1048576 := by omega
    obtain ⟨hk1, hk2⟩ := markK_bounds l.length l.length (Nat.le_refl _) hsm'
    go_enter Try.func9, Try.ntmps9
    go_wp2_with fail
    refine HS.out.mono ?_
    rintro e w' ⟨rfl, rfl⟩
    clear HS
    go_wp2_with fail
    refine (toStepS_any A cap l w HR.out hsm').mono ?_
    rintro e w1 ⟨vA, rfl, hoA, hb1⟩
    obtain ⟨AA, cA, rfl⟩ := own_form hoA
    have RA := Lib.hid (Rd.of_own hoA)
    have B1 := Lib.hid hb1
    clear hoA hb1
    go_wp2_with fail
    refine (specDo_any AA cA l w1 RA.out hsm').mono ?_
    rintro e w2 ⟨v4, rfl, ho4, hb2⟩
    obtain ⟨A4, c4, rfl⟩ := own_form ho4
    have R4 := Lib.hid (Rd.of_own ho4)
    have B2 := Lib.hid (B1.out.trans (hb2.mono B1.out.size))
    clear ho4 hb2 RA B1
    have hz2 := B2.out.size
    go_wp2_with fail
    refine (toStepS_any A cap l w2 ((HR.out.below B2.out).more B2.out.size) hsm').mono ?_
    rintro e w3 ⟨v5, rfl, ho5, hb3⟩
    obtain ⟨A5, c5, rfl⟩ := own_form ho5
    have O5 := Lib.hid ho5
    have B3 := Lib.hid hb3
    have hz3 := hb3.size
    clear ho5 hb3
    go_wp2_with fail
    refine (do_any A5 c5 l w3 (Rd.of_own O5.out) (by omega) (wf_pairs HW.out)).mono ?_
    rintro e w4 ⟨v6, rfl, ho6, hb4⟩
    obtain ⟨A6, c6, rfl⟩ := own_form ho6
    have O6 := Lib.hid ho6
    have B4 := Lib.hid hb4
    have hz4 := hb4.size
    have R44 := Lib.hid ((R4.out.below (B3.out.trans (hb4.mono hz3))).more (show w2.heap.size ≤ w4.heap.size by omega))
    clear ho6 hb4
    go_wp2_with fail
    refine (eqToldS_any A6 A4 c6 c4 l.length (doTold fresh l) (doTold_length l fresh) w4 (Rd.of_own O6.out) R44.out (by omega)).mono ?_
    rintro e w5 ⟨rfl, hb5⟩
    have B5 := Lib.hid hb5
    have hz5 := hb5.size
    clear hb5 R44
    have B25 := Lib.hid ((B3.out.trans (B4.out.mono hz3)).trans (B5.out.mono (show w2.heap.size ≤ w4.heap.size by omega)))
    have B35 := Lib.hid (B4.out.trans (B5.out.mono hz4))
    have BW5 := Lib.hid (B2.out.trans (B25.out.mono hz2))
    go_wp2_with fail
    refine (toStepS_any A cap l w5 ((HR.out.below BW5.out).more BW5.out.size) hsm').mono ?_
    rintro e w6 ⟨vB, rfl, hoB, hb6⟩
    obtain ⟨AB, cB, rfl⟩ := own_form hoB
    have RB := Lib.hid (Rd.of_own hoB)
    have hz6 := hb6.size
    have B36 := Lib.hid (B35.out.trans (hb6.mono (show w3.heap.size ≤ w5.heap.size by omega)))
    have B56 := Lib.hid hb6
    have O56 := Lib.hid (own_below O5.out B36.out)
    clear hoB hb6
    go_wp2_with fail
    refine (eqStepS_any A5 AB c5 cB l.length l rfl w6 (Rd.of_own O56.out) RB.out (by omega)).mono ?_
    rintro e w7 ⟨rfl, hb7⟩
    have hz7 := hb7.size
    have B67 := Lib.hid hb7
    have O57 := Lib.hid (own_below O56.out hb7)
    have B57 := Lib.hid (B56.out.trans (hb7.mono hz6))
    have B47 := Lib.hid (B5.out.trans (B57.out.mono hz5))
    have B27 := Lib.hid (B25.out.trans (B57.out.mono (show w2.heap.size ≤ w5.heap.size by omega)))
    clear hb7
    go_wp2_with fail
    refine (markStepS_own w2.heap.size l.length c5 A5 _ w7 O57.out hsm').mono ?_
    rintro e w8 ⟨rfl, hc8⟩
    have hz8 := hc8.size
    have O67 := Lib.hid (own_below O6.out B47.out)
    have O68 := Lib.hid (own_chg O67.out hc8 (fun g h6 h5 => by have h1 := (O5.out.lt g h5).2; have h2 := (O6.out.lt g h6).1; omega))
    have B78 := Lib.hid (hc8.below (B := w2.heap.size) (by omega) (fun g h5 => (O5.out.lt g h5).1))
    have B28 := Lib.hid (B27.out.trans B78.out)
    have R48 := Lib.hid ((R4.out.below B28.out).more (show w2.heap.size ≤ w8.heap.size by omega))
    have BW8 := Lib.hid (B2.out.trans (B28.out.mono hz2))
    clear hc8
    go_wp2_with fail
    refine (eqToldS_any A6 A4 c6 c4 l.length (doTold fresh l) (doTold_length l fresh) w8 (Rd.of_own O68.out) R48.out (by omega)).mono ?_
    rintro e w9 ⟨rfl, hb9⟩
    have hz9 := hb9.size
    have O69 := Lib.hid (own_below O68.out hb9)
    have B29 := Lib.hid (B28.out.trans (hb9.mono (show w2.heap.size ≤ w8.heap.size by omega)))
    have BW9 := Lib.hid (BW8.out.trans (hb9.mono (show w.heap.size ≤ w8.heap.size by omega)))
    clear hb9
    go_wp2_with fail
    refine (markToldS_own w3.heap.size l.length c6 A6 _ w9 O69.out hsm').mono ?_
    rintro e w10 ⟨rfl, ho10, hc10⟩
    have hz10 := hc10.size
    have O610 := Lib.hid ho10
    have B210 := Lib.hid (B29.out.trans (hc10.below (B := w2.heap.size) (by omega) (fun g h => by have := (O69.out.lt g h).1; omega)))
    have BW10 := Lib.hid (BW9.out.trans (hc10.below (B := w.heap.size) (by omega) (fun g h => by have := (O69.out.lt g h).1; omega)))
    clear ho10 hc10
    go_wp2_with fail
    refine (heldToldS_any A6 c6 l.length _ w10 (Rd.of_own O610.out) hsm').mono ?_
    rintro e w' ⟨rfl, rfl⟩
    go_wp2_with fail
    refine (toStepS_any A cap l w10 ((HR.out.below BW10.out).more BW10.out.size) hsm').mono ?_
    rintro e w11 ⟨vC, rfl, hoC, hb11⟩
    obtain ⟨AC, cC, rfl⟩ := own_form hoC
    have RC := Lib.hid (Rd.of_own hoC)
    have B11 := Lib.hid hb11
    have hz11 := hb11.size
    clear hoC hb11
    go_wp2_with fail
    refine (do_any AC cC l w11 RC.out (by omega) (wf_pairs HW.out)).mono ?_
    rintro e w12 ⟨v10, rfl, ho12, hb12⟩
    obtain ⟨A10, c10, rfl⟩ := own_form ho12
    have R12 := Lib.hid (Rd.of_own ho12)
    have B12 := Lib.hid (B11.out.trans (hb12.mono hz11))
    have hz12 := hb12.size
    have R412 := Lib.hid ((R4.out.below (B210.out.trans (B12.out.mono (show w2.heap.size ≤ w10.heap.size by omega)))).more (show w2.heap.size ≤ w12.heap.size by omega))
    clear ho12 hb12
    go_wp2_with fail
    refine (eqToldS_any A10 A4 c10 c4 l.length (doTold fresh l) (doTold_length l fresh) w12 R12.out R412.out (by omega)).mono ?_
    rintro e w13 ⟨rfl, hb13⟩
    have B13 := Lib.hid (B12.out.trans (hb13.mono (show w10.heap.size ≤ w12.heap.size by omega)))
    have O613 := Lib.hid (own_below O610.out B13.out)
    clear hb13
    go_wp2_with fail
    refine (heldToldS_any A6 c6 l.length _ w13 (Rd.of_own O613.out) hsm').mono ?_
    rintro e w' ⟨rfl, rfl⟩
    go_wp2_with fail
    go_ret
    exact ⟨rfl, BW10.out.trans (B13.out.mono (by omega))⟩
  · rw [if_neg hsm] at HS
    go_enter Try.func9, Try.ntmps9
    go_wp2_with fail
    refine HS.out.mono ?_
    rintro e w' ⟨rfl, rfl⟩
    go_wp2_with fail
    go_ret
    exact ⟨rfl, Below.refl _ _⟩

set_option maxRecDepth 100000 in
theorem exact_lifted (os : Os) (started : os.Started) (H : Type) (enc : TypeId × Value → H) :
    ReturnsInHanded {} Try.checked os 9 .any (Rows.fnExactDoSpec.pre6 enc Try.prog Try.f9 Rows.fnExactDoRow.domain false) (Rows.fnExactDoSpec.post enc Try.prog Try.f9 false true false false) := by
  refine returnsInHanded_of_change_sized (C := Try.checked) own started (by kernel_rfl) Try.func9
    (ChangeSpec.witness6 (enc := enc) (C := Try.checked) false ⟨#[], #[.slice none 0 0], []⟩ 8 (by kernel_rfl) (by kernel_rfl) (by kernel_rfl) (by kernel_rfl)) ?_
  intro W base args ds gs before hval0 hW hcnd hsz0 _
  have hsz : (DataW.weightsEach Try.prog (Try.f9.params.toList ++ Rows.fnExactDoSpec.plain.varTypes Try.prog) (ds ++ gs)).all (· ≤ reachBytes) = true := hsz0
  have hval : ∀ (j : Nat) t v, Try.f9.params[j]? = some t → args[j]? = some v → Value.okWide Try.prog W .any base t v := hval0
  have hW' := hW
  obtain ⟨p, q, hA0, hV, rfl, hfz, hnd⟩ := hW
  have hA : DataW.TrodAll enc Try.prog W 0 (fun _ => true) true Try.f9.params.toList args.toList ds p := hA0
  rw [Try.params9] at hA hval hsz
  obtain ⟨v0, vs0, d0, ds0, p0, q0, hargs, rfl, rfl, h0, r0⟩ := trodAll_cons hA
  obtain ⟨rfl, rfl, rfl⟩ := trodAll_nil r0
  obtain rfl : args = #[v0] := by cases args; simp_all
  obtain ⟨rfl, rfl⟩ := trodVars_none hV
  have k0 := h0
  have lt0 : ∀ x ∈ p0, x.block < W.heap.size := by obtain ⟨m, hm⟩ := k0; exact DataW.trod_lt m _ _ _ hm
  obtain ⟨a0, len0, cap0, rfl⟩ := okWide_slice Try.underlying36 (hval 0 36 v0 rfl rfl)
  obtain ⟨l0, hll0, hrd0, hwf0, hx0⟩ : ∃ l : List Step, l.length = len0 ∧ Rd W W.heap.size 4 a0 len0 (stepRow l) ∧ (∀ s ∈ l, StepWf s) ∧ ((d0 = .nil ∧ len0 = 0) ∨ ∃ elems sp, d0 = .slice elems sp ∧ elems.length = len0) := by
    obtain ⟨fuel, hf⟩ := h0
    exact open_steps (x := (d0, p0)) Try.underlying36 Try.underlying75 (by kernel_rfl) cells75 rfl rfl rfl rfl hf
  have hlen0 : l0.length * 32 ≤ 140737488351232 := by
    rcases hx0 with ⟨_, h⟩ | ⟨elems, sp, rfl, h⟩
    · omega
    · have := sized_slice hsz (j := 0) (t := 36) (e := 75) rfl rfl Try.underlying36
      rw [bytes75] at this
      simp only [reachBytes] at this
      omega
  subst hll0
  clear hA0 hval0 hsz0
  refine (exact_walk a0 cap0 l0 W hrd0 hlen0 hwf0).mono fun e W' ⟨he, bel⟩ => ?_
  subst he
  exact ⟨_, rfl, _, _, _, [], _, [], hW', trodAll_mk1 (shut_bool Try.underlying4 _), (trodAll_cons_mk (Below.trod laidOut (by kernel_rfl) (of_decide_eq_true (by kernel_rfl)) k0 bel lt0) trodAll_mk0), rfl, bel.frame _, fun h => by cases h⟩

/-- The statement. -/
theorem exact_holds : Rows.FnExactDoSaid :=
  OpenClaim.holds_of_wide 9 Try.f9 rfl rfl rfl rfl rfl rfl rfl ⟨rfl, rfl, rfl, rfl, rfl⟩ rfl rfl rfl rfl rfl (by kernel_rfl) Try.func9 (by kernel_rfl)
    (of_decide_eq_true (by kernel_rfl)) (by unfold Func.isWrapper; first | (rw [if_pos (by decide +kernel)]; kernel_rfl) | (rw [if_neg (by decide +kernel)]; exact ⟨rfl, rfl⟩))
    (fun os started H enc _ => exact_lifted os started H enc)

end Go.Proofs.Ytpkippcbocmmkaa
