/-
  The law FnDoFront, where what it reads is of bulk at most 1048576: what is seen of calls does not depend on those behind them: for all lists of steps the law returns true, and each argument reads as it read before.
-/
import Derived.Test.YtpkippcbocmmkaaApp
import Derived.Test.YtpkippcbocmmkaaBulk
import Derived.Deep.RegionHeld3
import Derived.IntWalk
import Derived.Deep.CondSized
namespace Go.Proofs.Ytpkippcbocmmkaa
open Go.ChangeShapes Go.WideShapes Go.ChangeAt Go.RowKit Go.Deep

set_option maxRecDepth 100000 in
set_option maxHeartbeats 1000000 in
theorem front_walk (A : Option Addr) (cap : Nat) (l : List Step) (A' : Option Addr) (cap' : Nat) (l' : List Step) (w : World) (hr : Rd w w.heap.size 4 A l.length (stepRow l)) (hlen : l.length ≤ 1048576) (hwf : ∀ s ∈ l, StepWf s)
    (hr' : Rd w w.heap.size 4 A' l'.length (stepRow l')) (hlen' : l'.length ≤ 1048576) (hwf' : ∀ s ∈ l', StepWf s) :
    Calls Try.prog 5 #[.slice A l.length cap, .slice A' l'.length cap'] w fun e w' => e = .returned (.bool true) ∧ Below w.heap.size w w' := by
  obtain ⟨i0, hi0, hz0, hz1, hz2⟩ := info_parts info30
  have HR := Lib.hid hr
  have HW := Lib.hid hwf
  have HR' := Lib.hid hr'
  have HW' := Lib.hid hwf'
  clear hr hwf hr' hwf'
  have h0 : (w.alloc (.cells #[] 30)).ownsRow w.heap.size 30 4 (.slice (some ⟨w.heap.size, 0, none⟩) 0 0) 0 [] := World.ownsRow_made w #[] 0 (Nat.le_refl _) (by simp [maxLen]) rfl
  have H0 := Lib.hid h0
  have hb0 : Below w.heap.size w (w.alloc (.cells #[] 30)) := (Below.refl _ w).alloc (Nat.le_refl _) _
  have B0 := Lib.hid hb0
  clear h0 hb0
  go_enter Try.func5, Try.ntmps5
  go_wp2_with (first
    | (at_builtin; have _t := H0; refine wpList_append_rd rfl (.tmp 6) (.tmp 7) 22 rfl w.heap.size 30 i0 _ 4 32 Try.underlying22 hi0 hz0 hz1 hz2 rfl (by decide) _ _ _ rfl H0.out w.heap.size A l.length cap (stepRow l) rfl (HR.out.below B0.out) (stepRow_one l) (by unfold maxLen; omega) (by omega) (by simp) ?_; intro v1 w1 hown1 hg1 _; have B1 := Lib.hid (below_own B0.out H0.out hg1 (by simp)); simp only [Nat.zero_add, List.nil_append] at hown1; have H1 := Lib.hid hown1; clear H0 hown1 hg1)
    | (at_builtin; refine wpList_append_rd rfl (.tmp 8) (.tmp 9) 22 rfl w.heap.size 30 i0 _ 4 32 Try.underlying22 hi0 hz0 hz1 hz2 rfl (by decide) v1 l.length (stepRow l) rfl H1.out w.heap.size A' l'.length cap' (stepRow l') rfl (HR'.out.below B1.out) (stepRow_one l') (by unfold maxLen; omega) (by omega) B1.out.size ?_; intro v2 w2 hown2 hg2 _; have B2 := Lib.hid (below_own B1.out H1.out hg2 B1.out.size); rw [← stepRow_append] at hown2; have H2 := Lib.hid hown2; clear hown2 hg2))
  obtain ⟨A2, c2, rfl⟩ := own_form H2.out
  refine (do_n A2 c2 (l.length + l'.length) (l ++ l') (by simp) w2 (Rd.of_own H2.out) (by omega) (fun s hs => (List.mem_append.1 hs).elim (HW.out s) (HW'.out s))).mono ?_
  rintro e w3 ⟨v, rfl, hown3, hb3⟩
  obtain ⟨A3, c3, rfl, hc3, hm3⟩ := own_cap hown3
  have B3 := Lib.hid (B2.out.trans (hb3.mono B2.out.size))
  have hR3 := Rd.of_own hown3
  rw [doTold_append, toldRow_append] at hR3
  have RF := Lib.hid (hR3.front (by rw [toldRow_length, doTold_length]))
  have hdo : ∀ m, Calls Try.prog 18 #[.slice A l.length cap] (w3.drewN m) fun e w' => ∃ v, e = .returned v ∧ w'.ownsRow w3.heap.size 26 4 v l.length (toldRow (doTold fresh l)) ∧ Below w3.heap.size w3 w' := fun m =>
    (do_n A cap l.length l rfl (w3.drewN m) ((HR.out.below B3.out).more B3.out.size) (by omega) HW.out).mono fun e w' ⟨v, h1, h2, h3⟩ => ⟨v, h1, h2, ⟨h3.os, h3.tape, h3.output, h3.size, h3.block⟩⟩
  have HD := Lib.hid hdo
  clear hdo hown3 hb3 hR3
  have hs1 : (0 : Int) ≤ (l.length : Int) := Int.natCast_nonneg _
  have hs2 : (l.length : Int) ≤ (c3 : Int) := by omega
  have hsum : IntKind.i64.wrap ((l.length : Int) + (l'.length : Int)) = (l.length : Int) + (l'.length : Int) := IntWalk.i64_in _ (by omega)
  go_wp2_with fail
  go_region_held3 (fun _ => True) (trivial) (first | (go_at_call 18; refine (HD.out _).mono ?_; rintro e w4 ⟨v4, rfl, hown4, hb4⟩; obtain ⟨A4, c4, rfl⟩ := own_form hown4; have O4 := Lib.hid hown4; have B4 := Lib.hid hb4; clear hown4 hb4) | (go_at_call 19; refine (same_after (doTold_length l fresh) RF.out O4.out B4.out (by omega)).mono ?_; rintro e w5 ⟨rfl, hb5⟩; have B5 := Lib.hid hb5; clear hb5))
  all_goals go_wp2
  all_goals go_ret
  all_goals exact ⟨rfl, B3.out.trans (B5.out.mono B3.out.size)⟩

set_option maxRecDepth 100000 in
theorem front_lifted (os : Os) (started : os.Started) (H : Type) (enc : TypeId × Value → H) (F : Stop.Interp) :
    ReturnsInHanded {} Try.checked os 5 .any ((Rows.OpenSpec.upto Rows.fnDoFrontSpec).pre6 enc Try.prog Try.f5 Rows.fnDoFrontUptoRow.domain false) (((Rows.OpenSpec.upto Rows.fnDoFrontSpec).at F).post enc Try.prog Try.f5 false true false false) := by
  refine returnsInHanded_of_cond_sized (C := Try.checked) (s := Rows.OpenSpec.upto Rows.fnDoFrontSpec) (k := Rows.uptoSmall) rfl own started (by kernel_rfl) Try.func5
    (OpenSpec.witness (enc := enc) (C := Try.checked) (s := Rows.OpenSpec.upto Rows.fnDoFrontSpec) (k := Rows.uptoSmall) rfl false ⟨#[], #[.slice none 0 0, .slice none 0 0], []⟩ 8 (by kernel_rfl) (by kernel_rfl) (by kernel_rfl) (x := ([.nil, .nil], [], [])) (by kernel_rfl) (by kernel_rfl) (by kernel_rfl)) ?_
  intro W base args ds gs before hval0 hW hcnd hk hsz0 _
  have hsz : (DataW.weightsEach Try.prog (Try.f5.params.toList ++ (Rows.OpenSpec.upto Rows.fnDoFrontSpec).bare.plain.varTypes Try.prog) (ds ++ gs)).all (· ≤ reachBytes) = true := hsz0
  have hval : ∀ (j : Nat) t v, Try.f5.params[j]? = some t → args[j]? = some v → Value.okWide Try.prog W .any base t v := hval0
  have hW' := hW
  obtain ⟨p, q, hA0, hV, rfl, hfz, hnd⟩ := hW
  have hA : DataW.TrodAll enc Try.prog W 0 (fun _ => true) true Try.f5.params.toList args.toList ds p := hA0
  rw [Try.params5] at hA hval hsz
  obtain ⟨v0, vs0, d0, ds0, p0, q0, hargs, rfl, rfl, h0, r0⟩ := trodAll_cons hA
  obtain ⟨v1, vs1, d1, ds1, p1, q1, rfl, rfl, rfl, h1, r1⟩ := trodAll_cons r0
  obtain ⟨rfl, rfl, rfl⟩ := trodAll_nil r1
  obtain rfl : args = #[v0, v1] := by cases args; simp_all
  obtain ⟨rfl, rfl⟩ := trodVars_none hV
  have k0 := h0
  have lt0 : ∀ x ∈ p0, x.block < W.heap.size := by obtain ⟨m, hm⟩ := k0; exact DataW.trod_lt m _ _ _ hm
  have k1 := h1
  have lt1 : ∀ x ∈ p1, x.block < W.heap.size := by obtain ⟨m, hm⟩ := k1; exact DataW.trod_lt m _ _ _ hm
  obtain ⟨a0, len0, cap0, rfl⟩ := okWide_slice Try.underlying22 (hval 0 22 v0 rfl rfl)
  obtain ⟨l0, hll0, hrd0, hwf0, hx0⟩ : ∃ l : List Step, l.length = len0 ∧ Rd W W.heap.size 4 a0 len0 (stepRow l) ∧ (∀ s ∈ l, StepWf s) ∧ ((d0 = .nil ∧ len0 = 0) ∨ ∃ elems sp, d0 = .slice elems sp ∧ elems.length = len0) := by
    obtain ⟨fuel, hf⟩ := h0
    exact open_steps (x := (d0, p0)) Try.underlying22 Try.underlying30 (by kernel_rfl) cells30 rfl rfl rfl rfl hf
  have hlen0 : l0.length ≤ 1048576 := by
    rcases hx0 with ⟨_, h⟩ | ⟨elems, sp, rfl, h⟩
    · omega
    · have h1 := upto_slice (elems := elems) (sp := sp) (by simp) hk
      omega
  obtain ⟨a1, len1, cap1, rfl⟩ := okWide_slice Try.underlying22 (hval 1 22 v1 rfl rfl)
  obtain ⟨l1, hll1, hrd1, hwf1, hx1⟩ : ∃ l : List Step, l.length = len1 ∧ Rd W W.heap.size 4 a1 len1 (stepRow l) ∧ (∀ s ∈ l, StepWf s) ∧ ((d1 = .nil ∧ len1 = 0) ∨ ∃ elems sp, d1 = .slice elems sp ∧ elems.length = len1) := by
    obtain ⟨fuel, hf⟩ := h1
    exact open_steps (x := (d1, p1)) Try.underlying22 Try.underlying30 (by kernel_rfl) cells30 rfl rfl rfl rfl hf
  have hlen1 : l1.length ≤ 1048576 := by
    rcases hx1 with ⟨_, h⟩ | ⟨elems, sp, rfl, h⟩
    · omega
    · have h1 := upto_slice (elems := elems) (sp := sp) (by simp) hk
      omega
  subst hll0
  subst hll1
  clear hA0 hval0 hsz0
  refine (front_walk a0 cap0 l0 a1 cap1 l1 W hrd0 hlen0 hwf0 hrd1 hlen1 hwf1).mono fun e W' ⟨he, bel⟩ => ?_
  subst he
  exact ⟨_, rfl, _, _, _, [], _, [], hW', trodAll_mk1 (shut_bool Try.underlying4 _), (trodAll_cons_mk (Below.trod laidOut (by kernel_rfl) (of_decide_eq_true (by kernel_rfl)) k0 bel lt0) (trodAll_cons_mk (Below.trod laidOut (by kernel_rfl) (of_decide_eq_true (by kernel_rfl)) k1 bel lt1) trodAll_mk0)), rfl, bel.frame _, fun h => by cases h⟩

/-- The statement. -/
theorem front_holds : Rows.FnDoFrontUptoSaid :=
  OpenClaim.holds_of_cond 5 Try.f5 rfl rfl rfl rfl rfl rfl rfl ⟨rfl, rfl, rfl, rfl, rfl⟩ rfl rfl rfl rfl rfl (by kernel_rfl) Try.func5 (by kernel_rfl)
    (of_decide_eq_true (by kernel_rfl)) (by unfold Func.isWrapper; first | (rw [if_pos (by decide +kernel)]; kernel_rfl) | (rw [if_neg (by decide +kernel)]; exact ⟨rfl, rfl⟩))
    (fun os started H enc _ F => front_lifted os started H enc F)

end Go.Proofs.Ytpkippcbocmmkaa
