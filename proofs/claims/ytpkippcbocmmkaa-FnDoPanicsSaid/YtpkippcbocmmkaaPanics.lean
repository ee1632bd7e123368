/-
  The law FnDoPanics: a call panics just if it runs its function and this does, with its number: for every list of steps the law returns true, and each argument reads as it read before.
-/
import Derived.Test.YtpkippcbocmmkaaOpen
namespace Go.Proofs.Ytpkippcbocmmkaa
open Go.ChangeShapes Go.WideShapes Go.ChangeAt Go.RowKit Go.Deep

set_option maxRecDepth 100000 in
set_option maxHeartbeats 4000000 in
theorem panics_walk (A : Option Addr) (cap : Nat) (l : List Step) (w : World) (hr : Rd w w.heap.size 4 A l.length (stepRow l)) (hlen : l.length * 32 ≤ 140737488355328) (hwf : ∀ s ∈ l, StepWf s) :
    Calls Try.prog 8 #[.slice A l.length cap] w fun e w' => e = .returned (.bool true) ∧ Below w.heap.size w w' := by
  have hdo := do_any A cap l w hr hlen (fun s hs => ⟨(hwf s hs).1, (hwf s hs).2.1⟩)
  have HD := Lib.hid hdo
  have HR := Lib.hid hr
  clear hdo hr hwf
  have hnot : ∀ (x : Bool) (w : World), (Op.unary .not (.bool x)).run Try.prog w = .ok (.bool (!x)) w := fun _ _ => rfl
  go_enter Try.func8, Try.ntmps8
  go_wp2_with fail
  refine HD.out.mono ?_
  clear HD
  rintro e w1 ⟨v, rfl, hown, hbel⟩
  obtain ⟨A2, c2, rfl⟩ := own_form hown
  have HT := Lib.hid (Rd.of_own hown)
  have HB := Lib.hid hbel
  have HR1 := Lib.hid (HR.out.below hbel)
  clear hown hbel HR
  go_wp2_with fail
  go_loopw [4] (fun i wr => ∃ k : Nat, k ≤ l.length ∧ i = .int .i64 k ∧ ∃ m, wr = w1.drewN m) (fun i _ => l.length - (intOf i).toNat)
  case atStart => exact ⟨0, Nat.zero_le _, rfl, 0, rfl⟩
  case round =>
    obtain ⟨k, hk, rfl, m, rfl⟩ := hrel
    by_cases hlt : k < l.length
    · have hlt' : k < (doTold fresh l).length := by rw [doTold_length]; exact hlt
      obtain ⟨b, off, rfl, hb, s0, s1, s2, s3⟩ := HR1.out.step hlt rfl
      obtain ⟨b', off', rfl, hb', t0, t1, t2, t3⟩ := HT.out.told hlt' (doTold_length l fresh)
      rw [doTold_get l fresh k hlt hlt'] at t0 t1 t2 t3
      generalize l[k] = s at *
      rcases told_cases (doUsed fresh (l.take k)) s with ⟨q1, q2, q3⟩ | ⟨q1, q4, q2, q3⟩ | ⟨q1, q4, q2, q3⟩
      · rw [q1] at t0
        rw [q2] at t2
        rw [q3] at t3
        clear q1 q2 q3 hlt'
        go_wp2_with fail
        go_quiet (fail)
        go_wp2
        go_roundw
        case rel => exact ⟨k + 1, by omega, by go_num, m + nq, rfl⟩
        case measure => simp [intOf]; omega
      · rw [q1] at t0
        rw [q2] at t2
        rw [q3] at t3
        rw [q4] at s2
        clear q1 q2 q3 q4 hlt'
        go_wp2_with fail
        go_quiet (fail)
        go_wp2
        go_roundw
        case rel => exact ⟨k + 1, by omega, by go_num, m + nq, rfl⟩
        case measure => simp [intOf]; omega
      · rw [q1] at t0
        rw [q2] at t2
        rw [q3] at t3
        rw [q4] at s2
        clear q1 q2 q3 q4 hlt'
        go_wp2_with fail
        go_quiet (fail)
        go_wp2
        go_roundw
        case rel => exact ⟨k + 1, by omega, by go_num, m + nq, rfl⟩
        case measure => simp [intOf]; omega
    · go_wp2_with fail
      go_ret
      exact ⟨rfl, below_drewN HB.out m⟩

set_option maxRecDepth 100000 in
theorem panics_lifted (os : Os) (started : os.Started) (H : Type) (enc : TypeId × Value → H) :
    ReturnsInHanded {} Try.checked os 8 .any (Rows.fnDoPanicsSpec.pre6 enc Try.prog Try.f8 Rows.fnDoPanicsRow.domain false) (Rows.fnDoPanicsSpec.post enc Try.prog Try.f8 false true false false) := by
  refine returnsInHanded_of_change_sized (C := Try.checked) own started (by kernel_rfl) Try.func8
    (ChangeSpec.witness6 (enc := enc) (C := Try.checked) false ⟨#[], #[.slice none 0 0], []⟩ 8 (by kernel_rfl) (by kernel_rfl) (by kernel_rfl) (by kernel_rfl)) ?_
  intro W base args ds gs before hval0 hW hcnd hsz0 _
  have hval : ∀ (j : Nat) t v, Try.f8.params[j]? = some t → args[j]? = some v → Value.okWide Try.prog W .any base t v := hval0
  have hsz : (DataW.weightsEach Try.prog (Try.f8.params.toList ++ Rows.fnDoPanicsSpec.plain.varTypes Try.prog) (ds ++ gs)).all (· ≤ reachBytes) = true := hsz0
  have hW' := hW
  obtain ⟨p, q, hA0, hV, rfl, hfz, hnd⟩ := hW
  have hA : DataW.TrodAll enc Try.prog W 0 (fun _ => true) true Try.f8.params.toList args.toList ds p := hA0
  rw [Try.params8] at hA hval hsz
  obtain ⟨v0, vs0, d0, ds0, p0, q0, hargs, rfl, rfl, h0, r0⟩ := trodAll_cons hA
  obtain ⟨rfl, rfl, rfl⟩ := trodAll_nil r0
  obtain rfl : args = #[v0] := by cases args; simp_all
  obtain ⟨rfl, rfl⟩ := trodVars_none hV
  obtain ⟨a0, len0, cap0, rfl⟩ := okWide_slice Try.underlying22 (hval 0 22 v0 rfl rfl)
  have k0 := h0
  have lt0 : ∀ x ∈ p0, x.block < W.heap.size := by obtain ⟨m, hm⟩ := k0; exact DataW.trod_lt m _ _ _ hm
  obtain ⟨l, hll, hrd, hwf, hx⟩ : ∃ l : List Step, l.length = len0 ∧ Rd W W.heap.size 4 a0 len0 (stepRow l) ∧ (∀ s ∈ l, StepWf s) ∧ ((d0 = .nil ∧ len0 = 0) ∨ ∃ elems sp, d0 = .slice elems sp ∧ elems.length = len0) := by
    obtain ⟨fuel, hf⟩ := h0
    exact open_steps (x := (d0, p0)) Try.underlying22 Try.underlying30 (by kernel_rfl) cells30 rfl rfl rfl rfl hf
  have hlen : l.length * 32 ≤ 140737488355328 := by
    rcases hx with ⟨_, h⟩ | ⟨elems, sp, rfl, h⟩
    · omega
    · have := sized_slice hsz (j := 0) (t := 22) (e := 30) rfl rfl Try.underlying22
      rw [bytes30] at this
      simp only [reachBytes] at this
      omega
  subst hll
  clear hA0 hval0 hsz0
  refine (panics_walk a0 cap0 l W hrd hlen hwf).mono fun e W' ⟨he, bel⟩ => ?_
  subst he
  exact ⟨_, rfl, _, _, _, [], _, [], hW', trodAll_mk1 (shut_bool Try.underlying4 _), (trodAll_cons_mk (Below.trod laidOut (by kernel_rfl) (of_decide_eq_true (by kernel_rfl)) k0 bel lt0) trodAll_mk0), rfl, bel.frame _, fun h => by cases h⟩

/-- The statement. -/
theorem panics_holds : Rows.FnDoPanicsSaid :=
  OpenClaim.holds_of_wide 8 Try.f8 rfl rfl rfl rfl rfl rfl rfl ⟨rfl, rfl, rfl, rfl, rfl⟩ rfl rfl rfl rfl rfl (by kernel_rfl) Try.func8 (by kernel_rfl)
    (of_decide_eq_true (by kernel_rfl)) (by unfold Func.isWrapper; first | (rw [if_pos (by decide +kernel)]; kernel_rfl) | (rw [if_neg (by decide +kernel)]; exact ⟨rfl, rfl⟩))
    (fun os started H enc _ => panics_lifted os started H enc)

end Go.Proofs.Ytpkippcbocmmkaa
