/-
  The law FnDoOnce: each instance runs at most one function, and the first call of an instance that no inner call used runs its own: for every list of steps the law returns true, and each argument reads as it read before.
-/
import Derived.Test.YtpkippcbocmmkaaOpen
namespace Go.Proofs.Ytpkippcbocmmkaa
open Go.ChangeShapes Go.WideShapes Go.ChangeAt Go.RowKit Go.Deep

theorem info3 : (Try.prog.info? 3).map (fun i => (i.zero, i.size, i.bytes)) = some (some (.int .i64 0), 1, 8) := by kernel_rfl

theorem quiet_left {P : Program} {f : FuncId} {args : Array Value} {w : World} {n : Nat} {v : Value}
    (h : Calls P f args (w.drewN n) fun e w' => e = .returned v ∧ w.drewN n = w') : Calls P f args (w.drewN n) fun e w'' => e = .returned v ∧ ∃ m, w'' = w.drewN m :=
  h.mono fun _ _ ⟨he, hm⟩ => ⟨he, n, hm.symm⟩

/-- The list of instances that the law keeps, U, is the plain law's. -/
def Keeps (U : List Int) (used : Int → Bool) : Prop := ∀ n, hasB U n = used n

theorem keeps_used {U : List Int} {used : Int → Bool} {s : Step} (h : Keeps U used) (hu : used s.once = true) : Keeps (U ++ [s.once]) (stepUsed used s) := by
  intro n
  have e : stepUsed used s = used := by simp [stepUsed, hu]
  rw [e, hasB_append, h n]
  by_cases hn : s.once = n
  · subst hn; simp [hu]
  · simp [hasB, hn]

theorem keeps_ran {U : List Int} {used : Int → Bool} {s : Step} (h : Keeps U used) (hu : used s.once = false) (hi : (s.inner != s.once && !used s.inner) = false) : Keeps (U ++ [s.once]) (stepUsed used s) := by
  intro n
  have e : stepUsed used s = mark (mark used s.once) s.inner := by simp [stepUsed, hu]
  rw [e, hasB_append, h n]
  unfold mark
  by_cases hn : n = s.once
  · subst hn; simp [hasB]
  · have hn' : ¬ s.once = n := fun e => hn e.symm
    by_cases hm : n = s.inner
    · subst hm
      simp [hn] at hi
      simp [hasB, hi]
    · simp [hasB, beq_eq_false_iff_ne.2 hn, beq_eq_false_iff_ne.2 hn', beq_eq_false_iff_ne.2 hm]

theorem keeps_inner {U : List Int} {used : Int → Bool} {s : Step} (h : Keeps U used) (hu : used s.once = false) : Keeps ((U ++ [s.once]) ++ [s.inner]) (stepUsed used s) := by
  intro n
  have e : stepUsed used s = mark (mark used s.once) s.inner := by simp [stepUsed, hu]
  rw [e, hasB_append, hasB_append, h n]
  unfold mark
  by_cases hn : n = s.once <;> by_cases hm : n = s.inner
  · simp [hasB, hn]
  · simp [hasB, hn]
  · simp [hasB, hm]
  · have hn' : ¬ s.once = n := fun e => hn e.symm
    have hm' : ¬ s.inner = n := fun e => hm e.symm
    simp [hasB, beq_eq_false_iff_ne.2 hn, beq_eq_false_iff_ne.2 hn', beq_eq_false_iff_ne.2 hm, beq_eq_false_iff_ne.2 hm']

/-- Behind k rounds of the law's loop. -/
def OnceL (w1 : World) (l : List Step) (k : Nat) (v : Value) (wr : World) : Prop :=
  ∃ U : List Int, U.length ≤ 2 * k ∧ wr.ownsRow w1.heap.size 3 1 v U.length (intRow U) ∧ Keeps U (doUsed fresh (l.take k)) ∧ Below w1.heap.size w1 wr

theorem OnceL_next {w1 wr w2 : World} {l : List Step} {k : Nat} {v v' : Value} {U U' : List Int} {n : Nat} {o : Obj} (hU' : U'.length ≤ 2 * (k + 1)) (hown : wr.ownsRow w1.heap.size 3 1 v U.length (intRow U)) (hbel : Below w1.heap.size w1 wr)
    (hown2 : w2.ownsRow w1.heap.size 3 1 v' U'.length (intRow U')) (hg : ((wr.drewN n).alloc o).grownBy w2 v.ownBlock) (hk : Keeps U' (doUsed fresh (l.take (k + 1)))) : OnceL w1 l (k + 1) v' w2 :=
  ⟨U', hU', hown2, hk, ((below_drewN hbel n).alloc hbel.size o).grown hg (Nat.le_trans hbel.size (by simp)) (fun j e => (hown.lt j e).1)⟩

theorem below_app {w1 wr w2 : World} {v : Value} {U : List Int} {n : Nat} {o : Obj} (hown : wr.ownsRow w1.heap.size 3 1 v U.length (intRow U)) (hbel : Below w1.heap.size w1 wr)
    (hg : ((wr.drewN n).alloc o).grownBy w2 v.ownBlock) : Below w1.heap.size w1 w2 :=
  ((below_drewN hbel n).alloc hbel.size o).grown hg (Nat.le_trans hbel.size (by simp)) (fun j e => (hown.lt j e).1)

theorem used_next (l : List Step) (k : Nat) (h : k < l.length) : doUsed fresh (l.take (k + 1)) = stepUsed (doUsed fresh (l.take k)) l[k] := by
  rw [List.take_succ_eq_append_getElem h, doUsed_append]
  rfl

theorem int_one (x : Int) : ∀ u ∈ [Value.int .i64 x], u.oneCell' = true := by
  intro u hu
  simp only [List.mem_cons, List.not_mem_nil, or_false] at hu
  subst hu
  rfl

theorem own_snoc {w : World} {base : Nat} {v : Value} {U : List Int} {x : Int} (h : w.ownsRow base 3 1 v (U.length + 1) (intRow U ++ [.int .i64 x])) : w.ownsRow base 3 1 v (U ++ [x]).length (intRow (U ++ [x])) := by
  simpa [intRow] using h

theorem own_len {w : World} {base : Nat} {v : Value} {U : List Int} {x : Int} (h : w.ownsRow base 3 1 v (U ++ [x]).length (intRow (U ++ [x]))) : ∀ m, (w.drewN m).ownsRow base 3 1 v (U.length + 1) (intRow (U ++ [x])) := by
  intro m
  have e : (U ++ [x]).length = U.length + 1 := by simp
  rw [e] at h
  exact h

/-- How the inner call is seen, where the step runs its function. -/
theorem told_inner {used : Int → Bool} {s : Step} (hu : used s.once = false) : (stepTold used s).inner = (s.inner != s.once && !used s.inner) := by simp [stepTold, hu]

set_option maxRecDepth 100000 in
set_option maxHeartbeats 4000000 in
theorem once_walk (A : Option Addr) (cap : Nat) (l : List Step) (w : World) (hr : Rd w w.heap.size 4 A l.length (stepRow l)) (hlen : l.length * 32 ≤ 140737488351232) (hwf : ∀ s ∈ l, StepWf s) :
    Calls Try.prog 7 #[.slice A l.length cap] w fun e w' => e = .returned (.bool true) ∧ Below w.heap.size w w' := by
  have hdo := do_any A cap l w hr (by omega) (fun s hs => ⟨(hwf s hs).1, (hwf s hs).2.1⟩)
  have HD := Lib.hid hdo
  have HR := Lib.hid hr
  clear hdo hr hwf
  have hnot : ∀ (x : Bool) (w : World), (Op.unary .not (.bool x)).run Try.prog w = .ok (.bool (!x)) w := fun _ _ => rfl
  obtain ⟨i0, hi0, hz0, hz1, hz2⟩ := info_parts info3
  go_enter Try.func7, Try.ntmps7
  go_wp2_with fail
  refine HD.out.mono ?_
  clear HD
  rintro e w1 ⟨v, rfl, hown, hbel⟩
  obtain ⟨A2, c2, rfl⟩ := own_form hown
  have HT := Lib.hid (Rd.of_own hown)
  have HB := Lib.hid hbel
  have HR1 := Lib.hid ((HR.out.below hbel).more hbel.size)
  clear hown hbel HR
  go_wp2_with fail
  go_loopw [4, 5] (fun v i wr => ∃ k : Nat, k ≤ l.length ∧ i = .int .i64 k ∧ OnceL w1 l k v wr) (fun _ i _ => l.length - (intOf i).toNat)
  case atStart =>
    exact ⟨0, Nat.zero_le _, rfl, [], by simp, World.ownsRow_made w1 #[] 0 (Nat.le_refl _) (by simp [maxLen]) rfl, fun n => rfl, (Below.refl _ w1).alloc (Nat.le_refl _) _⟩
  case round =>
    obtain ⟨k, hk, rfl, U, hU, hown, hkeep, hbel⟩ := hrel
    obtain ⟨A3, c3, rfl⟩ := own_form hown
    by_cases hlt : k < l.length
    · have hlt' : k < (doTold fresh l).length := by rw [doTold_length]; exact hlt
      obtain ⟨b, off, rfl, hb, s0, s1, s2, s3⟩ := (HR1.out.below hbel).step hlt rfl
      obtain ⟨b', off', rfl, hb', t0, t1, t2, t3⟩ := (HT.out.below hbel).told hlt' (doTold_length l fresh)
      rw [doTold_get l fresh k hlt hlt'] at t0 t1 t2 t3
      have hhas := fun m => quiet_left (n := m) (has_any A3 c3 wr.heap.size U l[k].once (wr.drewN m) (Rd.of_own hown) (by omega))
      rw [hkeep] at hhas
      have HH := Lib.hid hhas
      have HK := Lib.hid hkeep
      have HO := Lib.hid hown
      have HBE := Lib.hid hbel
      clear hhas hkeep hown hbel hlt'
      have hto : ∀ m, (wr.drewN m).ownsRow w1.heap.size 3 1 (.slice A3 U.length c3) U.length (intRow U) := fun _ => HO.out
      have TO := Lib.hid hto
      have hsz := HBE.out.size
      clear hto
      cases hu : doUsed fresh (l.take k) l[k].once
      · have q1 : (stepTold (doUsed fresh (l.take k)) l[k]).ran = true := by simp [stepTold, hu]
        rw [q1] at t0
        rw [hu] at HH
        have HU := Lib.hid hu
        clear hu q1
        go_wp2_with fail
        go_quiet ((go_at_call 20; exact HH.out _))
        go_wp2_with (at_builtin; refine wpList_append_own _ rfl (.tmp 33) (.tmp 39) 34 rfl w1.heap.size 3 i0 _ 1 8 Try.underlying34 hi0 hz0 hz1 hz2 rfl (by decide) _ _ _ rfl ((TO.out nq).alloc _) ⟨wr.heap.size, 0, none⟩ 1 1 [.int .i64 l[k].once] rfl rfl ?c1 ?c2 ?c3 ?c4 ?c5 ?_)
        case c1 => exact new_cells (wr.drewN nq) #[.int .i64 l[k].once] _ _ rfl
        case c2 => exact int_one _
        case c3 => unfold maxLen; omega
        case c4 => omega
        case c5 => exact Nat.le_trans hsz (by simp)
        intro v' w2 hown2 hg2 _
        obtain ⟨A4, c4, rfl⟩ := own_form hown2
        have hb2 := below_app HO.out HBE.out hg2
        have tr : ∀ p : Addr, p.block < w1.heap.size → w2.cell? p = wr.cell? p := fun p hp => (hb2.cell hp).trans (HBE.out.cell hp).symm
        have s0' := (tr ⟨b, off + k * 4, none⟩ hb).trans s0
        have s1' := (tr ⟨b, off + k * 4 + 1, none⟩ hb).trans s1
        have t0' := (tr ⟨b', off' + k * 4, none⟩ hb').trans t0
        have t1' := (tr ⟨b', off' + k * 4 + 1, none⟩ hb').trans t1
        rw [told_inner HU.out] at t1'
        clear s0 s1 s2 s3 t0 t1 t2 t3 tr HH
        have B2 := Lib.hid hb2
        have O2 := Lib.hid (own_snoc hown2)
        have G2 := Lib.hid hg2
        clear hb2 hown2 hg2
        cases hin : (l[k].inner != l[k].once && !doUsed fresh (l.take k) l[k].inner)
        · rw [hin] at t1'
          have HN := Lib.hid (keeps_ran HK.out HU.out hin)
          clear hin
          have R := Lib.hid (OnceL_next (l := l) (k := k) (by simp; omega) HO.out HBE.out O2.out G2.out (by rw [used_next l k hlt]; exact HN.out))
          clear HN
          go_wp2_with fail
          go_roundw
          case rel => exact ⟨k + 1, by omega, by go_num, R.out⟩
          case measure => simp [intOf]; omega
        · rw [hin] at t1'
          have hne : (l[k].inner == l[k].once) = false := by
            simp at hin
            exact beq_eq_false_iff_ne.2 hin.1
          have HN := Lib.hid (keeps_inner HK.out HU.out)
          clear hin
          have TO2 := Lib.hid (own_len O2.out)
          have hsz2 := B2.out.size
          go_wp2_with fail
          go_quiet (fail)
          rename_i nq2
          go_wp2_with (at_builtin; refine wpList_append_own _ rfl (.tmp 65) (.tmp 71) 34 rfl w1.heap.size 3 i0 _ 1 8 Try.underlying34 hi0 hz0 hz1 hz2 rfl (by decide) _ _ _ rfl ((TO2.out _).alloc _) ⟨w2.heap.size, 0, none⟩ 1 1 [.int .i64 l[k].inner] rfl rfl ?d1 ?d2 ?d3 ?d4 ?d5 ?_)
          case d1 => exact new_cells (w2.drewN _) #[.int .i64 l[k].inner] _ _ rfl
          case d2 => exact int_one _
          case d3 => unfold maxLen; omega
          case d4 => omega
          case d5 => exact Nat.le_trans hsz2 (by simp)
          intro v'' w3 hown3 hg3 _
          have e3 : U.length + 1 = (U ++ [l[k].once]).length := by simp
          rw [e3] at hown3
          have R := Lib.hid (OnceL_next (l := l) (k := k) (by simp; omega) O2.out B2.out (own_snoc hown3) hg3 (by rw [used_next l k hlt]; exact HN.out))
          clear HN hown3 hg3 e3
          go_wp2_with fail
          go_roundw
          case rel => exact ⟨k + 1, by omega, by go_num, R.out⟩
          case measure => simp [intOf]; omega
      · have q1 : (stepTold (doUsed fresh (l.take k)) l[k]).ran = false := by simp [stepTold, hu, Told.zero]
        have q2 : (stepTold (doUsed fresh (l.take k)) l[k]).inner = false := by simp [stepTold, hu, Told.zero]
        rw [q1] at t0
        rw [q2] at t1
        rw [hu] at HH
        have HU := Lib.hid hu
        clear hu q1 q2
        go_wp2_with fail
        go_quiet ((go_at_call 20; exact HH.out _))
        go_wp2_with (at_builtin; refine wpList_append_own _ rfl (.tmp 33) (.tmp 39) 34 rfl w1.heap.size 3 i0 _ 1 8 Try.underlying34 hi0 hz0 hz1 hz2 rfl (by decide) _ _ _ rfl ((TO.out nq).alloc _) ⟨wr.heap.size, 0, none⟩ 1 1 [.int .i64 l[k].once] rfl rfl ?f1 ?f2 ?f3 ?f4 ?f5 ?_)
        case f1 => exact new_cells (wr.drewN nq) #[.int .i64 l[k].once] _ _ rfl
        case f2 => exact int_one _
        case f3 => unfold maxLen; omega
        case f4 => omega
        case f5 => exact Nat.le_trans hsz (by simp)
        intro v' w2 hown2 hg2 _
        have hb2 := below_app HO.out HBE.out hg2
        have tr : ∀ p : Addr, p.block < w1.heap.size → w2.cell? p = wr.cell? p := fun p hp => (hb2.cell hp).trans (HBE.out.cell hp).symm
        have t1' := (tr ⟨b', off' + k * 4 + 1, none⟩ hb').trans t1
        have HN := Lib.hid (keeps_used HK.out HU.out)
        have R := Lib.hid (OnceL_next (l := l) (k := k) (by simp; omega) HO.out HBE.out (own_snoc hown2) hg2 (by rw [used_next l k hlt]; exact HN.out))
        clear s0 s1 s2 s3 t0 t1 t2 t3 tr HH hb2 hown2 hg2 HN
        go_wp2_with fail
        go_roundw
        case rel => exact ⟨k + 1, by omega, by go_num, R.out⟩
        case measure => simp [intOf]; omega
    · have HBE := Lib.hid hbel
      clear hown hkeep hbel
      go_wp2_with fail
      go_ret
      exact ⟨rfl, HB.out.trans (HBE.out.mono HB.out.size)⟩

set_option maxRecDepth 100000 in
theorem once_lifted (os : Os) (started : os.Started) (H : Type) (enc : TypeId × Value → H) :
    ReturnsInHanded {} Try.checked os 7 .any (Rows.fnDoOnceSpec.pre6 enc Try.prog Try.f7 Rows.fnDoOnceRow.domain false) (Rows.fnDoOnceSpec.post enc Try.prog Try.f7 false true false false) := by
  refine returnsInHanded_of_change_sized (C := Try.checked) own started (by kernel_rfl) Try.func7
    (ChangeSpec.witness6 (enc := enc) (C := Try.checked) false ⟨#[], #[.slice none 0 0], []⟩ 8 (by kernel_rfl) (by kernel_rfl) (by kernel_rfl) (by kernel_rfl)) ?_
  intro W base args ds gs before hval0 hW hcnd hsz0 _
  have hsz : (DataW.weightsEach Try.prog (Try.f7.params.toList ++ Rows.fnDoOnceSpec.plain.varTypes Try.prog) (ds ++ gs)).all (· ≤ reachBytes) = true := hsz0
  have hval : ∀ (j : Nat) t v, Try.f7.params[j]? = some t → args[j]? = some v → Value.okWide Try.prog W .any base t v := hval0
  have hW' := hW
  obtain ⟨p, q, hA0, hV, rfl, hfz, hnd⟩ := hW
  have hA : DataW.TrodAll enc Try.prog W 0 (fun _ => true) true Try.f7.params.toList args.toList ds p := hA0
  rw [Try.params7] at hA hval hsz
  obtain ⟨v0, vs0, d0, ds0, p0, q0, hargs, rfl, rfl, h0, r0⟩ := trodAll_cons hA
  obtain ⟨rfl, rfl, rfl⟩ := trodAll_nil r0
  obtain rfl : args = #[v0] := by cases args; simp_all
  obtain ⟨rfl, rfl⟩ := trodVars_none hV
  have k0 := h0
  have lt0 : ∀ x ∈ p0, x.block < W.heap.size := by obtain ⟨m, hm⟩ := k0; exact DataW.trod_lt m _ _ _ hm
  obtain ⟨a0, len0, cap0, rfl⟩ := okWide_slice Try.underlying22 (hval 0 22 v0 rfl rfl)
  obtain ⟨l0, hll0, hrd0, hwf0, hx0⟩ : ∃ l : List Step, l.length = len0 ∧ Rd W W.heap.size 4 a0 len0 (stepRow l) ∧ (∀ s ∈ l, StepWf s) ∧ ((d0 = .nil ∧ len0 = 0) ∨ ∃ elems sp, d0 = .slice elems sp ∧ elems.length = len0) := by
    obtain ⟨fuel, hf⟩ := h0
    exact open_steps (x := (d0, p0)) Try.underlying22 Try.underlying30 (by kernel_rfl) cells30 rfl rfl rfl rfl hf
  have hlen0 : l0.length * 32 ≤ 140737488351232 := by
    rcases hx0 with ⟨_, h⟩ | ⟨elems, sp, rfl, h⟩
    · omega
    · have := sized_slice hsz (j := 0) (t := 22) (e := 30) rfl rfl Try.underlying22
      rw [bytes30] at this
      simp only [reachBytes] at this
      omega
  subst hll0
  clear hA0 hval0 hsz0
  refine (once_walk a0 cap0 l0 W hrd0 hlen0 hwf0).mono fun e W' ⟨he, bel⟩ => ?_
  subst he
  exact ⟨_, rfl, _, _, _, [], _, [], hW', trodAll_mk1 (shut_bool Try.underlying4 _), (trodAll_cons_mk (Below.trod laidOut (by kernel_rfl) (of_decide_eq_true (by kernel_rfl)) k0 bel lt0) trodAll_mk0), rfl, bel.frame _, fun h => by cases h⟩

/-- The statement. -/
theorem once_holds : Rows.FnDoOnceSaid :=
  OpenClaim.holds_of_wide 7 Try.f7 rfl rfl rfl rfl rfl rfl rfl ⟨rfl, rfl, rfl, rfl, rfl⟩ rfl rfl rfl rfl rfl (by kernel_rfl) Try.func7 (by kernel_rfl)
    (of_decide_eq_true (by kernel_rfl)) (by unfold Func.isWrapper; first | (rw [if_pos (by decide +kernel)]; kernel_rfl) | (rw [if_neg (by decide +kernel)]; exact ⟨rfl, rfl⟩))
    (fun os started H enc _ => once_lifted os started H enc)

end Go.Proofs.Ytpkippcbocmmkaa
