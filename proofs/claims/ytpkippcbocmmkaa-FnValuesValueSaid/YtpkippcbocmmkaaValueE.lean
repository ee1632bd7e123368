/-
  sync.OnceValue's function, over the action of impl.OnceValue: the action, the function that is handed to Do, the function that OnceValue returns, at its first call and behind it, the closure of impl.OnceValue's round, and impl.run over it.
-/
import Derived.Test.YtpkippcbocmmkaaRedoV
import Derived.Test.YtpkippcbocmmkaaFuncE
import Derived.IntWalk
namespace Go.Proofs.Ytpkippcbocmmkaa
open Go.RowKit Go.Maps

theorem enter48 (args : Array Value) (w : World) : (callFunc 48 args).run Try.prog w = .ok (.enter 48 args) w := by kernel_rfl
theorem enter49 (args : Array Value) (w : World) : (callFunc 49 args).run Try.prog w = .ok (.enter 49 args) w := by kernel_rfl
theorem enter60 (args : Array Value) (w : World) : (callFunc 60 args).run Try.prog w = .ok (.enter 60 args) w := by kernel_rfl

theorem there_back (v : Int) (h : (Lit.int .i64 v).wf = true) : wrap64 (wrap64 (v + 1) - 1) = v := by
  have hv : -9223372036854775808 ≤ v ∧ v ≤ 9223372036854775807 := by
    simp only [Lit.wf, Bool.and_eq_true, decide_eq_true_eq] at h
    have hmin : IntKind.i64.min = -9223372036854775808 := rfl
    have hmax : IntKind.i64.max = 9223372036854775807 := rfl
    omega
  by_cases e : v = 9223372036854775807
  · subst e
    unfold wrap64
    omega
  · rw [IntWalk.wrap64_in (v + 1) (by omega)]
    rw [IntWalk.wrap64_in (v + 1 - 1) (by omega)]
    omega

/-- How a function ends that returns v, or panics with c. -/
def valEnd (p : Bool) (c : Int) (v : Value) : Ending := if p then .panicked [{ v := pan c, recovered := false }] else .returned v

set_option maxRecDepth 100000 in
/-- The action of impl.OnceValue. -/
theorem act_value (br bn ba : Nat) (x : Value) (v : Int) (p : Bool) (c : Int) (w : World) (hv : (Lit.int .i64 v).wf = true) (hr : Blk w br 4 #[x]) (hn : Blk w bn 3 #[.int .i64 0]) (ha : Blk w ba 43 #[.int .i64 v, .bool p, .int .i64 c]) :
    Calls Try.prog 48 #[.pointer (some ⟨br, 0, none⟩), .pointer (some ⟨bn, 0, none⟩), .pointer (some ⟨ba, 0, none⟩)] w fun e w' => e = valEnd p c (.int .i64 v) ∧ w' = (w.setCell ⟨br, 0, none⟩ (.bool true)).setCell ⟨bn, 0, none⟩ (.int .i64 1) := by
  have r0 := hr.c1
  have z0 := hr.frozen 0
  have nra : ¬ br = ba := hr.ne_ ha (by decide)
  have nrn : ¬ br = bn := hr.ne_ hn (by decide)
  have nna : ¬ bn = ba := hn.ne_ ha (by decide)
  have hn1 := hn.far (p := ⟨br, 0, none⟩) (fun e => nrn e.symm) (.bool true)
  have n0 := hn1.c1
  have y0 := hn1.frozen 0
  have hn2 : Blk ((w.setCell ⟨br, 0, none⟩ (.bool true)).setCell ⟨bn, 0, none⟩ (.int .i64 1)) bn 3 #[.int .i64 1] := hn1.set_ 0 _
  have n1 := hn2.c1
  have ha1 := (ha.far (p := ⟨br, 0, none⟩) (fun e => nra e.symm) (.bool true)).far (p := ⟨bn, 0, none⟩) (fun e => nna e.symm) (.int .i64 1)
  obtain ⟨a0, a1, a2⟩ := ha1.c3
  have htb := there_back v hv
  clear hr ha ha1 hn hn1 hn2 hv
  cases p
  · go_enter Try.func48, Try.ntmps48
    go_wp2
    go_ret
    exact ⟨congrArg (fun z => Ending.returned (.int .i64 z)) htb, rfl⟩
  · go_enter Try.func48, Try.ntmps48
    go_wp2
    exact ⟨rfl, rfl, rfl⟩

set_option maxRecDepth 100000 in
set_option maxHeartbeats 1600000 in
/-- The function that is handed to Do. -/
theorem body_value (bd br bn ba : Nat) (x a1 a2 a3 a5 : Value) (v : Int) (p : Bool) (c : Int) (w : World) (hv : (Lit.int .i64 v).wf = true) (hr : Blk w br 4 #[x]) (hn : Blk w bn 3 #[.int .i64 0]) (ha : Blk w ba 43 #[.int .i64 v, .bool p, .int .i64 c])
    (hd : Blk w bd 87 #[.func (.func 48) #[] #[.pointer (some ⟨br, 0, none⟩), .pointer (some ⟨bn, 0, none⟩), .pointer (some ⟨ba, 0, none⟩)], a1, a2, a3, .bool false, a5, .int .i64 0]) :
    Calls Try.prog 60 #[.pointer (some ⟨bd, 0, none⟩)] w fun e w' => e = redoEnd p c ∧ Blk w' br 4 #[.bool true] ∧ Blk w' bn 3 #[.int .i64 1] ∧ Blk w' bd 87 #[.nilFunc, a1, a2, a3, .bool (!p), if p then pan c else .nilIface, .int .i64 (if p then 0 else v)] ∧ Chg (fun k => k = br ∨ k = bn ∨ k = bd) w w' := by
  have hmf : ∀ (fn : Fn) (first cap : Array Value) (w : World), (Instr.makeFunc fn first cap).run Try.prog w = .ok (.func fn first cap) w := fun _ _ _ _ => rfl
  have nrd : br ≠ bd := hr.ne_ hd (by decide)
  have nrn : br ≠ bn := hr.ne_ hn (by decide)
  have nnd : bn ≠ bd := hn.ne_ hd (by decide)
  obtain ⟨c0, c1, c2, c3, c4, c5, c6⟩ := hd.c7
  have hr1 : Blk (w.setCell ⟨br, 0, none⟩ (.bool true)) br 4 #[.bool true] := hr.set_ 0 _
  have hr2 := hr1.far (p := ⟨bn, 0, none⟩) nrn (.int .i64 1)
  have hn1 : Blk ((w.setCell ⟨br, 0, none⟩ (.bool true)).setCell ⟨bn, 0, none⟩ (.int .i64 1)) bn 3 #[.int .i64 1] := (hn.far (p := ⟨br, 0, none⟩) (fun e => nrn e.symm) (.bool true)).set_ 0 _
  have hd1 := (hd.far (p := ⟨br, 0, none⟩) (fun e => nrd e.symm) (.bool true)).far (p := ⟨bn, 0, none⟩) (fun e => nnd e.symm) (.int .i64 1)
  have hc1 : Chg (fun k => k = br ∨ k = bn ∨ k = bd) w ((w.setCell ⟨br, 0, none⟩ (.bool true)).setCell ⟨bn, 0, none⟩ (.int .i64 1)) := ((Chg.refl _ w).setCell (p := ⟨br, 0, none⟩) (.inl (.inl rfl)) _).setCell (p := ⟨bn, 0, none⟩) (.inl (.inr (.inl rfl))) _
  have HA := Lib.hid (act_value br bn ba x v p c w hv hr hn ha)
  have HD := Lib.hid hd1
  have HR := Lib.hid hr2
  have HN := Lib.hid hn1
  have HC := Lib.hid hc1
  clear hr ha hd hn hd1 hr1 hr2 hn1 hc1
  go_enter_defers Try.func60, Try.ntmps60
  go_wp2_with fail
  refine HA.out.mono ?_
  clear HA
  rintro e w' ⟨rfl, rfl⟩
  generalize ((w.setCell ⟨br, 0, none⟩ (.bool true)).setCell ⟨bn, 0, none⟩ (.int .i64 1)) = wa at *
  cases p
  · have hd2 : Blk (wa.setCell ⟨bd, 6, none⟩ (.int .i64 v)) bd 87 #[_, a1, a2, a3, .bool false, a5, .int .i64 v] := HD.out.set_ 6 _
    have hd3 : Blk ((wa.setCell ⟨bd, 6, none⟩ (.int .i64 v)).setCell ⟨bd, 4, none⟩ (.bool true)) bd 87 #[_, a1, a2, a3, .bool true, a5, .int .i64 v] := hd2.set_ 4 _
    have d6 := HD.out.c7.2.2.2.2.2.2
    have z6 := HD.out.frozen 6
    have d4 := hd2.c7.2.2.2.2.1
    have z4 := hd2.frozen 4
    have hr3 := (HR.out.far (p := ⟨bd, 6, none⟩) nrd (.int .i64 v)).far (p := ⟨bd, 4, none⟩) nrd (.bool true)
    have hn3 := (HN.out.far (p := ⟨bd, 6, none⟩) nnd (.int .i64 v)).far (p := ⟨bd, 4, none⟩) nnd (.bool true)
    have hc3 := (HC.out.setCell (p := ⟨bd, 6, none⟩) (.inl (.inr (.inr rfl))) (.int .i64 v)).setCell (p := ⟨bd, 4, none⟩) (.inl (.inr (.inr rfl))) (.bool true)
    have HD2 := Lib.hid hd3
    have HR2 := Lib.hid hr3
    have HN2 := Lib.hid hn3
    have HC2 := Lib.hid hc3
    clear hd2 hd3 hr3 hn3 hc3
    simp only [valEnd]
    go_wp2
    refine leaves_cons (f := 61) (args := #[.pointer (some ⟨bd, 0, none⟩)]) (by simp) (by simp [go_sem]) ?_
    refine (redoV_idle bd _ _ _ _ _ _ _ HD2.out).mono ?_
    rintro e u' w'' ⟨rfl, rfl, rfl⟩
    refine ⟨.tuple #[], results_none rfl _ _ _, rfl, ?_, ?_, ?_, ?_⟩
    · exact (HR2.out.far (p := ⟨bd, 0, none⟩) nrd _).far (p := ⟨bd, 5, none⟩) nrd _
    · exact (HN2.out.far (p := ⟨bd, 0, none⟩) nnd _).far (p := ⟨bd, 5, none⟩) nnd _
    · exact (HD2.out.set_ 0 _).set_ 5 _
    · exact (HC2.out.setCell (p := ⟨bd, 0, none⟩) (.inl (.inr (.inr rfl))) _).setCell (p := ⟨bd, 5, none⟩) (.inl (.inr (.inr rfl))) _
  · simp only [valEnd]
    refine leaves_cons (f := 61) (args := #[.pointer (some ⟨bd, 0, none⟩)]) (by simp) (by simp [go_sem]) ?_
    refine (redoV_raised bd c _ _ _ _ _ _ [] _ HD.out).mono ?_
    rintro e u' w'' ⟨rfl, rfl, rfl⟩
    refine ⟨rfl, ?_, ?_, ?_, ?_⟩
    · exact (HR.out.far (p := ⟨bd, 0, none⟩) nrd _).far (p := ⟨bd, 5, none⟩) nrd _
    · exact (HN.out.far (p := ⟨bd, 0, none⟩) nnd _).far (p := ⟨bd, 5, none⟩) nnd _
    · exact (HD.out.set_ 0 _).set_ 5 _
    · exact (HC.out.setCell (p := ⟨bd, 0, none⟩) (.inl (.inr (.inr rfl))) _).setCell (p := ⟨bd, 5, none⟩) (.inl (.inr (.inr rfl))) _

/-- The block that OnceValue's function keeps: new, and behind the first call. -/
def keptV (used p : Bool) (c v : Int) (br bn ba : Nat) : Array Value :=
  if used then #[.nilFunc, .int .u32 1, .int .i32 0, .int .u32 0, .bool (!p), if p then pan c else .nilIface, .int .i64 (if p then 0 else v)]
  else #[.func (.func 48) #[] #[.pointer (some ⟨br, 0, none⟩), .pointer (some ⟨bn, 0, none⟩), .pointer (some ⟨ba, 0, none⟩)], .int .u32 0, .int .i32 0, .int .u32 0, .bool false, .nilIface, .int .i64 0]

/-- How OnceValue's function ends at its first call. -/
def redoVEnd (p : Bool) (c : Int) (v : Value) : Ending := if p then .panicked [{ v := pan c, recovered := false }, { v := pan c, recovered := true }] else .returned v

set_option maxRecDepth 100000 in
set_option maxHeartbeats 1600000 in
/-- The function that OnceValue returns, at its first call. -/
theorem value_first (bd br bn ba : Nat) (x : Value) (v : Int) (p : Bool) (c : Int) (w : World) (hv : (Lit.int .i64 v).wf = true) (hr : Blk w br 4 #[x]) (hn : Blk w bn 3 #[.int .i64 0]) (ha : Blk w ba 43 #[.int .i64 v, .bool p, .int .i64 c]) (hd : Blk w bd 87 (keptV false p c v br bn ba)) :
    Calls Try.prog 59 #[.pointer (some ⟨bd, 0, none⟩)] w fun e w' => e = redoVEnd p c (.int .i64 v) ∧ Blk w' br 4 #[.bool true] ∧ Blk w' bn 3 #[.int .i64 1] ∧ Blk w' bd 87 (keptV true p c v br bn ba) ∧ Chg (fun k => k = br ∨ k = bn ∨ k = bd) w w' := by
  have hmf : ∀ (fn : Fn) (first cap : Array Value) (w : World), (Instr.makeFunc fn first cap).run Try.prog w = .ok (.func fn first cap) w := fun _ _ _ _ => rfl
  have hnot : ∀ (x : Bool) (w : World), (Op.unary .not (.bool x)).run Try.prog w = .ok (.bool (!x)) w := fun _ _ => rfl
  have nrd : br ≠ bd := hr.ne_ hd (by decide)
  have nnd : bn ≠ bd := hn.ne_ hd (by decide)
  have nad : ba ≠ bd := ha.ne_ hd (by decide)
  have hdo : Calls Try.prog 38 #[.pointer (some ⟨bd, 1, none⟩), .func (.func 60) #[] #[.pointer (some ⟨bd, 0, none⟩)]] w fun e w' => e = redoEnd p c ∧ Blk w' br 4 #[.bool true] ∧ Blk w' bn 3 #[.int .i64 1] ∧ Blk w' bd 87 (keptV true p c v br bn ba) ∧ Chg (fun k => k = br ∨ k = bn ∨ k = bd) w w' := by
    obtain ⟨c0, c1, c2, c3, c4, c5, c6⟩ := Blk.c7 hd
    refine do_first bd 1 60 _ w _ enter60 c1 c2 (hd.frozen 2) ?_
    have hd1 : Blk (w.setCell ⟨bd, 1 + 1, none⟩ (.int .i32 1)) bd 87 #[_, .int .u32 0, .int .i32 1, .int .u32 0, .bool false, .nilIface, .int .i64 0] := hd.set_ 2 _
    have hr1 := hr.far (p := ⟨bd, 1 + 1, none⟩) nrd (.int .i32 1)
    have hn1 := hn.far (p := ⟨bd, 1 + 1, none⟩) nnd (.int .i32 1)
    have ha1 := ha.far (p := ⟨bd, 1 + 1, none⟩) nad (.int .i32 1)
    have hc1 : Chg (fun k => k = br ∨ k = bn ∨ k = bd) w (w.setCell ⟨bd, 1 + 1, none⟩ (.int .i32 1)) := (Chg.refl _ w).setCell (.inl (.inr (.inr rfl))) _
    refine (body_value bd br bn ba _ _ _ _ _ v p c _ hv hr1 hn1 ha1 hd1).mono ?_
    rintro e w' ⟨rfl, hr2, hn2, hd2, hc2⟩
    refine ⟨?_, ⟨hd2.cell 1, hd2.cell 2, hd2.frozen 1, hd2.frozen 2⟩, rfl, ?_, ?_, ?_, ?_⟩
    · cases p
      · exact .inl rfl
      · exact .inr ⟨_, rfl, rfl⟩
    · exact ((hr2.drew.far (p := ⟨bd, 1, none⟩) nrd _).far (p := ⟨bd, 1 + 1, none⟩) nrd _)
    · exact ((hn2.drew.far (p := ⟨bd, 1, none⟩) nnd _).far (p := ⟨bd, 1 + 1, none⟩) nnd _)
    · exact ((hd2.drew.set_ 1 (.int .u32 1)).set_ 2 (.int .i32 0))
    · exact ((hc1.trans hc2).drew.setCell (p := ⟨bd, 1, none⟩) (.inl (.inr (.inr rfl))) _).setCell (p := ⟨bd, 1 + 1, none⟩) (.inl (.inr (.inr rfl))) _
  have HDO := Lib.hid hdo
  clear hdo hr ha hd hn
  go_enter Try.func59, Try.ntmps59
  go_wp2_with fail
  refine HDO.out.mono ?_
  clear HDO
  rintro e w' ⟨rfl, hfin⟩
  have d4 := (Blk.c7 hfin.2.2.1).2.2.2.2.1
  have d6 := (Blk.c7 hfin.2.2.1).2.2.2.2.2.2
  have HF := Lib.hid hfin
  clear hfin
  cases p
  · simp only [Bool.not_false, if_neg Bool.false_ne_true] at d4 d6
    simp only [redoEnd]
    go_wp2
    go_ret
    exact ⟨rfl, HF.out⟩
  · exact ⟨rfl, rfl, HF.out⟩

/-- The function that OnceValue returns, at a later call. -/
theorem value_later (bd br bn ba : Nat) (v : Int) (p : Bool) (c : Int) (w : World) (hd : Blk w bd 87 (keptV true p c v br bn ba)) :
    Calls Try.prog 59 #[.pointer (some ⟨bd, 0, none⟩)] w fun e w' => e = valEnd p c (.int .i64 v) ∧ w' = w := by
  have hmf : ∀ (fn : Fn) (first cap : Array Value) (w : World), (Instr.makeFunc fn first cap).run Try.prog w = .ok (.func fn first cap) w := fun _ _ _ _ => rfl
  have hnot : ∀ (x : Bool) (w : World), (Op.unary .not (.bool x)).run Try.prog w = .ok (.bool (!x)) w := fun _ _ => rfl
  obtain ⟨c0, c1, c2, c3, c4, c5, c6⟩ := Blk.c7 hd
  have HDO := Lib.hid (do_done ⟨bd, 1, none⟩ 1 rfl (.func (.func 60) #[] #[.pointer (some ⟨bd, 0, none⟩)]) w c1)
  clear hd c0 c1 c2 c3
  cases p
  · simp only [Bool.not_false, if_neg Bool.false_ne_true] at c4 c5 c6
    go_enter Try.func59, Try.ntmps59
    go_wp2_with fail
    refine HDO.out.mono ?_
    rintro e w' ⟨rfl, rfl⟩
    clear HDO
    go_wp2
    go_ret
    exact ⟨rfl, rfl⟩
  · simp only [Bool.not_true, if_true, pan] at c4 c5 c6
    go_enter Try.func59, Try.ntmps59
    go_wp2_with fail
    refine HDO.out.mono ?_
    rintro e w' ⟨rfl, rfl⟩
    clear HDO
    go_wp2
    exact ⟨rfl, rfl, rfl⟩

/-- The closure of a round: r.Value = f(). -/
theorem clos_value (bd br bn ba bf bt : Nat) (x a0 a1 a2 a3 : Value) (v : Int) (p used : Bool) (c : Int) (w : World) (hv : (Lit.int .i64 v).wf = true) (hr : Blk w br 4 #[x]) (hn : Blk w bn 3 #[.int .i64 (if used then 1 else 0)]) (ha : Blk w ba 43 #[.int .i64 v, .bool p, .int .i64 c])
    (hd : Blk w bd 87 (keptV used p c v br bn ba)) (hf : Blk w bf 79 #[.func (.func 59) #[] #[.pointer (some ⟨bd, 0, none⟩)]]) (ht : Blk w bt 56 #[a0, a1, a2, a3]) :
    Calls Try.prog 49 #[.pointer (some ⟨bf, 0, none⟩), .pointer (some ⟨bt, 0, none⟩)] w fun e w' => e = (if used then stepEnd p c else redoEnd p c) ∧ Blk w' br 4 #[if used then x else .bool true] ∧ Blk w' bn 3 #[.int .i64 1] ∧ Blk w' bd 87 (keptV true p c v br bn ba) ∧
      Blk w' bt 56 #[if p then a0 else .int .i64 v, a1, a2, a3] ∧ Chg (fun k => k = br ∨ k = bn ∨ k = bd ∨ k = bt) w w' := by
  have f0 := hf.c1
  have nrt : br ≠ bt := hr.ne_ ht (by decide)
  have nnt : bn ≠ bt := hn.ne_ ht (by decide)
  have ndt : bd ≠ bt := hd.ne_ ht (by decide)
  have hcall : Calls Try.prog 59 #[.pointer (some ⟨bd, 0, none⟩)] w fun e w' => e = (if used then valEnd p c (.int .i64 v) else redoVEnd p c (.int .i64 v)) ∧ Blk w' br 4 #[if used then x else .bool true] ∧ Blk w' bn 3 #[.int .i64 1] ∧ Blk w' bd 87 (keptV true p c v br bn ba) ∧
      Blk w' bt 56 #[a0, a1, a2, a3] ∧ Chg (fun k => k = br ∨ k = bn ∨ k = bd ∨ k = bt) w w' := by
    cases used
    · refine (value_first bd br bn ba x v p c w hv hr hn ha hd).mono ?_
      rintro e w' ⟨rfl, h1, h2, h3, h4⟩
      exact ⟨rfl, h1, h2, h3, ht.chg h4 (by rintro (h | h | h) <;> omega), h4.mono (by rintro k _ (h | h | h) <;> omega)⟩
    · refine (value_later bd br bn ba v p c w hd).mono ?_
      rintro e w' ⟨rfl, rfl⟩
      exact ⟨rfl, hr, hn, hd, ht, Chg.refl _ _⟩
  have HC := Lib.hid hcall
  clear hcall hr hn ha hd hf ht
  go_enter Try.func49, Try.ntmps49
  go_wp2_with fail
  refine HC.out.mono ?_
  clear HC
  rintro e w' ⟨rfl, h1, h2, h3, h4, h5⟩
  cases p
  · have t0 := h4.c4.1
    have z0 := h4.frozen 0
    have hfin : Blk (w'.setCell ⟨bt, 0, none⟩ (.int .i64 v)) br 4 #[if used then x else .bool true] ∧ Blk (w'.setCell ⟨bt, 0, none⟩ (.int .i64 v)) bn 3 #[.int .i64 1] ∧ Blk (w'.setCell ⟨bt, 0, none⟩ (.int .i64 v)) bd 87 (keptV true false c v br bn ba) ∧
        Blk (w'.setCell ⟨bt, 0, none⟩ (.int .i64 v)) bt 56 #[.int .i64 v, a1, a2, a3] ∧ Chg (fun k => k = br ∨ k = bn ∨ k = bd ∨ k = bt) w (w'.setCell ⟨bt, 0, none⟩ (.int .i64 v)) :=
      ⟨h1.far (p := ⟨bt, 0, none⟩) nrt _, h2.far (p := ⟨bt, 0, none⟩) nnt _, h3.far (p := ⟨bt, 0, none⟩) ndt _, h4.set_ 0 _, h5.setCell (p := ⟨bt, 0, none⟩) (.inl (.inr (.inr (.inr rfl)))) _⟩
    have HF := Lib.hid hfin
    clear hfin h1 h2 h3 h4 h5
    have e1 : (if used then valEnd false c (.int .i64 v) else redoVEnd false c (.int .i64 v)) = .returned (.int .i64 v) := by cases used <;> rfl
    rw [e1]
    clear e1
    cases used
    · go_wp2
      go_end0
      exact ⟨rfl, HF.out⟩
    · go_wp2
      go_end0
      exact ⟨rfl, HF.out⟩
  · have HF := Lib.hid (And.intro h1 (And.intro h2 (And.intro h3 (And.intro h4 h5))))
    cases used
    · exact ⟨rfl, rfl, HF.out⟩
    · exact ⟨rfl, rfl, HF.out⟩

/-- impl.run over the closure of a round. -/
theorem run_value (bd br bn ba bf bt : Nat) (x a0 a1 a2 a3 : Value) (v : Int) (p used : Bool) (c : Int) (w : World) (hv : (Lit.int .i64 v).wf = true) (hr : Blk w br 4 #[x]) (hn : Blk w bn 3 #[.int .i64 (if used then 1 else 0)]) (ha : Blk w ba 43 #[.int .i64 v, .bool p, .int .i64 c])
    (hd : Blk w bd 87 (keptV used p c v br bn ba)) (hf : Blk w bf 79 #[.func (.func 59) #[] #[.pointer (some ⟨bd, 0, none⟩)]]) (ht : Blk w bt 56 #[a0, a1, a2, a3]) :
    Calls Try.prog 36 #[.func (.func 49) #[] #[.pointer (some ⟨bf, 0, none⟩), .pointer (some ⟨bt, 0, none⟩)]] w fun e w' => e = .returned (.tuple #[.bool p, .int .i64 (if p then c else 0)]) ∧ Blk w' br 4 #[if used then x else .bool true] ∧ Blk w' bn 3 #[.int .i64 1] ∧ Blk w' bd 87 (keptV true p c v br bn ba) ∧
      Blk w' bt 56 #[if p then a0 else .int .i64 v, a1, a2, a3] ∧ Chg (fun k => k = br ∨ k = bn ∨ k = bd ∨ k = bt) w w' := by
  have lr := hr.lt
  have ln := hn.lt
  have ld := hd.lt
  have lt := ht.lt
  have hb1 : Blk ((w.alloc (.cells #[.bool false] 4)).alloc (.cells #[.int .i64 0] 3)) w.heap.size 4 #[.bool false] := (Blk.new w 4 _).alloc _
  have hb2 : Blk ((w.alloc (.cells #[.bool false] 4)).alloc (.cells #[.int .i64 0] 3)) (w.heap.size + 1) 3 #[.int .i64 0] := by
    have := Blk.new (w.alloc (.cells #[.bool false] 4)) 3 #[.int .i64 0]
    simpa using this
  have hc1 : Chg (fun k => k = br ∨ k = bn ∨ k = bd ∨ k = bt) w ((w.alloc (.cells #[.bool false] 4)).alloc (.cells #[.int .i64 0] 3)) := ((Chg.refl _ w).alloc _).alloc _
  refine run_any 49 _ w _ enter49 ?_
  refine (clos_value bd br bn ba bf bt x a0 a1 a2 a3 v p used c _ hv ((hr.alloc _).alloc _) ((hn.alloc _).alloc _) ((ha.alloc _).alloc _) ((hd.alloc _).alloc _) ((hf.alloc _).alloc _) ((ht.alloc _).alloc _)).mono ?_
  rintro e w' ⟨rfl, h1, h2, h3, h4, h5⟩
  refine ⟨hb1.chg h5 (by omega), hb2.chg h5 (by omega), ?_⟩
  have k3 : ∀ (a b : Value), Blk ((w'.setCell ⟨w.heap.size, 0, none⟩ a).setCell ⟨w.heap.size + 1, 0, none⟩ b) br 4 #[if used then x else .bool true] ∧ Blk ((w'.setCell ⟨w.heap.size, 0, none⟩ a).setCell ⟨w.heap.size + 1, 0, none⟩ b) bn 3 #[.int .i64 1] ∧
      Blk ((w'.setCell ⟨w.heap.size, 0, none⟩ a).setCell ⟨w.heap.size + 1, 0, none⟩ b) bd 87 (keptV true p c v br bn ba) ∧ Blk ((w'.setCell ⟨w.heap.size, 0, none⟩ a).setCell ⟨w.heap.size + 1, 0, none⟩ b) bt 56 #[if p then a0 else .int .i64 v, a1, a2, a3] ∧
      Chg (fun k => k = br ∨ k = bn ∨ k = bd ∨ k = bt) w ((w'.setCell ⟨w.heap.size, 0, none⟩ a).setCell ⟨w.heap.size + 1, 0, none⟩ b) := by
    intro a b
    refine ⟨?_, ?_, ?_, ?_, ?_⟩
    · exact (h1.far (p := ⟨w.heap.size, 0, none⟩) (by show br ≠ w.heap.size; omega) a).far (p := ⟨w.heap.size + 1, 0, none⟩) (by show br ≠ w.heap.size + 1; omega) b
    · exact (h2.far (p := ⟨w.heap.size, 0, none⟩) (by show bn ≠ w.heap.size; omega) a).far (p := ⟨w.heap.size + 1, 0, none⟩) (by show bn ≠ w.heap.size + 1; omega) b
    · exact (h3.far (p := ⟨w.heap.size, 0, none⟩) (by show bd ≠ w.heap.size; omega) a).far (p := ⟨w.heap.size + 1, 0, none⟩) (by show bd ≠ w.heap.size + 1; omega) b
    · exact (h4.far (p := ⟨w.heap.size, 0, none⟩) (by show bt ≠ w.heap.size; omega) a).far (p := ⟨w.heap.size + 1, 0, none⟩) (by show bt ≠ w.heap.size + 1; omega) b
    · exact ((hc1.trans h5).setCell (p := ⟨w.heap.size, 0, none⟩) (.inr (Nat.le_refl _)) a).setCell (p := ⟨w.heap.size + 1, 0, none⟩) (.inr (Nat.le_succ _)) b
  cases p
  · cases used
    · exact .inl ⟨rfl, rfl, k3 _ _⟩
    · exact .inl ⟨rfl, rfl, k3 _ _⟩
  · cases used
    · exact .inr ⟨c, _, rfl, rfl, rfl, k3 _ _⟩
    · exact .inr ⟨c, _, rfl, rfl, rfl, k3 _ _⟩

end Go.Proofs.Ytpkippcbocmmkaa
