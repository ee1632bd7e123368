/-
  sync.OnceValues' function, over the action of impl.OnceValues: the action, the function that is handed to Do, the function that OnceValues returns, at its first call and behind it, the closure of impl.OnceValues' round, and impl.run over it.
-/
import Derived.Test.YtpkippcbocmmkaaRedoW
import Derived.Test.YtpkippcbocmmkaaValueE
import Derived.BigQuiet
namespace Go.Proofs.Ytpkippcbocmmkaa
open Go.RowKit Go.Maps

theorem enter51 (args : Array Value) (w : World) : (callFunc 51 args).run Try.prog w = .ok (.enter 51 args) w := by kernel_rfl
theorem enter52 (args : Array Value) (w : World) : (callFunc 52 args).run Try.prog w = .ok (.enter 52 args) w := by kernel_rfl
theorem enter63 (args : Array Value) (w : World) : (callFunc 63 args).run Try.prog w = .ok (.enter 63 args) w := by kernel_rfl

theorem Blk.c5 {w : World} {g : Nat} {t : TypeId} {a b c d e : Value} (h : Blk w g t #[a, b, c, d, e]) :
    w.cell? ⟨g, 0, none⟩ = some a ∧ w.cell? ⟨g, 1, none⟩ = some b ∧ w.cell? ⟨g, 2, none⟩ = some c ∧ w.cell? ⟨g, 3, none⟩ = some d ∧ w.cell? ⟨g, 4, none⟩ = some e := ⟨h.cell 0, h.cell 1, h.cell 2, h.cell 3, h.cell 4⟩

theorem Chg.drewN {S : Nat → Prop} {w w' : World} (h : Chg S w w') (m : Nat) : Chg S w (w'.drewN m) := ⟨h.os, h.tape, h.output, h.size, h.block⟩
theorem Blk.drewN {w : World} {g : Nat} {t : TypeId} {cs : Array Value} (h : Blk w g t cs) (m : Nat) : Blk (w.drewN m) g t cs := h

set_option maxRecDepth 100000 in
/-- The action of impl.OnceValues. -/
theorem act_values (br bn ba bs : Nat) (x : Value) (v : Int) (S : ByteArray) (p : Bool) (c : Int) (w : World) (hv : (Lit.int .i64 v).wf = true) (hr : Blk w br 4 #[x]) (hn : Blk w bn 3 #[.int .i64 0]) (ha : Blk w ba 43 #[.int .i64 v, .bool p, .int .i64 c]) (hs : Blk w bs 9 #[.string S]) :
    Calls Try.prog 51 #[.pointer (some ⟨br, 0, none⟩), .pointer (some ⟨bn, 0, none⟩), .pointer (some ⟨ba, 0, none⟩), .pointer (some ⟨bs, 0, none⟩)] w fun e w' => e = valEnd p c (.tuple #[.int .i64 v, .string S]) ∧ ∃ m, w' = ((w.setCell ⟨br, 0, none⟩ (.bool true)).setCell ⟨bn, 0, none⟩ (.int .i64 1)).drewN m := by
  have r0 := hr.c1
  have z0 := hr.frozen 0
  have nra : ¬ br = ba := hr.ne_ ha (by decide)
  have nrn : ¬ br = bn := hr.ne_ hn (by decide)
  have nna : ¬ bn = ba := hn.ne_ ha (by decide)
  have hn1 := hn.far (p := ⟨br, 0, none⟩) (fun e => nrn e.symm) (.bool true)
  have n0 := hn1.c1
  have y0 := hn1.frozen 0
  have hn2 : Blk ((w.setCell ⟨br, 0, none⟩ (.bool true)).setCell ⟨bn, 0, none⟩ (.int .i64 1)) bn 3 #[.int .i64 1] := hn1.set_ 0 _
  have n1 := hn2.c1
  have ha1 := (ha.far (p := ⟨br, 0, none⟩) (fun e => nra e.symm) (.bool true)).far (p := ⟨bn, 0, none⟩) (fun e => nna e.symm) (.int .i64 1)
  have nrs : ¬ br = bs := hr.ne_ hs (by decide)
  have nns : ¬ bn = bs := hn.ne_ hs (by decide)
  have hs1 := (hs.far (p := ⟨br, 0, none⟩) (fun e => nrs e.symm) (.bool true)).far (p := ⟨bn, 0, none⟩) (fun e => nns e.symm) (.int .i64 1)
  obtain ⟨a0, a1, a2⟩ := ha1.c3
  have b0 := hs1.c1
  have htb := there_back v hv
  clear hr ha ha1 hn hn1 hn2 hv hs hs1
  cases p
  · go_enter Try.func51, Try.ntmps51
    go_wp2_with fail
    go_quiet (fail)
    go_wp2
    go_ret2
    exact ⟨congrArg (fun z => Ending.returned (.tuple #[.int .i64 z, .string S])) htb, nq, rfl⟩
  · go_enter Try.func51, Try.ntmps51
    go_wp2
    exact ⟨rfl, rfl, 0, rfl⟩

set_option maxRecDepth 100000 in
set_option maxHeartbeats 1600000 in
/-- The function that is handed to Do. -/
theorem body_values (bd br bn ba bs : Nat) (x a1 a2 a3 a5 : Value) (v : Int) (S : ByteArray) (p : Bool) (c : Int) (w : World) (hv : (Lit.int .i64 v).wf = true) (hr : Blk w br 4 #[x]) (hn : Blk w bn 3 #[.int .i64 0]) (ha : Blk w ba 43 #[.int .i64 v, .bool p, .int .i64 c]) (hs : Blk w bs 9 #[.string S])
    (hd : Blk w bd 88 #[.func (.func 51) #[] #[.pointer (some ⟨br, 0, none⟩), .pointer (some ⟨bn, 0, none⟩), .pointer (some ⟨ba, 0, none⟩), .pointer (some ⟨bs, 0, none⟩)], a1, a2, a3, .bool false, a5, .int .i64 0, .string ⟨#[]⟩]) :
    Calls Try.prog 63 #[.pointer (some ⟨bd, 0, none⟩)] w fun e w' => e = redoEnd p c ∧ Blk w' br 4 #[.bool true] ∧ Blk w' bn 3 #[.int .i64 1] ∧ Blk w' bd 88 #[.nilFunc, a1, a2, a3, .bool (!p), if p then pan c else .nilIface, .int .i64 (if p then 0 else v), .string (if p then ⟨#[]⟩ else S)] ∧ Chg (fun k => k = br ∨ k = bn ∨ k = bd) w w' := by
  have hmf : ∀ (fn : Fn) (first cap : Array Value) (w : World), (Instr.makeFunc fn first cap).run Try.prog w = .ok (.func fn first cap) w := fun _ _ _ _ => rfl
  have nrd : br ≠ bd := hr.ne_ hd (by decide)
  have nrn : br ≠ bn := hr.ne_ hn (by decide)
  have nnd : bn ≠ bd := hn.ne_ hd (by decide)
  obtain ⟨c0, c1, c2, c3, c4, c5, c6, c7⟩ := hd.c8
  have hr1 : Blk (w.setCell ⟨br, 0, none⟩ (.bool true)) br 4 #[.bool true] := hr.set_ 0 _
  have hr2 := hr1.far (p := ⟨bn, 0, none⟩) nrn (.int .i64 1)
  have hn1 : Blk ((w.setCell ⟨br, 0, none⟩ (.bool true)).setCell ⟨bn, 0, none⟩ (.int .i64 1)) bn 3 #[.int .i64 1] := (hn.far (p := ⟨br, 0, none⟩) (fun e => nrn e.symm) (.bool true)).set_ 0 _
  have hd1 := (hd.far (p := ⟨br, 0, none⟩) (fun e => nrd e.symm) (.bool true)).far (p := ⟨bn, 0, none⟩) (fun e => nnd e.symm) (.int .i64 1)
  have hc1 : Chg (fun k => k = br ∨ k = bn ∨ k = bd) w ((w.setCell ⟨br, 0, none⟩ (.bool true)).setCell ⟨bn, 0, none⟩ (.int .i64 1)) := ((Chg.refl _ w).setCell (p := ⟨br, 0, none⟩) (.inl (.inl rfl)) _).setCell (p := ⟨bn, 0, none⟩) (.inl (.inr (.inl rfl))) _
  have HA := Lib.hid (act_values br bn ba bs x v S p c w hv hr hn ha hs)
  have HD := Lib.hid hd1
  have HR := Lib.hid hr2
  have HN := Lib.hid hn1
  have HC := Lib.hid hc1
  clear hr ha hd hn hs hd1 hr1 hr2 hn1 hc1
  go_enter_defers Try.func63, Try.ntmps63
  go_wp2_with fail
  refine HA.out.mono ?_
  clear HA
  rintro e w' ⟨rfl, m, rfl⟩
  replace HD := Lib.hid (HD.out.drewN m)
  replace HR := Lib.hid (HR.out.drewN m)
  replace HN := Lib.hid (HN.out.drewN m)
  replace HC := Lib.hid (HC.out.drewN m)
  generalize ((w.setCell ⟨br, 0, none⟩ (.bool true)).setCell ⟨bn, 0, none⟩ (.int .i64 1)).drewN m = wa at *
  cases p
  · have hd1 : Blk (wa.setCell ⟨bd, 6, none⟩ (.int .i64 v)) bd 88 #[_, a1, a2, a3, .bool false, a5, .int .i64 v, .string ⟨#[]⟩] := HD.out.set_ 6 _
    have hd2 : Blk ((wa.setCell ⟨bd, 6, none⟩ (.int .i64 v)).setCell ⟨bd, 7, none⟩ (.string S)) bd 88 #[_, a1, a2, a3, .bool false, a5, .int .i64 v, .string S] := hd1.set_ 7 _
    have hd3 : Blk (((wa.setCell ⟨bd, 6, none⟩ (.int .i64 v)).setCell ⟨bd, 7, none⟩ (.string S)).setCell ⟨bd, 4, none⟩ (.bool true)) bd 88 #[_, a1, a2, a3, .bool true, a5, .int .i64 v, .string S] := hd2.set_ 4 _
    have d6 := HD.out.c8.2.2.2.2.2.2.1
    have z6 := HD.out.frozen 6
    have d7 := hd1.c8.2.2.2.2.2.2.2
    have z7 := hd1.frozen 7
    have d4 := hd2.c8.2.2.2.2.1
    have z4 := hd2.frozen 4
    have hr3 := ((HR.out.far (p := ⟨bd, 6, none⟩) nrd (.int .i64 v)).far (p := ⟨bd, 7, none⟩) nrd (.string S)).far (p := ⟨bd, 4, none⟩) nrd (.bool true)
    have hn3 := ((HN.out.far (p := ⟨bd, 6, none⟩) nnd (.int .i64 v)).far (p := ⟨bd, 7, none⟩) nnd (.string S)).far (p := ⟨bd, 4, none⟩) nnd (.bool true)
    have hc3 := ((HC.out.setCell (p := ⟨bd, 6, none⟩) (.inl (.inr (.inr rfl))) (.int .i64 v)).setCell (p := ⟨bd, 7, none⟩) (.inl (.inr (.inr rfl))) (.string S)).setCell (p := ⟨bd, 4, none⟩) (.inl (.inr (.inr rfl))) (.bool true)
    have HD2 := Lib.hid hd3
    have HR2 := Lib.hid hr3
    have HN2 := Lib.hid hn3
    have HC2 := Lib.hid hc3
    clear hd1 hd2 hd3 hr3 hn3 hc3
    simp only [valEnd]
    go_wp2
    refine leaves_cons (f := 64) (args := #[.pointer (some ⟨bd, 0, none⟩)]) (by simp) (by simp [go_sem]) ?_
    refine (redoW_idle bd _ _ _ _ _ _ _ _ HD2.out).mono ?_
    rintro e u' w'' ⟨rfl, rfl, rfl⟩
    refine ⟨.tuple #[], results_none rfl _ _ _, rfl, ?_, ?_, ?_, ?_⟩
    · exact (HR2.out.far (p := ⟨bd, 0, none⟩) nrd _).far (p := ⟨bd, 5, none⟩) nrd _
    · exact (HN2.out.far (p := ⟨bd, 0, none⟩) nnd _).far (p := ⟨bd, 5, none⟩) nnd _
    · exact (HD2.out.set_ 0 _).set_ 5 _
    · exact (HC2.out.setCell (p := ⟨bd, 0, none⟩) (.inl (.inr (.inr rfl))) _).setCell (p := ⟨bd, 5, none⟩) (.inl (.inr (.inr rfl))) _
  · simp only [valEnd]
    refine leaves_cons (f := 64) (args := #[.pointer (some ⟨bd, 0, none⟩)]) (by simp) (by simp [go_sem]) ?_
    refine (redoW_raised bd c _ _ _ _ _ _ _ [] _ HD.out).mono ?_
    rintro e u' w'' ⟨rfl, rfl, rfl⟩
    refine ⟨rfl, ?_, ?_, ?_, ?_⟩
    · exact (HR.out.far (p := ⟨bd, 0, none⟩) nrd _).far (p := ⟨bd, 5, none⟩) nrd _
    · exact (HN.out.far (p := ⟨bd, 0, none⟩) nnd _).far (p := ⟨bd, 5, none⟩) nnd _
    · exact (HD.out.set_ 0 _).set_ 5 _
    · exact (HC.out.setCell (p := ⟨bd, 0, none⟩) (.inl (.inr (.inr rfl))) _).setCell (p := ⟨bd, 5, none⟩) (.inl (.inr (.inr rfl))) _

/-- The block that OnceValues' function keeps: new, and behind the first call. -/
def keptW (used p : Bool) (c v : Int) (S : ByteArray) (br bn ba bs : Nat) : Array Value :=
  if used then #[.nilFunc, .int .u32 1, .int .i32 0, .int .u32 0, .bool (!p), if p then pan c else .nilIface, .int .i64 (if p then 0 else v), .string (if p then ⟨#[]⟩ else S)]
  else #[.func (.func 51) #[] #[.pointer (some ⟨br, 0, none⟩), .pointer (some ⟨bn, 0, none⟩), .pointer (some ⟨ba, 0, none⟩), .pointer (some ⟨bs, 0, none⟩)], .int .u32 0, .int .i32 0, .int .u32 0, .bool false, .nilIface, .int .i64 0, .string ⟨#[]⟩]

set_option maxRecDepth 100000 in
set_option maxHeartbeats 1600000 in
/-- The function that OnceValues returns, at its first call. -/
theorem values_first (bd br bn ba bs : Nat) (x : Value) (v : Int) (S : ByteArray) (p : Bool) (c : Int) (w : World) (hv : (Lit.int .i64 v).wf = true) (hr : Blk w br 4 #[x]) (hn : Blk w bn 3 #[.int .i64 0]) (ha : Blk w ba 43 #[.int .i64 v, .bool p, .int .i64 c]) (hs : Blk w bs 9 #[.string S]) (hd : Blk w bd 88 (keptW false p c v S br bn ba bs)) :
    Calls Try.prog 62 #[.pointer (some ⟨bd, 0, none⟩)] w fun e w' => e = redoVEnd p c (.tuple #[.int .i64 v, .string S]) ∧ Blk w' br 4 #[.bool true] ∧ Blk w' bn 3 #[.int .i64 1] ∧ Blk w' bd 88 (keptW true p c v S br bn ba bs) ∧ Chg (fun k => k = br ∨ k = bn ∨ k = bd) w w' := by
  have hmf : ∀ (fn : Fn) (first cap : Array Value) (w : World), (Instr.makeFunc fn first cap).run Try.prog w = .ok (.func fn first cap) w := fun _ _ _ _ => rfl
  have hnot : ∀ (x : Bool) (w : World), (Op.unary .not (.bool x)).run Try.prog w = .ok (.bool (!x)) w := fun _ _ => rfl
  have nrd : br ≠ bd := hr.ne_ hd (by decide)
  have nnd : bn ≠ bd := hn.ne_ hd (by decide)
  have nad : ba ≠ bd := ha.ne_ hd (by decide)
  have nsd : bs ≠ bd := hs.ne_ hd (by decide)
  have hdo : Calls Try.prog 38 #[.pointer (some ⟨bd, 1, none⟩), .func (.func 63) #[] #[.pointer (some ⟨bd, 0, none⟩)]] w fun e w' => e = redoEnd p c ∧ Blk w' br 4 #[.bool true] ∧ Blk w' bn 3 #[.int .i64 1] ∧ Blk w' bd 88 (keptW true p c v S br bn ba bs) ∧ Chg (fun k => k = br ∨ k = bn ∨ k = bd) w w' := by
    obtain ⟨c0, c1, c2, c3, c4, c5, c6, c7⟩ := Blk.c8 hd
    refine do_first bd 1 63 _ w _ enter63 c1 c2 (hd.frozen 2) ?_
    have hd1 : Blk (w.setCell ⟨bd, 1 + 1, none⟩ (.int .i32 1)) bd 88 #[_, .int .u32 0, .int .i32 1, .int .u32 0, .bool false, .nilIface, .int .i64 0, .string ⟨#[]⟩] := hd.set_ 2 _
    have hr1 := hr.far (p := ⟨bd, 1 + 1, none⟩) nrd (.int .i32 1)
    have hn1 := hn.far (p := ⟨bd, 1 + 1, none⟩) nnd (.int .i32 1)
    have ha1 := ha.far (p := ⟨bd, 1 + 1, none⟩) nad (.int .i32 1)
    have hs1 := hs.far (p := ⟨bd, 1 + 1, none⟩) nsd (.int .i32 1)
    have hc1 : Chg (fun k => k = br ∨ k = bn ∨ k = bd) w (w.setCell ⟨bd, 1 + 1, none⟩ (.int .i32 1)) := (Chg.refl _ w).setCell (.inl (.inr (.inr rfl))) _
    refine (body_values bd br bn ba bs _ _ _ _ _ v S p c _ hv hr1 hn1 ha1 hs1 hd1).mono ?_
    rintro e w' ⟨rfl, hr2, hn2, hd2, hc2⟩
    refine ⟨?_, ⟨hd2.cell 1, hd2.cell 2, hd2.frozen 1, hd2.frozen 2⟩, rfl, ?_, ?_, ?_, ?_⟩
    · cases p
      · exact .inl rfl
      · exact .inr ⟨_, rfl, rfl⟩
    · exact ((hr2.drew.far (p := ⟨bd, 1, none⟩) nrd _).far (p := ⟨bd, 1 + 1, none⟩) nrd _)
    · exact ((hn2.drew.far (p := ⟨bd, 1, none⟩) nnd _).far (p := ⟨bd, 1 + 1, none⟩) nnd _)
    · exact ((hd2.drew.set_ 1 (.int .u32 1)).set_ 2 (.int .i32 0))
    · exact ((hc1.trans hc2).drew.setCell (p := ⟨bd, 1, none⟩) (.inl (.inr (.inr rfl))) _).setCell (p := ⟨bd, 1 + 1, none⟩) (.inl (.inr (.inr rfl))) _
  have HDO := Lib.hid hdo
  clear hdo hr ha hd hn hs
  go_enter Try.func62, Try.ntmps62
  go_wp2_with fail
  refine HDO.out.mono ?_
  clear HDO
  rintro e w' ⟨rfl, hfin⟩
  have d4 := (Blk.c8 hfin.2.2.1).2.2.2.2.1
  have d6 := (Blk.c8 hfin.2.2.1).2.2.2.2.2.2.1
  have d7 := (Blk.c8 hfin.2.2.1).2.2.2.2.2.2.2
  have HF := Lib.hid hfin
  clear hfin
  cases p
  · simp only [Bool.not_false, if_neg Bool.false_ne_true] at d4 d6 d7
    simp only [redoEnd]
    go_wp2_with fail
    go_quiet (fail)
    go_wp2
    go_ret2
    exact ⟨rfl, HF.out.1, HF.out.2.1, HF.out.2.2.1, HF.out.2.2.2.drewN nq⟩
  · exact ⟨rfl, rfl, HF.out⟩

/-- The function that OnceValues returns, at a later call. -/
theorem values_later (bd br bn ba bs : Nat) (v : Int) (S : ByteArray) (p : Bool) (c : Int) (w : World) (hd : Blk w bd 88 (keptW true p c v S br bn ba bs)) :
    Calls Try.prog 62 #[.pointer (some ⟨bd, 0, none⟩)] w fun e w' => e = valEnd p c (.tuple #[.int .i64 v, .string S]) ∧ ∃ m, w' = w.drewN m := by
  have hmf : ∀ (fn : Fn) (first cap : Array Value) (w : World), (Instr.makeFunc fn first cap).run Try.prog w = .ok (.func fn first cap) w := fun _ _ _ _ => rfl
  have hnot : ∀ (x : Bool) (w : World), (Op.unary .not (.bool x)).run Try.prog w = .ok (.bool (!x)) w := fun _ _ => rfl
  obtain ⟨c0, c1, c2, c3, c4, c5, c6, c7⟩ := Blk.c8 hd
  have HDO := Lib.hid (do_done ⟨bd, 1, none⟩ 1 rfl (.func (.func 63) #[] #[.pointer (some ⟨bd, 0, none⟩)]) w c1)
  clear hd c0 c1 c2 c3
  cases p
  · simp only [Bool.not_false, if_neg Bool.false_ne_true] at c4 c5 c6 c7
    go_enter Try.func62, Try.ntmps62
    go_wp2_with fail
    refine HDO.out.mono ?_
    rintro e w' ⟨rfl, rfl⟩
    clear HDO
    go_wp2_with fail
    go_quiet (fail)
    go_wp2
    go_ret2
    exact ⟨rfl, nq, rfl⟩
  · simp only [Bool.not_true, if_true, pan] at c4 c5 c6 c7
    go_enter Try.func62, Try.ntmps62
    go_wp2_with fail
    refine HDO.out.mono ?_
    rintro e w' ⟨rfl, rfl⟩
    clear HDO
    go_wp2
    exact ⟨rfl, rfl, 0, rfl⟩

/-- The closure of a round: r.Value = f(). -/
theorem clos_values (bd br bn ba bs bf bt : Nat) (x a0 a1 a2 a3 a4 : Value) (v : Int) (S : ByteArray) (p used : Bool) (c : Int) (w : World) (hv : (Lit.int .i64 v).wf = true) (hr : Blk w br 4 #[x]) (hn : Blk w bn 3 #[.int .i64 (if used then 1 else 0)]) (ha : Blk w ba 43 #[.int .i64 v, .bool p, .int .i64 c]) (hs : Blk w bs 9 #[.string S])
    (hd : Blk w bd 88 (keptW used p c v S br bn ba bs)) (hf : Blk w bf 81 #[.func (.func 62) #[] #[.pointer (some ⟨bd, 0, none⟩)]]) (ht : Blk w bt 52 #[a0, a1, a2, a3, a4]) :
    Calls Try.prog 52 #[.pointer (some ⟨bf, 0, none⟩), .pointer (some ⟨bt, 0, none⟩)] w fun e w' => e = (if used then stepEnd p c else redoEnd p c) ∧ Blk w' br 4 #[if used then x else .bool true] ∧ Blk w' bn 3 #[.int .i64 1] ∧ Blk w' bd 88 (keptW true p c v S br bn ba bs) ∧
      Blk w' bt 52 #[if p then a0 else .int .i64 v, if p then a1 else .string S, a2, a3, a4] ∧ Chg (fun k => k = br ∨ k = bn ∨ k = bd ∨ k = bt) w w' := by
  have f0 := hf.c1
  have nrt : br ≠ bt := hr.ne_ ht (by decide)
  have nnt : bn ≠ bt := hn.ne_ ht (by decide)
  have ndt : bd ≠ bt := hd.ne_ ht (by decide)
  have hcall : Calls Try.prog 62 #[.pointer (some ⟨bd, 0, none⟩)] w fun e w' => e = (if used then valEnd p c (.tuple #[.int .i64 v, .string S]) else redoVEnd p c (.tuple #[.int .i64 v, .string S])) ∧ Blk w' br 4 #[if used then x else .bool true] ∧ Blk w' bn 3 #[.int .i64 1] ∧ Blk w' bd 88 (keptW true p c v S br bn ba bs) ∧
      Blk w' bt 52 #[a0, a1, a2, a3, a4] ∧ Chg (fun k => k = br ∨ k = bn ∨ k = bd ∨ k = bt) w w' := by
    cases used
    · refine (values_first bd br bn ba bs x v S p c w hv hr hn ha hs hd).mono ?_
      rintro e w' ⟨rfl, h1, h2, h3, h4⟩
      exact ⟨rfl, h1, h2, h3, ht.chg h4 (by rintro (h | h | h) <;> omega), h4.mono (by rintro k _ (h | h | h) <;> omega)⟩
    · refine (values_later bd br bn ba bs v S p c w hd).mono ?_
      rintro e w' ⟨rfl, m, rfl⟩
      exact ⟨rfl, hr, hn, hd, ht, (Chg.refl _ _).drewN m⟩
  have HC := Lib.hid hcall
  clear hcall hr hn ha hd hf ht hs
  go_enter Try.func52, Try.ntmps52
  go_wp2_with fail
  refine HC.out.mono ?_
  clear HC
  rintro e w' ⟨rfl, h1, h2, h3, h4, h5⟩
  cases p
  · have t0 := h4.c5.1
    have z0 := h4.frozen 0
    have h4' : Blk (w'.setCell ⟨bt, 0, none⟩ (.int .i64 v)) bt 52 #[.int .i64 v, a1, a2, a3, a4] := h4.set_ 0 _
    have t1 := h4'.c5.2.1
    have z1 := h4'.frozen 1
    have h4'' : Blk ((w'.setCell ⟨bt, 0, none⟩ (.int .i64 v)).setCell ⟨bt, 1, none⟩ (.string S)) bt 52 #[.int .i64 v, .string S, a2, a3, a4] := h4'.set_ 1 _
    have h1' := (h1.far (p := ⟨bt, 0, none⟩) nrt (.int .i64 v)).far (p := ⟨bt, 1, none⟩) nrt (.string S)
    have h2' := (h2.far (p := ⟨bt, 0, none⟩) nnt (.int .i64 v)).far (p := ⟨bt, 1, none⟩) nnt (.string S)
    have h3' := (h3.far (p := ⟨bt, 0, none⟩) ndt (.int .i64 v)).far (p := ⟨bt, 1, none⟩) ndt (.string S)
    have h5' := (h5.setCell (p := ⟨bt, 0, none⟩) (.inl (.inr (.inr (.inr rfl)))) (.int .i64 v)).setCell (p := ⟨bt, 1, none⟩) (.inl (.inr (.inr (.inr rfl)))) (.string S)
    have hfin := And.intro h1' (And.intro h2' (And.intro h3' (And.intro h4'' h5')))
    have HF := Lib.hid hfin
    clear hfin h1 h2 h3 h4 h5 h1' h2' h3' h4' h4'' h5'
    have e1 : (if used then valEnd false c (.tuple #[.int .i64 v, .string S]) else redoVEnd false c (.tuple #[.int .i64 v, .string S])) = .returned (.tuple #[.int .i64 v, .string S]) := by cases used <;> rfl
    rw [e1]
    clear e1
    cases used
    · go_wp2
      go_end0
      exact ⟨rfl, HF.out⟩
    · go_wp2
      go_end0
      exact ⟨rfl, HF.out⟩
  · have HF := Lib.hid (And.intro h1 (And.intro h2 (And.intro h3 (And.intro h4 h5))))
    cases used
    · exact ⟨rfl, rfl, HF.out⟩
    · exact ⟨rfl, rfl, HF.out⟩

/-- impl.run over the closure of a round. -/
theorem run_values (bd br bn ba bs bf bt : Nat) (x a0 a1 a2 a3 a4 : Value) (v : Int) (S : ByteArray) (p used : Bool) (c : Int) (w : World) (hv : (Lit.int .i64 v).wf = true) (hr : Blk w br 4 #[x]) (hn : Blk w bn 3 #[.int .i64 (if used then 1 else 0)]) (ha : Blk w ba 43 #[.int .i64 v, .bool p, .int .i64 c]) (hs : Blk w bs 9 #[.string S])
    (hd : Blk w bd 88 (keptW used p c v S br bn ba bs)) (hf : Blk w bf 81 #[.func (.func 62) #[] #[.pointer (some ⟨bd, 0, none⟩)]]) (ht : Blk w bt 52 #[a0, a1, a2, a3, a4]) :
    Calls Try.prog 36 #[.func (.func 52) #[] #[.pointer (some ⟨bf, 0, none⟩), .pointer (some ⟨bt, 0, none⟩)]] w fun e w' => e = .returned (.tuple #[.bool p, .int .i64 (if p then c else 0)]) ∧ Blk w' br 4 #[if used then x else .bool true] ∧ Blk w' bn 3 #[.int .i64 1] ∧ Blk w' bd 88 (keptW true p c v S br bn ba bs) ∧
      Blk w' bt 52 #[if p then a0 else .int .i64 v, if p then a1 else .string S, a2, a3, a4] ∧ Chg (fun k => k = br ∨ k = bn ∨ k = bd ∨ k = bt) w w' := by
  have lr := hr.lt
  have ln := hn.lt
  have ld := hd.lt
  have lt := ht.lt
  have hb1 : Blk ((w.alloc (.cells #[.bool false] 4)).alloc (.cells #[.int .i64 0] 3)) w.heap.size 4 #[.bool false] := (Blk.new w 4 _).alloc _
  have hb2 : Blk ((w.alloc (.cells #[.bool false] 4)).alloc (.cells #[.int .i64 0] 3)) (w.heap.size + 1) 3 #[.int .i64 0] := by
    have := Blk.new (w.alloc (.cells #[.bool false] 4)) 3 #[.int .i64 0]
    simpa using this
  have hc1 : Chg (fun k => k = br ∨ k = bn ∨ k = bd ∨ k = bt) w ((w.alloc (.cells #[.bool false] 4)).alloc (.cells #[.int .i64 0] 3)) := ((Chg.refl _ w).alloc _).alloc _
  refine run_any 52 _ w _ enter52 ?_
  refine (clos_values bd br bn ba bs bf bt x a0 a1 a2 a3 a4 v S p used c _ hv ((hr.alloc _).alloc _) ((hn.alloc _).alloc _) ((ha.alloc _).alloc _) ((hs.alloc _).alloc _) ((hd.alloc _).alloc _) ((hf.alloc _).alloc _) ((ht.alloc _).alloc _)).mono ?_
  rintro e w' ⟨rfl, h1, h2, h3, h4, h5⟩
  refine ⟨hb1.chg h5 (by omega), hb2.chg h5 (by omega), ?_⟩
  have k3 : ∀ (a b : Value), Blk ((w'.setCell ⟨w.heap.size, 0, none⟩ a).setCell ⟨w.heap.size + 1, 0, none⟩ b) br 4 #[if used then x else .bool true] ∧ Blk ((w'.setCell ⟨w.heap.size, 0, none⟩ a).setCell ⟨w.heap.size + 1, 0, none⟩ b) bn 3 #[.int .i64 1] ∧
      Blk ((w'.setCell ⟨w.heap.size, 0, none⟩ a).setCell ⟨w.heap.size + 1, 0, none⟩ b) bd 88 (keptW true p c v S br bn ba bs) ∧ Blk ((w'.setCell ⟨w.heap.size, 0, none⟩ a).setCell ⟨w.heap.size + 1, 0, none⟩ b) bt 52 #[if p then a0 else .int .i64 v, if p then a1 else .string S, a2, a3, a4] ∧
      Chg (fun k => k = br ∨ k = bn ∨ k = bd ∨ k = bt) w ((w'.setCell ⟨w.heap.size, 0, none⟩ a).setCell ⟨w.heap.size + 1, 0, none⟩ b) := by
    intro a b
    refine ⟨?_, ?_, ?_, ?_, ?_⟩
    · exact (h1.far (p := ⟨w.heap.size, 0, none⟩) (by show br ≠ w.heap.size; omega) a).far (p := ⟨w.heap.size + 1, 0, none⟩) (by show br ≠ w.heap.size + 1; omega) b
    · exact (h2.far (p := ⟨w.heap.size, 0, none⟩) (by show bn ≠ w.heap.size; omega) a).far (p := ⟨w.heap.size + 1, 0, none⟩) (by show bn ≠ w.heap.size + 1; omega) b
    · exact (h3.far (p := ⟨w.heap.size, 0, none⟩) (by show bd ≠ w.heap.size; omega) a).far (p := ⟨w.heap.size + 1, 0, none⟩) (by show bd ≠ w.heap.size + 1; omega) b
    · exact (h4.far (p := ⟨w.heap.size, 0, none⟩) (by show bt ≠ w.heap.size; omega) a).far (p := ⟨w.heap.size + 1, 0, none⟩) (by show bt ≠ w.heap.size + 1; omega) b
    · exact ((hc1.trans h5).setCell (p := ⟨w.heap.size, 0, none⟩) (.inr (Nat.le_refl _)) a).setCell (p := ⟨w.heap.size + 1, 0, none⟩) (.inr (Nat.le_succ _)) b
  cases p
  · cases used
    · exact .inl ⟨rfl, rfl, k3 _ _⟩
    · exact .inl ⟨rfl, rfl, k3 _ _⟩
  · cases used
    · exact .inr ⟨c, _, rfl, rfl, rfl, k3 _ _⟩
    · exact .inr ⟨c, _, rfl, rfl, rfl, k3 _ _⟩

end Go.Proofs.Ytpkippcbocmmkaa
