/-
  sync.OnceFunc's function, over the action of impl.OnceFunc: the function that is handed to Do, the function that OnceFunc returns, at its first call and behind it, and impl.run over it.
-/
import Derived.Test.YtpkippcbocmmkaaFuncD
namespace Go.Proofs.Ytpkippcbocmmkaa
open Go.RowKit Go.Maps

/-- How the function that is handed to Do ends. -/
def redoEnd (p : Bool) (c : Int) : Ending := if p then .panicked [{ v := pan c, recovered := false }, { v := pan c, recovered := true }] else .returned (.tuple #[])

set_option maxRecDepth 100000 in
set_option maxHeartbeats 1600000 in
/-- The function that is handed to Do. -/
theorem body_func (bd br ba : Nat) (x v a1 a2 a3 a5 : Value) (p : Bool) (c : Int) (w : World) (hr : Blk w br 4 #[x]) (ha : Blk w ba 43 #[v, .bool p, .int .i64 c])
    (hd : Blk w bd 86 #[.func (.func 46) #[] #[.pointer (some ⟨br, 0, none⟩), .pointer (some ⟨ba, 0, none⟩)], a1, a2, a3, .bool false, a5]) :
    Calls Try.prog 57 #[.pointer (some ⟨bd, 0, none⟩)] w fun e w' => e = redoEnd p c ∧ Blk w' br 4 #[.bool true] ∧ Blk w' bd 86 #[.nilFunc, a1, a2, a3, .bool (!p), if p then pan c else .nilIface] ∧ Chg (fun k => k = br ∨ k = bd) w w' := by
  have hmf : ∀ (fn : Fn) (first cap : Array Value) (w : World), (Instr.makeFunc fn first cap).run Try.prog w = .ok (.func fn first cap) w := fun _ _ _ _ => rfl
  have nrd : br ≠ bd := hr.ne_ hd (by decide)
  obtain ⟨c0, c1, c2, c3, c4, c5⟩ := hd.c6
  have hr1 : Blk (w.setCell ⟨br, 0, none⟩ (.bool true)) br 4 #[.bool true] := hr.set_ 0 _
  have hd1 := hd.far (p := ⟨br, 0, none⟩) (fun e => nrd e.symm) (.bool true)
  have hc1 : Chg (fun k => k = br ∨ k = bd) w (w.setCell ⟨br, 0, none⟩ (.bool true)) := (Chg.refl _ w).setCell (.inl (.inl rfl)) _
  have HA := Lib.hid (act_func br ba x v p c w hr ha)
  have HD := Lib.hid hd1
  have HR := Lib.hid hr1
  have HC := Lib.hid hc1
  clear hr ha hd hd1 hr1 hc1
  go_enter_defers Try.func57, Try.ntmps57
  go_wp2_with fail
  refine HA.out.mono ?_
  clear HA
  rintro e w' ⟨rfl, rfl⟩
  cases p
  · have hd2 : Blk ((w.setCell ⟨br, 0, none⟩ (.bool true)).setCell ⟨bd, 4, none⟩ (.bool true)) bd 86 #[_, a1, a2, a3, .bool true, a5] := HD.out.set_ 4 _
    have d4 := HD.out.c6.2.2.2.2.1
    have z4 := HD.out.frozen 4
    have hr2 := HR.out.far (p := ⟨bd, 4, none⟩) nrd (.bool true)
    have hc2 := HC.out.setCell (p := ⟨bd, 4, none⟩) (.inl (.inr rfl)) (.bool true)
    have HD2 := Lib.hid hd2
    have HR2 := Lib.hid hr2
    have HC2 := Lib.hid hc2
    clear hd2 hr2 hc2
    simp only [stepEnd]
    go_wp2
    refine leaves_cons (f := 58) (args := #[.pointer (some ⟨bd, 0, none⟩)]) (by simp) (by simp [go_sem]) ?_
    refine (redo_idle bd _ _ _ _ _ _ HD2.out).mono ?_
    rintro e u' w'' ⟨rfl, rfl, rfl⟩
    refine ⟨.tuple #[], results_none rfl _ _ _, rfl, ?_, ?_, ?_⟩
    · exact (HR2.out.far (p := ⟨bd, 0, none⟩) nrd _).far (p := ⟨bd, 5, none⟩) nrd _
    · exact (HD2.out.set_ 0 _).set_ 5 _
    · exact (HC2.out.setCell (p := ⟨bd, 0, none⟩) (.inl (.inr rfl)) _).setCell (p := ⟨bd, 5, none⟩) (.inl (.inr rfl)) _
  · simp only [stepEnd]
    refine leaves_cons (f := 58) (args := #[.pointer (some ⟨bd, 0, none⟩)]) (by simp) (by simp [go_sem]) ?_
    refine (redo_raised bd c _ _ _ _ _ [] _ HD.out).mono ?_
    rintro e u' w'' ⟨rfl, rfl, rfl⟩
    refine ⟨rfl, ?_, ?_, ?_⟩
    · exact (HR.out.far (p := ⟨bd, 0, none⟩) nrd _).far (p := ⟨bd, 5, none⟩) nrd _
    · exact (HD.out.set_ 0 _).set_ 5 _
    · exact (HC.out.setCell (p := ⟨bd, 0, none⟩) (.inl (.inr rfl)) _).setCell (p := ⟨bd, 5, none⟩) (.inl (.inr rfl)) _

/-- The block that OnceFunc's function keeps: new, and behind the first call. -/
def kept (used p : Bool) (c : Int) (br ba : Nat) : Array Value :=
  if used then #[.nilFunc, .int .u32 1, .int .i32 0, .int .u32 0, .bool (!p), if p then pan c else .nilIface]
  else #[.func (.func 46) #[] #[.pointer (some ⟨br, 0, none⟩), .pointer (some ⟨ba, 0, none⟩)], .int .u32 0, .int .i32 0, .int .u32 0, .bool false, .nilIface]

set_option maxRecDepth 100000 in
set_option maxHeartbeats 1600000 in
/-- The function that OnceFunc returns, at its first call. -/
theorem func_first (bd br ba : Nat) (x v : Value) (p : Bool) (c : Int) (w : World) (hr : Blk w br 4 #[x]) (ha : Blk w ba 43 #[v, .bool p, .int .i64 c]) (hd : Blk w bd 86 (kept false p c br ba)) :
    Calls Try.prog 56 #[.pointer (some ⟨bd, 0, none⟩)] w fun e w' => e = redoEnd p c ∧ Blk w' br 4 #[.bool true] ∧ Blk w' bd 86 (kept true p c br ba) ∧ Chg (fun k => k = br ∨ k = bd) w w' := by
  have hmf : ∀ (fn : Fn) (first cap : Array Value) (w : World), (Instr.makeFunc fn first cap).run Try.prog w = .ok (.func fn first cap) w := fun _ _ _ _ => rfl
  have hnot : ∀ (x : Bool) (w : World), (Op.unary .not (.bool x)).run Try.prog w = .ok (.bool (!x)) w := fun _ _ => rfl
  have nrd : br ≠ bd := hr.ne_ hd (by decide)
  have nad : ba ≠ bd := ha.ne_ hd (by decide)
  have hdo : Calls Try.prog 38 #[.pointer (some ⟨bd, 1, none⟩), .func (.func 57) #[] #[.pointer (some ⟨bd, 0, none⟩)]] w fun e w' => e = redoEnd p c ∧ Blk w' br 4 #[.bool true] ∧ Blk w' bd 86 (kept true p c br ba) ∧ Chg (fun k => k = br ∨ k = bd) w w' := by
    obtain ⟨c0, c1, c2, c3, c4, c5⟩ := Blk.c6 hd
    refine do_first bd 1 57 _ w _ enter57 c1 c2 (hd.frozen 2) ?_
    have hd1 : Blk (w.setCell ⟨bd, 1 + 1, none⟩ (.int .i32 1)) bd 86 #[_, .int .u32 0, .int .i32 1, .int .u32 0, .bool false, .nilIface] := hd.set_ 2 _
    have hr1 := hr.far (p := ⟨bd, 1 + 1, none⟩) nrd (.int .i32 1)
    have ha1 := ha.far (p := ⟨bd, 1 + 1, none⟩) nad (.int .i32 1)
    have hc1 : Chg (fun k => k = br ∨ k = bd) w (w.setCell ⟨bd, 1 + 1, none⟩ (.int .i32 1)) := (Chg.refl _ w).setCell (.inl (.inr rfl)) _
    refine (body_func bd br ba _ _ _ _ _ _ p c _ hr1 ha1 hd1).mono ?_
    rintro e w' ⟨rfl, hr2, hd2, hc2⟩
    refine ⟨?_, ⟨hd2.cell 1, hd2.cell 2, hd2.frozen 1, hd2.frozen 2⟩, rfl, ?_, ?_, ?_⟩
    · cases p
      · exact .inl rfl
      · exact .inr ⟨_, rfl, rfl⟩
    · exact ((hr2.drew.far (p := ⟨bd, 1, none⟩) nrd _).far (p := ⟨bd, 1 + 1, none⟩) nrd _)
    · exact ((hd2.drew.set_ 1 (.int .u32 1)).set_ 2 (.int .i32 0))
    · exact ((hc1.trans hc2).drew.setCell (p := ⟨bd, 1, none⟩) (.inl (.inr rfl)) _).setCell (p := ⟨bd, 1 + 1, none⟩) (.inl (.inr rfl)) _
  have HDO := Lib.hid hdo
  clear hdo hr ha hd
  go_enter Try.func56, Try.ntmps56
  go_wp2_with fail
  refine HDO.out.mono ?_
  clear HDO
  rintro e w' ⟨rfl, hfin⟩
  have d4 := (Blk.c6 hfin.2.1).2.2.2.2.1
  have HF := Lib.hid hfin
  clear hfin
  cases p
  · simp only [redoEnd]
    go_wp2
    go_end0
    exact ⟨rfl, HF.out⟩
  · exact ⟨rfl, rfl, HF.out⟩

/-- The function that OnceFunc returns, at a later call. -/
theorem func_later (bd br ba : Nat) (p : Bool) (c : Int) (w : World) (hd : Blk w bd 86 (kept true p c br ba)) :
    Calls Try.prog 56 #[.pointer (some ⟨bd, 0, none⟩)] w fun e w' => e = stepEnd p c ∧ w' = w := by
  have hmf : ∀ (fn : Fn) (first cap : Array Value) (w : World), (Instr.makeFunc fn first cap).run Try.prog w = .ok (.func fn first cap) w := fun _ _ _ _ => rfl
  have hnot : ∀ (x : Bool) (w : World), (Op.unary .not (.bool x)).run Try.prog w = .ok (.bool (!x)) w := fun _ _ => rfl
  obtain ⟨c0, c1, c2, c3, c4, c5⟩ := Blk.c6 hd
  have HDO := Lib.hid (do_done ⟨bd, 1, none⟩ 1 rfl (.func (.func 57) #[] #[.pointer (some ⟨bd, 0, none⟩)]) w c1)
  clear hd c0 c1 c2 c3
  cases p
  · simp only [Bool.not_false, if_neg Bool.false_ne_true] at c4 c5
    go_enter Try.func56, Try.ntmps56
    go_wp2_with fail
    refine HDO.out.mono ?_
    rintro e w' ⟨rfl, rfl⟩
    clear HDO
    go_wp2
    go_end0
    exact ⟨rfl, rfl⟩
  · simp only [Bool.not_true, if_true, pan] at c4 c5
    go_enter Try.func56, Try.ntmps56
    go_wp2_with fail
    refine HDO.out.mono ?_
    rintro e w' ⟨rfl, rfl⟩
    clear HDO
    go_wp2
    exact ⟨rfl, rfl, rfl⟩

/-- impl.run over OnceFunc's function. -/
theorem run_func (bd br ba : Nat) (x v : Value) (p used : Bool) (c : Int) (w : World) (hr : Blk w br 4 #[x]) (ha : Blk w ba 43 #[v, .bool p, .int .i64 c]) (hd : Blk w bd 86 (kept used p c br ba)) :
    Calls Try.prog 36 #[.func (.func 56) #[] #[.pointer (some ⟨bd, 0, none⟩)]] w fun e w' => e = .returned (.tuple #[.bool p, .int .i64 (if p then c else 0)]) ∧ Blk w' br 4 #[if used then x else .bool true] ∧ Blk w' bd 86 (kept true p c br ba) ∧ Chg (fun k => k = br ∨ k = bd) w w' := by
  have lr := hr.lt
  have ld := hd.lt
  have hr1 := (hr.alloc (.cells #[.bool false] 4)).alloc (.cells #[.int .i64 0] 3)
  have ha1 := (ha.alloc (.cells #[.bool false] 4)).alloc (.cells #[.int .i64 0] 3)
  have hd1 := (hd.alloc (.cells #[.bool false] 4)).alloc (.cells #[.int .i64 0] 3)
  have hb1 : Blk ((w.alloc (.cells #[.bool false] 4)).alloc (.cells #[.int .i64 0] 3)) w.heap.size 4 #[.bool false] := (Blk.new w 4 _).alloc _
  have hb2 : Blk ((w.alloc (.cells #[.bool false] 4)).alloc (.cells #[.int .i64 0] 3)) (w.heap.size + 1) 3 #[.int .i64 0] := by
    have := Blk.new (w.alloc (.cells #[.bool false] 4)) 3 #[.int .i64 0]
    simpa using this
  have hc1 : Chg (fun k => k = br ∨ k = bd) w ((w.alloc (.cells #[.bool false] 4)).alloc (.cells #[.int .i64 0] 3)) := ((Chg.refl _ w).alloc _).alloc _
  have key : ∀ (w' : World) (y : Value), Blk w' br 4 #[y] → Blk w' bd 86 (kept true p c br ba) → Chg (fun k => k = br ∨ k = bd) ((w.alloc (.cells #[.bool false] 4)).alloc (.cells #[.int .i64 0] 3)) w' →
      Blk w' w.heap.size 4 #[.bool false] ∧ Blk w' (w.heap.size + 1) 3 #[.int .i64 0] ∧ ∀ (a b : Value),
        Blk ((w'.setCell ⟨w.heap.size, 0, none⟩ a).setCell ⟨w.heap.size + 1, 0, none⟩ b) br 4 #[y] ∧ Blk ((w'.setCell ⟨w.heap.size, 0, none⟩ a).setCell ⟨w.heap.size + 1, 0, none⟩ b) bd 86 (kept true p c br ba) ∧
        Chg (fun k => k = br ∨ k = bd) w ((w'.setCell ⟨w.heap.size, 0, none⟩ a).setCell ⟨w.heap.size + 1, 0, none⟩ b) := by
    intro w' y h1 h2 h3
    refine ⟨hb1.chg h3 (by omega), hb2.chg h3 (by omega), fun a b => ⟨?_, ?_, ?_⟩⟩
    · exact (h1.far (p := ⟨w.heap.size, 0, none⟩) (by show br ≠ w.heap.size; omega) a).far (p := ⟨w.heap.size + 1, 0, none⟩) (by show br ≠ w.heap.size + 1; omega) b
    · exact (h2.far (p := ⟨w.heap.size, 0, none⟩) (by show bd ≠ w.heap.size; omega) a).far (p := ⟨w.heap.size + 1, 0, none⟩) (by show bd ≠ w.heap.size + 1; omega) b
    · exact ((hc1.trans h3).setCell (p := ⟨w.heap.size, 0, none⟩) (.inr (Nat.le_refl _)) a).setCell (p := ⟨w.heap.size + 1, 0, none⟩) (.inr (Nat.le_succ _)) b
  refine run_any 56 _ w _ enter56 ?_
  cases used
  · refine (func_first bd br ba x v p c _ hr1 ha1 hd1).mono ?_
    rintro e w' ⟨rfl, h1, h2, h3⟩
    obtain ⟨k1, k2, k3⟩ := key w' _ h1 h2 h3
    refine ⟨k1, k2, ?_⟩
    cases p
    · exact .inl ⟨rfl, rfl, k3 _ _⟩
    · exact .inr ⟨c, _, rfl, rfl, rfl, k3 _ _⟩
  · refine (func_later bd br ba p c _ hd1).mono ?_
    rintro e w' ⟨rfl, rfl⟩
    obtain ⟨k1, k2, k3⟩ := key _ _ hr1 hd1 (Chg.refl _ _)
    refine ⟨k1, k2, ?_⟩
    cases p
    · exact .inl ⟨rfl, rfl, k3 _ _⟩
    · exact .inr ⟨c, _, rfl, rfl, rfl, k3 _ _⟩

end Go.Proofs.Ytpkippcbocmmkaa
