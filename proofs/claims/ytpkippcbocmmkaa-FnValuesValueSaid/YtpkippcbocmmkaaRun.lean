/-
  impl.run: it calls a function without results, and tells whether it panicked and with which number: the contract of the deferred closure that recovers, and of run itself, for whatever function value is handed to it.
-/
import Derived.Test.YtpkippcbocmmkaaOnceDo
namespace Go.Proofs.Ytpkippcbocmmkaa
open Go.RowKit

theorem assert_int (n : Int) (w : World) : (Instr.typeAssert (.iface 3 (.int .i64 n)) 20 3 true).run Try.prog w = .ok (.tuple #[.int .i64 n, .bool true]) w := by kernel_rfl

set_option maxRecDepth 100000 in
theorem catch_panicking (p c : Nat) (n : Int) (x y : Value) (older : List PanicEntry) (w : World) (hc : w.cell? ⟨p, 0, none⟩ = some x) (hz : w.frozen? ⟨p, 0, none⟩ = false) (hc2 : w.cell? ⟨c, 0, none⟩ = some y) (hz2 : w.frozen? ⟨c, 0, none⟩ = false) (hne : ¬ p = c) :
    CallsD Try.prog 53 #[.pointer (some ⟨p, 0, none⟩), .pointer (some ⟨c, 0, none⟩)] (.panicking ({ v := .iface 3 (.int .i64 n), recovered := false } :: older)) w fun e u' w' =>
      e = .returned (.tuple #[]) ∧ u' = .panicking ({ v := .iface 3 (.int .i64 n), recovered := true } :: older) ∧ w' = (w.setCell ⟨p, 0, none⟩ (.bool true)).setCell ⟨c, 0, none⟩ (.int .i64 n) := by
  refine callsD_of_wpS Try.func53 rfl fun c₀ cs hu => ?_
  have hta := assert_int
  have hz3 : (w.setCell ⟨p, 0, none⟩ (.bool true)).frozen? ⟨c, 0, none⟩ = false := by simp [hz2]
  have hc3 : (w.setCell ⟨p, 0, none⟩ (.bool true)).cell? ⟨c, 0, none⟩ = some y := (World.cell?_setCell_other _ _ _ _ (fun e => hne (congrArg Addr.block e))).trans hc2
  apply wpS_seq
  apply wpS_region
  simp [wpOpsS, go_sem, recoverD, hu, Try.ntmps53, Exit.thenS]
  refine wpS_of_wp ?_
  go_wp2
  exact ⟨rfl, _, rfl, .tuple #[], results_none rfl _ _ _, rfl, rfl, rfl⟩

set_option maxRecDepth 100000 in
theorem catch_idle (p c : Addr) (w : World) :
    CallsD Try.prog 53 #[.pointer (some p), .pointer (some c)] .returning w fun e u' w' => e = .returned (.tuple #[]) ∧ u' = .returning ∧ w' = w := by
  refine callsD_of_wpS Try.func53 rfl fun c₀ cs hu => ?_
  apply wpS_seq
  apply wpS_region
  simp [wpOpsS, go_sem, recoverD, hu, Try.ntmps53, Exit.thenS]
  refine wpS_of_wp ?_
  go_wp2
  exact ⟨rfl, .returning, by cases c₀; simp_all, .tuple #[], results_none rfl _ _ _, rfl, rfl, rfl⟩

theorem run_results (W : World) (p c : Nat) (b : Bool) (n : Int) (t0 t1 t4 t5 t6 : Value) (h1 : W.cell? ⟨p, 0, none⟩ = some (.bool b)) (h2 : W.cell? ⟨c, 0, none⟩ = some (.int .i64 n)) :
    (results Try.f36 #[t0, t1, .pointer (some ⟨p, 0, none⟩), .pointer (some ⟨c, 0, none⟩), t4, t5, t6]).run Try.prog W = .ok (.tuple #[.bool b, .int .i64 n]) W := by
  simp [results, Try.results36, go_sem, h1, h2]

theorem two_cells {w : World} {p c : Nat} {x y : Value} (hne : ¬ p = c) (h1 : w.cell? ⟨p, 0, none⟩ = some x) (h2 : w.cell? ⟨c, 0, none⟩ = some y) (u v : Value) :
    ((w.setCell ⟨p, 0, none⟩ u).setCell ⟨c, 0, none⟩ v).cell? ⟨p, 0, none⟩ = some u ∧ ((w.setCell ⟨p, 0, none⟩ u).setCell ⟨c, 0, none⟩ v).cell? ⟨c, 0, none⟩ = some v := by
  refine ⟨?_, ?_⟩
  · rw [World.cell?_setCell_other _ _ _ _ (fun e => hne (congrArg Addr.block e).symm)]
    exact World.cell?_setCell_same w _ _ h1
  · exact World.cell?_setCell_same _ _ _ ((World.cell?_setCell_other _ _ _ _ (fun e => hne (congrArg Addr.block e))).trans h2)

set_option maxRecDepth 100000 in
set_option maxHeartbeats 1600000 in
/-- 'run(f)': how f ended is told in the two results. -/
theorem run_any (k : Nat) (caps : Array Value) (w : World) (R : Ending → World → Prop)
    (hk : ∀ (args : Array Value) (w : World), (callFunc k args).run Try.prog w = .ok (.enter k args) w)
    (hf : Calls Try.prog k caps ((w.alloc (.cells #[.bool false] 4)).alloc (.cells #[.int .i64 0] 3)) fun e w' =>
      Blk w' w.heap.size 4 #[.bool false] ∧ Blk w' (w.heap.size + 1) 3 #[.int .i64 0] ∧
      ((e = .returned (.tuple #[]) ∧ R (.returned (.tuple #[.bool false, .int .i64 0])) ((w'.setCell ⟨w.heap.size, 0, none⟩ (.bool false)).setCell ⟨w.heap.size + 1, 0, none⟩ (.int .i64 0))) ∨
       (∃ n older, e = .panicked ({ v := .iface 3 (.int .i64 n), recovered := false } :: older) ∧ older.dropWhile (!·.goexit) = [] ∧
         R (.returned (.tuple #[.bool true, .int .i64 n])) ((w'.setCell ⟨w.heap.size, 0, none⟩ (.bool true)).setCell ⟨w.heap.size + 1, 0, none⟩ (.int .i64 n))))) :
    Calls Try.prog 36 #[.func (.func k) #[] caps] w R := by
  have hmf : ∀ (fn : Fn) (first cap : Array Value) (w : World), (Instr.makeFunc fn first cap).run Try.prog w = .ok (.func fn first cap) w := fun _ _ _ _ => rfl
  have HF := Lib.hid hf
  clear hf
  go_enter_defers Try.func36, Try.ntmps36
  go_wp2_with fail
  refine HF.out.mono ?_
  clear HF
  rintro e w' ⟨hb1, hb2, ⟨rfl, hR⟩ | ⟨n, older, rfl, hold, hR⟩⟩
  · have c1 : w'.cell? ⟨w.heap.size, 0, none⟩ = some (.bool false) := hb1.cell 0
    have z1 := hb1.frozen 0
    have c2 : w'.cell? ⟨w.heap.size + 1, 0, none⟩ = some (.int .i64 0) := hb2.cell 0
    have z2 := hb2.frozen 0
    have HR := Lib.hid hR
    clear hR hb1 hb2
    go_wp2
    refine leaves_cons (f := 53) (args := #[.pointer (some ⟨w.heap.size, 0, none⟩), .pointer (some ⟨w.heap.size + 1, 0, none⟩)]) (by simp) (by simp [go_sem]) ?_
    refine (catch_idle _ _ _).mono ?_
    rintro e u' w'' ⟨rfl, rfl, rfl⟩
    obtain ⟨d1, d2⟩ := two_cells (by omega) c1 c2 (.bool false) (.int .i64 0)
    exact ⟨.tuple #[.bool false, .int .i64 0], run_results _ _ _ _ _ _ _ _ _ _ d1 d2, HR.out⟩
  · have c1 : w'.cell? ⟨w.heap.size, 0, none⟩ = some (.bool false) := hb1.cell 0
    have z1 := hb1.frozen 0
    have c2 : w'.cell? ⟨w.heap.size + 1, 0, none⟩ = some (.int .i64 0) := hb2.cell 0
    have z2 := hb2.frozen 0
    refine leaves_cons (f := 53) (args := #[.pointer (some ⟨w.heap.size, 0, none⟩), .pointer (some ⟨w.heap.size + 1, 0, none⟩)]) (by simp) (by simp [go_sem]) ?_
    refine (catch_panicking _ _ n _ _ older w' c1 z1 c2 z2 (by omega)).mono ?_
    rintro e u' w'' ⟨rfl, rfl, rfl⟩
    simp only [settle, hold]
    obtain ⟨d1, d2⟩ := two_cells (by omega) c1 c2 (.bool true) (.int .i64 n)
    exact ⟨.tuple #[.bool true, .int .i64 n], run_results _ _ _ _ _ _ _ _ _ _ d1 d2, hR⟩

end Go.Proofs.Ytpkippcbocmmkaa
