/-
  sync.OnceFunc's closures, over the action of impl.OnceFunc: the deferred one that recovers and panics anew, the function that is handed to Do, and the function that OnceFunc returns, at its first call and behind it.
-/
import Derived.Test.YtpkippcbocmmkaaStepDo
import Derived.Laws.EntriesVeiled
namespace Go.Proofs.Ytpkippcbocmmkaa
open Go.RowKit Go.Maps

theorem Blk.c6 {w : World} {g : Nat} {t : TypeId} {a b c d e f : Value} (h : Blk w g t #[a, b, c, d, e, f]) :
    w.cell? ⟨g, 0, none⟩ = some a ∧ w.cell? ⟨g, 1, none⟩ = some b ∧ w.cell? ⟨g, 2, none⟩ = some c ∧ w.cell? ⟨g, 3, none⟩ = some d ∧ w.cell? ⟨g, 4, none⟩ = some e ∧ w.cell? ⟨g, 5, none⟩ = some f := ⟨h.cell 0, h.cell 1, h.cell 2, h.cell 3, h.cell 4, h.cell 5⟩

/-- What a panic with a number is. -/
def pan (c : Int) : Value := .iface 3 (.int .i64 c)

theorem enter46 (args : Array Value) (w : World) : (callFunc 46 args).run Try.prog w = .ok (.enter 46 args) w := by kernel_rfl
theorem enter57 (args : Array Value) (w : World) : (callFunc 57 args).run Try.prog w = .ok (.enter 57 args) w := by kernel_rfl
theorem enter56 (args : Array Value) (w : World) : (callFunc 56 args).run Try.prog w = .ok (.enter 56 args) w := by kernel_rfl

/-- The action of impl.OnceFunc. -/
theorem act_func (br ba : Nat) (x v : Value) (p : Bool) (c : Int) (w : World) (hr : Blk w br 4 #[x]) (ha : Blk w ba 43 #[v, .bool p, .int .i64 c]) :
    Calls Try.prog 46 #[.pointer (some ⟨br, 0, none⟩), .pointer (some ⟨ba, 0, none⟩)] w fun e w' => e = stepEnd p c ∧ w' = w.setCell ⟨br, 0, none⟩ (.bool true) := by
  have r0 := hr.c1
  have z0 := hr.frozen 0
  have hne : ¬ br = ba := hr.ne_ ha (by decide)
  have ha1 := ha.far (p := ⟨br, 0, none⟩) (fun e => hne e.symm) (.bool true)
  obtain ⟨a0, a1, a2⟩ := ha1.c3
  clear hr ha ha1
  cases p
  · go_enter Try.func46, Try.ntmps46
    go_wp2
    go_end0
    exact ⟨rfl, rfl⟩
  · go_enter Try.func46, Try.ntmps46
    go_wp2
    exact ⟨rfl, rfl, rfl⟩

set_option maxRecDepth 100000 in
set_option maxHeartbeats 1600000 in
/-- The deferred closure, where the action returned. -/
theorem redo_idle (bd : Nat) (a0 a1 a2 a3 a5 : Value) (w : World) (hd : Blk w bd 86 #[a0, a1, a2, a3, .bool true, a5]) :
    CallsD Try.prog 58 #[.pointer (some ⟨bd, 0, none⟩)] .returning w fun e u' w' => e = .returned (.tuple #[]) ∧ u' = .returning ∧ w' = (w.setCell ⟨bd, 0, none⟩ .nilFunc).setCell ⟨bd, 5, none⟩ .nilIface := by
  obtain ⟨c0, c1, c2, c3, c4, c5⟩ := hd.c6
  have z0 := hd.frozen 0
  have z5 := hd.frozen 5
  have hd1 : Blk (w.setCell ⟨bd, 0, none⟩ .nilFunc) bd 86 #[.nilFunc, a1, a2, a3, .bool true, a5] := hd.set_ 0 _
  have e5 := hd1.c6.2.2.2.2.2
  have y5 := hd1.frozen 5
  have hd2 : Blk ((w.setCell ⟨bd, 0, none⟩ .nilFunc).setCell ⟨bd, 5, none⟩ .nilIface) bd 86 #[.nilFunc, a1, a2, a3, .bool true, .nilIface] := hd1.set_ 5 _
  have f4 := hd2.c6.2.2.2.2.1
  have hnot : ∀ (x : Bool) (w : World), (Op.unary .not (.bool x)).run Try.prog w = .ok (.bool (!x)) w := fun _ _ => rfl
  clear hd hd1 hd2
  refine callsD_of_wpS Try.func58 rfl fun c₀ cs hu => ?_
  apply wpS_seq
  apply wpS_region
  simp [wpOpsS, go_sem, Try.ntmps58, Exit.thenS, c0, z0]
  apply wpS_seq
  apply wpS_region
  simp [wpOpsS, go_sem, recoverD, hu, Exit.thenS, e5, y5]
  refine wpS_of_wp ?_
  go_wp2
  exact ⟨rfl, .returning, by cases c₀; simp_all, .tuple #[], results_none rfl _ _ _, rfl, rfl, rfl⟩

set_option maxRecDepth 100000 in
set_option maxHeartbeats 1600000 in
/-- The deferred closure, where the action panicked: it recovers, keeps the value and panics with it. -/
theorem redo_raised (bd : Nat) (n : Int) (a0 a1 a2 a3 a5 : Value) (older : List PanicEntry) (w : World) (hd : Blk w bd 86 #[a0, a1, a2, a3, .bool false, a5]) :
    CallsD Try.prog 58 #[.pointer (some ⟨bd, 0, none⟩)] (.panicking ({ v := pan n, recovered := false } :: older)) w fun e u' w' =>
      e = .panicked [{ v := pan n, recovered := false }] ∧ u' = .panicking ({ v := pan n, recovered := true } :: older) ∧ w' = (w.setCell ⟨bd, 0, none⟩ .nilFunc).setCell ⟨bd, 5, none⟩ (pan n) := by
  obtain ⟨c0, c1, c2, c3, c4, c5⟩ := hd.c6
  have z0 := hd.frozen 0
  have z5 := hd.frozen 5
  have hd1 : Blk (w.setCell ⟨bd, 0, none⟩ .nilFunc) bd 86 #[.nilFunc, a1, a2, a3, .bool false, a5] := hd.set_ 0 _
  have e5 := hd1.c6.2.2.2.2.2
  have y5 := hd1.frozen 5
  have hd2 : Blk ((w.setCell ⟨bd, 0, none⟩ .nilFunc).setCell ⟨bd, 5, none⟩ (pan n)) bd 86 #[.nilFunc, a1, a2, a3, .bool false, pan n] := hd1.set_ 5 _
  have f4 := hd2.c6.2.2.2.2.1
  have f5 := hd2.c6.2.2.2.2.2
  have hnot : ∀ (x : Bool) (w : World), (Op.unary .not (.bool x)).run Try.prog w = .ok (.bool (!x)) w := fun _ _ => rfl
  clear hd hd1 hd2
  simp only [pan] at *
  refine callsD_of_wpS Try.func58 rfl fun c₀ cs hu => ?_
  apply wpS_seq
  apply wpS_region
  simp [wpOpsS, go_sem, Try.ntmps58, Exit.thenS, c0, z0]
  apply wpS_seq
  apply wpS_region
  simp [wpOpsS, go_sem, recoverD, hu, Exit.thenS, e5, y5]
  refine wpS_of_wp ?_
  go_wp2
  exact ⟨rfl, _, rfl, rfl, rfl, rfl⟩

end Go.Proofs.Ytpkippcbocmmkaa
