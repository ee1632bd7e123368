/-
  The deferred closure of sync.OnceValue: it recovers, and panics anew.
-/
import Derived.Test.YtpkippcbocmmkaaFuncD
namespace Go.Proofs.Ytpkippcbocmmkaa
open Go.RowKit Go.Maps

theorem Blk.c7 {w : World} {g : Nat} {t : TypeId} {a b c d e f g1 : Value} (h : Blk w g t #[a, b, c, d, e, f, g1]) :
    w.cell? ⟨g, 0, none⟩ = some a ∧ w.cell? ⟨g, 1, none⟩ = some b ∧ w.cell? ⟨g, 2, none⟩ = some c ∧ w.cell? ⟨g, 3, none⟩ = some d ∧ w.cell? ⟨g, 4, none⟩ = some e ∧ w.cell? ⟨g, 5, none⟩ = some f ∧ w.cell? ⟨g, 6, none⟩ = some g1 := ⟨h.cell 0, h.cell 1, h.cell 2, h.cell 3, h.cell 4, h.cell 5, h.cell 6⟩

set_option maxRecDepth 100000 in
set_option maxHeartbeats 1600000 in
/-- The deferred closure, where the action returned. -/
theorem redoV_idle (bd : Nat) (a0 a1 a2 a3 a5 a6 : Value) (w : World) (hd : Blk w bd 87 #[a0, a1, a2, a3, .bool true, a5, a6]) :
    CallsD Try.prog 61 #[.pointer (some ⟨bd, 0, none⟩)] .returning w fun e u' w' => e = .returned (.tuple #[]) ∧ u' = .returning ∧ w' = (w.setCell ⟨bd, 0, none⟩ .nilFunc).setCell ⟨bd, 5, none⟩ .nilIface := by
  obtain ⟨c0, c1, c2, c3, c4, c5, _⟩ := hd.c7
  have z0 := hd.frozen 0
  have z5 := hd.frozen 5
  have hd1 : Blk (w.setCell ⟨bd, 0, none⟩ .nilFunc) bd 87 #[.nilFunc, a1, a2, a3, .bool true, a5, a6] := hd.set_ 0 _
  have e5 := hd1.c7.2.2.2.2.2.1
  have y5 := hd1.frozen 5
  have hd2 : Blk ((w.setCell ⟨bd, 0, none⟩ .nilFunc).setCell ⟨bd, 5, none⟩ .nilIface) bd 87 #[.nilFunc, a1, a2, a3, .bool true, .nilIface, a6] := hd1.set_ 5 _
  have f4 := hd2.c7.2.2.2.2.1
  have hnot : ∀ (x : Bool) (w : World), (Op.unary .not (.bool x)).run Try.prog w = .ok (.bool (!x)) w := fun _ _ => rfl
  clear hd hd1 hd2
  refine callsD_of_wpS Try.func61 rfl fun c₀ cs hu => ?_
  apply wpS_seq
  apply wpS_region
  simp [wpOpsS, go_sem, Try.ntmps61, Exit.thenS, c0, z0]
  apply wpS_seq
  apply wpS_region
  simp [wpOpsS, go_sem, recoverD, hu, Exit.thenS, e5, y5]
  refine wpS_of_wp ?_
  go_wp2
  exact ⟨rfl, .returning, by cases c₀; simp_all, .tuple #[], results_none rfl _ _ _, rfl, rfl, rfl⟩

set_option maxRecDepth 100000 in
set_option maxHeartbeats 1600000 in
/-- The deferred closure, where the action panicked: it recovers, keeps the value and panics with it. -/
theorem redoV_raised (bd : Nat) (n : Int) (a0 a1 a2 a3 a5 a6 : Value) (older : List PanicEntry) (w : World) (hd : Blk w bd 87 #[a0, a1, a2, a3, .bool false, a5, a6]) :
    CallsD Try.prog 61 #[.pointer (some ⟨bd, 0, none⟩)] (.panicking ({ v := pan n, recovered := false } :: older)) w fun e u' w' =>
      e = .panicked [{ v := pan n, recovered := false }] ∧ u' = .panicking ({ v := pan n, recovered := true } :: older) ∧ w' = (w.setCell ⟨bd, 0, none⟩ .nilFunc).setCell ⟨bd, 5, none⟩ (pan n) := by
  obtain ⟨c0, c1, c2, c3, c4, c5, _⟩ := hd.c7
  have z0 := hd.frozen 0
  have z5 := hd.frozen 5
  have hd1 : Blk (w.setCell ⟨bd, 0, none⟩ .nilFunc) bd 87 #[.nilFunc, a1, a2, a3, .bool false, a5, a6] := hd.set_ 0 _
  have e5 := hd1.c7.2.2.2.2.2.1
  have y5 := hd1.frozen 5
  have hd2 : Blk ((w.setCell ⟨bd, 0, none⟩ .nilFunc).setCell ⟨bd, 5, none⟩ (pan n)) bd 87 #[.nilFunc, a1, a2, a3, .bool false, pan n, a6] := hd1.set_ 5 _
  have f4 := hd2.c7.2.2.2.2.1
  have f5 := hd2.c7.2.2.2.2.2.1
  have hnot : ∀ (x : Bool) (w : World), (Op.unary .not (.bool x)).run Try.prog w = .ok (.bool (!x)) w := fun _ _ => rfl
  clear hd hd1 hd2
  simp only [pan] at *
  refine callsD_of_wpS Try.func61 rfl fun c₀ cs hu => ?_
  apply wpS_seq
  apply wpS_region
  simp [wpOpsS, go_sem, Try.ntmps61, Exit.thenS, c0, z0]
  apply wpS_seq
  apply wpS_region
  simp [wpOpsS, go_sem, recoverD, hu, Exit.thenS, e5, y5]
  refine wpS_of_wp ?_
  go_wp2
  exact ⟨rfl, _, rfl, rfl, rfl, rfl⟩

end Go.Proofs.Ytpkippcbocmmkaa
