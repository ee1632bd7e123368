/-
  sync.Once in one goroutine: the contracts of doSlow and of Do, for whatever function value is handed to it and whether that returns or panics.
-/
import Derived.Test.YtpkippcbocmmkaaOnce
namespace Go.Proofs.Ytpkippcbocmmkaa
open Go.RowKit

/-- How a function without results ends: it returns, or it panics. -/
def Fin (e : Ending) : Prop := e = .returned (.tuple #[]) ∨ ∃ ch, e = .panicked ch ∧ settle (.panicking ch) = .panicking ch

/-- The Once at ⟨b, off⟩ in the middle of its first Do: not done, its lock held. -/
structure Mid (b off : Nat) (w : World) : Prop where
  done : w.cell? ⟨b, off, none⟩ = some (.int .u32 0)
  lock : w.cell? ⟨b, off + 1, none⟩ = some (.int .i32 1)
  f0 : w.frozen? ⟨b, off, none⟩ = false
  f1 : w.frozen? ⟨b, off + 1, none⟩ = false

/-- What doSlow's two deferred calls do behind the function, whatever the frame's mode. -/
theorem slow_leaves (b off : Nat) (tmps : Array Value) (u : FrameMode) (w : World) (R : Ending → World → Prop) (hu : u ≠ .run) (hs : settle u = u) (hm : Mid b off w)
    (hR : Leaves Try.prog Try.f55 tmps R [] u ((w.drew.setCell ⟨b, off, none⟩ (.int .u32 1)).setCell ⟨b, off + 1, none⟩ (.int .i32 0))) :
    Leaves Try.prog Try.f55 tmps R [{ target := .fn (.func 68) #[], args := #[.pointer (some ⟨b, off, none⟩), .bool true] }, { target := .fn (.func 67) #[], args := #[.pointer (some ⟨b, off + 1, none⟩)] }] u w := by
  refine leaves_cons (f := 68) (args := #[.pointer (some ⟨b, off, none⟩), .bool true]) hu (by simp [go_sem]) ?_
  refine (store_deferred ⟨b, off, none⟩ (.int .u32 0) u _ hm.done hm.f0).mono ?_
  rintro e u' w'' ⟨rfl, rfl, rfl⟩
  simp only [hs]
  refine leaves_cons (f := 67) (args := #[.pointer (some ⟨b, off + 1, none⟩)]) hu (by simp [go_sem]) ?_
  refine (unlock_deferred ⟨b, off + 1, none⟩ _ _ ?_ (by simp [hm.f1])).mono ?_
  · refine (World.cell?_setCell_other _ ⟨b, off, none⟩ ⟨b, off + 1, none⟩ _ (by simp)).trans ?_
    rw [World.cell?_drew]
    exact hm.lock
  rintro e u' w'' ⟨rfl, rfl, rfl⟩
  simp only [hs]
  exact hR

set_option maxRecDepth 100000 in
set_option maxHeartbeats 1600000 in
theorem slow_any (b off k : Nat) (caps : Array Value) (w : World) (R : Ending → World → Prop)
    (hk : ∀ (args : Array Value) (w : World), (callFunc k args).run Try.prog w = .ok (.enter k args) w)
    (h0 : w.cell? ⟨b, off, none⟩ = some (.int .u32 0)) (h1 : w.cell? ⟨b, off + 1, none⟩ = some (.int .i32 0))
    (f1 : w.frozen? ⟨b, off + 1, none⟩ = false)
    (hf : Calls Try.prog k caps (w.setCell ⟨b, off + 1, none⟩ (.int .i32 1)) fun e w' => Fin e ∧ Mid b off w' ∧ R e ((w'.drew.setCell ⟨b, off, none⟩ (.int .u32 1)).setCell ⟨b, off + 1, none⟩ (.int .i32 0))) :
    Calls Try.prog 55 #[.pointer (some ⟨b, off, none⟩), .func (.func k) #[] caps] w R := by
  have hl := run_call_load (P := Try.prog) Try.func65 (by kernel_rfl) (by kernel_rfl) (by kernel_rfl) .u32 (by kernel_rfl) (w := w.setCell ⟨b, off + 1, none⟩ (.int .i32 1)) (a := ⟨b, off, none⟩) (x := 0) ((World.cell?_setCell_other _ ⟨b, off + 1, none⟩ ⟨b, off, none⟩ _ (by simp)).trans h0)
  have hnot : ∀ (x : Bool) (w : World), (Op.unary .not (.bool x)).run Try.prog w = .ok (.bool (!x)) w := fun _ _ => rfl
  have HF := Lib.hid hf
  clear hf
  go_enter_defers Try.func55, Try.ntmps55
  go_wp2_with (first | (go_at_call 66; refine (lock_free ⟨b, off + 1, none⟩ _ (by go_simp) (by go_simp)).mono ?_; rintro e w' ⟨rfl, rfl⟩) | (go_at_call 54; go_in))
  refine HF.out.mono ?_
  clear HF
  rintro e w' ⟨hfin, hm, hR⟩
  rcases hfin with rfl | ⟨ch, rfl, hs⟩
  · have HR := Lib.hid hR
    have HM := Lib.hid hm
    clear hR hm
    go_wp2
    refine slow_leaves b off _ .returning _ R (by simp) rfl HM.out ?_
    exact ⟨.tuple #[], results_none rfl _ _ _, HR.out⟩
  · refine slow_leaves b off _ (.panicking ch) _ R (by simp) hs hm ?_
    exact hR

set_option maxRecDepth 100000 in
set_option maxHeartbeats 1600000 in
/-- '(*sync.Once).Do', not yet done, the lock free: the function is called, and the Once is done whether it returns or panics. -/
theorem do_first (b off k : Nat) (caps : Array Value) (w : World) (R : Ending → World → Prop)
    (hk : ∀ (args : Array Value) (w : World), (callFunc k args).run Try.prog w = .ok (.enter k args) w)
    (h0 : w.cell? ⟨b, off, none⟩ = some (.int .u32 0)) (h1 : w.cell? ⟨b, off + 1, none⟩ = some (.int .i32 0))
    (f1 : w.frozen? ⟨b, off + 1, none⟩ = false)
    (hf : Calls Try.prog k caps (w.setCell ⟨b, off + 1, none⟩ (.int .i32 1)) fun e w' => Fin e ∧ Mid b off w' ∧ R e ((w'.drew.setCell ⟨b, off, none⟩ (.int .u32 1)).setCell ⟨b, off + 1, none⟩ (.int .i32 0))) :
    Calls Try.prog 38 #[.pointer (some ⟨b, off, none⟩), .func (.func k) #[] caps] w R := by
  have hl := run_call_load (P := Try.prog) Try.func65 (by kernel_rfl) (by kernel_rfl) (by kernel_rfl) .u32 (by kernel_rfl) h0
  have hnot : ∀ (x : Bool) (w : World), (Op.unary .not (.bool x)).run Try.prog w = .ok (.bool (!x)) w := fun _ _ => rfl
  have HF := Lib.hid (hf.mono (R' := fun e w' => Fin e ∧ Mid b off w' ∧ (Fin e ∧ R e ((w'.drew.setCell ⟨b, off, none⟩ (.int .u32 1)).setCell ⟨b, off + 1, none⟩ (.int .i32 0)))) fun e w' h => ⟨h.1, h.2.1, h.1, h.2.2⟩)
  clear hf
  go_enter Try.func38, Try.ntmps38
  go_wp2_with (first | (go_at_call 54; go_in))
  refine (slow_any b off k caps w (fun e w' => Fin e ∧ R e w') hk h0 h1 f1 HF.out).mono ?_
  clear HF
  rintro e w' ⟨hfin, hR⟩
  rcases hfin with rfl | ⟨ch, rfl, hs⟩
  · have HR := Lib.hid hR
    clear hR
    go_wp2
    go_end0
    exact HR.out
  · exact ⟨rfl, hR⟩

/-- '(*sync.Once).Do', done already: nothing is called. -/
theorem do_done (a : Addr) (d : Int) (hd : (d != 0) = true) (fv : Value) (w : World) (h0 : w.cell? a = some (.int .u32 d)) :
    Calls Try.prog 38 #[.pointer (some a), fv] w fun e w' => e = .returned (.tuple #[]) ∧ w = w' := by
  have hl := run_call_load (P := Try.prog) Try.func65 (by kernel_rfl) (by kernel_rfl) (by kernel_rfl) .u32 (by kernel_rfl) h0
  have hnot : ∀ (x : Bool) (w : World), (Op.unary .not (.bool x)).run Try.prog w = .ok (.bool (!x)) w := fun _ _ => rfl
  go_enter Try.func38, Try.ntmps38
  go_wp2
  go_end0
  exact ⟨rfl, rfl⟩

end Go.Proofs.Ytpkippcbocmmkaa
