/-
  The small functions of the exact law: equality of what is told and of steps, value by value and slice by slice; a list's size; a step copied.
-/
import Derived.Test.YtpkippcbocmmkaaApp
import Derived.Deep.RegionHeld3
namespace Go.Proofs.Ytpkippcbocmmkaa
open Go.ChangeShapes Go.WideShapes Go.ChangeAt Go.RowKit Go.Deep

theorem eqTold_any (t : Told) (w : World) : Calls Try.prog 43 #[.agg (toldCells t), .agg (toldCells t)] w fun e w' => e = .returned (.bool true) ∧ w' = (w.alloc (.cells (toldCells t) 26)).alloc (.cells (toldCells t) 26) := by
  unfold toldCells
  go_enter Try.func43, Try.ntmps43
  go_wp2_with fail
  go_ret
  exact ⟨rfl, rfl⟩

theorem eqStep_any (s : Step) (w : World) : Calls Try.prog 44 #[.agg (stepCells s), .agg (stepCells s)] w fun e w' => e = .returned (.bool true) ∧ w' = (w.alloc (.cells (stepCells s) 30)).alloc (.cells (stepCells s) 30) := by
  unfold stepCells
  go_enter Try.func44, Try.ntmps44
  go_wp2_with fail
  go_ret
  exact ⟨rfl, rfl⟩

theorem toStep_any (s : Step) (w : World) : Calls Try.prog 42 #[.agg (stepCells s)] w fun e w' => e = .returned (.agg (stepCells s)) ∧ Below w.heap.size w w' := by
  have hb : Below w.heap.size w (((w.alloc (.cells (stepCells s) 75)).alloc (.cells (stepCells s) 30)).alloc (.cells (stepCells s) 30)) :=
    (((Below.refl _ w).alloc (Nat.le_refl _) _).alloc (by simp) _).alloc (by simp; omega) _
  have HB := Lib.hid hb
  clear hb
  unfold stepCells at *
  go_enter Try.func42, Try.ntmps42
  go_wp2_with fail
  exact bodyPost_ret (v := .agg #[.int .i64 s.once, .int .i64 s.inner, .bool s.panics, .int .i64 s.code]) (by simp [results, Try.results42, go_sem]) rfl ⟨rfl, HB.out⟩

theorem sz_any (A : Option Addr) (n cap : Nat) (w : World) (hn : n ≤ 4398046511104) :
    Calls Try.prog 21 #[.slice A n cap, .int .i64 1048576] w fun e w' => e = .returned (.int .i64 (if (n : Int) ≤ 1048576 then 1048576 - (n : Int) else -1)) ∧ w = w' := by
  by_cases h : (n : Int) ≤ 1048576
  · rw [if_pos h]
    go_enter Try.func21, Try.ntmps21
    go_wp2_with fail
    go_ret
    exact ⟨rfl, rfl⟩
  · rw [if_neg h]
    go_enter Try.func21, Try.ntmps21
    go_wp2_with fail
    go_ret
    exact ⟨rfl, rfl⟩

set_option maxHeartbeats 1000000 in
theorem eqToldS_any (A1 A2 : Option Addr) (c1 c2 n : Nat) (l : List Told) (hn : l.length = n) (w : World) (h1 : Rd w w.heap.size 4 A1 n (toldRow l)) (h2 : Rd w w.heap.size 4 A2 n (toldRow l)) (hlen : n ≤ 9223372036854775807) :
    Calls Try.prog 24 #[.slice A1 n c1, .slice A2 n c2] w fun e w' => e = .returned (.bool true) ∧ Below w.heap.size w w' := by
  subst hn
  have R1 := Lib.hid h1
  have R2 := Lib.hid h2
  clear h1 h2
  have hnot : ∀ (x : Bool) (w : World), (Op.unary .not (.bool x)).run Try.prog w = .ok (.bool (!x)) w := fun _ _ => rfl
  go_enter Try.func24, Try.ntmps24
  go_wp2_with fail
  go_loopw [5] (fun i wr => ∃ k : Nat, k ≤ l.length ∧ i = .int .i64 k ∧ Below w.heap.size w wr) (fun i _ => l.length - (intOf i).toNat)
  case atStart => exact ⟨0, Nat.zero_le _, rfl, Below.refl _ _⟩
  case round =>
    obtain ⟨k, hk, rfl, hb⟩ := hrel
    have HB := Lib.hid hb
    by_cases hlt : k < l.length
    · obtain ⟨b, off, rfl, hb1, s0, s1, s2, s3⟩ := (R1.out.below hb).told hlt rfl
      obtain ⟨b', off', rfl, hb2, t0, t1, t2, t3⟩ := (R2.out.below hb).told hlt rfl
      have hsz := hb.size
      have hx1 : b < wr.heap.size := by omega
      have hx2 : b' < wr.heap.size := by omega
      have hk0 : (0 : Int) ≤ (k : Int) := Int.natCast_nonneg _
      have hk1 : (k : Int) < (l.length : Int) := by omega
      clear hb
      have hc := fun W => eqTold_any l[k] W
      unfold toldCells at hc
      have HC := Lib.hid hc
      clear hc
      go_wp2_with fail
      go_region_held3 (fun w' => (w'.cell? ⟨b, off + k * 4, none⟩ = some (.bool l[k].ran) ∧ w'.cell? ⟨b, off + k * 4 + 1, none⟩ = some (.bool l[k].inner) ∧ w'.cell? ⟨b, off + k * 4 + 2, none⟩ = some (.bool l[k].panicked) ∧ w'.cell? ⟨b, off + k * 4 + 3, none⟩ = some (.int .i64 l[k].code)) ∧
          (w'.cell? ⟨b', off' + k * 4, none⟩ = some (.bool l[k].ran) ∧ w'.cell? ⟨b', off' + k * 4 + 1, none⟩ = some (.bool l[k].inner) ∧ w'.cell? ⟨b', off' + k * 4 + 2, none⟩ = some (.bool l[k].panicked) ∧ w'.cell? ⟨b', off' + k * 4 + 3, none⟩ = some (.int .i64 l[k].code))) (go_keep)
        (first | (go_at_call 43; refine (HC.out _).mono ?_; rintro e w' ⟨rfl, rfl⟩))
      go_wp2
      go_roundw
      case rel => exact ⟨k + 1, by omega, by go_num, ((HB.out.alloc HB.out.size _).alloc (by simp; omega) _).drew⟩
      case measure => simp [intOf]; omega
    · go_wp2_with fail
      go_ret
      exact ⟨rfl, HB.out⟩

set_option maxHeartbeats 1000000 in
theorem eqStepS_any (A1 A2 : Option Addr) (c1 c2 n : Nat) (l : List Step) (hn : l.length = n) (w : World) (h1 : Rd w w.heap.size 4 A1 n (stepRow l)) (h2 : Rd w w.heap.size 4 A2 n (stepRow l)) (hlen : n ≤ 9223372036854775807) :
    Calls Try.prog 25 #[.slice A1 n c1, .slice A2 n c2] w fun e w' => e = .returned (.bool true) ∧ Below w.heap.size w w' := by
  subst hn
  have R1 := Lib.hid h1
  have R2 := Lib.hid h2
  clear h1 h2
  have hnot : ∀ (x : Bool) (w : World), (Op.unary .not (.bool x)).run Try.prog w = .ok (.bool (!x)) w := fun _ _ => rfl
  go_enter Try.func25, Try.ntmps25
  go_wp2_with fail
  go_loopw [5] (fun i wr => ∃ k : Nat, k ≤ l.length ∧ i = .int .i64 k ∧ Below w.heap.size w wr) (fun i _ => l.length - (intOf i).toNat)
  case atStart => exact ⟨0, Nat.zero_le _, rfl, Below.refl _ _⟩
  case round =>
    obtain ⟨k, hk, rfl, hb⟩ := hrel
    have HB := Lib.hid hb
    by_cases hlt : k < l.length
    · obtain ⟨b, off, rfl, hb1, s0, s1, s2, s3⟩ := (R1.out.below hb).step hlt rfl
      obtain ⟨b', off', rfl, hb2, t0, t1, t2, t3⟩ := (R2.out.below hb).step hlt rfl
      have hsz := hb.size
      have hx1 : b < wr.heap.size := by omega
      have hx2 : b' < wr.heap.size := by omega
      have hk0 : (0 : Int) ≤ (k : Int) := Int.natCast_nonneg _
      have hk1 : (k : Int) < (l.length : Int) := by omega
      clear hb
      have hc := fun W => eqStep_any l[k] W
      unfold stepCells at hc
      have HC := Lib.hid hc
      clear hc
      go_wp2_with fail
      go_region_held3 (fun w' => (w'.cell? ⟨b, off + k * 4, none⟩ = some (.int .i64 l[k].once) ∧ w'.cell? ⟨b, off + k * 4 + 1, none⟩ = some (.int .i64 l[k].inner) ∧ w'.cell? ⟨b, off + k * 4 + 2, none⟩ = some (.bool l[k].panics) ∧ w'.cell? ⟨b, off + k * 4 + 3, none⟩ = some (.int .i64 l[k].code)) ∧
          (w'.cell? ⟨b', off' + k * 4, none⟩ = some (.int .i64 l[k].once) ∧ w'.cell? ⟨b', off' + k * 4 + 1, none⟩ = some (.int .i64 l[k].inner) ∧ w'.cell? ⟨b', off' + k * 4 + 2, none⟩ = some (.bool l[k].panics) ∧ w'.cell? ⟨b', off' + k * 4 + 3, none⟩ = some (.int .i64 l[k].code))) (go_keep)
        (first | (go_at_call 44; refine (HC.out _).mono ?_; rintro e w' ⟨rfl, rfl⟩))
      go_wp2
      go_roundw
      case rel => exact ⟨k + 1, by omega, by go_num, ((HB.out.alloc HB.out.size _).alloc (by simp; omega) _).drew⟩
      case measure => simp [intOf]; omega
    · go_wp2_with fail
      go_ret
      exact ⟨rfl, HB.out⟩

end Go.Proofs.Ytpkippcbocmmkaa
