/-
  Words that the laws of OnceValue share: laws.equal behind calls, and rows that are read.
-/
import Derived.Test.YtpkippcbocmmkaaFuncW
import Derived.Test.YtpkippcbocmmkaaValueG
namespace Go.Proofs.Ytpkippcbocmmkaa
open Go.ChangeShapes Go.WideShapes Go.ChangeAt Go.RowKit Go.Deep

theorem equal_after {w3 w4 : World} {A3 A4 : Option Addr} {c3 c4 n : Nat} {ts : List Res} (hn : ts.length = n) (h3 : Rd w3 w3.heap.size 4 A3 n (resRow ts)) (h4 : w4.ownsRow w3.heap.size 56 4 (.slice A4 n c4) n (resRow ts)) (hb : Below w3.heap.size w3 w4) (hlen : n ≤ 9223372036854775807) :
    Calls Try.prog 31 #[.slice A3 n c3, .slice A4 n c4] w4 fun e w' => e = .returned (.bool true) ∧ Below w3.heap.size w3 w' := by
  subst hn
  refine (equal_any A3 A4 c3 c4 w3.heap.size w4.heap.size ts w4 (h3.below hb) (Rd.of_own h4) hlen).mono ?_
  rintro e w' ⟨rfl, m, rfl⟩
  exact ⟨rfl, below_drewN hb m⟩

theorem valTold_at (v : Int) (p : Bool) (c : Int) (n k : Nat) (h : k < (valTold v p c n).length) : (valTold v p c n)[k] = valRow v p c k := by simp [valTold]

/-- A row of what OnceFunc returned. -/
theorem func_read {w : World} {B : Nat} {A : Option Addr} {n : Nat} {p : Bool} {c : Int} (h : Rd w B 4 A n (toldRow (funcTold p c n))) {k : Nat} (hk : k < n) :
    ∃ b off, A = some ⟨b, off, none⟩ ∧ w.cell? ⟨b, off + k * 4, none⟩ = some (.bool (k == 0)) ∧ w.cell? ⟨b, off + k * 4 + 2, none⟩ = some (.bool p) ∧ w.cell? ⟨b, off + k * 4 + 3, none⟩ = some (.int .i64 (if p then c else 0)) := by
  obtain ⟨b, off, e, h1, _⟩ := func_reads h hk
  exact ⟨b, off, e, h1⟩

/-- A row of what OnceValue returned. -/
theorem val_read {w : World} {B : Nat} {A : Option Addr} {n : Nat} {v : Int} {p : Bool} {c : Int} (h : Rd w B 4 A n (resRow (valTold v p c n))) {k : Nat} (hk : k < n) :
    ∃ b off, A = some ⟨b, off, none⟩ ∧ w.cell? ⟨b, off + k * 4, none⟩ = some (.int .i64 (if p then 0 else v)) ∧ w.cell? ⟨b, off + k * 4 + 1, none⟩ = some (.bool (k == 0)) ∧ w.cell? ⟨b, off + k * 4 + 2, none⟩ = some (.bool p) ∧ w.cell? ⟨b, off + k * 4 + 3, none⟩ = some (.int .i64 (if p then c else 0)) := by
  have h1 := h.res (k := k) (by rw [valTold_length]; exact hk) (valTold_length v p c n)
  simp only [valTold_at] at h1
  obtain ⟨b, off, e, _, s0, s1, s2, s3⟩ := h1
  exact ⟨b, off, e, s0, s1, s2, s3⟩

end Go.Proofs.Ytpkippcbocmmkaa
