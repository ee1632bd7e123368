/-
  What the bound of an '..UptoSaid' statement gives: a slice among the arguments has at most so many elements.
-/
import Derived.Test.YtpkippcbocmmkaaRows
namespace Go.Proofs.Ytpkippcbocmmkaa

theorem bulk_one {H : Type} (d : DataW H) : 1 ≤ Rows.uptoBulk d := by
  cases d with
  | lit l => cases l <;> simp [Rows.uptoBulk]
  | nil => simp [Rows.uptoBulk]
  | ptr d => simp [Rows.uptoBulk]
  | slice elems spare => simp [Rows.uptoBulk]
  | agg parts => simp [Rows.uptoBulk]
  | iface t d => simp [Rows.uptoBulk]
  | map entries => simp [Rows.uptoBulk]
  | held h => simp [Rows.uptoBulk]

theorem bulk_part {H : Type} {d : DataW H} {l : List (DataW H)} (h : d ∈ l) : Rows.uptoBulk d ≤ Rows.uptoBulkAll l := by
  induction l with
  | nil => cases h
  | cons x r ih =>
    simp only [Rows.uptoBulkAll]
    rcases List.mem_cons.1 h with e | e
    · subst e; omega
    · have := ih e; omega

theorem bulk_length {H : Type} (l : List (DataW H)) : l.length ≤ Rows.uptoBulkAll l := by
  induction l with
  | nil => simp
  | cons x r ih => have := bulk_one x; simp only [Rows.uptoBulkAll, List.length_cons]; omega

theorem upto_slice {H : Type} {l : List (DataW H)} {elems sp : List (DataW H)} (hm : DataW.slice elems sp ∈ l) (hk : Rows.uptoSmall H l = true) : elems.length ≤ 1048576 := by
  have h0 : Rows.uptoBulkAll l ≤ 1048576 := of_decide_eq_true hk
  have h1 := bulk_part hm
  have h2 := bulk_length elems
  simp only [Rows.uptoBulk] at h1
  omega

end Go.Proofs.Ytpkippcbocmmkaa
