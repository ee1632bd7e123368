/-
  laws.same and laws.has: the contracts of the small readers: two slices that tell the same are equal; whether a list has a number.
-/
import Derived.Test.YtpkippcbocmmkaaDo
import Derived.Deep.QuietTactic
import Derived.BigQuiet
import Derived.Laws.StructEq
namespace Go.Proofs.Ytpkippcbocmmkaa
open Go.RowKit Go.Maps

theorem ret_bool {a b : Bool} (h : a = b) : Ending.returned (.bool a) = .returned (.bool b) := by rw [h]

/-- Cells laid row by row, c a row. -/
theorem row_at {α : Type} (f : α → Array Value) (c : Nat) (hf : ∀ a, (f a).size = c) (l : List α) (k : Nat) (h : k < l.length) (j : Nat) (hj : j < c) :
    (l.flatMap fun a => (f a).toList)[k * c + j]? = (f l[k])[j]? := by
  induction l generalizing k with
  | nil => simp at h
  | cons s l ih =>
    cases k with
    | zero =>
      simp only [List.flatMap_cons, Nat.zero_mul, Nat.zero_add, List.getElem_cons_zero]
      rw [List.getElem?_append_left (by simp [hf]; omega)]
      simp
    | succ k =>
      have := ih k (by simpa using h)
      simp only [List.flatMap_cons, List.getElem_cons_succ]
      rw [List.getElem?_append_right (by simp only [Array.length_toList, hf]; rw [Nat.succ_mul]; omega)]
      rw [← this]
      congr 1
      simp only [Array.length_toList, hf]
      rw [Nat.succ_mul]
      omega

theorem row_length {α : Type} (f : α → Array Value) (c : Nat) (hf : ∀ a, (f a).size = c) (l : List α) : (l.flatMap fun a => (f a).toList).length = l.length * c := by
  induction l with
  | nil => simp
  | cons s l ih => simp only [List.flatMap_cons, List.length_append, ih, List.length_cons, Array.length_toList, hf]; rw [Nat.add_mul]; omega

theorem toldRow_length (l : List Told) : (toldRow l).length = l.length * 4 := row_length toldCells 4 (fun _ => rfl) l

theorem Rd.told {w : World} {B : Nat} {A : Option Addr} {n : Nat} {l : List Told} (h : Rd w B 4 A n (toldRow l)) {k : Nat} (hk : k < l.length) (hn : l.length = n) :
    ∃ b off, A = some ⟨b, off, none⟩ ∧ b < B ∧ w.cell? ⟨b, off + k * 4, none⟩ = some (.bool l[k].ran) ∧ w.cell? ⟨b, off + k * 4 + 1, none⟩ = some (.bool l[k].inner) ∧
      w.cell? ⟨b, off + k * 4 + 2, none⟩ = some (.bool l[k].panicked) ∧ w.cell? ⟨b, off + k * 4 + 3, none⟩ = some (.int .i64 l[k].code) := by
  obtain ⟨b, off, e, hb, hc⟩ := h.2 (by omega)
  refine ⟨b, off, e, hb, ?_, ?_, ?_, ?_⟩
  · exact hc (k * 4) _ (row_at toldCells 4 (fun _ => rfl) l k hk 0 (by omega))
  · exact hc (k * 4 + 1) _ (row_at toldCells 4 (fun _ => rfl) l k hk 1 (by omega))
  · exact hc (k * 4 + 2) _ (row_at toldCells 4 (fun _ => rfl) l k hk 2 (by omega))
  · exact hc (k * 4 + 3) _ (row_at toldCells 4 (fun _ => rfl) l k hk 3 (by omega))

theorem Rd.drewN {w : World} {B size : Nat} {A : Option Addr} {n : Nat} {xs : List Value} (h : Rd w B size A n xs) (k : Nat) : Rd (w.drewN k) B size A n xs := h

set_option maxHeartbeats 1000000 in
theorem same_any (A1 A2 : Option Addr) (c1 c2 B1 B2 : Nat) (l : List Told) (w : World) (h1 : Rd w B1 4 A1 l.length (toldRow l)) (h2 : Rd w B2 4 A2 l.length (toldRow l)) (hlen : l.length ≤ 9223372036854775807) :
    Calls Try.prog 19 #[.slice A1 l.length c1, .slice A2 l.length c2] w fun e w' => e = .returned (.bool true) ∧ ∃ m, w' = w.drewN m := by
  have R1 := Lib.hid h1
  have R2 := Lib.hid h2
  clear h1 h2
  go_enter Try.func19, Try.ntmps19
  go_wp2_with fail
  go_loopw [13] (fun i wr => ∃ k : Nat, k ≤ l.length ∧ i = .int .i64 k ∧ ∃ m, wr = w.drewN m) (fun i _ => l.length - (intOf i).toNat)
  case atStart => exact ⟨0, Nat.zero_le _, rfl, 0, rfl⟩
  case round =>
    obtain ⟨k, hk, rfl, m, rfl⟩ := hrel
    by_cases hlt : k < l.length
    · obtain ⟨b, off, rfl, hb, s0, s1, s2, s3⟩ := R1.out.told hlt rfl
      obtain ⟨b', off', rfl, hb', t0, t1, t2, t3⟩ := R2.out.told hlt rfl
      go_wp2_with fail
      go_quiet (fail)
      go_wp2
      go_roundw
      case rel => exact ⟨k + 1, by omega, by go_num, m + nq, rfl⟩
      case measure => simp [intOf]; omega
    · go_wp2_with fail
      go_ret
      exact ⟨rfl, m, rfl⟩

/-- The cells of numbers. -/
def intRow (l : List Int) : List Value := l.map (Value.int .i64)

theorem Rd.int {w : World} {B : Nat} {A : Option Addr} {n : Nat} {l : List Int} (h : Rd w B 1 A n (intRow l)) {k : Nat} (hk : k < l.length) (hn : l.length = n) :
    ∃ b off, A = some ⟨b, off, none⟩ ∧ b < B ∧ w.cell? ⟨b, off + k, none⟩ = some (.int .i64 l[k]) := by
  obtain ⟨b, off, e, hb, hc⟩ := h.2 (by omega)
  exact ⟨b, off, e, hb, hc k _ (by simp [intRow, hk])⟩

/-- 'has(l, n)': whether n is one of l. -/
def hasB : List Int → Int → Bool
  | [], _ => false
  | x :: l, n => x == n || hasB l n

theorem hasB_append (l m : List Int) (n : Int) : hasB (l ++ m) n = (hasB l n || hasB m n) := by
  induction l with
  | nil => rfl
  | cons x l ih => simp [hasB, ih, Bool.or_assoc]

theorem hasB_take (l : List Int) (k : Nat) (h : k < l.length) (n : Int) : hasB (l.take (k + 1)) n = (hasB (l.take k) n || (l[k] == n)) := by
  rw [List.take_succ_eq_append_getElem h, hasB_append]
  simp [hasB]

theorem hasB_of (l : List Int) (k : Nat) (h : k < l.length) (n : Int) (e : l[k] = n) : hasB l n = true := by
  have h1 : hasB (l.take (k + 1) ++ l.drop (k + 1)) n = true := by
    rw [hasB_append, hasB_take l k h n, e]
    simp
  rwa [List.take_append_drop] at h1

set_option maxHeartbeats 1000000 in
theorem has_any (A : Option Addr) (c B : Nat) (l : List Int) (n : Int) (w : World) (h : Rd w B 1 A l.length (intRow l)) (hlen : l.length ≤ 9223372036854775807) :
    Calls Try.prog 20 #[.slice A l.length c, .int .i64 n] w fun e w' => e = .returned (.bool (hasB l n)) ∧ w = w' := by
  have R1 := Lib.hid h
  clear h
  go_enter Try.func20, Try.ntmps20
  go_wp2_with fail
  go_loop [5] (fun i => ∃ k : Nat, k ≤ l.length ∧ i = .int .i64 k ∧ hasB (l.take k) n = false) (fun i => l.length - (intOf i).toNat)
  case atStart => exact ⟨0, Nat.zero_le _, rfl, rfl⟩
  case round =>
    obtain ⟨k, hk, rfl, hno⟩ := hrel
    have HN := Lib.hid hno
    clear hno
    by_cases hlt : k < l.length
    · obtain ⟨b, off, rfl, hb, s0⟩ := R1.out.int hlt rfl
      by_cases he : l[k] = n
      · have hfin := hasB_of l k hlt n he
        have heb : (l[k] == n) = true := by simp [he]
        have HF := Lib.hid hfin
        clear hfin he
        go_wp2_with fail
        go_ret
        exact ⟨ret_bool HF.out.symm, rfl⟩
      · have heb : (l[k] == n) = false := by simp [he]
        have hfin : hasB (l.take (k + 1)) n = false := by rw [hasB_take l k hlt n, HN.out, heb]; rfl
        have HF := Lib.hid hfin
        clear hfin he
        go_wp2_with fail
        go_round
        case rel => exact ⟨k + 1, by omega, by go_num, HF.out⟩
        case measure => simp [intOf]; omega
    · obtain rfl : k = l.length := by omega
      have hfin := HN.out
      rw [List.take_length] at hfin
      have HF := Lib.hid hfin
      clear hfin
      go_wp2_with fail
      go_ret
      exact ⟨ret_bool HF.out.symm, rfl⟩

end Go.Proofs.Ytpkippcbocmmkaa
