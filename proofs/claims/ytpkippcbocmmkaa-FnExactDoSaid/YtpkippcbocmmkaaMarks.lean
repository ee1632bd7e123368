/-
  The exact law's copies and marks: a slice of steps copied into new memory; marks written into a slice and read again.
-/
import Derived.Test.YtpkippcbocmmkaaEqs
namespace Go.Proofs.Ytpkippcbocmmkaa
open Go.ChangeShapes Go.WideShapes Go.ChangeAt Go.RowKit Go.Deep

/-- Four cells stored one behind the other: the front that is known grows by them. -/
theorem take_four {xs : List Value} {m : Nat} (h : m + 4 ≤ xs.length) (a b c d : Value) : ((((xs.set m a).set (m + 1) b).set (m + 2) c).set (m + 3) d).take (m + 4) = xs.take m ++ [a, b, c, d] := by
  apply List.ext_getElem?
  intro i
  rw [List.getElem?_take]
  by_cases h4 : i < m + 4
  · rw [if_pos h4]
    by_cases hm : i < m
    · rw [List.getElem?_append_left (by simp; omega), List.getElem?_take, if_pos hm]
      rw [List.getElem?_set_ne (by omega), List.getElem?_set_ne (by omega), List.getElem?_set_ne (by omega), List.getElem?_set_ne (by omega)]
    · have hl : (xs.take m).length = m := by rw [List.length_take]; omega
      rw [List.getElem?_append_right (by omega), hl]
      obtain ⟨j, rfl⟩ : ∃ j, i = m + j := ⟨i - m, by omega⟩
      rw [Nat.add_sub_cancel_left]
      have hj : j = 0 ∨ j = 1 ∨ j = 2 ∨ j = 3 := by omega
      rcases hj with rfl | rfl | rfl | rfl
      · rw [List.getElem?_set_ne (by omega), List.getElem?_set_ne (by omega), List.getElem?_set_ne (by omega), Nat.add_zero, List.getElem?_set_self (by omega)]
        rfl
      · rw [List.getElem?_set_ne (by omega), List.getElem?_set_ne (by omega), List.getElem?_set_self (by simp; omega)]
        rfl
      · rw [List.getElem?_set_ne (by omega), List.getElem?_set_self (by simp; omega)]
        rfl
      · rw [List.getElem?_set_self (by simp; omega)]
        rfl
  · rw [if_neg h4, List.getElem?_eq_none (by simp; omega)]

/-- The four stores at a row's k-th element. -/
theorem own_four {w : World} {base g n cap k : Nat} {e : TypeId} {xs ys : List Value} (h : w.ownsRow base e 4 (.slice (some ⟨g, 0, none⟩) n cap) n xs) (hk : k < n) (hy : xs.take (k * 4) = ys) (a b c d : Value) :
    ∃ xs', ((((w.setCell ⟨g, k * 4, none⟩ a).setCell ⟨g, k * 4 + 1, none⟩ b).setCell ⟨g, k * 4 + 2, none⟩ c).setCell ⟨g, k * 4 + 3, none⟩ d).ownsRow base e 4 (.slice (some ⟨g, 0, none⟩) n cap) n xs' ∧ xs'.take ((k + 1) * 4) = ys ++ [a, b, c, d] := by
  have hl := h.1
  refine ⟨_, ((((h.stored (k * 4) a).1.stored (k * 4 + 1) b).1.stored (k * 4 + 2) c).1.stored (k * 4 + 3) d).1, ?_⟩
  rw [show (k + 1) * 4 = k * 4 + 4 by omega, take_four (by omega), hy]

theorem chg_four {w0 w : World} {S : Nat → Prop} {g k : Nat} (h : Chg S w0 w) (hg : S g ∨ w0.heap.size ≤ g) (a b c d : Value) :
    Chg S w0 ((((w.setCell ⟨g, k * 4, none⟩ a).setCell ⟨g, k * 4 + 1, none⟩ b).setCell ⟨g, k * 4 + 2, none⟩ c).setCell ⟨g, k * 4 + 3, none⟩ d) :=
  (((h.setCell (p := ⟨g, k * 4, none⟩) hg a).setCell (p := ⟨g, k * 4 + 1, none⟩) hg b).setCell (p := ⟨g, k * 4 + 2, none⟩) hg c).setCell (p := ⟨g, k * 4 + 3, none⟩) hg d

/-- The cells of a row's k-th element are there and may be written. -/
theorem four_cells {w : World} {base g n cap k : Nat} {e : TypeId} {xs : List Value} (h : w.ownsRow base e 4 (.slice (some ⟨g, 0, none⟩) n cap) n xs) (hk : k < n) :
    (∃ a b c d, w.cell? ⟨g, k * 4, none⟩ = some a ∧ w.cell? ⟨g, k * 4 + 1, none⟩ = some b ∧ w.cell? ⟨g, k * 4 + 2, none⟩ = some c ∧ w.cell? ⟨g, k * 4 + 3, none⟩ = some d) ∧ ∀ j, w.frozen? ⟨g, j, none⟩ = false := by
  have hl := h.1
  refine ⟨⟨xs[k * 4]'(by omega), xs[k * 4 + 1]'(by omega), xs[k * 4 + 2]'(by omega), xs[k * 4 + 3]'(by omega), ?_, ?_, ?_, ?_⟩, fun j => h.frozenAt j⟩
  · rw [h.cellAt _ (by omega)]; exact List.getElem?_eq_getElem _
  · rw [h.cellAt _ (by omega)]; exact List.getElem?_eq_getElem _
  · rw [h.cellAt _ (by omega)]; exact List.getElem?_eq_getElem _
  · rw [h.cellAt _ (by omega)]; exact List.getElem?_eq_getElem _

theorem stepRow_snoc (l : List Step) (k : Nat) (h : k < l.length) : stepRow (l.take (k + 1)) = stepRow (l.take k) ++ [.int .i64 l[k].once, .int .i64 l[k].inner, .bool l[k].panics, .int .i64 l[k].code] := by
  rw [List.take_succ_eq_append_getElem h, stepRow_append]
  simp [stepRow, stepCells]

theorem own_below {w w' : World} {base : Nat} {e : TypeId} {size n : Nat} {v : Value} {xs : List Value} (h : w.ownsRow base e size v n xs) (hb : Below w.heap.size w w') : w'.ownsRow base e size v n xs :=
  own_chg h (Chg.of_below (S := fun _ => False) hb (fun _ hk _ => hk)) (fun _ _ h => h)

/-- Behind k rounds of the copying loop. -/
structure CpL (w : World) (l : List Step) (g k : Nat) (wr : World) : Prop where
  own : ∃ xs, wr.ownsRow w.heap.size 30 4 (.slice (some ⟨g, 0, none⟩) l.length l.length) l.length xs ∧ xs.take (k * 4) = stepRow (l.take k)
  below : Below w.heap.size w wr

theorem CpL_next {w w2 : World} {l : List Step} {g k : Nat} {xs : List Value} (hlt : k < l.length) (hown : w2.ownsRow w.heap.size 30 4 (.slice (some ⟨g, 0, none⟩) l.length l.length) l.length xs) (hx : xs.take (k * 4) = stepRow (l.take k)) (hb : Below w.heap.size w w2) :
    CpL w l g (k + 1) ((((w2.setCell ⟨g, k * 4, none⟩ (.int .i64 l[k].once)).setCell ⟨g, k * 4 + 1, none⟩ (.int .i64 l[k].inner)).setCell ⟨g, k * 4 + 2, none⟩ (.bool l[k].panics)).setCell ⟨g, k * 4 + 3, none⟩ (.int .i64 l[k].code)) := by
  have hg : w.heap.size ≤ g := (hown.lt g rfl).1
  obtain ⟨xs', ho, hx'⟩ := own_four hown hlt hx (.int .i64 l[k].once) (.int .i64 l[k].inner) (.bool l[k].panics) (.int .i64 l[k].code)
  refine ⟨⟨xs', ho, by rw [hx', stepRow_snoc l k hlt]⟩, ?_⟩
  exact (((hb.setCell (p := ⟨g, k * 4, none⟩) hg _).setCell (p := ⟨g, k * 4 + 1, none⟩) hg _).setCell (p := ⟨g, k * 4 + 2, none⟩) hg _).setCell (p := ⟨g, k * 4 + 3, none⟩) hg _

set_option maxHeartbeats 1000000 in
theorem toStepS_any (A : Option Addr) (cap : Nat) (l : List Step) (w : World) (hr : Rd w w.heap.size 4 A l.length (stepRow l)) (hlen : l.length ≤ 1048576) :
    Calls Try.prog 23 #[.slice A l.length cap] w fun e w' => ∃ v, e = .returned v ∧ w'.ownsRow w.heap.size 30 4 v l.length (stepRow l) ∧ Below w.heap.size w w' := by
  obtain ⟨i0, hi0, hz0, hz1, hz2⟩ := info_parts info30
  have HR := Lib.hid hr
  clear hr
  go_enter Try.func23, Try.ntmps23
  go_wp2_with (at_make; refine wpList_make_full _ rfl _ _ 22 rfl w.heap.size 30 i0 _ 4 Try.underlying22 hi0 hz0 hz1 .i64 .i64 _ _ l.length rfl rfl rfl rfl (by rw [hz2]; omega) (by unfold maxLen; omega) (Nat.le_refl _) ?_)
  intro w1 hown1 hg1
  have hst : CpL w l w.heap.size 0 w1 := ⟨⟨_, hown1, by simp [stepRow]⟩, (Below.refl _ w).grown hg1 (Nat.le_refl _) (fun j e => by cases e)⟩
  have HST := Lib.hid hst
  clear hst hown1 hg1
  go_wp2_with fail
  go_loopw [4] (fun i wr => ∃ k : Nat, k ≤ l.length ∧ i = .int .i64 k ∧ CpL w l w.heap.size k wr) (fun i _ => l.length - (intOf i).toNat)
  case atStart => exact ⟨0, Nat.zero_le _, rfl, HST.out⟩
  case round =>
    clear HST
    obtain ⟨k, hk, rfl, hL⟩ := hrel
    have HL := Lib.hid hL
    clear hL
    by_cases hlt : k < l.length
    · obtain ⟨b, off, rfl, hb, s0, s1, s2, s3⟩ := (HR.out.below HL.out.below).step hlt rfl
      have hc := fun W => toStep_any l[k] W
      unfold stepCells at hc
      have HC := Lib.hid hc
      clear hc
      go_wp2_with fail
      refine (HC.out _).mono ?_
      rintro e w2 ⟨rfl, hb2⟩
      obtain ⟨xs, hown, hxs⟩ := HL.out.own
      have hown2 := own_below hown hb2
      obtain ⟨⟨a0, a1, a2, a3, c0, c1, c2, c3⟩, hz⟩ := four_cells hown2 hlt
      have z0 := hz (k * 4)
      have z1 := hz (k * 4 + 1)
      have z2 := hz (k * 4 + 2)
      have z3 := hz (k * 4 + 3)
      have hbel := HL.out.below.trans (hb2.mono HL.out.below.size)
      have O2 := Lib.hid hown2
      have HX := Lib.hid hxs
      have BE := Lib.hid hbel
      clear hown hown2 hxs hz hbel hb2
      go_wp2_with fail
      go_roundw
      case rel => exact ⟨k + 1, by omega, by go_num, CpL_next hlt O2.out HX.out BE.out⟩
      case measure => simp [intOf]; omega
    · obtain rfl : k = l.length := by omega
      obtain ⟨xs, hown, hxs⟩ := HL.out.own
      have hl := hown.1
      rw [List.take_length, List.take_of_length_le (by omega)] at hxs
      subst hxs
      have HO := Lib.hid hown
      clear hown hl
      go_wp2_with fail
      go_ret
      exact ⟨_, rfl, HO.out, HL.out.below⟩

/-- The mark of a told element, from the number K on. -/
def markT (K : Int) : Told := ⟨K % 3 == 0, (K + 1) % 3 == 0, (K + 1 + 1) % 3 == 0, K + 1 + 1 + 1⟩

/-- The number at the k-th element. -/
def markK (k : Nat) : Int := 1 + 4 * (k : Int)

def marksT (n : Nat) : List Told := (List.range n).map fun i => markT (markK i)

theorem marksT_length (n : Nat) : (marksT n).length = n := by simp [marksT]
theorem marksT_at (n k : Nat) (h : k < (marksT n).length) : (marksT n)[k] = markT (markK k) := by simp [marksT]
theorem marksT_snoc (k : Nat) : toldRow (marksT (k + 1)) = toldRow (marksT k) ++ [.bool (markK k % 3 == 0), .bool ((markK k + 1) % 3 == 0), .bool ((markK k + 1 + 1) % 3 == 0), .int .i64 (markK k + 1 + 1 + 1)] := by
  unfold marksT
  rw [List.range_succ, List.map_append, toldRow_append]
  simp [toldRow, toldCells, markT]
theorem markK_next (k : Nat) : markK k + 1 + 1 + 1 + 1 = markK (k + 1) := by unfold markK; omega
theorem markK_bounds (k n : Nat) (h : k ≤ n) (hn : n ≤ 1048576) : 0 ≤ markK k ∧ markK k ≤ 5000000 := by unfold markK; omega

/-- Behind k rounds of a marking loop over block g. -/
structure MkL (w : World) (base : Nat) (e : TypeId) (g n cap : Nat) (row : Nat → List Value) (k : Nat) (wr : World) : Prop where
  own : ∃ xs, wr.ownsRow base e 4 (.slice (some ⟨g, 0, none⟩) n cap) n xs ∧ xs.take (k * 4) = row k
  chg : Chg (· = g) w wr

theorem MkL_next {w wr : World} {base g n cap k : Nat} {e : TypeId} {row : Nat → List Value} (h : MkL w base e g n cap row k wr) (hk : k < n) (a b c d : Value) (hr : row (k + 1) = row k ++ [a, b, c, d]) :
    MkL w base e g n cap row (k + 1) ((((wr.setCell ⟨g, k * 4, none⟩ a).setCell ⟨g, k * 4 + 1, none⟩ b).setCell ⟨g, k * 4 + 2, none⟩ c).setCell ⟨g, k * 4 + 3, none⟩ d) := by
  obtain ⟨xs, ho, hx⟩ := h.own
  obtain ⟨xs', ho', hx'⟩ := own_four ho hk hx a b c d
  exact ⟨⟨xs', ho', by rw [hx', hr]⟩, chg_four h.chg (.inl rfl) a b c d⟩

set_option maxRecDepth 100000 in
set_option maxHeartbeats 1000000 in
/-- 'markToldS(a, 1)': the marks lie in a, and nothing else has turned. -/
theorem markToldS_any (base g n cap : Nat) (xs : List Value) (w : World) (hown : w.ownsRow base 26 4 (.slice (some ⟨g, 0, none⟩) n cap) n xs) (hlen : n ≤ 1048576) :
    Calls Try.prog 27 #[.slice (some ⟨g, 0, none⟩) n cap, .int .i64 1] w fun e w' => e = .returned (.int .i64 (markK n)) ∧ w'.ownsRow base 26 4 (.slice (some ⟨g, 0, none⟩) n cap) n (toldRow (marksT n)) ∧ Chg (· = g) w w' := by
  have hst : MkL w base 26 g n cap (fun k => toldRow (marksT k)) 0 w := ⟨⟨xs, hown, by simp [toldRow, marksT]⟩, Chg.refl _ w⟩
  have HST := Lib.hid hst
  clear hst hown
  go_enter Try.func27, Try.ntmps27
  go_wp2_with fail
  go_loopw [1, 5] (fun kk i wr => ∃ k : Nat, k ≤ n ∧ kk = .int .i64 (markK k) ∧ i = .int .i64 k ∧ MkL w base 26 g n cap (fun k => toldRow (marksT k)) k wr) (fun _ i _ => n - (intOf i).toNat)
  case atStart => exact ⟨0, Nat.zero_le _, rfl, rfl, HST.out⟩
  case round =>
    clear HST
    obtain ⟨k, hk, rfl, rfl, hL⟩ := hrel
    obtain ⟨hb1, hb2⟩ := markK_bounds k n hk hlen
    have HL := Lib.hid hL
    clear hL
    by_cases hlt : k < n
    · obtain ⟨xs', ho, hx⟩ := HL.out.own
      obtain ⟨⟨a0, a1, a2, a3, c0, c1, c2, c3⟩, hz⟩ := four_cells ho hlt
      have z0 := hz (k * 4)
      have z1 := hz (k * 4 + 1)
      have z2 := hz (k * 4 + 2)
      have z3 := hz (k * 4 + 3)
      have hn := markK_next k
      have HN := Lib.hid hn
      have R := Lib.hid (MkL_next HL.out hlt _ _ _ _ (marksT_snoc k))
      clear ho hx hz hn
      generalize markK k = K at *
      go_wp2_with fail
      go_roundw
      case rel => exact ⟨k + 1, by omega, by rw [← HN.out], by go_num, R.out⟩
      case measure => simp [intOf]; omega
    · obtain rfl : k = n := by omega
      obtain ⟨xs', ho, hx⟩ := HL.out.own
      have hl := ho.1
      rw [List.take_of_length_le (by omega)] at hx
      subst hx
      have HO := Lib.hid ho
      clear ho hl
      go_wp2_with fail
      go_ret
      exact ⟨rfl, HO.out, HL.out.chg⟩

/-- The marks that are written into steps. -/
def markSRow : Nat → List Value
  | 0 => []
  | k + 1 => markSRow k ++ [.int .i64 (markK k), .int .i64 (markK k + 1), .bool ((markK k + 1 + 1) % 3 == 0), .int .i64 (markK k + 1 + 1 + 1)]

set_option maxRecDepth 100000 in
set_option maxHeartbeats 1000000 in
/-- 'markStepS(a, 1)': only a's own memory has turned. -/
theorem markStepS_any (base g n cap : Nat) (xs : List Value) (w : World) (hown : w.ownsRow base 30 4 (.slice (some ⟨g, 0, none⟩) n cap) n xs) (hlen : n ≤ 1048576) :
    Calls Try.prog 26 #[.slice (some ⟨g, 0, none⟩) n cap, .int .i64 1] w fun e w' => e = .returned (.int .i64 (markK n)) ∧ Chg (· = g) w w' := by
  have hst : MkL w base 30 g n cap markSRow 0 w := ⟨⟨xs, hown, by simp [markSRow]⟩, Chg.refl _ w⟩
  have HST := Lib.hid hst
  clear hst hown
  go_enter Try.func26, Try.ntmps26
  go_wp2_with fail
  go_loopw [1, 5] (fun kk i wr => ∃ k : Nat, k ≤ n ∧ kk = .int .i64 (markK k) ∧ i = .int .i64 k ∧ MkL w base 30 g n cap markSRow k wr) (fun _ i _ => n - (intOf i).toNat)
  case atStart => exact ⟨0, Nat.zero_le _, rfl, rfl, HST.out⟩
  case round =>
    clear HST
    obtain ⟨k, hk, rfl, rfl, hL⟩ := hrel
    obtain ⟨hb1, hb2⟩ := markK_bounds k n hk hlen
    have HL := Lib.hid hL
    clear hL
    by_cases hlt : k < n
    · obtain ⟨xs', ho, hx⟩ := HL.out.own
      obtain ⟨⟨a0, a1, a2, a3, c0, c1, c2, c3⟩, hz⟩ := four_cells ho hlt
      have z0 := hz (k * 4)
      have z1 := hz (k * 4 + 1)
      have z2 := hz (k * 4 + 2)
      have z3 := hz (k * 4 + 3)
      have hn := markK_next k
      have HN := Lib.hid hn
      have R := Lib.hid (MkL_next HL.out hlt _ _ _ _ (rfl : markSRow (k + 1) = markSRow k ++ [.int .i64 (markK k), .int .i64 (markK k + 1), .bool ((markK k + 1 + 1) % 3 == 0), .int .i64 (markK k + 1 + 1 + 1)]))
      clear ho hx hz hn
      generalize markK k = K at *
      go_wp2_with fail
      go_roundw
      case rel => exact ⟨k + 1, by omega, by rw [← HN.out], by go_num, R.out⟩
      case measure => simp [intOf]; omega
    · obtain rfl : k = n := by omega
      go_wp2_with fail
      go_ret
      exact ⟨rfl, HL.out.chg⟩

set_option maxRecDepth 100000 in
set_option maxHeartbeats 1000000 in
/-- 'heldToldS(a, 1)', where the marks lie in a. -/
theorem heldToldS_any (A : Option Addr) (cap n B : Nat) (w : World) (hr : Rd w B 4 A n (toldRow (marksT n))) (hlen : n ≤ 1048576) :
    Calls Try.prog 28 #[.slice A n cap, .int .i64 1] w fun e w' => e = .returned (.int .i64 (markK n)) ∧ w = w' := by
  have HR := Lib.hid hr
  clear hr
  go_enter Try.func28, Try.ntmps28
  go_wp2_with fail
  go_loop [1, 5] (fun kk i => ∃ k : Nat, k ≤ n ∧ kk = .int .i64 (markK k) ∧ i = .int .i64 k) (fun _ i => n - (intOf i).toNat)
  case atStart => exact ⟨0, Nat.zero_le _, rfl, rfl⟩
  case round =>
    obtain ⟨k, hk, rfl, rfl⟩ := hrel
    obtain ⟨hb1, hb2⟩ := markK_bounds k n hk hlen
    by_cases hlt : k < n
    · have hlt' : k < (marksT n).length := by rw [marksT_length]; exact hlt
      obtain ⟨b, off, rfl, hb, t0, t1, t2, t3⟩ := HR.out.told hlt' (marksT_length n)
      rw [marksT_at n k hlt'] at t0 t1 t2 t3
      simp only [markT] at t0 t1 t2 t3
      have hn := markK_next k
      have HN := Lib.hid hn
      clear hn hlt'
      generalize markK k = K at *
      go_wp2_with fail
      go_round
      case rel => exact ⟨k + 1, by omega, by rw [← HN.out], by go_num⟩
      case measure => simp [intOf]; omega
    · obtain rfl : k = n := by omega
      go_wp2_with fail
      go_ret
      exact ⟨rfl, rfl⟩

end Go.Proofs.Ytpkippcbocmmkaa
