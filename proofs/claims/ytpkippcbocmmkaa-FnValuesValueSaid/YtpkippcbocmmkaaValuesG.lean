/-
  The reference spec.OnceValues: it returns a new slice that tells of each call what the plain law valsTold says.
-/
import Derived.Test.YtpkippcbocmmkaaValuesF
import Derived.Test.YtpkippcbocmmkaaFuncG
import Derived.Test.YtpkippcbocmmkaaSame
namespace Go.Proofs.Ytpkippcbocmmkaa
open Go.RowKit Go.Maps

/-- Behind k rounds of the reference. -/
structure WsL (w : World) (av : Int) (S : ByteArray) (p : Bool) (c : Int) (k : Nat) (v : Value) (wr : World) : Prop where
  ba : Blk wr w.heap.size 43 #[.int .i64 av, .bool p, .int .i64 c]
  own : wr.ownsRow w.heap.size 52 5 v k (bothRow (valsTold av S p c k))
  below : Below w.heap.size w wr

theorem WsL_start (w : World) (av : Int) (S : ByteArray) (p : Bool) (c : Int) :
    WsL w av S p c 0 (.slice (some ⟨w.heap.size + 1, 0, none⟩) 0 0) ((w.alloc (.cells #[.int .i64 av, .bool p, .int .i64 c] 43)).alloc (.cells #[] 52)) := by
  refine ⟨(Blk.new w 43 _).alloc _, ?_, ((Below.refl _ w).alloc (Nat.le_refl _) _).alloc (by simp) _⟩
  have := World.ownsRow_made (base := w.heap.size) (e := 52) (size := 5) (w.alloc (.cells #[.int .i64 av, .bool p, .int .i64 c] 43)) #[] 0 (by simp) (by simp [maxLen]) rfl
  simpa [bothRow, valsTold] using this

/-- In a round of the reference: with the row that is being made. -/
structure WsW (w wr : World) (av : Int) (S : ByteArray) (p : Bool) (c : Int) (k : Nat) (v : Value) (cs : Array Value) (wx : World) : Prop where
  ba : Blk wx w.heap.size 43 #[.int .i64 av, .bool p, .int .i64 c]
  bt : Blk wx wr.heap.size 52 cs
  own : wx.ownsRow w.heap.size 52 5 v k (bothRow (valsTold av S p c k))
  lt : ∀ g, v.ownBlock = some g → g < wr.heap.size
  le : w.heap.size < wr.heap.size
  below : Below w.heap.size w wx

theorem WsW_new {w wr : World} {av : Int} {S : ByteArray} {p : Bool} {c : Int} {k : Nat} {v : Value} (h : WsL w av S p c k v wr) (cs : Array Value) : WsW w wr av S p c k v cs (wr.alloc (.cells cs 52)) := by
  have l := h.ba.lt
  exact ⟨h.ba.alloc _, Blk.new wr 52 cs, h.own.alloc _, fun g hg => (h.own.lt g hg).2, l, h.below.alloc (by omega) _⟩

theorem WsW_set {w wr wx : World} {av : Int} {S : ByteArray} {p : Bool} {c : Int} {k : Nat} {v : Value} {cs : Array Value} (h : WsW w wr av S p c k v cs wx) (j : Nat) (u : Value) : WsW w wr av S p c k v (cs.setIfInBounds j u) (wx.setCell ⟨wr.heap.size, j, none⟩ u) := by
  have l := h.le
  have n : v.ownBlock ≠ some wr.heap.size := fun e => by have := h.lt _ e; omega
  exact ⟨h.ba.far (p := ⟨wr.heap.size, j, none⟩) (by show w.heap.size ≠ wr.heap.size; omega) u, h.bt.set_ j u, ownsRow_setCell_other h.own n u, h.lt, h.le, h.below.setCell (p := ⟨wr.heap.size, j, none⟩) (by show w.heap.size ≤ wr.heap.size; omega) u⟩

theorem WsL_next {w wr wx w2 : World} {av : Int} {S : ByteArray} {p : Bool} {c : Int} {k : Nat} {v v' : Value} {cs : Array Value} {o : Obj} (h : WsW w wr av S p c k v cs wx)
    (hown : w2.ownsRow w.heap.size 52 5 v' (k + 1) (bothRow (valsTold av S p c k) ++ (bothCells (valsRow av S p c k)).toList)) (hg : (wx.alloc o).grownBy w2 v.ownBlock) : WsL w av S p c (k + 1) v' w2 := by
  refine ⟨(h.ba.alloc o).grown hg (fun e => own_blk_ne h.own h.ba (by decide) e.symm), ?_, (h.below.alloc h.below.size o).grown hg (by have := h.below.size; simp; omega) (fun j e => (h.own.lt j e).1)⟩
  rw [valsTold_succ, bothRow_append]
  simpa [bothRow] using hown

set_option maxRecDepth 100000 in
set_option maxHeartbeats 2000000 in
theorem specValues_any (av : Int) (p : Bool) (c : Int) (S : ByteArray) (n : Int) (w : World) (hn : n ≤ 1048576) :
    Calls Try.prog 35 #[.agg #[.int .i64 av, .bool p, .int .i64 c], .string S, .int .i64 n] w fun e w' => ∃ v, e = .returned v ∧ w'.ownsRow w.heap.size 52 5 v n.toNat (bothRow (valsTold av S p c n.toNat)) ∧ Below w.heap.size w w' := by
  obtain ⟨i0, hi0, hz0, hz1, hz2⟩ := info_parts info52
  have HST := Lib.hid (WsL_start w av S p c)
  go_enter Try.func35, Try.ntmps35
  go_wp2_with fail
  go_loopw [7, 8] (fun v i wr => ∃ k : Nat, k ≤ n.toNat ∧ i = .int .i64 k ∧ WsL w av S p c k v wr) (fun _ i _ => n.toNat - (intOf i).toNat)
  case atStart => exact ⟨0, Nat.zero_le _, rfl, HST.out⟩
  case round =>
    clear HST
    obtain ⟨k, hk, rfl, hL⟩ := hrel
    have HL := Lib.hid hL
    clear hL
    by_cases hlt : (k : Int) < n
    · obtain ⟨a0, a1, a2⟩ := HL.out.ba.c3
      have hsz := HL.out.ba.lt
      cases p
      · have hW : WsW w wr av S false c k u7 (bothCells ⟨av, S, (k : Int) == 0, false, 0⟩) (wr.alloc (.cells #[.int .i64 av, .string S, .bool ((k : Int) == 0), .bool false, .int .i64 0] 52)) := WsW_new HL.out _
        have HW := Lib.hid hW
        clear hW HL
        go_wp2_with (at_builtin; refine wpList_append_own _ rfl (.tmp 31) (.tmp 33) 49 rfl w.heap.size 52 i0 _ 5 40 Try.underlying49 hi0 hz0 hz1 hz2 rfl (by decide) _ _ _ rfl (HW.out.own.alloc _) ⟨wr.heap.size + 1, 0, none⟩ 1 1 (bothCells ⟨av, S, (k : Int) == 0, false, 0⟩).toList rfl rfl ?c1 ?c2 ?c3 ?c4 ?c5 ?_)
        case c1 => exact new_cells _ _ _ _ (by simp)
        case c2 => exact bothCells_one _
        case c3 => unfold maxLen; omega
        case c4 => omega
        case c5 => simp; omega
        intro v' w2 hown2 hg2 _
        have H3 := Lib.hid (WsL_next HW.out (by unfold valsRow; rw [← beq_zero]; exact hown2) hg2)
        clear hown2 hg2 HW
        go_wp2
        go_roundw
        case rel => exact ⟨k + 1, by omega, by go_num, H3.out⟩
        case measure => simp [intOf]; omega
      · have hW : WsW w wr av S true c k u7 (bothCells ⟨0, ⟨#[]⟩, (k : Int) == 0, true, c⟩) (wr.alloc (.cells #[.int .i64 0, .string ⟨#[]⟩, .bool ((k : Int) == 0), .bool true, .int .i64 c] 52)) := WsW_new HL.out _
        have HW := Lib.hid hW
        clear hW HL
        go_wp2_with (at_builtin; refine wpList_append_own _ rfl (.tmp 31) (.tmp 33) 49 rfl w.heap.size 52 i0 _ 5 40 Try.underlying49 hi0 hz0 hz1 hz2 rfl (by decide) _ _ _ rfl (HW.out.own.alloc _) ⟨wr.heap.size + 1, 0, none⟩ 1 1 (bothCells ⟨0, ⟨#[]⟩, (k : Int) == 0, true, c⟩).toList rfl rfl ?c1 ?c2 ?c3 ?c4 ?c5 ?_)
        case c1 => exact new_cells _ _ _ _ (by simp)
        case c2 => exact bothCells_one _
        case c3 => unfold maxLen; omega
        case c4 => omega
        case c5 => simp; omega
        intro v' w2 hown2 hg2 _
        have H3 := Lib.hid (WsL_next HW.out (by unfold valsRow; rw [← beq_zero]; exact hown2) hg2)
        clear hown2 hg2 HW
        go_wp2
        go_roundw
        case rel => exact ⟨k + 1, by omega, by go_num, H3.out⟩
        case measure => simp [intOf]; omega
    · obtain rfl : k = n.toNat := by omega
      have hown := HL.out.own
      have hbel := HL.out.below
      have HV := Lib.hid hown
      have HB := Lib.hid hbel
      clear hown hbel HL
      go_wp2_with fail
      go_ret
      exact ⟨_, rfl, HV.out, HB.out⟩

theorem bothRow_length (l : List Both) : (bothRow l).length = l.length * 5 := row_length bothCells 5 (fun _ => rfl) l
theorem valsTold_length (v : Int) (S : ByteArray) (p : Bool) (c : Int) (k : Nat) : (valsTold v S p c k).length = k := by simp [valsTold]
theorem valsTold_at (v : Int) (S : ByteArray) (p : Bool) (c : Int) (n k : Nat) (h : k < (valsTold v S p c n).length) : (valsTold v S p c n)[k] = valsRow v S p c k := by simp [valsTold]

theorem Rd.both {w : World} {B : Nat} {A : Option Addr} {n : Nat} {l : List Both} (h : Rd w B 5 A n (bothRow l)) {k : Nat} (hk : k < l.length) (hn : l.length = n) :
    ∃ b off, A = some ⟨b, off, none⟩ ∧ b < B ∧ w.cell? ⟨b, off + k * 5, none⟩ = some (.int .i64 l[k].value) ∧ w.cell? ⟨b, off + k * 5 + 1, none⟩ = some (.string l[k].text) ∧ w.cell? ⟨b, off + k * 5 + 2, none⟩ = some (.bool l[k].ran) ∧
      w.cell? ⟨b, off + k * 5 + 3, none⟩ = some (.bool l[k].panicked) ∧ w.cell? ⟨b, off + k * 5 + 4, none⟩ = some (.int .i64 l[k].code) := by
  obtain ⟨b, off, e, hb, hc⟩ := h.2 (by omega)
  refine ⟨b, off, e, hb, ?_, ?_, ?_, ?_, ?_⟩
  · exact hc (k * 5) _ (row_at bothCells 5 (fun _ => rfl) l k hk 0 (by omega))
  · exact hc (k * 5 + 1) _ (row_at bothCells 5 (fun _ => rfl) l k hk 1 (by omega))
  · exact hc (k * 5 + 2) _ (row_at bothCells 5 (fun _ => rfl) l k hk 2 (by omega))
  · exact hc (k * 5 + 3) _ (row_at bothCells 5 (fun _ => rfl) l k hk 3 (by omega))
  · exact hc (k * 5 + 4) _ (row_at bothCells 5 (fun _ => rfl) l k hk 4 (by omega))

/-- A row of what OnceValues returned. -/
theorem vals_read {w : World} {B : Nat} {A : Option Addr} {n : Nat} {v : Int} {S : ByteArray} {p : Bool} {c : Int} (h : Rd w B 5 A n (bothRow (valsTold v S p c n))) {k : Nat} (hk : k < n) :
    ∃ b off, A = some ⟨b, off, none⟩ ∧ w.cell? ⟨b, off + k * 5, none⟩ = some (.int .i64 (if p then 0 else v)) ∧ w.cell? ⟨b, off + k * 5 + 1, none⟩ = some (.string (if p then ⟨#[]⟩ else S)) ∧ w.cell? ⟨b, off + k * 5 + 2, none⟩ = some (.bool (k == 0)) ∧
      w.cell? ⟨b, off + k * 5 + 3, none⟩ = some (.bool p) ∧ w.cell? ⟨b, off + k * 5 + 4, none⟩ = some (.int .i64 (if p then c else 0)) := by
  have h1 := h.both (k := k) (by rw [valsTold_length]; exact hk) (valsTold_length v S p c n)
  simp only [valsTold_at] at h1
  obtain ⟨b, off, e, _, s0, s1, s2, s3, s4⟩ := h1
  exact ⟨b, off, e, s0, s1, s2, s3, s4⟩

end Go.Proofs.Ytpkippcbocmmkaa
