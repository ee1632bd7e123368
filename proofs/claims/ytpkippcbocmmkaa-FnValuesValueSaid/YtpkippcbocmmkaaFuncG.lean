/-
  The reference spec.OnceFunc: it returns a new slice that tells of each call what the plain law funcTold says.
-/
import Derived.Test.YtpkippcbocmmkaaFuncF
namespace Go.Proofs.Ytpkippcbocmmkaa
open Go.RowKit Go.Maps

/-- Behind k rounds of the reference. -/
structure FsL (w : World) (av : Int) (p : Bool) (c : Int) (k : Nat) (v : Value) (wr : World) : Prop where
  ba : Blk wr w.heap.size 43 #[.int .i64 av, .bool p, .int .i64 c]
  own : wr.ownsRow w.heap.size 26 4 v k (toldRow (funcTold p c k))
  below : Below w.heap.size w wr

theorem FsL_start (w : World) (av : Int) (p : Bool) (c : Int) :
    FsL w av p c 0 (.slice (some ⟨w.heap.size + 1, 0, none⟩) 0 0) ((w.alloc (.cells #[.int .i64 av, .bool p, .int .i64 c] 43)).alloc (.cells #[] 26)) := by
  refine ⟨(Blk.new w 43 _).alloc _, ?_, ((Below.refl _ w).alloc (Nat.le_refl _) _).alloc (by simp) _⟩
  have := World.ownsRow_made (base := w.heap.size) (e := 26) (size := 4) (w.alloc (.cells #[.int .i64 av, .bool p, .int .i64 c] 43)) #[] 0 (by simp) (by simp [maxLen]) rfl
  simpa [toldRow, funcTold] using this

/-- In a round of the reference: with the row that is being made. -/
structure FsW (w wr : World) (av : Int) (p : Bool) (c : Int) (k : Nat) (v : Value) (cs : Array Value) (wx : World) : Prop where
  ba : Blk wx w.heap.size 43 #[.int .i64 av, .bool p, .int .i64 c]
  bt : Blk wx wr.heap.size 26 cs
  own : wx.ownsRow w.heap.size 26 4 v k (toldRow (funcTold p c k))
  lt : ∀ g, v.ownBlock = some g → g < wr.heap.size
  le : w.heap.size < wr.heap.size
  below : Below w.heap.size w wx

theorem FsW_new {w wr : World} {av : Int} {p : Bool} {c : Int} {k : Nat} {v : Value} (h : FsL w av p c k v wr) (cs : Array Value) : FsW w wr av p c k v cs (wr.alloc (.cells cs 26)) := by
  have l := h.ba.lt
  exact ⟨h.ba.alloc _, Blk.new wr 26 cs, h.own.alloc _, fun g hg => (h.own.lt g hg).2, l, h.below.alloc (by omega) _⟩

theorem FsW_set {w wr wx : World} {av : Int} {p : Bool} {c : Int} {k : Nat} {v : Value} {cs : Array Value} (h : FsW w wr av p c k v cs wx) (j : Nat) (u : Value) : FsW w wr av p c k v (cs.setIfInBounds j u) (wx.setCell ⟨wr.heap.size, j, none⟩ u) := by
  have l := h.le
  have n : v.ownBlock ≠ some wr.heap.size := fun e => by have := h.lt _ e; omega
  exact ⟨h.ba.far (p := ⟨wr.heap.size, j, none⟩) (by show w.heap.size ≠ wr.heap.size; omega) u, h.bt.set_ j u, ownsRow_setCell_other h.own n u, h.lt, h.le, h.below.setCell (p := ⟨wr.heap.size, j, none⟩) (by show w.heap.size ≤ wr.heap.size; omega) u⟩

theorem FsL_next {w wr wx w2 : World} {av : Int} {p : Bool} {c : Int} {k : Nat} {v v' : Value} {cs : Array Value} {o : Obj} (h : FsW w wr av p c k v cs wx)
    (hown : w2.ownsRow w.heap.size 26 4 v' (k + 1) (toldRow (funcTold p c k) ++ (toldCells (funcRow p c k)).toList)) (hg : (wx.alloc o).grownBy w2 v.ownBlock) : FsL w av p c (k + 1) v' w2 := by
  refine ⟨(h.ba.alloc o).grown hg (fun e => own_blk_ne h.own h.ba (by decide) e.symm), ?_, (h.below.alloc h.below.size o).grown hg (by have := h.below.size; simp; omega) (fun j e => (h.own.lt j e).1)⟩
  rw [funcTold_succ, toldRow_append]
  simpa [toldRow] using hown

theorem beq_zero (k : Nat) : ((k : Int) == 0) = (k == 0) := by cases k <;> rfl

set_option maxRecDepth 100000 in
set_option maxHeartbeats 2000000 in
theorem specFunc_any (av : Int) (p : Bool) (c n : Int) (w : World) (hn : n ≤ 1048576) :
    Calls Try.prog 30 #[.agg #[.int .i64 av, .bool p, .int .i64 c], .int .i64 n] w fun e w' => ∃ v, e = .returned v ∧ w'.ownsRow w.heap.size 26 4 v n.toNat (toldRow (funcTold p c n.toNat)) ∧ Below w.heap.size w w' := by
  obtain ⟨i0, hi0, hz0, hz1, hz2⟩ := info_parts info26
  have HST := Lib.hid (FsL_start w av p c)
  go_enter Try.func30, Try.ntmps30
  go_wp2_with fail
  go_loopw [5, 6] (fun v i wr => ∃ k : Nat, k ≤ n.toNat ∧ i = .int .i64 k ∧ FsL w av p c k v wr) (fun _ i _ => n.toNat - (intOf i).toNat)
  case atStart => exact ⟨0, Nat.zero_le _, rfl, HST.out⟩
  case round =>
    clear HST
    obtain ⟨k, hk, rfl, hL⟩ := hrel
    have HL := Lib.hid hL
    clear hL
    by_cases hlt : (k : Int) < n
    · obtain ⟨a0, a1, a2⟩ := HL.out.ba.c3
      have hsz := HL.out.ba.lt
      cases p
      · have hW : FsW w wr av false c k u5 (toldCells ⟨(k : Int) == 0, false, false, 0⟩) (wr.alloc (.cells #[.bool ((k : Int) == 0), .bool false, .bool false, .int .i64 0] 26)) := FsW_new HL.out _
        have HW := Lib.hid hW
        clear hW HL
        go_wp2_with (at_builtin; refine wpList_append_own _ rfl (.tmp 24) (.tmp 26) 23 rfl w.heap.size 26 i0 _ 4 16 Try.underlying23 hi0 hz0 hz1 hz2 rfl (by decide) _ _ _ rfl (HW.out.own.alloc _) ⟨wr.heap.size + 1, 0, none⟩ 1 1 (toldCells ⟨(k : Int) == 0, false, false, 0⟩).toList rfl rfl ?c1 ?c2 ?c3 ?c4 ?c5 ?_)
        case c1 => exact new_cells _ _ _ _ (by simp)
        case c2 => exact toldCells_one _
        case c3 => unfold maxLen; omega
        case c4 => omega
        case c5 => simp; omega
        intro v' w2 hown2 hg2 _
        have H3 := Lib.hid (FsL_next HW.out (by unfold funcRow; rw [← beq_zero]; exact hown2) hg2)
        clear hown2 hg2 HW
        go_wp2
        go_roundw
        case rel => exact ⟨k + 1, by omega, by go_num, H3.out⟩
        case measure => simp [intOf]; omega
      · have hW : FsW w wr av true c k u5 (toldCells ⟨(k : Int) == 0, false, true, c⟩) (wr.alloc (.cells #[.bool ((k : Int) == 0), .bool false, .bool true, .int .i64 c] 26)) := FsW_new HL.out _
        have HW := Lib.hid hW
        clear hW HL
        go_wp2_with (at_builtin; refine wpList_append_own _ rfl (.tmp 24) (.tmp 26) 23 rfl w.heap.size 26 i0 _ 4 16 Try.underlying23 hi0 hz0 hz1 hz2 rfl (by decide) _ _ _ rfl (HW.out.own.alloc _) ⟨wr.heap.size + 1, 0, none⟩ 1 1 (toldCells ⟨(k : Int) == 0, false, true, c⟩).toList rfl rfl ?c1 ?c2 ?c3 ?c4 ?c5 ?_)
        case c1 => exact new_cells _ _ _ _ (by simp)
        case c2 => exact toldCells_one _
        case c3 => unfold maxLen; omega
        case c4 => omega
        case c5 => simp; omega
        intro v' w2 hown2 hg2 _
        have H3 := Lib.hid (FsL_next HW.out (by unfold funcRow; rw [← beq_zero]; exact hown2) hg2)
        clear hown2 hg2 HW
        go_wp2
        go_roundw
        case rel => exact ⟨k + 1, by omega, by go_num, H3.out⟩
        case measure => simp [intOf]; omega
    · obtain rfl : k = n.toNat := by omega
      have hown := HL.out.own
      have hbel := HL.out.below
      have HV := Lib.hid hown
      have HB := Lib.hid hbel
      clear hown hbel HL
      go_wp2_with fail
      go_ret
      exact ⟨_, rfl, HV.out, HB.out⟩

end Go.Proofs.Ytpkippcbocmmkaa
