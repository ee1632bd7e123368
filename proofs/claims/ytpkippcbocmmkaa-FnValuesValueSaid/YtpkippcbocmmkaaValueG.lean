/-
  The reference spec.OnceValue: it returns a new slice that tells of each call what the plain law valTold says.
-/
import Derived.Test.YtpkippcbocmmkaaValueF
import Derived.Test.YtpkippcbocmmkaaFuncG
import Derived.Test.YtpkippcbocmmkaaSame
namespace Go.Proofs.Ytpkippcbocmmkaa
open Go.RowKit Go.Maps

/-- Behind k rounds of the reference. -/
structure VsL (w : World) (av : Int) (p : Bool) (c : Int) (k : Nat) (v : Value) (wr : World) : Prop where
  ba : Blk wr w.heap.size 43 #[.int .i64 av, .bool p, .int .i64 c]
  own : wr.ownsRow w.heap.size 56 4 v k (resRow (valTold av p c k))
  below : Below w.heap.size w wr

theorem VsL_start (w : World) (av : Int) (p : Bool) (c : Int) :
    VsL w av p c 0 (.slice (some ⟨w.heap.size + 1, 0, none⟩) 0 0) ((w.alloc (.cells #[.int .i64 av, .bool p, .int .i64 c] 43)).alloc (.cells #[] 56)) := by
  refine ⟨(Blk.new w 43 _).alloc _, ?_, ((Below.refl _ w).alloc (Nat.le_refl _) _).alloc (by simp) _⟩
  have := World.ownsRow_made (base := w.heap.size) (e := 56) (size := 4) (w.alloc (.cells #[.int .i64 av, .bool p, .int .i64 c] 43)) #[] 0 (by simp) (by simp [maxLen]) rfl
  simpa [resRow, valTold] using this

/-- In a round of the reference: with the row that is being made. -/
structure VsW (w wr : World) (av : Int) (p : Bool) (c : Int) (k : Nat) (v : Value) (cs : Array Value) (wx : World) : Prop where
  ba : Blk wx w.heap.size 43 #[.int .i64 av, .bool p, .int .i64 c]
  bt : Blk wx wr.heap.size 56 cs
  own : wx.ownsRow w.heap.size 56 4 v k (resRow (valTold av p c k))
  lt : ∀ g, v.ownBlock = some g → g < wr.heap.size
  le : w.heap.size < wr.heap.size
  below : Below w.heap.size w wx

theorem VsW_new {w wr : World} {av : Int} {p : Bool} {c : Int} {k : Nat} {v : Value} (h : VsL w av p c k v wr) (cs : Array Value) : VsW w wr av p c k v cs (wr.alloc (.cells cs 56)) := by
  have l := h.ba.lt
  exact ⟨h.ba.alloc _, Blk.new wr 56 cs, h.own.alloc _, fun g hg => (h.own.lt g hg).2, l, h.below.alloc (by omega) _⟩

theorem VsW_set {w wr wx : World} {av : Int} {p : Bool} {c : Int} {k : Nat} {v : Value} {cs : Array Value} (h : VsW w wr av p c k v cs wx) (j : Nat) (u : Value) : VsW w wr av p c k v (cs.setIfInBounds j u) (wx.setCell ⟨wr.heap.size, j, none⟩ u) := by
  have l := h.le
  have n : v.ownBlock ≠ some wr.heap.size := fun e => by have := h.lt _ e; omega
  exact ⟨h.ba.far (p := ⟨wr.heap.size, j, none⟩) (by show w.heap.size ≠ wr.heap.size; omega) u, h.bt.set_ j u, ownsRow_setCell_other h.own n u, h.lt, h.le, h.below.setCell (p := ⟨wr.heap.size, j, none⟩) (by show w.heap.size ≤ wr.heap.size; omega) u⟩

theorem VsL_next {w wr wx w2 : World} {av : Int} {p : Bool} {c : Int} {k : Nat} {v v' : Value} {cs : Array Value} {o : Obj} (h : VsW w wr av p c k v cs wx)
    (hown : w2.ownsRow w.heap.size 56 4 v' (k + 1) (resRow (valTold av p c k) ++ (resCells (valRow av p c k)).toList)) (hg : (wx.alloc o).grownBy w2 v.ownBlock) : VsL w av p c (k + 1) v' w2 := by
  refine ⟨(h.ba.alloc o).grown hg (fun e => own_blk_ne h.own h.ba (by decide) e.symm), ?_, (h.below.alloc h.below.size o).grown hg (by have := h.below.size; simp; omega) (fun j e => (h.own.lt j e).1)⟩
  rw [valTold_succ, resRow_append]
  simpa [resRow] using hown

set_option maxRecDepth 100000 in
set_option maxHeartbeats 2000000 in
theorem specValue_any (av : Int) (p : Bool) (c n : Int) (w : World) (hn : n ≤ 1048576) :
    Calls Try.prog 33 #[.agg #[.int .i64 av, .bool p, .int .i64 c], .int .i64 n] w fun e w' => ∃ v, e = .returned v ∧ w'.ownsRow w.heap.size 56 4 v n.toNat (resRow (valTold av p c n.toNat)) ∧ Below w.heap.size w w' := by
  obtain ⟨i0, hi0, hz0, hz1, hz2⟩ := info_parts info56
  have HST := Lib.hid (VsL_start w av p c)
  go_enter Try.func33, Try.ntmps33
  go_wp2_with fail
  go_loopw [5, 6] (fun v i wr => ∃ k : Nat, k ≤ n.toNat ∧ i = .int .i64 k ∧ VsL w av p c k v wr) (fun _ i _ => n.toNat - (intOf i).toNat)
  case atStart => exact ⟨0, Nat.zero_le _, rfl, HST.out⟩
  case round =>
    clear HST
    obtain ⟨k, hk, rfl, hL⟩ := hrel
    have HL := Lib.hid hL
    clear hL
    by_cases hlt : (k : Int) < n
    · obtain ⟨a0, a1, a2⟩ := HL.out.ba.c3
      have hsz := HL.out.ba.lt
      cases p
      · have hW : VsW w wr av false c k u5 (resCells ⟨av, (k : Int) == 0, false, 0⟩) (wr.alloc (.cells #[.int .i64 av, .bool ((k : Int) == 0), .bool false, .int .i64 0] 56)) := VsW_new HL.out _
        have HW := Lib.hid hW
        clear hW HL
        go_wp2_with (at_builtin; refine wpList_append_own _ rfl (.tmp 27) (.tmp 29) 47 rfl w.heap.size 56 i0 _ 4 24 Try.underlying47 hi0 hz0 hz1 hz2 rfl (by decide) _ _ _ rfl (HW.out.own.alloc _) ⟨wr.heap.size + 1, 0, none⟩ 1 1 (resCells ⟨av, (k : Int) == 0, false, 0⟩).toList rfl rfl ?c1 ?c2 ?c3 ?c4 ?c5 ?_)
        case c1 => exact new_cells _ _ _ _ (by simp)
        case c2 => exact resCells_one _
        case c3 => unfold maxLen; omega
        case c4 => omega
        case c5 => simp; omega
        intro v' w2 hown2 hg2 _
        have H3 := Lib.hid (VsL_next HW.out (by unfold valRow; rw [← beq_zero]; exact hown2) hg2)
        clear hown2 hg2 HW
        go_wp2
        go_roundw
        case rel => exact ⟨k + 1, by omega, by go_num, H3.out⟩
        case measure => simp [intOf]; omega
      · have hW : VsW w wr av true c k u5 (resCells ⟨0, (k : Int) == 0, true, c⟩) (wr.alloc (.cells #[.int .i64 0, .bool ((k : Int) == 0), .bool true, .int .i64 c] 56)) := VsW_new HL.out _
        have HW := Lib.hid hW
        clear hW HL
        go_wp2_with (at_builtin; refine wpList_append_own _ rfl (.tmp 27) (.tmp 29) 47 rfl w.heap.size 56 i0 _ 4 24 Try.underlying47 hi0 hz0 hz1 hz2 rfl (by decide) _ _ _ rfl (HW.out.own.alloc _) ⟨wr.heap.size + 1, 0, none⟩ 1 1 (resCells ⟨0, (k : Int) == 0, true, c⟩).toList rfl rfl ?c1 ?c2 ?c3 ?c4 ?c5 ?_)
        case c1 => exact new_cells _ _ _ _ (by simp)
        case c2 => exact resCells_one _
        case c3 => unfold maxLen; omega
        case c4 => omega
        case c5 => simp; omega
        intro v' w2 hown2 hg2 _
        have H3 := Lib.hid (VsL_next HW.out (by unfold valRow; rw [← beq_zero]; exact hown2) hg2)
        clear hown2 hg2 HW
        go_wp2
        go_roundw
        case rel => exact ⟨k + 1, by omega, by go_num, H3.out⟩
        case measure => simp [intOf]; omega
    · obtain rfl : k = n.toNat := by omega
      have hown := HL.out.own
      have hbel := HL.out.below
      have HV := Lib.hid hown
      have HB := Lib.hid hbel
      clear hown hbel HL
      go_wp2_with fail
      go_ret
      exact ⟨_, rfl, HV.out, HB.out⟩

theorem resRow_length (l : List Res) : (resRow l).length = l.length * 4 := row_length resCells 4 (fun _ => rfl) l
theorem valTold_length (v : Int) (p : Bool) (c : Int) (k : Nat) : (valTold v p c k).length = k := by simp [valTold]

theorem Rd.res {w : World} {B : Nat} {A : Option Addr} {n : Nat} {l : List Res} (h : Rd w B 4 A n (resRow l)) {k : Nat} (hk : k < l.length) (hn : l.length = n) :
    ∃ b off, A = some ⟨b, off, none⟩ ∧ b < B ∧ w.cell? ⟨b, off + k * 4, none⟩ = some (.int .i64 l[k].value) ∧ w.cell? ⟨b, off + k * 4 + 1, none⟩ = some (.bool l[k].ran) ∧
      w.cell? ⟨b, off + k * 4 + 2, none⟩ = some (.bool l[k].panicked) ∧ w.cell? ⟨b, off + k * 4 + 3, none⟩ = some (.int .i64 l[k].code) := by
  obtain ⟨b, off, e, hb, hc⟩ := h.2 (by omega)
  refine ⟨b, off, e, hb, ?_, ?_, ?_, ?_⟩
  · exact hc (k * 4) _ (row_at resCells 4 (fun _ => rfl) l k hk 0 (by omega))
  · exact hc (k * 4 + 1) _ (row_at resCells 4 (fun _ => rfl) l k hk 1 (by omega))
  · exact hc (k * 4 + 2) _ (row_at resCells 4 (fun _ => rfl) l k hk 2 (by omega))
  · exact hc (k * 4 + 3) _ (row_at resCells 4 (fun _ => rfl) l k hk 3 (by omega))

set_option maxHeartbeats 1000000 in
/-- laws.equal, at two slices with the same rows. -/
theorem equal_any (A1 A2 : Option Addr) (c1 c2 B1 B2 : Nat) (l : List Res) (w : World) (h1 : Rd w B1 4 A1 l.length (resRow l)) (h2 : Rd w B2 4 A2 l.length (resRow l)) (hlen : l.length ≤ 9223372036854775807) :
    Calls Try.prog 31 #[.slice A1 l.length c1, .slice A2 l.length c2] w fun e w' => e = .returned (.bool true) ∧ ∃ m, w' = w.drewN m := by
  have R1 := Lib.hid h1
  have R2 := Lib.hid h2
  clear h1 h2
  go_enter Try.func31, Try.ntmps31
  go_wp2_with fail
  go_loopw [13] (fun i wr => ∃ k : Nat, k ≤ l.length ∧ i = .int .i64 k ∧ ∃ m, wr = w.drewN m) (fun i _ => l.length - (intOf i).toNat)
  case atStart => exact ⟨0, Nat.zero_le _, rfl, 0, rfl⟩
  case round =>
    obtain ⟨k, hk, rfl, m, rfl⟩ := hrel
    by_cases hlt : k < l.length
    · obtain ⟨b, off, rfl, hb, s0, s1, s2, s3⟩ := R1.out.res hlt rfl
      obtain ⟨b', off', rfl, hb', t0, t1, t2, t3⟩ := R2.out.res hlt rfl
      go_wp2_with fail
      go_quiet (fail)
      go_wp2
      go_roundw
      case rel => exact ⟨k + 1, by omega, by go_num, m + nq, rfl⟩
      case measure => simp [intOf]; omega
    · go_wp2_with fail
      go_ret
      exact ⟨rfl, m, rfl⟩

end Go.Proofs.Ytpkippcbocmmkaa
