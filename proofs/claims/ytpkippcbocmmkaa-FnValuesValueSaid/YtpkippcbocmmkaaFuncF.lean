/-
  impl.OnceFunc and the reference spec.OnceFunc: each returns a new slice that tells of each call what the plain law funcTold says.
-/
import Derived.Test.YtpkippcbocmmkaaFuncE
import Derived.Test.YtpkippcbocmmkaaDo
import Derived.Deep.DeepCutAuto
namespace Go.Proofs.Ytpkippcbocmmkaa
open Go.RowKit Go.Maps

/-- What is told of the calls of OnceFunc's function. -/
def funcRow (p : Bool) (c : Int) (i : Nat) : Told := ⟨i == 0, false, p, if p then c else 0⟩
def funcTold (p : Bool) (c : Int) (k : Nat) : List Told := (List.range k).map (funcRow p c)

theorem funcTold_succ (p : Bool) (c : Int) (k : Nat) : funcTold p c (k + 1) = funcTold p c k ++ [funcRow p c k] := by
  simp [funcTold, List.range_succ]

/-- sync.OnceFunc. -/
theorem makeFunc_any (k : Nat) (caps : Array Value) (w : World) :
    Calls Try.prog 45 #[.func (.func k) #[] caps] w fun e w' => e = .returned (.func (.func 56) #[] #[.pointer (some ⟨w.heap.size, 0, none⟩)]) ∧ w' = w.alloc (.cells #[.func (.func k) #[] caps, .int .u32 0, .int .i32 0, .int .u32 0, .bool false, .nilIface] 86) := by
  have hmf : ∀ (fn : Fn) (first cap : Array Value) (w : World), (Instr.makeFunc fn first cap).run Try.prog w = .ok (.func fn first cap) w := fun _ _ _ _ => rfl
  go_enter Try.func45, Try.ntmps45
  go_wp2_with fail
  go_ret
  exact ⟨rfl, rfl⟩

/-- Behind k rounds. -/
structure FuL (w : World) (av : Int) (p : Bool) (c : Int) (k : Nat) (v : Value) (wr : World) : Prop where
  ba : Blk wr w.heap.size 43 #[.int .i64 av, .bool p, .int .i64 c]
  br : ∃ x, Blk wr (w.heap.size + 1) 4 #[x]
  bd : Blk wr (w.heap.size + 2) 86 (kept (decide (0 < k)) p c (w.heap.size + 1) w.heap.size)
  own : wr.ownsRow w.heap.size 26 4 v k (toldRow (funcTold p c k))
  below : Below w.heap.size w wr

theorem FuL_start (w : World) (av : Int) (p : Bool) (c : Int) :
    FuL w av p c 0 (.slice (some ⟨w.heap.size + 1 + 1 + 1, 0, none⟩) 0 0) ((((w.alloc (.cells #[.int .i64 av, .bool p, .int .i64 c] 43)).alloc (.cells #[.bool false] 4)).alloc (.cells #[.func (.func 46) #[] #[.pointer (some ⟨w.heap.size + 1, 0, none⟩), .pointer (some ⟨w.heap.size, 0, none⟩)], .int .u32 0, .int .i32 0, .int .u32 0, .bool false, .nilIface] 86)).alloc (.cells #[] 26)) := by
  refine ⟨(((Blk.new w 43 _).alloc _).alloc _).alloc _, ⟨.bool false, ?_⟩, ?_, ?_, ((((Below.refl _ w).alloc (Nat.le_refl _) _).alloc (by simp) _).alloc (by simp; omega) _).alloc (by simp; omega) _⟩
  · have := Blk.new (w.alloc (.cells #[.int .i64 av, .bool p, .int .i64 c] 43)) 4 #[.bool false]
    simp only [World.size_alloc] at this
    exact (this.alloc _).alloc _
  · have := Blk.new ((w.alloc (.cells #[.int .i64 av, .bool p, .int .i64 c] 43)).alloc (.cells #[.bool false] 4)) 86 (kept false p c (w.heap.size + 1) w.heap.size)
    simp only [World.size_alloc] at this
    exact this.alloc _
  · have := World.ownsRow_made (base := w.heap.size) (e := 26) (size := 4) (((w.alloc (.cells #[.int .i64 av, .bool p, .int .i64 c] 43)).alloc (.cells #[.bool false] 4)).alloc (.cells #[.func (.func 46) #[] #[.pointer (some ⟨w.heap.size + 1, 0, none⟩), .pointer (some ⟨w.heap.size, 0, none⟩)], .int .u32 0, .int .i32 0, .int .u32 0, .bool false, .nilIface] 86)) #[] 0 (by simp; omega) (by simp [maxLen]) rfl
    simpa [toldRow, funcTold] using this

/-- In a round, behind the call of run: what is read there. -/
structure FuW (w wr : World) (av : Int) (p : Bool) (c : Int) (k : Nat) (v : Value) (cs : Array Value) (wx : World) : Prop where
  ba : Blk wx w.heap.size 43 #[.int .i64 av, .bool p, .int .i64 c]
  br : Blk wx (w.heap.size + 1) 4 #[.bool (k == 0)]
  bd : Blk wx (w.heap.size + 2) 86 (kept true p c (w.heap.size + 1) w.heap.size)
  bt : Blk wx wr.heap.size 26 cs
  own : wx.ownsRow w.heap.size 26 4 v k (toldRow (funcTold p c k))
  lt : ∀ g, v.ownBlock = some g → g < wr.heap.size
  le : w.heap.size + 2 < wr.heap.size
  below : Below w.heap.size w wx

theorem FuW_call {w wr w1 : World} {av : Int} {p : Bool} {c : Int} {k : Nat} {v : Value} (h : FuL w av p c k v wr)
    (hr : Blk w1 (w.heap.size + 1) 4 #[if decide (0 < k) then .bool false else .bool true]) (hd : Blk w1 (w.heap.size + 2) 86 (kept true p c (w.heap.size + 1) w.heap.size))
    (hc : Chg (fun j => j = w.heap.size + 1 ∨ j = w.heap.size + 2) ((wr.alloc (.cells #[.bool false, .bool false, .bool false, .int .i64 0] 26)).setCell ⟨w.heap.size + 1, 0, none⟩ (.bool false)) w1) :
    FuW w wr av p c k v #[.bool false, .bool false, .bool false, .int .i64 0] w1 := by
  obtain ⟨ba, ⟨x, br⟩, bd, own, below⟩ := h
  have l2 := bd.lt
  have n1 : v.ownBlock ≠ some (w.heap.size + 1) := own_blk_ne own br (by decide)
  have n2 : v.ownBlock ≠ some (w.heap.size + 2) := own_blk_ne own bd (by decide)
  have ba1 := (ba.alloc (.cells #[.bool false, .bool false, .bool false, .int .i64 0] 26)).far (p := ⟨w.heap.size + 1, 0, none⟩) (by show w.heap.size ≠ w.heap.size + 1; omega) (.bool false)
  have bt1 := (Blk.new wr 26 #[.bool false, .bool false, .bool false, .int .i64 0]).far (p := ⟨w.heap.size + 1, 0, none⟩) (by show wr.heap.size ≠ w.heap.size + 1; omega) (.bool false)
  have b1 : Below w.heap.size w ((wr.alloc (.cells #[.bool false, .bool false, .bool false, .int .i64 0] 26)).setCell ⟨w.heap.size + 1, 0, none⟩ (.bool false)) :=
    (below.alloc (by omega) _).setCell (p := ⟨w.heap.size + 1, 0, none⟩) (by show w.heap.size ≤ w.heap.size + 1; omega) _
  refine ⟨ba1.chg hc (by omega), ?_, hd, bt1.chg hc (by omega), ?_, fun g hg => (own.lt g hg).2, l2, b1.trans (hc.below (by simp [World.setCell]; omega) (by omega))⟩
  · cases k with
    | zero => exact hr
    | succ k => exact hr
  · refine own_chg (ownsRow_setCell_other (own.alloc _) n1 _) hc ?_
    rintro g hg (rfl | rfl)
    · exact n1 hg
    · exact n2 hg

theorem FuW_set {w wr wx : World} {av : Int} {p : Bool} {c : Int} {k : Nat} {v : Value} {cs : Array Value} (h : FuW w wr av p c k v cs wx) (j : Nat) (u : Value) : FuW w wr av p c k v (cs.setIfInBounds j u) (wx.setCell ⟨wr.heap.size, j, none⟩ u) := by
  have l := h.le
  have n : v.ownBlock ≠ some wr.heap.size := fun e => by have := h.lt _ e; omega
  exact ⟨h.ba.far (p := ⟨wr.heap.size, j, none⟩) (by show w.heap.size ≠ wr.heap.size; omega) u, h.br.far (p := ⟨wr.heap.size, j, none⟩) (by show w.heap.size + 1 ≠ wr.heap.size; omega) u, h.bd.far (p := ⟨wr.heap.size, j, none⟩) (by show w.heap.size + 2 ≠ wr.heap.size; omega) u,
    h.bt.set_ j u, ownsRow_setCell_other h.own n u, h.lt, h.le, h.below.setCell (p := ⟨wr.heap.size, j, none⟩) (by show w.heap.size ≤ wr.heap.size; omega) u⟩

theorem FuL_next {w wr wx w2 : World} {av : Int} {p : Bool} {c : Int} {k : Nat} {v v' : Value} {cs : Array Value} {o : Obj} (h : FuW w wr av p c k v cs wx)
    (hown : w2.ownsRow w.heap.size 26 4 v' (k + 1) (toldRow (funcTold p c k) ++ (toldCells (funcRow p c k)).toList)) (hg : (wx.alloc o).grownBy w2 v.ownBlock) : FuL w av p c (k + 1) v' w2 := by
  refine ⟨(h.ba.alloc o).grown hg (fun e => own_blk_ne h.own h.ba (by decide) e.symm), ⟨_, (h.br.alloc o).grown hg (fun e => own_blk_ne h.own h.br (by decide) e.symm)⟩, ?_, ?_, (h.below.alloc h.below.size o).grown hg (by have := h.below.size; simp; omega) (fun j e => (h.own.lt j e).1)⟩
  · rw [show decide (0 < k + 1) = true by simp]
    exact (h.bd.alloc o).grown hg (fun e => own_blk_ne h.own h.bd (by decide) e.symm)
  · rw [funcTold_succ, toldRow_append]
    simpa [toldRow] using hown

set_option maxRecDepth 100000 in
set_option maxHeartbeats 2000000 in
theorem onceFunc_any (av : Int) (p : Bool) (c n : Int) (w : World) (hn : n ≤ 1048576) :
    Calls Try.prog 29 #[.agg #[.int .i64 av, .bool p, .int .i64 c], .int .i64 n] w fun e w' => ∃ v, e = .returned v ∧ w'.ownsRow w.heap.size 26 4 v n.toNat (toldRow (funcTold p c n.toNat)) ∧ Below w.heap.size w w' := by
  obtain ⟨i0, hi0, hz0, hz1, hz2⟩ := info_parts info26
  have hmf : ∀ (fn : Fn) (first cap : Array Value) (w : World), (Instr.makeFunc fn first cap).run Try.prog w = .ok (.func fn first cap) w := fun _ _ _ _ => rfl
  have HST := Lib.hid (FuL_start w av p c)
  go_enter Try.func29, Try.ntmps29
  go_wp2_with (go_at_call 45; refine (makeFunc_any _ _ _).mono ?_; rintro e w' ⟨rfl, rfl⟩)
  go_loopw [7, 8] (fun v i wr => ∃ k : Nat, k ≤ n.toNat ∧ i = .int .i64 k ∧ FuL w av p c k v wr) (fun _ i _ => n.toNat - (intOf i).toNat)
  case atStart => exact ⟨0, Nat.zero_le _, rfl, HST.out⟩
  case round =>
    clear HST
    obtain ⟨k, hk, rfl, hL⟩ := hrel
    have HL := Lib.hid hL
    clear hL
    by_cases hlt : (k : Int) < n
    · obtain ⟨x, hbr⟩ := HL.out.br
      have r0 := hbr.c1
      have y0 := hbr.frozen 0
      have hsz := HL.out.bd.lt
      have hcall := run_func (w.heap.size + 2) (w.heap.size + 1) w.heap.size (.bool false) (.int .i64 av) p (decide (0 < k)) c ((wr.alloc (.cells #[.bool false, .bool false, .bool false, .int .i64 0] 26)).setCell ⟨w.heap.size + 1, 0, none⟩ (.bool false))
        ((hbr.alloc _).set_ 0 _) ((HL.out.ba.alloc _).far (p := ⟨w.heap.size + 1, 0, none⟩) (by show w.heap.size ≠ w.heap.size + 1; omega) _) ((HL.out.bd.alloc _).far (p := ⟨w.heap.size + 1, 0, none⟩) (by show w.heap.size + 2 ≠ w.heap.size + 1; omega) _)
      have r1 := (hbr.alloc (.cells #[.bool false, .bool false, .bool false, .int .i64 0] 26)).c1
      have y1 := (hbr.alloc (.cells #[.bool false, .bool false, .bool false, .int .i64 0] 26)).frozen 0
      have HC := Lib.hid hcall
      clear hcall hbr
      go_wp2_with fail
      refine HC.out.mono ?_
      clear HC
      rintro e w1 ⟨rfl, hr1, hd1, hc1⟩
      have hW := FuW_call HL.out hr1 hd1 hc1
      obtain ⟨d, hd⟩ : ∃ d, d = (if p then c else 0) := ⟨_, rfl⟩
      rw [← hd]
      obtain ⟨t0, t1, t2, t3⟩ := hW.bt.c4
      have z0 := hW.bt.frozen 0
      have z2 := hW.bt.frozen 2
      have z3 := hW.bt.frozen 3
      have q0 := hW.br.c1
      have hlw := hW.bt.lt
      have hne : ¬ w.heap.size + 1 = wr.heap.size := by omega
      have hW2 : FuW w wr av p c k u7 (toldCells ⟨k == 0, false, p, d⟩) _ := FuW_set (FuW_set (FuW_set hW 2 (.bool p)) 3 (.int .i64 d)) 0 (.bool (k == 0))
      have HW := Lib.hid hW2
      have HDC := Lib.hid hd
      clear hW hW2 hr1 hd1 hc1 HL hd
      go_wp2_with (at_builtin; refine wpList_append_own _ rfl (.tmp 28) (.tmp 30) 23 rfl w.heap.size 26 i0 _ 4 16 Try.underlying23 hi0 hz0 hz1 hz2 rfl (by decide) _ _ _ rfl (HW.out.own.alloc _) ⟨w1.heap.size, 0, none⟩ 1 1 (toldCells ⟨k == 0, false, p, d⟩).toList rfl rfl ?c1 ?c2 ?c3 ?c4 ?c5 ?_)
      case c1 => exact new_cells _ _ _ _ (by simp [World.setCell])
      case c2 => exact toldCells_one _
      case c3 => unfold maxLen; omega
      case c4 => omega
      case c5 => simp; omega
      intro v' w2 hown2 hg2 _
      have H3 := Lib.hid (FuL_next HW.out (by unfold funcRow; rw [← HDC.out]; exact hown2) hg2)
      clear hown2 hg2 HW
      go_wp2
      go_roundw
      case rel => exact ⟨k + 1, by omega, by go_num, H3.out⟩
      case measure => simp [intOf]; omega
    · obtain rfl : k = n.toNat := by omega
      have hown := HL.out.own
      have hbel := HL.out.below
      have HV := Lib.hid hown
      have HB := Lib.hid hbel
      clear hown hbel HL
      go_wp2_with fail
      go_ret
      exact ⟨_, rfl, HV.out, HB.out⟩

end Go.Proofs.Ytpkippcbocmmkaa
