/-
  impl.OnceValue: it returns a new slice that tells of each call what the plain law valTold says.
-/
import Derived.Test.YtpkippcbocmmkaaValueE
import Derived.Test.YtpkippcbocmmkaaFuncF
namespace Go.Proofs.Ytpkippcbocmmkaa
open Go.RowKit Go.Maps

/-- What is told of a call of OnceValue's function. -/
structure Res where
  value : Int
  ran : Bool
  panicked : Bool
  code : Int

def resCells (t : Res) : Array Value := #[.int .i64 t.value, .bool t.ran, .bool t.panicked, .int .i64 t.code]
def resRow (l : List Res) : List Value := l.flatMap fun t => (resCells t).toList
theorem resRow_append (a b : List Res) : resRow (a ++ b) = resRow a ++ resRow b := by simp [resRow]
theorem resCells_one (T : Res) : ∀ u ∈ (resCells T).toList, u.oneCell' = true := by
  intro u hu
  simp only [resCells, List.mem_cons, List.not_mem_nil, or_false] at hu
  rcases hu with rfl | rfl | rfl | rfl <;> rfl

def valRow (v : Int) (p : Bool) (c : Int) (i : Nat) : Res := ⟨if p then 0 else v, i == 0, p, if p then c else 0⟩
def valTold (v : Int) (p : Bool) (c : Int) (k : Nat) : List Res := (List.range k).map (valRow v p c)

theorem valTold_succ (v : Int) (p : Bool) (c : Int) (k : Nat) : valTold v p c (k + 1) = valTold v p c k ++ [valRow v p c k] := by
  simp [valTold, List.range_succ]

theorem info56 : (Try.prog.info? 56).map (fun i => (i.zero, i.size, i.bytes)) = some (some (.agg #[.int .i64 0, .bool false, .bool false, .int .i64 0]), 4, 24) := by kernel_rfl

/-- sync.OnceValue. -/
theorem makeValue_any (k : Nat) (caps : Array Value) (w : World) :
    Calls Try.prog 47 #[.func (.func k) #[] caps] w fun e w' => e = .returned (.func (.func 59) #[] #[.pointer (some ⟨w.heap.size, 0, none⟩)]) ∧ w' = w.alloc (.cells #[.func (.func k) #[] caps, .int .u32 0, .int .i32 0, .int .u32 0, .bool false, .nilIface, .int .i64 0] 87) := by
  have hmf : ∀ (fn : Fn) (first cap : Array Value) (w : World), (Instr.makeFunc fn first cap).run Try.prog w = .ok (.func fn first cap) w := fun _ _ _ _ => rfl
  go_enter Try.func47, Try.ntmps47
  go_wp2_with fail
  go_ret
  exact ⟨rfl, rfl⟩

/-- Behind k rounds. -/
structure VaL (w : World) (av : Int) (p : Bool) (c : Int) (k : Nat) (v : Value) (wr : World) : Prop where
  ba : Blk wr w.heap.size 43 #[.int .i64 av, .bool p, .int .i64 c]
  br : ∃ x, Blk wr (w.heap.size + 1) 4 #[x]
  bn : Blk wr (w.heap.size + 2) 3 #[.int .i64 (if decide (0 < k) then 1 else 0)]
  bd : Blk wr (w.heap.size + 3) 87 (keptV (decide (0 < k)) p c av (w.heap.size + 1) (w.heap.size + 2) w.heap.size)
  bf : Blk wr (w.heap.size + 4) 79 #[.func (.func 59) #[] #[.pointer (some ⟨w.heap.size + 3, 0, none⟩)]]
  own : wr.ownsRow w.heap.size 56 4 v k (resRow (valTold av p c k))
  below : Below w.heap.size w wr

/-- The world ahead of the loop. -/
def va0 (w : World) (av : Int) (p : Bool) (c : Int) : World := w.alloc (.cells #[.int .i64 av, .bool p, .int .i64 c] 43)
def va1 (w : World) (av : Int) (p : Bool) (c : Int) : World := (va0 w av p c).alloc (.cells #[.bool false] 4)
def va2 (w : World) (av : Int) (p : Bool) (c : Int) : World := (va1 w av p c).alloc (.cells #[.int .i64 0] 3)
def va3 (w : World) (av : Int) (p : Bool) (c : Int) : World := (va2 w av p c).alloc (.cells #[.func (.func 48) #[] #[.pointer (some ⟨w.heap.size + 1, 0, none⟩), .pointer (some ⟨w.heap.size + 1 + 1, 0, none⟩), .pointer (some ⟨w.heap.size, 0, none⟩)], .int .u32 0, .int .i32 0, .int .u32 0, .bool false, .nilIface, .int .i64 0] 87)
def va4 (w : World) (av : Int) (p : Bool) (c : Int) : World := (va3 w av p c).alloc (.cells #[.func (.func 59) #[] #[.pointer (some ⟨w.heap.size + 1 + 1 + 1, 0, none⟩)]] 79)

theorem VaL_start (w : World) (av : Int) (p : Bool) (c : Int) :
    VaL w av p c 0 (.slice (some ⟨w.heap.size + 1 + 1 + 1 + 1 + 1, 0, none⟩) 0 0) ((va4 w av p c).alloc (.cells #[] 56)) := by
  have s0 : (va0 w av p c).heap.size = w.heap.size + 1 := by simp [va0]
  have s1 : (va1 w av p c).heap.size = w.heap.size + 2 := by simp [va1, s0]
  have s2 : (va2 w av p c).heap.size = w.heap.size + 3 := by simp [va2, s1]
  have s3 : (va3 w av p c).heap.size = w.heap.size + 4 := by simp [va3, s2]
  have s4 : (va4 w av p c).heap.size = w.heap.size + 5 := by simp [va4, s3]
  have b0 : Blk (va0 w av p c) w.heap.size 43 #[.int .i64 av, .bool p, .int .i64 c] := Blk.new w 43 _
  have b1 : Blk (va1 w av p c) (w.heap.size + 1) 4 #[.bool false] := by
    have := Blk.new (va0 w av p c) 4 #[.bool false]
    rw [s0] at this
    exact this
  have b2 : Blk (va2 w av p c) (w.heap.size + 2) 3 #[.int .i64 0] := by
    have := Blk.new (va1 w av p c) 3 #[.int .i64 0]
    rw [s1] at this
    exact this
  have b3 : Blk (va3 w av p c) (w.heap.size + 3) 87 (keptV false p c av (w.heap.size + 1) (w.heap.size + 2) w.heap.size) := by
    have := Blk.new (va2 w av p c) 87 (keptV false p c av (w.heap.size + 1) (w.heap.size + 2) w.heap.size)
    rw [s2] at this
    exact this
  have b4 : Blk (va4 w av p c) (w.heap.size + 4) 79 #[.func (.func 59) #[] #[.pointer (some ⟨w.heap.size + 3, 0, none⟩)]] := by
    have := Blk.new (va3 w av p c) 79 #[.func (.func 59) #[] #[.pointer (some ⟨w.heap.size + 3, 0, none⟩)]]
    rw [s3] at this
    exact this
  have l4 : Below w.heap.size w (va4 w av p c) :=
    (((((Below.refl _ w).alloc (Nat.le_refl _) _).alloc (show w.heap.size ≤ (va0 w av p c).heap.size by omega) _).alloc (show w.heap.size ≤ (va1 w av p c).heap.size by omega) _).alloc (show w.heap.size ≤ (va2 w av p c).heap.size by omega) _).alloc (show w.heap.size ≤ (va3 w av p c).heap.size by omega) _
  refine ⟨((((b0.alloc _).alloc _).alloc _).alloc _).alloc _, ⟨.bool false, (((b1.alloc _).alloc _).alloc _).alloc _⟩, ((b2.alloc _).alloc _).alloc _, (b3.alloc _).alloc _, b4.alloc _, ?_, l4.alloc (by omega) _⟩
  have := World.ownsRow_made (base := w.heap.size) (e := 56) (size := 4) (va4 w av p c) #[] 0 (by omega) (by simp [maxLen]) rfl
  rw [s4] at this
  simpa [resRow, valTold] using this

/-- In a round, behind the call of run: what is read there. -/
structure VaW (w wr : World) (av : Int) (p : Bool) (c : Int) (k : Nat) (v : Value) (cs : Array Value) (wx : World) : Prop where
  ba : Blk wx w.heap.size 43 #[.int .i64 av, .bool p, .int .i64 c]
  br : Blk wx (w.heap.size + 1) 4 #[.bool (k == 0)]
  bn : Blk wx (w.heap.size + 2) 3 #[.int .i64 1]
  bd : Blk wx (w.heap.size + 3) 87 (keptV true p c av (w.heap.size + 1) (w.heap.size + 2) w.heap.size)
  bf : Blk wx (w.heap.size + 4) 79 #[.func (.func 59) #[] #[.pointer (some ⟨w.heap.size + 3, 0, none⟩)]]
  bt : Blk wx wr.heap.size 56 cs
  own : wx.ownsRow w.heap.size 56 4 v k (resRow (valTold av p c k))
  lt : ∀ g, v.ownBlock = some g → g < wr.heap.size
  le : w.heap.size + 4 < wr.heap.size
  below : Below w.heap.size w wx

/-- The cells of a new row. -/
def res0 : Array Value := #[.int .i64 0, .bool false, .bool false, .int .i64 0]

/-- The world ahead of the call of run. -/
def vaR (w wr : World) : World := (wr.alloc (.cells res0 56)).setCell ⟨w.heap.size + 1, 0, none⟩ (.bool false)

theorem vaR_blk {w wr : World} {g : Nat} {t : TypeId} {cs : Array Value} (h : Blk wr g t cs) (hg : g ≠ w.heap.size + 1) : Blk (vaR w wr) g t cs := (h.alloc _).far (p := ⟨w.heap.size + 1, 0, none⟩) hg _

theorem VaW_call {w wr w1 : World} {av : Int} {p : Bool} {c : Int} {k : Nat} {v : Value} {cs : Array Value} (h : VaL w av p c k v wr)
    (hr : Blk w1 (w.heap.size + 1) 4 #[if decide (0 < k) then .bool false else .bool true]) (hn : Blk w1 (w.heap.size + 2) 3 #[.int .i64 1]) (hd : Blk w1 (w.heap.size + 3) 87 (keptV true p c av (w.heap.size + 1) (w.heap.size + 2) w.heap.size))
    (ht : Blk w1 wr.heap.size 56 cs) (hc : Chg (fun j => j = w.heap.size + 1 ∨ j = w.heap.size + 2 ∨ j = w.heap.size + 3 ∨ j = wr.heap.size) (vaR w wr) w1) :
    VaW w wr av p c k v cs w1 := by
  obtain ⟨ba, ⟨x, br⟩, bn, bd, bf, own, below⟩ := h
  have l2 := bf.lt
  have n1 : v.ownBlock ≠ some (w.heap.size + 1) := own_blk_ne own br (by decide)
  have n2 : v.ownBlock ≠ some (w.heap.size + 2) := own_blk_ne own bn (by decide)
  have n3 : v.ownBlock ≠ some (w.heap.size + 3) := own_blk_ne own bd (by decide)
  have n4 : v.ownBlock ≠ some wr.heap.size := fun e => by have := (own.lt _ e).2; omega
  have b1 : Below w.heap.size w (vaR w wr) := (below.alloc (by omega) _).setCell (p := ⟨w.heap.size + 1, 0, none⟩) (by show w.heap.size ≤ w.heap.size + 1; omega) _
  have o1 : (vaR w wr).ownsRow w.heap.size 56 4 v k (resRow (valTold av p c k)) := ownsRow_setCell_other (own.alloc _) n1 _
  have z1 : w.heap.size ≤ (vaR w wr).heap.size := b1.size
  refine ⟨(vaR_blk ba (by omega)).chg hc (by omega), ?_, hn, hd, (vaR_blk bf (by omega)).chg hc (by omega), ht, ?_, fun g hg => (own.lt g hg).2, l2, b1.trans (hc.below z1 (by omega))⟩
  · cases k with
    | zero => exact hr
    | succ k => exact hr
  · refine own_chg o1 hc ?_
    rintro g hg (rfl | rfl | rfl | rfl)
    · exact n1 hg
    · exact n2 hg
    · exact n3 hg
    · exact n4 hg

theorem VaW_set {w wr wx : World} {av : Int} {p : Bool} {c : Int} {k : Nat} {v : Value} {cs : Array Value} (h : VaW w wr av p c k v cs wx) (j : Nat) (u : Value) : VaW w wr av p c k v (cs.setIfInBounds j u) (wx.setCell ⟨wr.heap.size, j, none⟩ u) := by
  have l := h.le
  have n : v.ownBlock ≠ some wr.heap.size := fun e => by have := h.lt _ e; omega
  exact ⟨h.ba.far (p := ⟨wr.heap.size, j, none⟩) (by show w.heap.size ≠ wr.heap.size; omega) u, h.br.far (p := ⟨wr.heap.size, j, none⟩) (by show w.heap.size + 1 ≠ wr.heap.size; omega) u, h.bn.far (p := ⟨wr.heap.size, j, none⟩) (by show w.heap.size + 2 ≠ wr.heap.size; omega) u,
    h.bd.far (p := ⟨wr.heap.size, j, none⟩) (by show w.heap.size + 3 ≠ wr.heap.size; omega) u, h.bf.far (p := ⟨wr.heap.size, j, none⟩) (by show w.heap.size + 4 ≠ wr.heap.size; omega) u,
    h.bt.set_ j u, ownsRow_setCell_other h.own n u, h.lt, h.le, h.below.setCell (p := ⟨wr.heap.size, j, none⟩) (by show w.heap.size ≤ wr.heap.size; omega) u⟩

theorem VaL_next {w wr wx w2 : World} {av : Int} {p : Bool} {c : Int} {k : Nat} {v v' : Value} {cs : Array Value} {o : Obj} (h : VaW w wr av p c k v cs wx)
    (hown : w2.ownsRow w.heap.size 56 4 v' (k + 1) (resRow (valTold av p c k) ++ (resCells (valRow av p c k)).toList)) (hg : (wx.alloc o).grownBy w2 v.ownBlock) : VaL w av p c (k + 1) v' w2 := by
  have e : decide (0 < k + 1) = true := by simp
  refine ⟨(h.ba.alloc o).grown hg (fun e => own_blk_ne h.own h.ba (by decide) e.symm), ⟨_, (h.br.alloc o).grown hg (fun e => own_blk_ne h.own h.br (by decide) e.symm)⟩, ?_, ?_, (h.bf.alloc o).grown hg (fun e => own_blk_ne h.own h.bf (by decide) e.symm), ?_, (h.below.alloc h.below.size o).grown hg (by have := h.below.size; simp; omega) (fun j e => (h.own.lt j e).1)⟩
  · rw [e]
    exact (h.bn.alloc o).grown hg (fun e => own_blk_ne h.own h.bn (by decide) e.symm)
  · rw [e]
    exact (h.bd.alloc o).grown hg (fun e => own_blk_ne h.own h.bd (by decide) e.symm)
  · rw [valTold_succ, resRow_append]
    simpa [resRow] using hown

set_option maxRecDepth 100000 in
set_option maxHeartbeats 2000000 in
theorem onceValue_any (av : Int) (p : Bool) (c n : Int) (w : World) (hv : (Lit.int .i64 av).wf = true) (hn : n ≤ 1048576) :
    Calls Try.prog 32 #[.agg #[.int .i64 av, .bool p, .int .i64 c], .int .i64 n] w fun e w' => ∃ v, e = .returned v ∧ w'.ownsRow w.heap.size 56 4 v n.toNat (resRow (valTold av p c n.toNat)) ∧ Below w.heap.size w w' := by
  obtain ⟨i0, hi0, hz0, hz1, hz2⟩ := info_parts info56
  have hmf : ∀ (fn : Fn) (first cap : Array Value) (w : World), (Instr.makeFunc fn first cap).run Try.prog w = .ok (.func fn first cap) w := fun _ _ _ _ => rfl
  have HST := Lib.hid (VaL_start w av p c)
  have HV := Lib.hid hv
  clear hv
  go_enter Try.func32, Try.ntmps32
  go_wp2_with (go_at_call 47; refine (makeValue_any _ _ _).mono ?_; rintro e w' ⟨rfl, rfl⟩)
  go_loopw [8, 9] (fun v i wr => ∃ k : Nat, k ≤ n.toNat ∧ i = .int .i64 k ∧ VaL w av p c k v wr) (fun _ i _ => n.toNat - (intOf i).toNat)
  case atStart => exact ⟨0, Nat.zero_le _, rfl, HST.out⟩
  case round =>
    clear HST
    obtain ⟨k, hk, rfl, hL⟩ := hrel
    have HL := Lib.hid hL
    clear hL
    by_cases hlt : (k : Int) < n
    · obtain ⟨x, hbr⟩ := HL.out.br
      have hsz := HL.out.bf.lt
      have hcall := run_value (w.heap.size + 3) (w.heap.size + 1) (w.heap.size + 2) w.heap.size (w.heap.size + 4) wr.heap.size (.bool false) (.int .i64 0) (.bool false) (.bool false) (.int .i64 0) av p (decide (0 < k)) c (vaR w wr) HV.out
        ((hbr.alloc _).set_ 0 _) (vaR_blk HL.out.bn (by omega)) (vaR_blk HL.out.ba (by omega)) (vaR_blk HL.out.bd (by omega)) (vaR_blk HL.out.bf (by omega)) ((Blk.new wr 56 res0).far (p := ⟨w.heap.size + 1, 0, none⟩) (by show wr.heap.size ≠ w.heap.size + 1; omega) _)
      have r1 := (hbr.alloc (.cells res0 56)).c1
      have y1 := (hbr.alloc (.cells res0 56)).frozen 0
      have HC := Lib.hid hcall
      clear hcall hbr
      unfold res0 at r1 y1
      go_wp2_with fail
      refine HC.out.mono ?_
      clear HC
      rintro e w1 ⟨rfl, hr1, hn1, hd1, ht1, hc1⟩
      have hW := VaW_call HL.out hr1 hn1 hd1 ht1 hc1
      obtain ⟨d, hd⟩ : ∃ d, d = (if p then c else 0) := ⟨_, rfl⟩
      obtain ⟨b, hb⟩ : ∃ b, b = (if p then 0 else av) := ⟨_, rfl⟩
      have hb' : (if p then Value.int .i64 0 else .int .i64 av) = .int .i64 b := by rw [hb]; cases p <;> rfl
      rw [← hd]
      rw [hb'] at hW
      obtain ⟨t0, t1, t2, t3⟩ := hW.bt.c4
      have z1 := hW.bt.frozen 1
      have z2 := hW.bt.frozen 2
      have z3 := hW.bt.frozen 3
      have q0 := hW.br.c1
      have hlw := hW.bt.lt
      have hne : ¬ w.heap.size + 1 = wr.heap.size := by omega
      have hW2 : VaW w wr av p c k u8 (resCells ⟨b, k == 0, p, d⟩) _ := VaW_set (VaW_set (VaW_set hW 2 (.bool p)) 3 (.int .i64 d)) 1 (.bool (k == 0))
      have HW := Lib.hid hW2
      have HDC := Lib.hid hd
      have HBC := Lib.hid hb
      clear hW hW2 hr1 hn1 hd1 ht1 hc1 HL hd hb hb'
      go_wp2_with (at_builtin; refine wpList_append_own _ rfl (.tmp 29) (.tmp 31) 47 rfl w.heap.size 56 i0 _ 4 24 Try.underlying47 hi0 hz0 hz1 hz2 rfl (by decide) _ _ _ rfl (HW.out.own.alloc _) ⟨w1.heap.size, 0, none⟩ 1 1 (resCells ⟨b, k == 0, p, d⟩).toList rfl rfl ?c1 ?c2 ?c3 ?c4 ?c5 ?_)
      case c1 => exact new_cells _ _ _ _ (by simp [World.setCell])
      case c2 => exact resCells_one _
      case c3 => unfold maxLen; omega
      case c4 => omega
      case c5 => simp; omega
      intro v' w2 hown2 hg2 _
      have H3 := Lib.hid (VaL_next HW.out (by unfold valRow; rw [← HDC.out, ← HBC.out]; exact hown2) hg2)
      clear hown2 hg2 HW
      go_wp2
      go_roundw
      case rel => exact ⟨k + 1, by omega, by go_num, H3.out⟩
      case measure => simp [intOf]; omega
    · obtain rfl : k = n.toNat := by omega
      have hown := HL.out.own
      have hbel := HL.out.below
      have HO := Lib.hid hown
      have HB := Lib.hid hbel
      clear hown hbel HL
      go_wp2_with fail
      go_ret
      exact ⟨_, rfl, HO.out, HB.out⟩

end Go.Proofs.Ytpkippcbocmmkaa
