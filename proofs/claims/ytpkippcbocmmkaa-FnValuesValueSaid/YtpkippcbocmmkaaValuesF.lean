/-
  impl.OnceValues: it returns a new slice that tells of each call what the plain law valsTold says.
-/
import Derived.Test.YtpkippcbocmmkaaValuesE
import Derived.Test.YtpkippcbocmmkaaValueF
namespace Go.Proofs.Ytpkippcbocmmkaa
open Go.RowKit Go.Maps

/-- What is told of a call of OnceValues' function. -/
structure Both where
  value : Int
  text : ByteArray
  ran : Bool
  panicked : Bool
  code : Int

def bothCells (t : Both) : Array Value := #[.int .i64 t.value, .string t.text, .bool t.ran, .bool t.panicked, .int .i64 t.code]
def bothRow (l : List Both) : List Value := l.flatMap fun t => (bothCells t).toList
theorem bothRow_append (a b : List Both) : bothRow (a ++ b) = bothRow a ++ bothRow b := by simp [bothRow]
theorem bothCells_one (T : Both) : ∀ u ∈ (bothCells T).toList, u.oneCell' = true := by
  intro u hu
  simp only [bothCells, List.mem_cons, List.not_mem_nil, or_false] at hu
  rcases hu with rfl | rfl | rfl | rfl | rfl <;> rfl

def valsRow (v : Int) (S : ByteArray) (p : Bool) (c : Int) (i : Nat) : Both := ⟨if p then 0 else v, if p then ⟨#[]⟩ else S, i == 0, p, if p then c else 0⟩
def valsTold (v : Int) (S : ByteArray) (p : Bool) (c : Int) (k : Nat) : List Both := (List.range k).map (valsRow v S p c)

theorem valsTold_succ (v : Int) (S : ByteArray) (p : Bool) (c : Int) (k : Nat) : valsTold v S p c (k + 1) = valsTold v S p c k ++ [valsRow v S p c k] := by
  simp [valsTold, List.range_succ]

theorem info52 : (Try.prog.info? 52).map (fun i => (i.zero, i.size, i.bytes)) = some (some (.agg #[.int .i64 0, .string ⟨#[]⟩, .bool false, .bool false, .int .i64 0]), 5, 40) := by kernel_rfl

/-- sync.OnceValues. -/
theorem makeValues_any (k : Nat) (caps : Array Value) (w : World) :
    Calls Try.prog 50 #[.func (.func k) #[] caps] w fun e w' => e = .returned (.func (.func 62) #[] #[.pointer (some ⟨w.heap.size, 0, none⟩)]) ∧ w' = w.alloc (.cells #[.func (.func k) #[] caps, .int .u32 0, .int .i32 0, .int .u32 0, .bool false, .nilIface, .int .i64 0, .string ⟨#[]⟩] 88) := by
  have hmf : ∀ (fn : Fn) (first cap : Array Value) (w : World), (Instr.makeFunc fn first cap).run Try.prog w = .ok (.func fn first cap) w := fun _ _ _ _ => rfl
  go_enter Try.func50, Try.ntmps50
  go_wp2_with fail
  go_ret
  exact ⟨rfl, rfl⟩

/-- Behind k rounds. -/
structure WaL (w : World) (av : Int) (S : ByteArray) (p : Bool) (c : Int) (k : Nat) (v : Value) (wr : World) : Prop where
  ba : Blk wr w.heap.size 43 #[.int .i64 av, .bool p, .int .i64 c]
  bs : Blk wr (w.heap.size + 1) 9 #[.string S]
  br : ∃ x, Blk wr (w.heap.size + 2) 4 #[x]
  bn : Blk wr (w.heap.size + 3) 3 #[.int .i64 (if decide (0 < k) then 1 else 0)]
  bd : Blk wr (w.heap.size + 4) 88 (keptW (decide (0 < k)) p c av S (w.heap.size + 2) (w.heap.size + 3) w.heap.size (w.heap.size + 1))
  bf : Blk wr (w.heap.size + 5) 81 #[.func (.func 62) #[] #[.pointer (some ⟨w.heap.size + 4, 0, none⟩)]]
  own : wr.ownsRow w.heap.size 52 5 v k (bothRow (valsTold av S p c k))
  below : Below w.heap.size w wr

/-- The world ahead of the loop. -/
def wa0 (w : World) (av : Int) (p : Bool) (c : Int) : World := w.alloc (.cells #[.int .i64 av, .bool p, .int .i64 c] 43)
def wa1 (w : World) (av : Int) (S : ByteArray) (p : Bool) (c : Int) : World := (wa0 w av p c).alloc (.cells #[.string S] 9)
def wa2 (w : World) (av : Int) (S : ByteArray) (p : Bool) (c : Int) : World := (wa1 w av S p c).alloc (.cells #[.bool false] 4)
def wa3 (w : World) (av : Int) (S : ByteArray) (p : Bool) (c : Int) : World := (wa2 w av S p c).alloc (.cells #[.int .i64 0] 3)
def wa4 (w : World) (av : Int) (S : ByteArray) (p : Bool) (c : Int) : World := (wa3 w av S p c).alloc (.cells #[.func (.func 51) #[] #[.pointer (some ⟨w.heap.size + 1 + 1, 0, none⟩), .pointer (some ⟨w.heap.size + 1 + 1 + 1, 0, none⟩), .pointer (some ⟨w.heap.size, 0, none⟩), .pointer (some ⟨w.heap.size + 1, 0, none⟩)], .int .u32 0, .int .i32 0, .int .u32 0, .bool false, .nilIface, .int .i64 0, .string ⟨#[]⟩] 88)
def wa5 (w : World) (av : Int) (S : ByteArray) (p : Bool) (c : Int) : World := (wa4 w av S p c).alloc (.cells #[.func (.func 62) #[] #[.pointer (some ⟨w.heap.size + 1 + 1 + 1 + 1, 0, none⟩)]] 81)

theorem WaL_start (w : World) (av : Int) (S : ByteArray) (p : Bool) (c : Int) :
    WaL w av S p c 0 (.slice (some ⟨w.heap.size + 1 + 1 + 1 + 1 + 1 + 1, 0, none⟩) 0 0) ((wa5 w av S p c).alloc (.cells #[] 52)) := by
  have s00 : (wa0 w av p c).heap.size = w.heap.size + 1 := by simp [wa0]
  have s0 : (wa1 w av S p c).heap.size = w.heap.size + 2 := by simp [wa1, s00]
  have s1 : (wa2 w av S p c).heap.size = w.heap.size + 3 := by simp [wa2, s0]
  have s2 : (wa3 w av S p c).heap.size = w.heap.size + 4 := by simp [wa3, s1]
  have s3 : (wa4 w av S p c).heap.size = w.heap.size + 5 := by simp [wa4, s2]
  have s4 : (wa5 w av S p c).heap.size = w.heap.size + 6 := by simp [wa5, s3]
  have b0 : Blk (wa0 w av p c) w.heap.size 43 #[.int .i64 av, .bool p, .int .i64 c] := Blk.new w 43 _
  have b00 : Blk (wa1 w av S p c) (w.heap.size + 1) 9 #[.string S] := by
    have := Blk.new (wa0 w av p c) 9 #[.string S]
    rw [s00] at this
    exact this
  have b1 : Blk (wa2 w av S p c) (w.heap.size + 2) 4 #[.bool false] := by
    have := Blk.new (wa1 w av S p c) 4 #[.bool false]
    rw [s0] at this
    exact this
  have b2 : Blk (wa3 w av S p c) (w.heap.size + 3) 3 #[.int .i64 0] := by
    have := Blk.new (wa2 w av S p c) 3 #[.int .i64 0]
    rw [s1] at this
    exact this
  have b3 : Blk (wa4 w av S p c) (w.heap.size + 4) 88 (keptW false p c av S (w.heap.size + 2) (w.heap.size + 3) w.heap.size (w.heap.size + 1)) := by
    have := Blk.new (wa3 w av S p c) 88 (keptW false p c av S (w.heap.size + 2) (w.heap.size + 3) w.heap.size (w.heap.size + 1))
    rw [s2] at this
    exact this
  have b4 : Blk (wa5 w av S p c) (w.heap.size + 5) 81 #[.func (.func 62) #[] #[.pointer (some ⟨w.heap.size + 4, 0, none⟩)]] := by
    have := Blk.new (wa4 w av S p c) 81 #[.func (.func 62) #[] #[.pointer (some ⟨w.heap.size + 4, 0, none⟩)]]
    rw [s3] at this
    exact this
  have l4 : Below w.heap.size w (wa5 w av S p c) :=
    ((((((Below.refl _ w).alloc (Nat.le_refl _) _).alloc (show w.heap.size ≤ (wa0 w av p c).heap.size by omega) _).alloc (show w.heap.size ≤ (wa1 w av S p c).heap.size by omega) _).alloc (show w.heap.size ≤ (wa2 w av S p c).heap.size by omega) _).alloc (show w.heap.size ≤ (wa3 w av S p c).heap.size by omega) _).alloc (show w.heap.size ≤ (wa4 w av S p c).heap.size by omega) _
  refine ⟨(((((b0.alloc _).alloc _).alloc _).alloc _).alloc _).alloc _, ((((b00.alloc _).alloc _).alloc _).alloc _).alloc _, ⟨.bool false, (((b1.alloc _).alloc _).alloc _).alloc _⟩, ((b2.alloc _).alloc _).alloc _, (b3.alloc _).alloc _, b4.alloc _, ?_, l4.alloc (by omega) _⟩
  have := World.ownsRow_made (base := w.heap.size) (e := 52) (size := 5) (wa5 w av S p c) #[] 0 (by omega) (by simp [maxLen]) rfl
  rw [s4] at this
  simpa [bothRow, valsTold] using this

/-- In a round, behind the call of run: what is read there. -/
structure WaW (w wr : World) (av : Int) (S : ByteArray) (p : Bool) (c : Int) (k : Nat) (v : Value) (cs : Array Value) (wx : World) : Prop where
  ba : Blk wx w.heap.size 43 #[.int .i64 av, .bool p, .int .i64 c]
  bs : Blk wx (w.heap.size + 1) 9 #[.string S]
  br : Blk wx (w.heap.size + 2) 4 #[.bool (k == 0)]
  bn : Blk wx (w.heap.size + 3) 3 #[.int .i64 1]
  bd : Blk wx (w.heap.size + 4) 88 (keptW true p c av S (w.heap.size + 2) (w.heap.size + 3) w.heap.size (w.heap.size + 1))
  bf : Blk wx (w.heap.size + 5) 81 #[.func (.func 62) #[] #[.pointer (some ⟨w.heap.size + 4, 0, none⟩)]]
  bt : Blk wx wr.heap.size 52 cs
  own : wx.ownsRow w.heap.size 52 5 v k (bothRow (valsTold av S p c k))
  lt : ∀ g, v.ownBlock = some g → g < wr.heap.size
  le : w.heap.size + 5 < wr.heap.size
  below : Below w.heap.size w wx

/-- The cells of a new row. -/
def both0 : Array Value := #[.int .i64 0, .string ⟨#[]⟩, .bool false, .bool false, .int .i64 0]

/-- The world ahead of the call of run. -/
def waR (w wr : World) : World := (wr.alloc (.cells both0 52)).setCell ⟨w.heap.size + 2, 0, none⟩ (.bool false)

theorem waR_blk {w wr : World} {g : Nat} {t : TypeId} {cs : Array Value} (h : Blk wr g t cs) (hg : g ≠ w.heap.size + 2) : Blk (waR w wr) g t cs := (h.alloc _).far (p := ⟨w.heap.size + 2, 0, none⟩) hg _

theorem WaW_call {w wr w1 : World} {av : Int} {S : ByteArray} {p : Bool} {c : Int} {k : Nat} {v : Value} {cs : Array Value} (h : WaL w av S p c k v wr)
    (hr : Blk w1 (w.heap.size + 2) 4 #[if decide (0 < k) then .bool false else .bool true]) (hn : Blk w1 (w.heap.size + 3) 3 #[.int .i64 1]) (hd : Blk w1 (w.heap.size + 4) 88 (keptW true p c av S (w.heap.size + 2) (w.heap.size + 3) w.heap.size (w.heap.size + 1)))
    (ht : Blk w1 wr.heap.size 52 cs) (hc : Chg (fun j => j = w.heap.size + 2 ∨ j = w.heap.size + 3 ∨ j = w.heap.size + 4 ∨ j = wr.heap.size) (waR w wr) w1) :
    WaW w wr av S p c k v cs w1 := by
  obtain ⟨ba, bs, ⟨x, br⟩, bn, bd, bf, own, below⟩ := h
  have l2 := bf.lt
  have n1 : v.ownBlock ≠ some (w.heap.size + 2) := own_blk_ne own br (by decide)
  have n2 : v.ownBlock ≠ some (w.heap.size + 3) := own_blk_ne own bn (by decide)
  have n3 : v.ownBlock ≠ some (w.heap.size + 4) := own_blk_ne own bd (by decide)
  have n4 : v.ownBlock ≠ some wr.heap.size := fun e => by have := (own.lt _ e).2; omega
  have b1 : Below w.heap.size w (waR w wr) := (below.alloc (by omega) _).setCell (p := ⟨w.heap.size + 2, 0, none⟩) (by show w.heap.size ≤ w.heap.size + 2; omega) _
  have o1 : (waR w wr).ownsRow w.heap.size 52 5 v k (bothRow (valsTold av S p c k)) := ownsRow_setCell_other (own.alloc _) n1 _
  have z1 : w.heap.size ≤ (waR w wr).heap.size := b1.size
  refine ⟨(waR_blk ba (by omega)).chg hc (by omega), (waR_blk bs (by omega)).chg hc (by omega), ?_, hn, hd, (waR_blk bf (by omega)).chg hc (by omega), ht, ?_, fun g hg => (own.lt g hg).2, l2, b1.trans (hc.below z1 (by omega))⟩
  · cases k with
    | zero => exact hr
    | succ k => exact hr
  · refine own_chg o1 hc ?_
    rintro g hg (rfl | rfl | rfl | rfl)
    · exact n1 hg
    · exact n2 hg
    · exact n3 hg
    · exact n4 hg

theorem WaW_set {w wr wx : World} {av : Int} {S : ByteArray} {p : Bool} {c : Int} {k : Nat} {v : Value} {cs : Array Value} (h : WaW w wr av S p c k v cs wx) (j : Nat) (u : Value) : WaW w wr av S p c k v (cs.setIfInBounds j u) (wx.setCell ⟨wr.heap.size, j, none⟩ u) := by
  have l := h.le
  have n : v.ownBlock ≠ some wr.heap.size := fun e => by have := h.lt _ e; omega
  exact ⟨h.ba.far (p := ⟨wr.heap.size, j, none⟩) (by show w.heap.size ≠ wr.heap.size; omega) u, h.bs.far (p := ⟨wr.heap.size, j, none⟩) (by show w.heap.size + 1 ≠ wr.heap.size; omega) u, h.br.far (p := ⟨wr.heap.size, j, none⟩) (by show w.heap.size + 2 ≠ wr.heap.size; omega) u, h.bn.far (p := ⟨wr.heap.size, j, none⟩) (by show w.heap.size + 3 ≠ wr.heap.size; omega) u,
    h.bd.far (p := ⟨wr.heap.size, j, none⟩) (by show w.heap.size + 4 ≠ wr.heap.size; omega) u, h.bf.far (p := ⟨wr.heap.size, j, none⟩) (by show w.heap.size + 5 ≠ wr.heap.size; omega) u,
    h.bt.set_ j u, ownsRow_setCell_other h.own n u, h.lt, h.le, h.below.setCell (p := ⟨wr.heap.size, j, none⟩) (by show w.heap.size ≤ wr.heap.size; omega) u⟩

theorem WaL_next {w wr wx w2 : World} {av : Int} {S : ByteArray} {p : Bool} {c : Int} {k : Nat} {v v' : Value} {cs : Array Value} {o : Obj} (h : WaW w wr av S p c k v cs wx)
    (hown : w2.ownsRow w.heap.size 52 5 v' (k + 1) (bothRow (valsTold av S p c k) ++ (bothCells (valsRow av S p c k)).toList)) (hg : (wx.alloc o).grownBy w2 v.ownBlock) : WaL w av S p c (k + 1) v' w2 := by
  have e : decide (0 < k + 1) = true := by simp
  refine ⟨(h.ba.alloc o).grown hg (fun e => own_blk_ne h.own h.ba (by decide) e.symm), (h.bs.alloc o).grown hg (fun e => own_blk_ne h.own h.bs (by decide) e.symm), ⟨_, (h.br.alloc o).grown hg (fun e => own_blk_ne h.own h.br (by decide) e.symm)⟩, ?_, ?_, (h.bf.alloc o).grown hg (fun e => own_blk_ne h.own h.bf (by decide) e.symm), ?_, (h.below.alloc h.below.size o).grown hg (by have := h.below.size; simp; omega) (fun j e => (h.own.lt j e).1)⟩
  · rw [e]
    exact (h.bn.alloc o).grown hg (fun e => own_blk_ne h.own h.bn (by decide) e.symm)
  · rw [e]
    exact (h.bd.alloc o).grown hg (fun e => own_blk_ne h.own h.bd (by decide) e.symm)
  · rw [valsTold_succ, bothRow_append]
    simpa [bothRow] using hown

set_option maxRecDepth 100000 in
set_option maxHeartbeats 2000000 in
theorem onceValues_any (av : Int) (p : Bool) (c : Int) (S : ByteArray) (n : Int) (w : World) (hv : (Lit.int .i64 av).wf = true) (hn : n ≤ 1048576) :
    Calls Try.prog 34 #[.agg #[.int .i64 av, .bool p, .int .i64 c], .string S, .int .i64 n] w fun e w' => ∃ v, e = .returned v ∧ w'.ownsRow w.heap.size 52 5 v n.toNat (bothRow (valsTold av S p c n.toNat)) ∧ Below w.heap.size w w' := by
  obtain ⟨i0, hi0, hz0, hz1, hz2⟩ := info_parts info52
  have hmf : ∀ (fn : Fn) (first cap : Array Value) (w : World), (Instr.makeFunc fn first cap).run Try.prog w = .ok (.func fn first cap) w := fun _ _ _ _ => rfl
  have HST := Lib.hid (WaL_start w av S p c)
  have HV := Lib.hid hv
  clear hv
  go_enter Try.func34, Try.ntmps34
  go_wp2_with (go_at_call 50; refine (makeValues_any _ _ _).mono ?_; rintro e w' ⟨rfl, rfl⟩)
  go_loopw [10, 11] (fun v i wr => ∃ k : Nat, k ≤ n.toNat ∧ i = .int .i64 k ∧ WaL w av S p c k v wr) (fun _ i _ => n.toNat - (intOf i).toNat)
  case atStart => exact ⟨0, Nat.zero_le _, rfl, HST.out⟩
  case round =>
    clear HST
    obtain ⟨k, hk, rfl, hL⟩ := hrel
    have HL := Lib.hid hL
    clear hL
    by_cases hlt : (k : Int) < n
    · obtain ⟨x, hbr⟩ := HL.out.br
      have hsz := HL.out.bf.lt
      have hcall := run_values (w.heap.size + 4) (w.heap.size + 2) (w.heap.size + 3) w.heap.size (w.heap.size + 1) (w.heap.size + 5) wr.heap.size (.bool false) (.int .i64 0) (.string ⟨#[]⟩) (.bool false) (.bool false) (.int .i64 0) av S p (decide (0 < k)) c (waR w wr) HV.out
        ((hbr.alloc _).set_ 0 _) (waR_blk HL.out.bn (by omega)) (waR_blk HL.out.ba (by omega)) (waR_blk HL.out.bs (by omega)) (waR_blk HL.out.bd (by omega)) (waR_blk HL.out.bf (by omega)) ((Blk.new wr 52 both0).far (p := ⟨w.heap.size + 2, 0, none⟩) (by show wr.heap.size ≠ w.heap.size + 2; omega) _)
      have r1 := (hbr.alloc (.cells both0 52)).c1
      have y1 := (hbr.alloc (.cells both0 52)).frozen 0
      have HC := Lib.hid hcall
      clear hcall hbr
      unfold both0 at r1 y1
      go_wp2_with fail
      refine HC.out.mono ?_
      clear HC
      rintro e w1 ⟨rfl, hr1, hn1, hd1, ht1, hc1⟩
      have hW := WaW_call HL.out hr1 hn1 hd1 ht1 hc1
      obtain ⟨d, hd⟩ : ∃ d, d = (if p then c else 0) := ⟨_, rfl⟩
      obtain ⟨b, hb⟩ : ∃ b, b = (if p then 0 else av) := ⟨_, rfl⟩
      have hb' : (if p then Value.int .i64 0 else .int .i64 av) = .int .i64 b := by rw [hb]; cases p <;> rfl
      rw [← hd]
      obtain ⟨T, hT⟩ : ∃ T, T = (if p then (⟨#[]⟩ : ByteArray) else S) := ⟨_, rfl⟩
      have hT' : (if p then Value.string ⟨#[]⟩ else .string S) = .string T := by rw [hT]; cases p <;> rfl
      rw [hb', hT'] at hW
      obtain ⟨t0, t1, t2, t3, t4⟩ := hW.bt.c5
      have z2 := hW.bt.frozen 2
      have z3 := hW.bt.frozen 3
      have z4 := hW.bt.frozen 4
      have q0 := hW.br.c1
      have hlw := hW.bt.lt
      have hne : ¬ w.heap.size + 2 = wr.heap.size := by omega
      have hW2 : WaW w wr av S p c k u10 (bothCells ⟨b, T, k == 0, p, d⟩) _ := WaW_set (WaW_set (WaW_set hW 3 (.bool p)) 4 (.int .i64 d)) 2 (.bool (k == 0))
      have HW := Lib.hid hW2
      have HDC := Lib.hid hd
      have HBC := Lib.hid hb
      have HTC := Lib.hid hT
      clear hW hW2 hr1 hn1 hd1 ht1 hc1 HL hd hb hb' hT hT'
      go_wp2_with (at_builtin; refine wpList_append_own _ rfl (.tmp 31) (.tmp 33) 49 rfl w.heap.size 52 i0 _ 5 40 Try.underlying49 hi0 hz0 hz1 hz2 rfl (by decide) _ _ _ rfl (HW.out.own.alloc _) ⟨w1.heap.size, 0, none⟩ 1 1 (bothCells ⟨b, T, k == 0, p, d⟩).toList rfl rfl ?c1 ?c2 ?c3 ?c4 ?c5 ?_)
      case c1 => exact new_cells _ _ _ _ (by simp [World.setCell])
      case c2 => exact bothCells_one _
      case c3 => unfold maxLen; omega
      case c4 => omega
      case c5 => simp; omega
      intro v' w2 hown2 hg2 _
      have H3 := Lib.hid (WaL_next HW.out (by unfold valsRow; rw [← HDC.out, ← HBC.out, ← HTC.out]; exact hown2) hg2)
      clear hown2 hg2 HW
      go_wp2
      go_roundw
      case rel => exact ⟨k + 1, by omega, by go_num, H3.out⟩
      case measure => simp [intOf]; omega
    · obtain rfl : k = n.toNat := by omega
      have hown := HL.out.own
      have hbel := HL.out.below
      have HO := Lib.hid hown
      have HB := Lib.hid hbel
      clear hown hbel HL
      go_wp2_with fail
      go_ret
      exact ⟨_, rfl, HO.out, HB.out⟩

end Go.Proofs.Ytpkippcbocmmkaa
