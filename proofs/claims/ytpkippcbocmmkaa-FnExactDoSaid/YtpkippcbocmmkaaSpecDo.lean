/-
  The reference spec.Do: the contract: for every list of steps it returns a new slice that tells of each step what the plain law doTold says, and nothing that was there has turned.
-/
import Derived.Test.YtpkippcbocmmkaaFnOnce
import Derived.Test.YtpkippcbocmmkaaApp
import Derived.Deep.DeepCutAuto
namespace Go.Proofs.Ytpkippcbocmmkaa
open Go.ChangeShapes Go.WideShapes Go.ChangeAt Go.RowKit Go.Deep

set_option maxHeartbeats 1000000 in
theorem has_spec (A : Option Addr) (c B : Nat) (l : List Int) (n : Int) (w : World) (h : Rd w B 1 A l.length (intRow l)) (hlen : l.length ≤ 9223372036854775807) :
    Calls Try.prog 41 #[.slice A l.length c, .int .i64 n] w fun e w' => e = .returned (.bool (hasB l n)) ∧ w = w' := by
  have R1 := Lib.hid h
  clear h
  go_enter Try.func41, Try.ntmps41
  go_wp2_with fail
  go_loop [5] (fun i => ∃ k : Nat, k ≤ l.length ∧ i = .int .i64 k ∧ hasB (l.take k) n = false) (fun i => l.length - (intOf i).toNat)
  case atStart => exact ⟨0, Nat.zero_le _, rfl, rfl⟩
  case round =>
    obtain ⟨k, hk, rfl, hno⟩ := hrel
    have HN := Lib.hid hno
    clear hno
    by_cases hlt : k < l.length
    · obtain ⟨b, off, rfl, hb, s0⟩ := R1.out.int hlt rfl
      by_cases he : l[k] = n
      · have hfin := hasB_of l k hlt n he
        have heb : (l[k] == n) = true := by simp [he]
        have HF := Lib.hid hfin
        clear hfin he
        go_wp2_with fail
        go_ret
        exact ⟨ret_bool HF.out.symm, rfl⟩
      · have heb : (l[k] == n) = false := by simp [he]
        have hfin : hasB (l.take (k + 1)) n = false := by rw [hasB_take l k hlt n, HN.out, heb]; rfl
        have HF := Lib.hid hfin
        clear hfin he
        go_wp2_with fail
        go_round
        case rel => exact ⟨k + 1, by omega, by go_num, HF.out⟩
        case measure => simp [intOf]; omega
    · obtain rfl : k = l.length := by omega
      have hfin := HN.out
      rw [List.take_length] at hfin
      have HF := Lib.hid hfin
      clear hfin
      go_wp2_with fail
      go_ret
      exact ⟨ret_bool HF.out.symm, rfl⟩

theorem own_own_ne {w : World} {base base' : Nat} {e e' : TypeId} {size size' n n' : Nat} {v v' : Value} {xs xs' : List Value} (h : w.ownsRow base e size v n xs) (h' : w.ownsRow base' e' size' v' n' xs') (hne : e ≠ e') {g : Nat} (hg : v.ownBlock = some g) : v'.ownBlock ≠ some g := by
  rcases h.2 with ⟨rfl, _⟩ | ⟨g1, cap, cur, rfl, _, hh, _⟩
  · simp [Value.ownBlock] at hg
  · have e1 : g1 = g := by simpa [Value.ownBlock] using hg
    subst e1
    intro hg'
    rcases h'.2 with ⟨rfl, _⟩ | ⟨g2, cap', cur', rfl, _, hh', _⟩
    · simp [Value.ownBlock] at hg'
    · have e2 : g2 = g1 := by simpa [Value.ownBlock] using hg'
      subst e2
      rw [hh] at hh'
      injection hh' with hh'
      injection hh' with _ he
      exact hne he

theorem own_kept_ne {w w' : World} {base base' : Nat} {e e' : TypeId} {size size' n n' : Nat} {v v' : Value} {xs xs' : List Value} (h : w.ownsRow base e size v n xs) (h' : w.ownsRow base' e' size' v' n' xs') (hne : e ≠ e') (hg : w.grownBy w' v'.ownBlock) : w'.ownsRow base e size v n xs := by
  refine h.kept hg ?_
  cases hv : v.ownBlock with
  | none => exact .inl rfl
  | some g => exact .inr (fun e1 => own_own_ne h h' hne hv e1.symm)

/-- Behind k rounds. -/
structure SpL (w : World) (l : List Step) (k : Nat) (v3 v4 : Value) (wr : World) : Prop where
  done : ∃ U : List Int, U.length ≤ 2 * k ∧ wr.ownsRow w.heap.size 3 1 v3 U.length (intRow U) ∧ Keeps U (doUsed fresh (l.take k))
  out : wr.ownsRow w.heap.size 26 4 v4 k (toldRow (doTold fresh (l.take k)))
  below : Below w.heap.size w wr

/-- In the middle of a round: the lists, the step and what is told of it so far. -/
structure SpW (w wr : World) (s : Step) (k : Nat) (v3 v4 : Value) (U : List Int) (ts : List Value) (cs : Array Value) (wx : World) : Prop where
  own3 : wx.ownsRow w.heap.size 3 1 v3 U.length (intRow U)
  own4 : wx.ownsRow w.heap.size 26 4 v4 k ts
  lt4 : ∀ g, v4.ownBlock = some g → g < wr.heap.size
  bs : Blk wx wr.heap.size 30 (stepCells s)
  bt : Blk wx (wr.heap.size + 1) 26 cs
  le : w.heap.size ≤ wr.heap.size
  below : Below w.heap.size w wx

theorem SpW_start {w wr : World} {s : Step} {k : Nat} {v3 v4 : Value} {U : List Int} {ts : List Value} (h3 : wr.ownsRow w.heap.size 3 1 v3 U.length (intRow U)) (h4 : wr.ownsRow w.heap.size 26 4 v4 k ts) (hb : Below w.heap.size w wr) :
    SpW w wr s k v3 v4 U ts #[.bool false, .bool false, .bool false, .int .i64 0] ((wr.alloc (.cells (stepCells s) 30)).alloc (.cells #[.bool false, .bool false, .bool false, .int .i64 0] 26)) := by
  refine ⟨(h3.alloc _).alloc _, (h4.alloc _).alloc _, fun g hg => (h4.lt g hg).2, (Blk.new wr 30 _).alloc _, ?_, hb.size, (hb.alloc hb.size _).alloc (by have := hb.size; simp; omega) _⟩
  have := Blk.new (wr.alloc (.cells (stepCells s) 30)) 26 #[.bool false, .bool false, .bool false, .int .i64 0]
  simp only [World.size_alloc] at this
  exact this

theorem SpW_set {w wr wx : World} {s : Step} {k : Nat} {v3 v4 : Value} {U : List Int} {ts : List Value} {cs : Array Value} (h : SpW w wr s k v3 v4 U ts cs wx) (j : Nat) (u : Value) : SpW w wr s k v3 v4 U ts (cs.setIfInBounds j u) (wx.setCell ⟨wr.heap.size + 1, j, none⟩ u) := by
  have n3 : v3.ownBlock ≠ some (wr.heap.size + 1) := own_blk_ne h.own3 h.bt (by decide)
  have n4 : v4.ownBlock ≠ some (wr.heap.size + 1) := fun e => by have := h.lt4 _ e; omega
  exact ⟨ownsRow_setCell_other h.own3 n3 u, ownsRow_setCell_other h.own4 n4 u, h.lt4, h.bs.far (p := ⟨wr.heap.size + 1, j, none⟩) (by show wr.heap.size ≠ wr.heap.size + 1; omega) u, h.bt.set_ j u, h.le, h.below.setCell (p := ⟨wr.heap.size + 1, j, none⟩) (by have := h.le; show w.heap.size ≤ wr.heap.size + 1; omega) u⟩

theorem SpW_app {w wr wx w2 : World} {s : Step} {k : Nat} {v3 v3' v4 : Value} {U : List Int} {x : Int} {ts : List Value} {cs : Array Value} {o : Obj} (h : SpW w wr s k v3 v4 U ts cs wx)
    (hown : w2.ownsRow w.heap.size 3 1 v3' (U.length + 1) (intRow U ++ [.int .i64 x])) (hg : (wx.alloc o).grownBy w2 v3.ownBlock) : SpW w wr s k v3' v4 (U ++ [x]) ts cs w2 := by
  have h3 := h.own3.alloc o
  exact ⟨own_snoc hown, own_kept_ne (h.own4.alloc o) h3 (by decide) hg, h.lt4, (h.bs.alloc o).grown hg (fun e => own_blk_ne h.own3 h.bs (by decide) e.symm), (h.bt.alloc o).grown hg (fun e => own_blk_ne h.own3 h.bt (by decide) e.symm), h.le,
    (h.below.alloc h.below.size o).grown hg (by have := h.below.size; simp; omega) (fun j e => (h.own3.lt j e).1)⟩

theorem SpL_next {w wr wx w5 : World} {l : List Step} {k : Nat} {v3 v4 v4' : Value} {U : List Int} {cs : Array Value} {T : Told} (hlt : k < l.length) (h : SpW w wr l[k] k v3 v4 U (toldRow (doTold fresh (l.take k))) cs wx) (hU : U.length ≤ 2 * (k + 1)) (hK : Keeps U (stepUsed (doUsed fresh (l.take k)) l[k]))
    (hT : T = stepTold (doUsed fresh (l.take k)) l[k]) (hown : w5.ownsRow w.heap.size 26 4 v4' (k + 1) (toldRow (doTold fresh (l.take k)) ++ (toldCells T).toList)) {o : Obj} (hg : (wx.alloc o).grownBy w5 v4.ownBlock) : SpL w l (k + 1) v3 v4' w5 := by
  refine ⟨⟨U, hU, own_kept_ne (h.own3.alloc o) (h.own4.alloc o) (by decide) hg, by rw [used_next l k hlt]; exact hK⟩, ?_, (h.below.alloc h.below.size o).grown hg (by have := h.below.size; simp; omega) (fun j e => (h.own4.lt j e).1)⟩
  rw [List.take_succ_eq_append_getElem hlt, doTold_append, toldRow_append]
  subst hT
  simpa [doTold, toldRow] using hown

/-- What a mid-round world gives the walk. -/
theorem SpW.cells {w wr wx : World} {s : Step} {k : Nat} {v3 v4 : Value} {U : List Int} {ts : List Value} {a b c d : Value} (h : SpW w wr s k v3 v4 U ts #[a, b, c, d] wx) :
    (wx.cell? ⟨wr.heap.size, 0, none⟩ = some (.int .i64 s.once) ∧ wx.cell? ⟨wr.heap.size, 1, none⟩ = some (.int .i64 s.inner) ∧ wx.cell? ⟨wr.heap.size, 2, none⟩ = some (.bool s.panics) ∧ wx.cell? ⟨wr.heap.size, 3, none⟩ = some (.int .i64 s.code)) ∧
    (wx.cell? ⟨wr.heap.size + 1, 0, none⟩ = some a ∧ wx.cell? ⟨wr.heap.size + 1, 1, none⟩ = some b ∧ wx.cell? ⟨wr.heap.size + 1, 2, none⟩ = some c ∧ wx.cell? ⟨wr.heap.size + 1, 3, none⟩ = some d) ∧
    (∀ j, wx.frozen? ⟨wr.heap.size + 1, j, none⟩ = false) ∧ wr.heap.size + 1 < wx.heap.size :=
  ⟨⟨h.bs.cell 0, h.bs.cell 1, h.bs.cell 2, h.bs.cell 3⟩, ⟨h.bt.cell 0, h.bt.cell 1, h.bt.cell 2, h.bt.cell 3⟩, fun j => h.bt.frozen j, h.bt.lt⟩

/-- Where the ways of a round meet again: the lists and what is told of the step. -/
def SpMeet (w wr : World) (l : List Step) (k : Nat) (v4 : Value) (T : Told) (used : Int → Bool) (s : Step) (v3 : Value) (wx : World) : Prop :=
  ∃ U : List Int, U.length ≤ 2 * (k + 1) ∧ SpW w wr s k v3 v4 U (toldRow (doTold fresh (l.take k))) (toldCells T) wx ∧ Keeps U (stepUsed used s)

theorem meet_used {w wr wx : World} {l : List Step} {k : Nat} {v3 v4 : Value} {U : List Int} {used : Int → Bool} {s : Step} (hU : U.length ≤ 2 * k) (h : SpW w wr s k v3 v4 U (toldRow (doTold fresh (l.take k))) #[.bool false, .bool false, .bool false, .int .i64 0] wx)
    (hk : Keeps U used) (hu : used s.once = true) : SpMeet w wr l k v4 (stepTold used s) used s v3 wx := by
  refine ⟨U, by omega, ?_, ?_⟩
  · have e : toldCells (stepTold used s) = #[.bool false, .bool false, .bool false, .int .i64 0] := by simp [stepTold, hu, Told.zero, toldCells]
    rw [e]
    exact h
  · have e : stepUsed used s = used := by simp [stepUsed, hu]
    rw [e]
    exact hk

theorem meet_ran {w wr wx : World} {l : List Step} {k : Nat} {v3 v4 : Value} {U' : List Int} {used : Int → Bool} {s : Step} {i p : Bool} {c : Int} (hU : U'.length ≤ 2 * (k + 1)) (h : SpW w wr s k v3 v4 U' (toldRow (doTold fresh (l.take k))) #[.bool true, .bool i, .bool p, .int .i64 c] wx)
    (hk : Keeps U' (stepUsed used s)) (hu : used s.once = false) (hi : (s.inner != s.once && !used s.inner) = i) (hp : s.panics = p) (hc : (if s.panics then s.code else 0) = c) : SpMeet w wr l k v4 (stepTold used s) used s v3 wx := by
  refine ⟨U', hU, ?_, hk⟩
  have e : toldCells (stepTold used s) = #[.bool true, .bool i, .bool p, .int .i64 c] := by
    subst hi hp hc
    simp [stepTold, hu, toldCells]
  rw [e]
  exact h

theorem has_more (U : List Int) (used : Int → Bool) (s : Step) (hk : Keeps U used) (hne : (s.inner != s.once) = true) : hasB (U ++ [s.once]) s.inner = used s.inner := by
  rw [hasB_append, hk]
  have : (s.once == s.inner) = false := beq_eq_false_iff_ne.2 (fun e => by simp [e] at hne)
  simp [hasB, this]

set_option maxRecDepth 100000 in
set_option maxHeartbeats 2000000 in
theorem specDo_any (A : Option Addr) (cap : Nat) (l : List Step) (w : World) (hr : Rd w w.heap.size 4 A l.length (stepRow l)) (hlen : l.length ≤ 1048576) :
    Calls Try.prog 22 #[.slice A l.length cap] w fun e w' => ∃ v, e = .returned v ∧ w'.ownsRow w.heap.size 26 4 v l.length (toldRow (doTold fresh l)) ∧ Below w.heap.size w w' := by
  obtain ⟨i0, hi0, hz0, hz1, hz2⟩ := info_parts info3
  obtain ⟨j0, hj0, hy0, hy1, hy2⟩ := info_parts info26
  have hnot : ∀ (x : Bool) (w : World), (Op.unary .not (.bool x)).run Try.prog w = .ok (.bool (!x)) w := fun _ _ => rfl
  have HR := Lib.hid hr
  clear hr
  have hst : SpL w l 0 (.slice (some ⟨w.heap.size, 0, none⟩) 0 0) (.slice (some ⟨w.heap.size + 1, 0, none⟩) 0 0) ((w.alloc (.cells #[] 3)).alloc (.cells #[] 26)) := by
    refine ⟨⟨[], by simp, (World.ownsRow_made w #[] 0 (Nat.le_refl _) (by simp [maxLen]) rfl).alloc _, fun n => rfl⟩, ?_, ((Below.refl _ w).alloc (Nat.le_refl _) _).alloc (by simp) _⟩
    have := World.ownsRow_made (base := w.heap.size) (e := 26) (size := 4) (w.alloc (.cells #[] 3)) #[] 0 (by simp) (by simp [maxLen]) rfl
    simpa [toldRow, doTold] using this
  have HST := Lib.hid hst
  clear hst
  go_enter Try.func22, Try.ntmps22
  go_wp2_with fail
  go_loopw [3, 4, 5] (fun v3 v4 i wr => ∃ k : Nat, k ≤ l.length ∧ i = .int .i64 k ∧ SpL w l k v3 v4 wr) (fun _ _ i _ => l.length - (intOf i).toNat)
  case atStart => exact ⟨0, Nat.zero_le _, rfl, HST.out⟩
  case round =>
    clear HST
    obtain ⟨k, hk, rfl, hL⟩ := hrel
    have HL := Lib.hid hL
    clear hL
    by_cases hlt : k < l.length
    · obtain ⟨b, off, rfl, hb, s0, s1, s2, s3⟩ := (HR.out.below HL.out.below).step hlt rfl
      obtain ⟨U, hU, hown3, hkeep⟩ := HL.out.done
      obtain ⟨A3, c3, rfl⟩ := own_form hown3
      have hW := SpW_start (s := l[k]) hown3 HL.out.out HL.out.below
      have hhas := has_spec A3 c3 _ U l[k].once _ (Rd.of_own hW.own3) (by omega)
      rw [hkeep l[k].once] at hhas
      have HH := Lib.hid hhas
      have HK := Lib.hid hkeep
      have HW := Lib.hid hW
      clear hhas hkeep hW hown3
      unfold stepCells at HH HW
      go_upto_if 25 with (go_at_call 41; refine HH.out.mono ?_; rintro e w' ⟨rfl, rfl⟩)
      go_cut [3] (fun v3 wx => SpMeet w wr l k u4 (stepTold (doUsed fresh (l.take k)) l[k]) (doUsed fresh (l.take k)) l[k] v3 wx)
      case first =>
        cases hu : doUsed fresh (l.take k) l[k].once
        · have HU := Lib.hid hu
          go_wp2_with (at_builtin; refine wpList_append_own _ rfl (.tmp 26) (.tmp 29) 34 rfl w.heap.size 3 i0 _ 1 8 Try.underlying34 hi0 hz0 hz1 hz2 rfl (by decide) _ _ _ rfl (HW.out.own3.alloc _) ⟨wr.heap.size + 1 + 1, 0, none⟩ 1 1 [.int .i64 l[k].once] rfl rfl ?c1 ?c2 ?c3 ?c4 ?c5 ?_)
          case c1 => exact new_cells _ #[.int .i64 l[k].once] _ _ (by simp)
          case c2 => exact int_one _
          case c3 => unfold maxLen; omega
          case c4 => omega
          case c5 => exact Nat.le_trans HW.out.below.size (by simp)
          intro v3' w1 hown1 hg1 _
          obtain ⟨A4, c4, rfl⟩ := own_form hown1
          have H1 := SpW_app HW.out hown1 hg1
          obtain ⟨⟨d0, d1, d2, d3⟩, ⟨e0, e1, e2, e3⟩, hz, hlw⟩ := H1.cells
          have z0 := hz 0
          have z1 := hz 1
          have z2 := hz 2
          have z3 := hz 3
          have H2 : SpW w wr l[k] k _ _ _ _ #[.bool true, .bool false, .bool false, .int .i64 0] _ := SpW_set H1 0 (.bool true)
          have S2 := Lib.hid H2
          clear H1 H2 hz hown1 hg1
          cases hib : (l[k].inner != l[k].once)
          · have HI := Lib.hid (show (l[k].inner != l[k].once && !doUsed fresh (l.take k) l[k].inner) = false by rw [hib]; rfl)
            cases hp : l[k].panics
            · rw [hp] at d2
              have R := Lib.hid (meet_ran (l := l) (used := doUsed fresh (l.take k)) (by simp; omega) S2.out (keeps_ran HK.out HU.out HI.out) HU.out HI.out hp (by rw [hp]; rfl))
              clear S2
              go_wp2_with fail
              go_meet
              exact R.out
            · rw [hp] at d2
              have H5 : SpW w wr l[k] k _ _ _ _ #[.bool true, .bool false, .bool true, .int .i64 l[k].code] _ := SpW_set (SpW_set S2.out 2 (.bool true)) 3 (.int .i64 l[k].code)
              have R := Lib.hid (meet_ran (l := l) (used := doUsed fresh (l.take k)) (by simp; omega) H5 (keeps_ran HK.out HU.out HI.out) HU.out HI.out hp (by rw [hp]; rfl))
              clear H5 S2
              go_wp2_with fail
              go_meet
              exact R.out
          · have hhas2 := has_spec A4 c4 _ (U ++ [l[k].once]) l[k].inner _ (Rd.of_own (by have := S2.out.own3; simpa using this)) (by simp; omega)
            rw [has_more U _ l[k] HK.out hib] at hhas2
            simp only [List.length_append, List.length_cons, List.length_nil, Nat.zero_add] at hhas2
            have HH2 := Lib.hid hhas2
            clear hhas2
            cases hui : doUsed fresh (l.take k) l[k].inner
            · rw [hui] at HH2
              have HI := Lib.hid (show (l[k].inner != l[k].once && !doUsed fresh (l.take k) l[k].inner) = true by rw [hib, hui]; rfl)
              clear hui
              have O3 := Lib.hid (show (w1.setCell ⟨wr.heap.size + 1, 0, none⟩ (.bool true)).ownsRow w.heap.size 3 1 (.slice A4 (U.length + 1) c4) (U.length + 1) (intRow (U ++ [l[k].once])) by have := S2.out.own3; simpa using this)
              have hbw := S2.out.below.size
              go_wp2_with fail
              refine HH2.out.mono ?_
              rintro e w' ⟨rfl, rfl⟩
              go_wp2_with (at_builtin; refine wpList_append_own _ rfl (.tmp 44) (.tmp 47) 34 rfl w.heap.size 3 i0 _ 1 8 Try.underlying34 hi0 hz0 hz1 hz2 rfl (by decide) _ _ _ rfl (O3.out.alloc _) ⟨w1.heap.size, 0, none⟩ 1 1 [.int .i64 l[k].inner] rfl rfl ?d1 ?d2 ?d3 ?d4 ?d5 ?_)
              case d1 => exact new_cells _ #[.int .i64 l[k].inner] _ _ (by simp [World.setCell])
              case d2 => exact int_one _
              case d3 => unfold maxLen; omega
              case d4 => omega
              case d5 => exact Nat.le_trans hbw (by simp)
              intro v3'' w2 hown2 hg2 _
              have e3 : U.length + 1 = (U ++ [l[k].once]).length := by simp
              rw [e3] at hown2
              have H3 := SpW_app S2.out hown2 hg2
              obtain ⟨⟨f0, f1, f2, f3⟩, ⟨g0, g1, g2, g3⟩, hzz, hlw2⟩ := H3.cells
              have y0 := hzz 0
              have y1 := hzz 1
              have y2 := hzz 2
              have y3 := hzz 3
              have H4 : SpW w wr l[k] k _ _ _ _ #[.bool true, .bool true, .bool false, .int .i64 0] _ := SpW_set H3 1 (.bool true)
              have S4 := Lib.hid H4
              clear H3 H4 hown2 hg2 e3 hzz
              cases hp : l[k].panics
              · rw [hp] at f2
                have R := Lib.hid (meet_ran (l := l) (used := doUsed fresh (l.take k)) (by simp; omega) S4.out (keeps_inner HK.out HU.out) HU.out HI.out hp (by rw [hp]; rfl))
                clear S4
                go_wp2_with fail
                go_meet
                exact R.out
              · rw [hp] at f2
                have H5 : SpW w wr l[k] k _ _ _ _ #[.bool true, .bool true, .bool true, .int .i64 l[k].code] _ := SpW_set (SpW_set S4.out 2 (.bool true)) 3 (.int .i64 l[k].code)
                have R := Lib.hid (meet_ran (l := l) (used := doUsed fresh (l.take k)) (by simp; omega) H5 (keeps_inner HK.out HU.out) HU.out HI.out hp (by rw [hp]; rfl))
                clear H5 S4
                go_wp2_with fail
                go_meet
                exact R.out
            · rw [hui] at HH2
              have HI := Lib.hid (show (l[k].inner != l[k].once && !doUsed fresh (l.take k) l[k].inner) = false by rw [hib, hui]; rfl)
              clear hui
              go_wp2_with fail
              refine HH2.out.mono ?_
              rintro e w' ⟨rfl, rfl⟩
              cases hp : l[k].panics
              · rw [hp] at d2
                have R := Lib.hid (meet_ran (l := l) (used := doUsed fresh (l.take k)) (by simp; omega) S2.out (keeps_ran HK.out HU.out HI.out) HU.out HI.out hp (by rw [hp]; rfl))
                clear S2
                go_wp2_with fail
                go_meet
                exact R.out
              · rw [hp] at d2
                have H5 : SpW w wr l[k] k _ _ _ _ #[.bool true, .bool false, .bool true, .int .i64 l[k].code] _ := SpW_set (SpW_set S2.out 2 (.bool true)) 3 (.int .i64 l[k].code)
                have R := Lib.hid (meet_ran (l := l) (used := doUsed fresh (l.take k)) (by simp; omega) H5 (keeps_ran HK.out HU.out HI.out) HU.out HI.out hp (by rw [hp]; rfl))
                clear H5 S2
                go_wp2_with fail
                go_meet
                exact R.out
        · have R := Lib.hid (meet_used hU HW.out HK.out hu)
          go_wp2_with fail
          go_meet
          exact R.out
      case rest =>
        obtain ⟨U', hU', hW', hK'⟩ := hcut
        obtain ⟨T, hT⟩ : ∃ T, T = stepTold (doUsed fresh (l.take k)) l[k] := ⟨_, rfl⟩
        rw [← hT] at hW'
        have hcs := hW'
        unfold toldCells at hcs
        obtain ⟨_, ⟨t0, t1, t2, t3⟩, _, hlw⟩ := hcs.cells
        have hbw := hW'.below.size
        have HT := Lib.hid hT
        have HW' := Lib.hid hW'
        have HK' := Lib.hid hK'
        clear hcs hT hW' hK'
        go_wp2_with (at_builtin; refine wpList_append_own _ rfl (.tmp 56) (.tmp 58) 23 rfl w.heap.size 26 j0 _ 4 16 Try.underlying23 hj0 hy0 hy1 hy2 rfl (by decide) _ _ _ rfl (HW'.out.own4.alloc _) ⟨wc.heap.size, 0, none⟩ 1 1 (toldCells T).toList rfl rfl ?e1 ?e2 ?e3 ?e4 ?e5 ?_)
        case e1 => exact new_cells _ _ _ _ rfl
        case e2 => exact toldCells_one T
        case e3 => unfold maxLen; omega
        case e4 => omega
        case e5 => exact Nat.le_trans hbw (by simp)
        intro v4' w5 hown5 hg5 _
        have R := Lib.hid (SpL_next hlt HW'.out hU' HK'.out HT.out hown5 hg5)
        clear hown5 hg5
        go_wp2_with fail
        go_roundw
        case rel => first | exact ⟨k + 1, by omega, by go_num, R.out⟩ | ((repeat apply Exists.intro); exact ⟨⟨k + 1, by omega, by go_num, R.out⟩, rfl⟩)
        case measure => simp [intOf]; omega
    · have HO := Lib.hid HL.out.out
      have HB := Lib.hid HL.out.below
      obtain rfl : k = l.length := by omega
      rw [List.take_length] at HO
      clear HL
      go_wp2_with fail
      go_ret
      exact ⟨_, rfl, HO.out, HB.out⟩

end Go.Proofs.Ytpkippcbocmmkaa
