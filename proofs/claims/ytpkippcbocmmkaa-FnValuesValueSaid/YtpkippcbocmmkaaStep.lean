/-
  impl.Do's closures: the function of an inner call, the function of a step, and the step's call of Do, each with what it leaves.
-/
import Derived.Test.YtpkippcbocmmkaaMaps
namespace Go.Proofs.Ytpkippcbocmmkaa
open Go.RowKit Go.Maps

theorem Blk.c1 {w : World} {g : Nat} {t : TypeId} {a : Value} (h : Blk w g t #[a]) : w.cell? ⟨g, 0, none⟩ = some a := h.cell 0
theorem Blk.c3 {w : World} {g : Nat} {t : TypeId} {a b c : Value} (h : Blk w g t #[a, b, c]) : w.cell? ⟨g, 0, none⟩ = some a ∧ w.cell? ⟨g, 1, none⟩ = some b ∧ w.cell? ⟨g, 2, none⟩ = some c := ⟨h.cell 0, h.cell 1, h.cell 2⟩
theorem Blk.c4 {w : World} {g : Nat} {t : TypeId} {a b c d : Value} (h : Blk w g t #[a, b, c, d]) :
    w.cell? ⟨g, 0, none⟩ = some a ∧ w.cell? ⟨g, 1, none⟩ = some b ∧ w.cell? ⟨g, 2, none⟩ = some c ∧ w.cell? ⟨g, 3, none⟩ = some d := ⟨h.cell 0, h.cell 1, h.cell 2, h.cell 3⟩

/-- A new sync.Once, and one that is done: its three cells. -/
def once (used : Bool) : Array Value := #[.int .u32 (if used then 1 else 0), .int .i32 0, .int .u32 0]

theorem enter40 (args : Array Value) (w : World) : (callFunc 40 args).run Try.prog w = .ok (.enter 40 args) w := by kernel_rfl
theorem enter39 (args : Array Value) (w : World) : (callFunc 39 args).run Try.prog w = .ok (.enter 39 args) w := by kernel_rfl
theorem enter37 (args : Array Value) (w : World) : (callFunc 37 args).run Try.prog w = .ok (.enter 37 args) w := by kernel_rfl

/-- The function of an inner call: t.Inner = true. -/
theorem inner_body (bt : Nat) (x : Value) (w : World) (hc : w.cell? ⟨bt, 1, none⟩ = some x) (hz : w.frozen? ⟨bt, 1, none⟩ = false) :
    Calls Try.prog 40 #[.pointer (some ⟨bt, 0, none⟩)] w fun e w' => e = .returned (.tuple #[]) ∧ w' = w.setCell ⟨bt, 1, none⟩ (.bool true) := by
  go_enter Try.func40, Try.ntmps40
  go_wp2
  go_end0
  exact ⟨rfl, rfl⟩

/-- The inner call, of an instance that is not used up. -/
theorem inner_first (bt B : Nat) (a0 a1 a2 a3 : Value) (w : World) (ht : Blk w bt 26 #[a0, a1, a2, a3]) (hB : Blk w B 70 (once false)) :
    Calls Try.prog 38 #[.pointer (some ⟨B, 0, none⟩), .func (.func 40) #[] #[.pointer (some ⟨bt, 0, none⟩)]] w fun e w' =>
      e = .returned (.tuple #[]) ∧ Blk w' bt 26 #[a0, .bool true, a2, a3] ∧ Blk w' B 70 (once true) ∧ Chg (fun k => k = bt ∨ k = B) w w' := by
  have hne : bt ≠ B := ht.ne_ hB (by decide)
  obtain ⟨o0, o1, o2⟩ := Blk.c3 hB
  refine do_first B 0 40 _ w _ enter40 o0 o1 (hB.frozen 1) ?_
  have hB1 : Blk (w.setCell ⟨B, 0 + 1, none⟩ (.int .i32 1)) B 70 #[.int .u32 0, .int .i32 1, .int .u32 0] := hB.set_ 1 _
  have ht1 : Blk (w.setCell ⟨B, 0 + 1, none⟩ (.int .i32 1)) bt 26 #[a0, a1, a2, a3] := ht.far hne _
  have hc1 : Chg (fun k => k = bt ∨ k = B) w (w.setCell ⟨B, 0 + 1, none⟩ (.int .i32 1)) := (Chg.refl _ w).setCell (.inl (.inr rfl)) _
  refine (inner_body bt a1 _ (ht1.cell 1) (ht1.frozen 1)).mono ?_
  rintro e w' ⟨rfl, rfl⟩
  have ht2 := ht1.set_ 1 (.bool true)
  have hB2 := hB1.far (p := ⟨bt, 1, none⟩) (by exact hne.symm) (.bool true)
  have hc2 := hc1.setCell (p := ⟨bt, 1, none⟩) (.inl (.inl rfl)) (.bool true)
  refine ⟨.inl rfl, ⟨hB2.cell 0, hB2.cell 1, hB2.frozen 0, hB2.frozen 1⟩, rfl, ?_, ?_, ?_⟩
  · exact ((ht2.drew.far (p := ⟨B, 0, none⟩) hne _).far (p := ⟨B, 0 + 1, none⟩) hne _)
  · exact ((hB2.drew.set_ 0 (.int .u32 1)).set_ 1 (.int .i32 0))
  · exact (hc2.drew.setCell (p := ⟨B, 0, none⟩) (.inl (.inr rfl)) _).setCell (p := ⟨B, 0 + 1, none⟩) (.inl (.inr rfl)) _

/-- How the function of a step ends. -/
def stepEnd (p : Bool) (c : Int) : Ending := if p then .panicked [{ v := .iface 3 (.int .i64 c), recovered := false }] else .returned (.tuple #[])

theorem or_right {a b c : Prop} (h : a ∨ b) (f : b → c) : a ∨ c := by
  rcases h with h | h
  · exact .inl h
  · exact .inr (f h)

/-- What the function of a step leaves. -/
def StepPost (bt B : Nat) (o i c : Int) (p u : Bool) (a1 a2 a3 : Value) (w : World) (e : Ending) (w' : World) : Prop :=
  e = stepEnd p c ∧ Blk w' bt 26 #[.bool true, if i ≠ o ∧ u = false then .bool true else a1, a2, a3] ∧ (i ≠ o → Blk w' B 70 (once true)) ∧ Chg (fun k => k = bt ∨ (i ≠ o ∧ k = B)) w w'

/-- The function of a step without an inner call. -/
theorem step_body_same (bt bs bo B : Nat) (o c : Int) (p u : Bool) (a0 a1 a2 a3 : Value) (w : World)
    (ht : Blk w bt 26 #[a0, a1, a2, a3]) (hs : Blk w bs 30 #[.int .i64 o, .int .i64 o, .bool p, .int .i64 c]) :
    Calls Try.prog 39 #[.pointer (some ⟨bt, 0, none⟩), .pointer (some ⟨bs, 0, none⟩), .pointer (some ⟨bo, 0, none⟩)] w (StepPost bt B o o c p u a1 a2 a3 w) := by
  obtain ⟨t0, t1, t2, t3⟩ := Blk.c4 ht
  have z0 := ht.frozen 0
  have nst : ¬ bt = bs := ht.ne_ hs (by decide)
  have hs1 := hs.far (p := ⟨bt, 0, none⟩) (fun e => nst e.symm) (.bool true)
  obtain ⟨s0, s1, s2, s3⟩ := Blk.c4 hs1
  have ht1 : Blk (w.setCell ⟨bt, 0, none⟩ (.bool true)) bt 26 #[.bool true, a1, a2, a3] := ht.set_ 0 _
  have hfin : StepPost bt B o o c p u a1 a2 a3 w (stepEnd p c) (w.setCell ⟨bt, 0, none⟩ (.bool true)) :=
    ⟨rfl, by simpa using ht1, fun h => absurd rfl h, (Chg.refl _ w).setCell (.inl (.inl rfl)) _⟩
  have HF := Lib.hid hfin
  clear ht hs ht1 hs1 hfin
  cases p
  · go_enter Try.func39, Try.ntmps39
    go_wp2
    go_end0
    exact HF.out
  · go_enter Try.func39, Try.ntmps39
    go_wp2
    exact ⟨rfl, HF.out⟩

/-- The function of a step with an inner call. -/
theorem step_body_inner (bt bs bo m n B : Nat) (f : Int → Option Nat) (o i c : Int) (p u : Bool) (a0 a1 a2 a3 : Value) (w : World) (hio : i ≠ o)
    (ht : Blk w bt 26 #[a0, a1, a2, a3]) (hs : Blk w bs 30 #[.int .i64 o, .int .i64 i, .bool p, .int .i64 c]) (ho : Blk w bo 57 #[.map (some m)])
    (hm : MapAt w m n f) (hwi : (Lit.int .i64 i).wf = true) (hf : f i = some B) (hB : Blk w B 70 (once u)) :
    Calls Try.prog 39 #[.pointer (some ⟨bt, 0, none⟩), .pointer (some ⟨bs, 0, none⟩), .pointer (some ⟨bo, 0, none⟩)] w (StepPost bt B o i c p u a1 a2 a3 w) := by
  obtain ⟨t0, t1, t2, t3⟩ := Blk.c4 ht
  have z0 := ht.frozen 0
  have nst : ¬ bt = bs := ht.ne_ hs (by decide)
  have nto : ¬ bt = bo := ht.ne_ ho (by decide)
  have ntB : ¬ bt = B := ht.ne_ hB (by decide)
  have nsB : ¬ bs = B := hs.ne_ hB (by decide)
  have hmf : ∀ (fn : Fn) (first cap : Array Value) (w : World), (Instr.makeFunc fn first cap).run Try.prog w = .ok (.func fn first cap) w := fun _ _ _ _ => rfl
  have hs1 := hs.far (p := ⟨bt, 0, none⟩) (fun e => nst e.symm) (.bool true)
  have ho1 := ho.far (p := ⟨bt, 0, none⟩) (fun e => nto e.symm) (.bool true)
  have hB1 := hB.far (p := ⟨bt, 0, none⟩) (fun e => ntB e.symm) (.bool true)
  have hm1 : MapAt (w.setCell ⟨bt, 0, none⟩ (.bool true)) m n f := hm.block (Below.heap_setCell w _ _ m (fun e => hm.ne ht e.symm))
  have hlk := hm1.look hwi hf
  obtain ⟨s0, s1, s2, s3⟩ := Blk.c4 hs1
  have o0 := Blk.c1 ho1
  have ht1 : Blk (w.setCell ⟨bt, 0, none⟩ (.bool true)) bt 26 #[.bool true, a1, a2, a3] := ht.set_ 0 _
  have hc1 : Chg (fun k => k = bt ∨ (i ≠ o ∧ k = B)) w (w.setCell ⟨bt, 0, none⟩ (.bool true)) := (Chg.refl _ w).setCell (.inl (.inl rfl)) _
  have hib : (i != o) = true := by simp [hio]
  have HI := Lib.hid hio
  have HS := Lib.hid hs1
  have HT := Lib.hid ht1
  have HB := Lib.hid hB1
  have HC := Lib.hid hc1
  clear hs ht hs1 ho ho1 hB hB1 hm hm1 ht1 hc1 hf hio
  cases u
  · go_enter Try.func39, Try.ntmps39
    go_wp2_with fail
    refine (inner_first bt B _ _ _ _ _ HT.out HB.out).mono ?_
    rintro e w' ⟨rfl, ht2, hB2, hc2⟩
    have hs2 := HS.out.chg hc2 (by simp; exact ⟨fun e => nst e.symm, nsB⟩)
    obtain ⟨s0', s1', s2', s3'⟩ := Blk.c4 hs2
    have hfin : StepPost bt B o i c p false a1 a2 a3 w (stepEnd p c) w' :=
      ⟨rfl, by rw [if_pos ⟨HI.out, rfl⟩]; exact ht2, fun _ => hB2, HC.out.trans (hc2.mono fun k _ hk => or_right hk fun h => ⟨HI.out, h⟩)⟩
    have HF := Lib.hid hfin
    clear hfin ht2 hB2 hc2 hs2
    cases p
    · go_wp2
      go_end0
      exact HF.out
    · go_wp2
      exact ⟨rfl, HF.out⟩
  · go_enter Try.func39, Try.ntmps39
    go_wp2_with fail
    refine (do_done ⟨B, 0, none⟩ 1 rfl _ _ (Blk.c3 HB.out).1).mono ?_
    rintro e w' ⟨rfl, rfl⟩
    have hfin : StepPost bt B o i c p true a1 a2 a3 w (stepEnd p c) (w.setCell ⟨bt, 0, none⟩ (.bool true)) :=
      ⟨rfl, by rw [if_neg (by simp)]; exact HT.out, fun _ => HB.out, HC.out⟩
    have HF := Lib.hid hfin
    clear hfin
    cases p
    · go_wp2
      go_end0
      exact HF.out
    · go_wp2
      exact ⟨rfl, HF.out⟩

end Go.Proofs.Ytpkippcbocmmkaa
