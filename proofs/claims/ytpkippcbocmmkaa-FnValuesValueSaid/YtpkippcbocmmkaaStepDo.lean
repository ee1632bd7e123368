/-
  impl.Do's step: the call of Do that a step makes, in a world in which each number's instance is known; what is seen of it and which instances are used up behind it.
-/
import Derived.Test.YtpkippcbocmmkaaStep
import Derived.Test.YtpkippcbocmmkaaPlain
namespace Go.Proofs.Ytpkippcbocmmkaa
open Go.RowKit Go.Maps

/-- No two numbers have one instance. -/
def Inj (f : Int → Option Nat) : Prop := ∀ k k' b, f k = some b → f k' = some b → k = k'

/-- Each number's instance is as 'used' says. -/
def OS (f : Int → Option Nat) (used : Int → Bool) (w : World) : Prop := ∀ k b, f k = some b → Blk w b 70 (once (used k))

/-- A step's four cells. -/
def stepCells (s : Step) : Array Value := #[.int .i64 s.once, .int .i64 s.inner, .bool s.panics, .int .i64 s.code]

/-- How a step's call ends. -/
def callEnd (used : Int → Bool) (s : Step) : Ending := if used s.once then .returned (.tuple #[]) else stepEnd s.panics s.code

/-- What a step's call leaves. -/
def CallPost (bt : Nat) (f : Int → Option Nat) (used : Int → Bool) (s : Step) (w : World) (e : Ending) (w' : World) : Prop :=
  e = callEnd used s ∧ Blk w' bt 26 #[.bool (stepTold used s).ran, .bool (stepTold used s).inner, .bool false, .int .i64 0] ∧ OS f (stepUsed used s) w' ∧ Chg (fun k => k = bt ∨ ∃ j, f j = some k) w w'

theorem OS.chg {f : Int → Option Nat} {used : Int → Bool} {w w' : World} {S : Nat → Prop} (h : OS f used w) (hc : Chg S w w') (hS : ∀ k b, f k = some b → ¬ S b) : OS f used w' :=
  fun k b hf => (h k b hf).chg hc (hS k b hf)

theorem step_body (bt bs bo m n B : Nat) (f : Int → Option Nat) (s : Step) (u : Bool) (a0 a1 a2 a3 : Value) (w : World)
    (ht : Blk w bt 26 #[a0, a1, a2, a3]) (hs : Blk w bs 30 (stepCells s)) (ho : Blk w bo 57 #[.map (some m)])
    (hm : MapAt w m n f) (hwi : (Lit.int .i64 s.inner).wf = true) (hf : f s.inner = some B) (hB : s.inner ≠ s.once → Blk w B 70 (once u)) :
    Calls Try.prog 39 #[.pointer (some ⟨bt, 0, none⟩), .pointer (some ⟨bs, 0, none⟩), .pointer (some ⟨bo, 0, none⟩)] w (StepPost bt B s.once s.inner s.code s.panics u a1 a2 a3 w) := by
  by_cases h : s.inner = s.once
  · have hs' : Blk w bs 30 #[.int .i64 s.once, .int .i64 s.once, .bool s.panics, .int .i64 s.code] := by
      have := hs
      rw [stepCells, h] at this
      exact this
    rw [h]
    exact step_body_same bt bs bo B s.once s.code s.panics u a0 a1 a2 a3 w ht hs'
  · exact step_body_inner bt bs bo m n B f s.once s.inner s.code s.panics u a0 a1 a2 a3 w h ht hs ho hm hwi hf (hB h)

/-- The call of Do, where the instance is not used up. -/
theorem call_first (bt bs bo m n A B : Nat) (f : Int → Option Nat) (used : Int → Bool) (s : Step) (w : World)
    (ht : Blk w bt 26 #[.bool false, .bool false, .bool false, .int .i64 0]) (hs : Blk w bs 30 (stepCells s)) (ho : Blk w bo 57 #[.map (some m)])
    (hm : MapAt w m n f) (hi : Inj f) (hos : OS f used w) (hwi : (Lit.int .i64 s.inner).wf = true) (hA : f s.once = some A) (hB : f s.inner = some B) (hu : used s.once = false) :
    Calls Try.prog 38 #[.pointer (some ⟨A, 0, none⟩), .func (.func 39) #[] #[.pointer (some ⟨bt, 0, none⟩), .pointer (some ⟨bs, 0, none⟩), .pointer (some ⟨bo, 0, none⟩)]] w (CallPost bt f used s w) := by
  have bA := hos _ _ hA
  rw [hu] at bA
  have bB := hos _ _ hB
  have ntA : bt ≠ A := ht.ne_ bA (by decide)
  have nsA : bs ≠ A := hs.ne_ bA (by decide)
  have noA : bo ≠ A := ho.ne_ bA (by decide)
  obtain ⟨o0, o1, o2⟩ := Blk.c3 bA
  refine do_first A 0 39 _ w _ enter39 o0 o1 (bA.frozen 1) ?_
  have bA1 : Blk (w.setCell ⟨A, 0 + 1, none⟩ (.int .i32 1)) A 70 #[.int .u32 0, .int .i32 1, .int .u32 0] := bA.set_ 1 _
  have ht1 : Blk (w.setCell ⟨A, 0 + 1, none⟩ (.int .i32 1)) bt 26 _ := ht.far ntA _
  have hs1 : Blk (w.setCell ⟨A, 0 + 1, none⟩ (.int .i32 1)) bs 30 _ := hs.far nsA _
  have ho1 : Blk (w.setCell ⟨A, 0 + 1, none⟩ (.int .i32 1)) bo 57 _ := ho.far noA _
  have hm1 : MapAt (w.setCell ⟨A, 0 + 1, none⟩ (.int .i32 1)) m n f := hm.block (Below.heap_setCell w _ _ m (fun e => hm.ne bA e.symm))
  have hAB : s.inner ≠ s.once → B ≠ A := fun h e => h (hi _ _ B hB (by rw [e]; exact hA))
  refine (step_body bt bs bo m n B f s (used s.inner) _ _ _ _ _ ht1 hs1 ho1 hm1 hwi hB (fun h => bB.far (hAB h) _)).mono ?_
  rintro e w' ⟨rfl, ht2, hB2, hc2⟩
  have bA2 : Blk w' A 70 #[.int .u32 0, .int .i32 1, .int .u32 0] := bA1.chg hc2 (by
    rintro (h | ⟨h1, h2⟩)
    · exact ntA h.symm
    · exact hAB h1 h2.symm)
  have hold : ∀ k b, f k = some b → k ≠ s.once → k ≠ s.inner → Blk w' b 70 (once (used k)) := fun k b hk h1 h2 => by
    have b1 := hos k b hk
    have nA : b ≠ A := fun e => h1 (hi _ _ A (by rw [← e]; exact hk) hA)
    have nB : b ≠ B := fun e => h2 (hi _ _ B (by rw [← e]; exact hk) hB)
    refine (b1.far (p := ⟨A, 0 + 1, none⟩) nA (.int .i32 1)).chg hc2 ?_
    rintro (h | ⟨_, h⟩)
    · exact ht.ne_ b1 (by decide) h.symm
    · exact nB h
  refine ⟨?_, ⟨bA2.cell 0, bA2.cell 1, bA2.frozen 0, bA2.frozen 1⟩, ?_, ?_, ?_, ?_⟩
  · unfold Fin stepEnd
    cases s.panics
    · exact .inl rfl
    · exact .inr ⟨_, rfl, rfl⟩
  · simp [callEnd, hu]
  · have := ((ht2.drew.far (p := ⟨A, 0, none⟩) ntA (.int .u32 1)).far (p := ⟨A, 0 + 1, none⟩) ntA (.int .i32 0))
    have e1 : (stepTold used s).ran = true := by simp [stepTold, hu]
    have e2 : Value.bool (stepTold used s).inner = if s.inner ≠ s.once ∧ used s.inner = false then .bool true else .bool false := by
      simp only [stepTold, hu]
      by_cases h1 : s.inner = s.once <;> cases h2 : used s.inner <;> simp [h1]
    rw [e1, e2]
    exact this
  · intro k b hk
    by_cases h1 : k = s.once
    · subst h1
      have e : b = A := by rw [hA] at hk; exact (Option.some.inj hk).symm
      subst e
      rw [stepUsed_self]
      exact ((bA2.drew.set_ 0 (.int .u32 1)).set_ 1 (.int .i32 0))
    · have nA : b ≠ A := fun e => h1 (hi _ _ A (by rw [← e]; exact hk) hA)
      refine (Blk.far (p := ⟨A, 0, none⟩) (Blk.drew ?_) nA (.int .u32 1)).far (p := ⟨A, 0 + 1, none⟩) nA (.int .i32 0)
      by_cases h2 : k = s.inner
      · subst h2
        have e : b = B := by rw [hB] at hk; exact (Option.some.inj hk).symm
        subst e
        have : stepUsed used s s.inner = true := by simp [stepUsed, hu, mark_self]
        rw [this]
        exact hB2 h1
      · have : stepUsed used s k = used k := by simp [stepUsed, hu, mark_ne _ _ _ h2, mark_ne _ _ _ h1]
        rw [this]
        exact hold k b hk h1 h2
  · have c1 : Chg (fun k => k = bt ∨ ∃ j, f j = some k) w (w.setCell ⟨A, 0 + 1, none⟩ (.int .i32 1)) := (Chg.refl _ w).setCell (.inl (.inr ⟨_, hA⟩)) _
    have c2 := c1.trans (hc2.mono fun k _ hk => or_right hk fun h => ⟨s.inner, by rw [h.2]; exact hB⟩)
    exact (c2.drew.setCell (p := ⟨A, 0, none⟩) (.inl (.inr ⟨_, hA⟩)) _).setCell (p := ⟨A, 0 + 1, none⟩) (.inl (.inr ⟨_, hA⟩)) _

/-- The call of Do, where the instance is used up. -/
theorem call_done (bt A : Nat) (f : Int → Option Nat) (used : Int → Bool) (s : Step) (w : World) (fv : Value)
    (ht : Blk w bt 26 #[.bool false, .bool false, .bool false, .int .i64 0]) (hos : OS f used w) (hA : f s.once = some A) (hu : used s.once = true) :
    Calls Try.prog 38 #[.pointer (some ⟨A, 0, none⟩), fv] w (CallPost bt f used s w) := by
  have bA := hos _ _ hA
  rw [hu] at bA
  refine (do_done ⟨A, 0, none⟩ 1 rfl fv w (Blk.c3 bA).1).mono ?_
  rintro e w' ⟨rfl, rfl⟩
  refine ⟨by simp [callEnd, hu], ?_, ?_, Chg.refl _ _⟩
  · have e : stepTold used s = .zero := by simp [stepTold, hu]
    rw [e]
    exact ht
  · have e : stepUsed used s = used := by simp [stepUsed, hu]
    rw [e]
    exact hos

/-- A call ends in a return, or in the step's panic. -/
theorem callEnd_cases (used : Int → Bool) (s : Step) : callEnd used s = .returned (.tuple #[]) ∨ callEnd used s = .panicked [{ v := .iface 3 (.int .i64 s.code), recovered := false }] := by
  unfold callEnd stepEnd
  cases used s.once <;> cases s.panics <;> simp

set_option maxHeartbeats 400000 in
/-- The function that run is handed: the step's call. -/
theorem call_any (bt bs bo m n A B : Nat) (f : Int → Option Nat) (used : Int → Bool) (s : Step) (w : World)
    (ht : Blk w bt 26 #[.bool false, .bool false, .bool false, .int .i64 0]) (hs : Blk w bs 30 (stepCells s)) (ho : Blk w bo 57 #[.map (some m)])
    (hm : MapAt w m n f) (hi : Inj f) (hos : OS f used w) (hwo : (Lit.int .i64 s.once).wf = true) (hwi : (Lit.int .i64 s.inner).wf = true) (hA : f s.once = some A) (hB : f s.inner = some B) :
    Calls Try.prog 37 #[.pointer (some ⟨bo, 0, none⟩), .pointer (some ⟨bs, 0, none⟩), .pointer (some ⟨bt, 0, none⟩)] w (CallPost bt f used s w) := by
  have hmf : ∀ (fn : Fn) (first cap : Array Value) (w : World), (Instr.makeFunc fn first cap).run Try.prog w = .ok (.func fn first cap) w := fun _ _ _ _ => rfl
  have hlk := hm.look hwo hA
  have o0 := Blk.c1 ho
  have s0 : w.cell? ⟨bs, 0, none⟩ = some (.int .i64 s.once) := hs.cell 0
  have hcall : Calls Try.prog 38 #[.pointer (some ⟨A, 0, none⟩), .func (.func 39) #[] #[.pointer (some ⟨bt, 0, none⟩), .pointer (some ⟨bs, 0, none⟩), .pointer (some ⟨bo, 0, none⟩)]] w (CallPost bt f used s w) := by
    cases hu : used s.once
    · exact call_first bt bs bo m n A B f used s w ht hs ho hm hi hos hwi hA hB hu
    · exact call_done bt A f used s w _ ht hos hA hu
  have HC := Lib.hid hcall
  clear hcall ht hs ho hm hi hos hA hB
  go_enter Try.func37, Try.ntmps37
  go_wp2_with fail
  refine HC.out.mono ?_
  clear HC
  intro e w' h
  have he : e = callEnd used s := h.1
  have H := Lib.hid h
  clear h
  rcases callEnd_cases used s with h1 | h1
  · rw [h1] at he
    subst he
    clear h1
    go_wp2
    go_end0
    exact H.out
  · rw [h1] at he
    subst he
    exact ⟨rfl, H.out⟩

/-- What is seen of a step's call through run: the two results; t as the closure left it; the instances. -/
def RunPost (bt : Nat) (f : Int → Option Nat) (used : Int → Bool) (s : Step) (w : World) (e : Ending) (w' : World) : Prop :=
  e = .returned (.tuple #[.bool (stepTold used s).panicked, .int .i64 (stepTold used s).code]) ∧
    Blk w' bt 26 #[.bool (stepTold used s).ran, .bool (stepTold used s).inner, .bool false, .int .i64 0] ∧ OS f (stepUsed used s) w' ∧ Chg (fun k => k = bt ∨ ∃ j, f j = some k) w w'

theorem run_step (bt bs bo m n A B : Nat) (f : Int → Option Nat) (used : Int → Bool) (s : Step) (w : World)
    (ht : Blk w bt 26 #[.bool false, .bool false, .bool false, .int .i64 0]) (hs : Blk w bs 30 (stepCells s)) (ho : Blk w bo 57 #[.map (some m)])
    (hm : MapAt w m n f) (hi : Inj f) (hos : OS f used w) (hwo : (Lit.int .i64 s.once).wf = true) (hwi : (Lit.int .i64 s.inner).wf = true) (hA : f s.once = some A) (hB : f s.inner = some B) :
    Calls Try.prog 36 #[.func (.func 37) #[] #[.pointer (some ⟨bo, 0, none⟩), .pointer (some ⟨bs, 0, none⟩), .pointer (some ⟨bt, 0, none⟩)]] w (RunPost bt f used s w) := by
  refine run_any 37 _ w _ enter37 ?_
  have b1 : Blk ((w.alloc (.cells #[.bool false] 4)).alloc (.cells #[.int .i64 0] 3)) w.heap.size 4 #[.bool false] := (Blk.new w 4 #[.bool false]).alloc _
  have b2 : Blk ((w.alloc (.cells #[.bool false] 4)).alloc (.cells #[.int .i64 0] 3)) (w.heap.size + 1) 3 #[.int .i64 0] := by
    have := Blk.new (w.alloc (.cells #[.bool false] 4)) 3 #[.int .i64 0]
    simpa using this
  have c0 : Chg (fun k => k = bt ∨ ∃ j, f j = some k) w ((w.alloc (.cells #[.bool false] 4)).alloc (.cells #[.int .i64 0] 3)) := ((Chg.refl _ w).alloc _).alloc _
  have hos0 : OS f used ((w.alloc (.cells #[.bool false] 4)).alloc (.cells #[.int .i64 0] 3)) := fun k b hk => ((hos k b hk).alloc _).alloc _
  refine (call_any bt bs bo m n A B f used s _ ((ht.alloc _).alloc _) ((hs.alloc _).alloc _) ((ho.alloc _).alloc _) ((hm.alloc _).alloc _) hi hos0 hwo hwi hA hB).mono ?_
  rintro e w' ⟨rfl, ht2, hos2, hc2⟩
  have lt := ht.lt
  have lo : ∀ j k, f j = some k → k < w.heap.size := fun j k h => (hos j k h).lt
  have n1 : ¬ (w.heap.size = bt ∨ ∃ j, f j = some w.heap.size) := by
    rintro (h | ⟨j, h⟩)
    · omega
    · have := lo _ _ h; omega
  have n2 : ¬ (w.heap.size + 1 = bt ∨ ∃ j, f j = some (w.heap.size + 1)) := by
    rintro (h | ⟨j, h⟩)
    · omega
    · have := lo _ _ h; omega
  have fin : ∀ (x y : Value), Blk ((w'.setCell ⟨w.heap.size, 0, none⟩ x).setCell ⟨w.heap.size + 1, 0, none⟩ y) bt 26 #[.bool (stepTold used s).ran, .bool (stepTold used s).inner, .bool false, .int .i64 0] ∧
      OS f (stepUsed used s) ((w'.setCell ⟨w.heap.size, 0, none⟩ x).setCell ⟨w.heap.size + 1, 0, none⟩ y) ∧
      Chg (fun k => k = bt ∨ ∃ j, f j = some k) w ((w'.setCell ⟨w.heap.size, 0, none⟩ x).setCell ⟨w.heap.size + 1, 0, none⟩ y) := fun x y =>
    ⟨(ht2.far (p := ⟨w.heap.size, 0, none⟩) (by show bt ≠ w.heap.size; omega) x).far (p := ⟨w.heap.size + 1, 0, none⟩) (by show bt ≠ w.heap.size + 1; omega) y,
     fun k b hk => ((hos2 k b hk).far (p := ⟨w.heap.size, 0, none⟩) (by have := lo _ _ hk; show b ≠ w.heap.size; omega) x).far (p := ⟨w.heap.size + 1, 0, none⟩) (by have := lo _ _ hk; show b ≠ w.heap.size + 1; omega) y,
     ((c0.trans hc2).setCell (p := ⟨w.heap.size, 0, none⟩) (.inr (Nat.le_refl _)) x).setCell (p := ⟨w.heap.size + 1, 0, none⟩) (.inr (Nat.le_succ _)) y⟩
  refine ⟨b1.chg hc2 n1, b2.chg hc2 n2, ?_⟩
  unfold callEnd stepEnd
  cases hu : used s.once
  · cases hp : s.panics
    · refine .inl ⟨rfl, ?_, fin _ _⟩
      simp [stepTold, hu, hp]
    · refine .inr ⟨s.code, [], rfl, rfl, ?_, fin _ _⟩
      simp [stepTold, hu, hp]
  · refine .inl ⟨rfl, ?_, fin _ _⟩
    simp [stepTold, hu, Told.zero]

end Go.Proofs.Ytpkippcbocmmkaa
