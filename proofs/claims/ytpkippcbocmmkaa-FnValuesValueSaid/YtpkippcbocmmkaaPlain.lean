/-
  The plain law, no program in sight: what is seen of calls of Do, step by step (doTold), and what of an action called through OnceFunc, OnceValue and OnceValues.
-/
namespace Go.Proofs.Ytpkippcbocmmkaa

structure Step where
  once : Int
  inner : Int
  panics : Bool
  code : Int

structure Told where
  ran : Bool
  inner : Bool
  panicked : Bool
  code : Int

/-- Nothing is seen. -/
def Told.zero : Told := ⟨false, false, false, 0⟩

/-- An instance is used up. -/
def mark (used : Int → Bool) (k : Int) (j : Int) : Bool := j == k || used j

/-- What is seen of a step, where the instances of 'used' are used up. -/
def stepTold (used : Int → Bool) (s : Step) : Told :=
  if used s.once then .zero else ⟨true, s.inner != s.once && !used s.inner, s.panics, if s.panics then s.code else 0⟩

/-- Which instances are used up behind it. -/
def stepUsed (used : Int → Bool) (s : Step) : Int → Bool :=
  if used s.once then used else mark (mark used s.once) s.inner

def doTold (used : Int → Bool) : List Step → List Told
  | [] => []
  | s :: l => stepTold used s :: doTold (stepUsed used s) l

def doUsed (used : Int → Bool) : List Step → Int → Bool
  | [] => used
  | s :: l => doUsed (stepUsed used s) l

/-- No instance is used up. -/
def fresh (_ : Int) : Bool := false

theorem doTold_append (l m : List Step) : ∀ used, doTold used (l ++ m) = doTold used l ++ doTold (doUsed used l) m := by
  induction l with
  | nil => intro used; rfl
  | cons s l ih => intro used; simp [doTold, doUsed, ih]

theorem doUsed_append (l m : List Step) : ∀ used, doUsed used (l ++ m) = doUsed (doUsed used l) m := by
  induction l with
  | nil => intro used; rfl
  | cons s l ih => intro used; simp [doUsed, ih]

theorem doTold_length (l : List Step) : ∀ used, (doTold used l).length = l.length := by
  induction l with
  | nil => intro used; rfl
  | cons s l ih => intro used; simp [doTold, ih]

theorem mark_self (used : Int → Bool) (k : Int) : mark used k k = true := by simp [mark]
theorem mark_of (used : Int → Bool) (k j : Int) (h : used j = true) : mark used k j = true := by simp [mark, h]
theorem mark_ne (used : Int → Bool) (k j : Int) (h : j ≠ k) : mark used k j = used j := by simp [mark, h]

/-- What is used up stays so. -/
theorem stepUsed_mono (used : Int → Bool) (s : Step) (j : Int) (h : used j = true) : stepUsed used s j = true := by
  unfold stepUsed
  split
  · exact h
  · exact mark_of _ _ _ (mark_of _ _ _ h)

/-- A step uses its own instance up. -/
theorem stepUsed_self (used : Int → Bool) (s : Step) : stepUsed used s s.once = true := by
  unfold stepUsed
  split
  · assumption
  · exact mark_of _ _ _ (mark_self _ _)

theorem doUsed_mono (l : List Step) : ∀ (used : Int → Bool) (j : Int), used j = true → doUsed used l j = true := by
  induction l with
  | nil => intro used j h; exact h
  | cons s l ih => intro used j h; exact ih _ _ (stepUsed_mono _ _ _ h)

/-- Every step's instance is used up behind the steps. -/
theorem doUsed_all (l : List Step) : ∀ (used : Int → Bool) (s : Step), s ∈ l → doUsed used l s.once = true := by
  induction l with
  | nil => intro used s h; cases h
  | cons t l ih =>
    intro used s h
    rcases List.mem_cons.1 h with rfl | h
    · exact doUsed_mono l _ _ (stepUsed_self _ _)
    · exact ih _ s h

/-- Steps whose instances are all used up are seen to do nothing. -/
theorem doTold_used (l : List Step) : ∀ (used : Int → Bool), (∀ s ∈ l, used s.once = true) → doTold used l = l.map fun _ => Told.zero := by
  induction l with
  | nil => intro used h; rfl
  | cons s l ih =>
    intro used h
    have h0 := h s (by simp)
    simp only [doTold, List.map_cons]
    have e : stepUsed used s = used := by simp [stepUsed, h0]
    rw [e, ih used (fun t ht => h t (by simp [ht]))]
    simp [stepTold, h0]

/-- Which of the steps before the k-th are behind it, at the k-th. -/
theorem doTold_at (l : List Step) : ∀ (used : Int → Bool) (k : Nat) (h : k < l.length), (doTold used l)[k]? = some (stepTold (doUsed used (l.take k)) l[k]) := by
  induction l with
  | nil => intro used k h; simp at h
  | cons s l ih =>
    intro used k h
    cases k with
    | zero => simp [doTold, doUsed]
    | succ k =>
      simp only [doTold, List.getElem?_cons_succ, List.take_succ_cons, doUsed, List.getElem_cons_succ]
      exact ih _ k (by simpa using h)

theorem doTold_get (l : List Step) (used : Int → Bool) (k : Nat) (h : k < l.length) (h' : k < (doTold used l).length) : (doTold used l)[k] = stepTold (doUsed used (l.take k)) l[k] := by
  have := doTold_at l used k h
  rw [List.getElem?_eq_getElem h'] at this
  exact Option.some.inj this

/-- A step is seen in one of three ways. -/
theorem told_cases (used : Int → Bool) (s : Step) : ((stepTold used s).ran = false ∧ (stepTold used s).panicked = false ∧ (stepTold used s).code = 0) ∨
    ((stepTold used s).ran = true ∧ s.panics = true ∧ (stepTold used s).panicked = true ∧ (stepTold used s).code = s.code) ∨ ((stepTold used s).ran = true ∧ s.panics = false ∧ (stepTold used s).panicked = false ∧ (stepTold used s).code = 0) := by
  unfold stepTold
  cases used s.once <;> cases s.panics <;> simp [Told.zero]

end Go.Proofs.Ytpkippcbocmmkaa
