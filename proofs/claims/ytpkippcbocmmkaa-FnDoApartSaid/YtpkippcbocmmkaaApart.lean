/-
  The law FnDoApart: instances do not know of each other: without inner calls, those of one instance are seen the same without the others: for every list of steps and every number the law returns true, and each argument reads as it read before.
-/
import Derived.Test.YtpkippcbocmmkaaApp
namespace Go.Proofs.Ytpkippcbocmmkaa
open Go.ChangeShapes Go.WideShapes Go.ChangeAt Go.RowKit Go.Deep

/-- A step without its inner call. -/
def alone (s : Step) : Step := ⟨s.once, s.once, s.panics, s.code⟩

def allOf (l : List Step) : List Step := l.map alone
def fewOf (n : Int) (l : List Step) : List Step := (allOf l).filter fun s => s.once == n

/-- What is seen of the steps of one instance. -/
def partOf (n : Int) : List Step → List Told → List Told
  | s :: l, t :: ts => if s.once == n then t :: partOf n l ts else partOf n l ts
  | _, _ => []

theorem partOf_append (n : Int) (l m : List Step) : ∀ (ts us : List Told), ts.length = l.length → partOf n (l ++ m) (ts ++ us) = partOf n l ts ++ partOf n m us := by
  induction l with
  | nil =>
    intro ts us h
    have : ts = [] := List.eq_nil_of_length_eq_zero (by simpa using h)
    subst this
    simp [partOf]
  | cons s l ih =>
    intro ts us h
    cases ts with
    | nil => simp at h
    | cons t ts =>
      have e := ih ts us (by simpa using h)
      simp only [List.cons_append, partOf, e]
      split <;> simp

/-- Only the instance's own uses matter. -/
theorem apart_told (n : Int) (l : List Step) : ∀ (used used' : Int → Bool), used n = used' n → partOf n (allOf l) (doTold used (allOf l)) = doTold used' (fewOf n l) := by
  induction l with
  | nil => intro used used' h; rfl
  | cons s l ih =>
    intro used used' h
    simp only [allOf, List.map_cons, doTold, partOf, fewOf, List.filter_cons]
    by_cases e : s.once = n
    · have eb : ((alone s).once == n) = true := by simp [alone, e]
      rw [if_pos eb, if_pos eb]
      simp only [doTold]
      have e1 : stepTold used (alone s) = stepTold used' (alone s) := by simp [stepTold, alone, e, h]
      have e2 : stepUsed used (alone s) n = stepUsed used' (alone s) n := by
        have a1 : stepUsed used (alone s) n = true := by have := stepUsed_self used (alone s); simpa [alone, e] using this
        have a2 : stepUsed used' (alone s) n = true := by have := stepUsed_self used' (alone s); simpa [alone, e] using this
        rw [a1, a2]
      rw [e1]
      congr 1
      exact ih _ _ e2
    · have eb : ((alone s).once == n) = false := by simp [alone, e]
      rw [if_neg (by rw [eb]; simp), if_neg (by rw [eb]; simp)]
      refine ih _ _ ?_
      have e2 : stepUsed used (alone s) n = used n := by
        unfold stepUsed
        split
        · rfl
        · show mark (mark used s.once) s.once n = used n
          rw [mark_ne _ _ _ (fun h => e h.symm), mark_ne _ _ _ (fun h => e h.symm)]
      rw [e2, h]

theorem allOf_snoc (l : List Step) (k : Nat) (h : k < l.length) : allOf (l.take (k + 1)) = allOf (l.take k) ++ [alone l[k]] := by
  rw [List.take_succ_eq_append_getElem h]
  unfold allOf
  rw [List.map_append]
  rfl
theorem allOf_length (l : List Step) : (allOf l).length = l.length := by simp [allOf]
theorem fewOf_snoc (n : Int) (l : List Step) (k : Nat) (h : k < l.length) : fewOf n (l.take (k + 1)) = fewOf n (l.take k) ++ (if l[k].once == n then [alone l[k]] else []) := by
  unfold fewOf
  rw [allOf_snoc l k h, List.filter_append]
  congr 1
  simp only [List.filter_cons, List.filter_nil]
  rfl
theorem fewOf_length (n : Int) (l : List Step) : (fewOf n l).length ≤ l.length := by
  have := List.length_filter_le (fun s : Step => s.once == n) (allOf l)
  rwa [allOf_length] at this
theorem partOf_snoc (n : Int) (l : List Step) (k : Nat) (h : k < l.length) : partOf n (allOf (l.take (k + 1))) (doTold fresh (allOf (l.take (k + 1)))) =
    partOf n (allOf (l.take k)) (doTold fresh (allOf (l.take k))) ++ (if l[k].once == n then [stepTold (doUsed fresh (allOf (l.take k))) (alone l[k])] else []) := by
  rw [allOf_snoc l k h, doTold_append, partOf_append n _ _ _ _ (doTold_length _ _)]
  congr 1
theorem partOf_length (n : Int) (l : List Step) : ∀ ts : List Told, (partOf n l ts).length ≤ l.length := by
  induction l with
  | nil => intro ts; simp [partOf]
  | cons s l ih =>
    intro ts
    cases ts with
    | nil => simp [partOf]
    | cons t ts =>
      have := ih ts
      simp only [partOf]
      split
      · simp; omega
      · simp; omega
theorem alone_told (l : List Step) (k : Nat) (h : k < l.length) (h' : k < (doTold fresh (allOf l)).length) : (doTold fresh (allOf l))[k] = stepTold (doUsed fresh (allOf (l.take k))) (alone l[k]) := by
  have hk : k < (allOf l).length := by rw [allOf_length]; exact h
  rw [doTold_get (allOf l) fresh k hk h']
  simp [allOf, List.map_take]

theorem rd_one {W : World} {b : Nat} {s : Step} (h : Blk W b 30 (stepCells s)) : Rd W W.heap.size 4 (some ⟨b, 0, none⟩) 1 (stepRow [s]) := by
  refine ⟨rfl, fun _ => ⟨b, 0, rfl, h.lt, fun j u hu => ?_⟩⟩
  rw [Nat.zero_add, h.cell j]
  simpa [stepRow] using hu

/-- Behind k rounds of the first loop. -/
structure ApL (w : World) (l : List Step) (n : Int) (k : Nat) (v5 v6 : Value) (wr : World) : Prop where
  own5 : wr.ownsRow w.heap.size 30 4 v5 k (stepRow (allOf (l.take k)))
  own6 : wr.ownsRow w.heap.size 30 4 v6 (fewOf n (l.take k)).length (stepRow (fewOf n (l.take k)))
  ne : ∀ g, v5.ownBlock = some g → v6.ownBlock ≠ some g
  below : Below w.heap.size w wr

theorem ApL_start (w : World) (l : List Step) (n : Int) : ApL w l n 0 (.slice (some ⟨w.heap.size, 0, none⟩) 0 0) (.slice (some ⟨w.heap.size + 1, 0, none⟩) 0 0) ((w.alloc (.cells #[] 30)).alloc (.cells #[] 30)) := by
  refine ⟨(World.ownsRow_made w #[] 0 (Nat.le_refl _) (by simp [maxLen]) rfl).alloc _, ?_, ?_, ((Below.refl _ w).alloc (Nat.le_refl _) _).alloc (by simp) _⟩
  · have := World.ownsRow_made (base := w.heap.size) (e := 30) (size := 4) (w.alloc (.cells #[] 30)) #[] 0 (by simp) (by simp [maxLen]) rfl
    simpa [fewOf, allOf, stepRow] using this
  · intro g h
    simp [Value.ownBlock] at h ⊢
    omega

/-- Behind the first append of a round. -/
theorem ApL_mid {w wr w1 : World} {l : List Step} {n : Int} {k : Nat} {v5 v6 v5' : Value} {o1 o2 : Obj} (h : ApL w l n k v5 v6 wr) (hlt : k < l.length)
    (hown : w1.ownsRow w.heap.size 30 4 v5' (k + 1) (stepRow (allOf (l.take k)) ++ stepRow [alone l[k]])) (hg : ((wr.alloc o1).alloc o2).grownBy w1 v5.ownBlock)
    (hat : v5'.ownBlock = v5.ownBlock ∨ v5'.ownBlock = some (wr.heap.size + 1 + 1)) :
    w1.ownsRow w.heap.size 30 4 v5' (k + 1) (stepRow (allOf (l.take (k + 1)))) ∧ w1.ownsRow w.heap.size 30 4 v6 (fewOf n (l.take k)).length (stepRow (fewOf n (l.take k))) ∧
      (∀ g, v5'.ownBlock = some g → v6.ownBlock ≠ some g) ∧ Below w.heap.size w w1 := by
  refine ⟨?_, ?_, ?_, ?_⟩
  · rw [allOf_snoc l k hlt, stepRow_append]; exact hown
  · refine ((h.own6.alloc o1).alloc o2).kept hg ?_
    cases e : v5.ownBlock with
    | none =>
      cases e6 : v6.ownBlock with
      | none => exact .inl rfl
      | some g => exact .inr (by simp)
    | some g => exact .inr (h.ne g e)
  · intro g e e6
    rcases hat with ha | ha
    · exact h.ne g (ha.symm.trans e) e6
    · rw [e] at ha
      injection ha with ha
      have := (h.own6.lt g e6).2
      omega
  · have hs := h.below.size
    exact ((h.below.alloc hs o1).alloc (by simp; omega) o2).grown hg (by simp; omega) (fun j e => (h.own5.lt j e).1)

/-- A round that appends to the first list alone. -/
theorem ApL_next0 {w w1 : World} {l : List Step} {n : Int} {k : Nat} {v5' v6 : Value} (hlt : k < l.length) (hne : (l[k].once == n) = false)
    (h5 : w1.ownsRow w.heap.size 30 4 v5' (k + 1) (stepRow (allOf (l.take (k + 1))))) (h6 : w1.ownsRow w.heap.size 30 4 v6 (fewOf n (l.take k)).length (stepRow (fewOf n (l.take k))))
    (hn : ∀ g, v5'.ownBlock = some g → v6.ownBlock ≠ some g) (hb : Below w.heap.size w w1) : ApL w l n (k + 1) v5' v6 w1 := by
  refine ⟨h5, ?_, hn, hb⟩
  rw [fewOf_snoc n l k hlt, hne]
  simpa using h6

/-- A round that appends to both. -/
theorem ApL_next1 {w w1 w2 : World} {l : List Step} {n : Int} {k : Nat} {v5' v6 v6' : Value} {o : Obj} (hlt : k < l.length) (he : (l[k].once == n) = true)
    (h5 : w1.ownsRow w.heap.size 30 4 v5' (k + 1) (stepRow (allOf (l.take (k + 1))))) (h6 : w1.ownsRow w.heap.size 30 4 v6 (fewOf n (l.take k)).length (stepRow (fewOf n (l.take k))))
    (hn : ∀ g, v5'.ownBlock = some g → v6.ownBlock ≠ some g) (hb : Below w.heap.size w w1)
    (hown : w2.ownsRow w.heap.size 30 4 v6' ((fewOf n (l.take k)).length + 1) (stepRow (fewOf n (l.take k)) ++ stepRow [alone l[k]])) (hg : (w1.alloc o).grownBy w2 v6.ownBlock)
    (hat : v6'.ownBlock = v6.ownBlock ∨ v6'.ownBlock = some (w1.heap.size + 1)) : ApL w l n (k + 1) v5' v6' w2 := by
  refine ⟨?_, ?_, ?_, ?_⟩
  · refine (h5.alloc o).kept hg ?_
    cases e : v5'.ownBlock with
    | none => exact .inl rfl
    | some g => exact .inr (fun e6 => hn g e e6.symm)
  · rw [fewOf_snoc n l k hlt, he]
    simp only [if_true, stepRow_append, List.length_append, List.length_cons, List.length_nil]
    exact hown
  · intro g e e6
    rcases hat with ha | ha
    · exact hn g e (ha.symm.trans e6)
    · rw [e6] at ha
      injection ha with ha
      have := (h5.lt g e).2
      omega
  · exact (hb.alloc hb.size o).grown hg (by have := hb.size; simp; omega) (fun j e => (h6.lt j e).1)

/-- The round's own step, behind the first append. -/
theorem ap_blk {w wr w1 : World} {v5 : Value} {k : Nat} {xs : List Value} {cs : Array Value} {o2 : Obj} (h : wr.ownsRow w.heap.size 30 4 v5 k xs) (hg : ((wr.alloc (.cells cs 30)).alloc o2).grownBy w1 v5.ownBlock) : Blk w1 wr.heap.size 30 cs :=
  ((Blk.new wr 30 cs).alloc o2).grown hg (fun e => by have := (h.lt _ e.symm).2; omega)

/-- Behind k rounds of the second loop. -/
structure ApM (w3 : World) (l : List Step) (n : Int) (k : Nat) (v : Value) (wr : World) : Prop where
  own : wr.ownsRow w3.heap.size 26 4 v (partOf n (allOf (l.take k)) (doTold fresh (allOf (l.take k)))).length (toldRow (partOf n (allOf (l.take k)) (doTold fresh (allOf (l.take k)))))
  below : Below w3.heap.size w3 wr

theorem ApM_start (w3 : World) (l : List Step) (n : Int) : ApM w3 l n 0 (.slice (some ⟨w3.heap.size, 0, none⟩) 0 0) (w3.alloc (.cells #[] 26)) := by
  refine ⟨?_, (Below.refl _ w3).alloc (Nat.le_refl _) _⟩
  have := World.ownsRow_made (base := w3.heap.size) (e := 26) (size := 4) w3 #[] 0 (Nat.le_refl _) (by simp [maxLen]) rfl
  simpa [allOf, partOf, toldRow, doTold] using this

theorem ApM_next0 {w3 wr : World} {l : List Step} {n : Int} {k : Nat} {v : Value} {o : Obj} (h : ApM w3 l n k v wr) (hlt : k < l.length) (hne : (l[k].once == n) = false) : ApM w3 l n (k + 1) v (wr.alloc o) := by
  refine ⟨?_, h.below.alloc h.below.size o⟩
  rw [partOf_snoc n l k hlt, hne]
  simpa using h.own.alloc o

theorem ApM_next1 {w3 wr w2 : World} {l : List Step} {n : Int} {k : Nat} {v v' : Value} {o o' : Obj} (h : ApM w3 l n k v wr) (hlt : k < l.length) (he : (l[k].once == n) = true)
    (hown : w2.ownsRow w3.heap.size 26 4 v' ((partOf n (allOf (l.take k)) (doTold fresh (allOf (l.take k)))).length + 1) (toldRow (partOf n (allOf (l.take k)) (doTold fresh (allOf (l.take k)))) ++ toldRow [stepTold (doUsed fresh (allOf (l.take k))) (alone l[k])]))
    (hg : ((wr.alloc o).alloc o').grownBy w2 v.ownBlock) : ApM w3 l n (k + 1) v' w2 := by
  refine ⟨?_, ?_⟩
  · rw [partOf_snoc n l k hlt, he]
    simp only [if_true, toldRow_append, List.length_append, List.length_cons, List.length_nil]
    exact hown
  · have hs := h.below.size
    exact ((h.below.alloc hs o).alloc (by simp; omega) o').grown hg (by simp; omega) (fun j e => (h.own.lt j e).1)

theorem rd_told {W : World} {b : Nat} {t : Told} (h : Blk W b 26 (toldCells t)) : Rd W W.heap.size 4 (some ⟨b, 0, none⟩) 1 (toldRow [t]) := by
  refine ⟨rfl, fun _ => ⟨b, 0, rfl, h.lt, fun j u hu => ?_⟩⟩
  rw [Nat.zero_add, h.cell j]
  simpa [toldRow] using hu

theorem toldRow_one (l : List Told) : ∀ u ∈ toldRow l, u.oneCell' = true := by
  intro u hu
  simp only [toldRow, List.mem_flatMap] at hu
  obtain ⟨t, _, ht⟩ := hu
  exact toldCells_one t u ht

theorem alone_wf {l : List Step} (h : ∀ s ∈ l, StepWf s) : ∀ s ∈ allOf l, StepWf s := by
  intro s hs
  obtain ⟨t, ht, rfl⟩ := List.mem_map.1 hs
  exact ⟨(h t ht).1, (h t ht).1, (h t ht).2.2⟩
theorem few_wf {l : List Step} {n : Int} (h : ∀ s ∈ l, StepWf s) : ∀ s ∈ fewOf n l, StepWf s := fun s hs => alone_wf h s (List.mem_filter.1 hs).1

set_option maxRecDepth 100000 in
set_option maxHeartbeats 2000000 in
theorem apart_walk (A : Option Addr) (cap : Nat) (l : List Step) (n : Int) (w : World) (hr : Rd w w.heap.size 4 A l.length (stepRow l)) (hlen : l.length * 32 ≤ 140737488351232) (hwf : ∀ s ∈ l, StepWf s) (_hn : (Lit.int .i64 n).wf = true) :
    Calls Try.prog 4 #[.slice A l.length cap, .int .i64 n] w fun e w' => e = .returned (.bool true) ∧ Below w.heap.size w w' := by
  obtain ⟨i0, hi0, hz0, hz1, hz2⟩ := info_parts info30
  have HR := Lib.hid hr
  have HW := Lib.hid hwf
  clear hr hwf _hn
  go_enter Try.func4, Try.ntmps4
  go_wp2_with fail
  go_loopw [5, 6, 17] (fun v5 v6 i wr => ∃ k : Nat, k ≤ l.length ∧ i = .int .i64 k ∧ ApL w l n k v5 v6 wr) (fun _ _ i _ => l.length - (intOf i).toNat)
  case atStart => exact ⟨0, Nat.zero_le _, rfl, ApL_start w l n⟩
  case round =>
    obtain ⟨k, hk, rfl, hL⟩ := hrel
    have HL := Lib.hid hL
    clear hL
    by_cases hlt : k < l.length
    · obtain ⟨b, off, rfl, hb, s0, s1, s2, s3⟩ := (HR.out.below HL.out.below).step hlt rfl
      have hsz := HL.out.below.size
      have hb1 : Blk ((wr.alloc (.cells (stepCells (alone l[k])) 30)).alloc (.cells (stepCells (alone l[k])) 30)) (wr.heap.size + 1) 30 (stepCells (alone l[k])) := by
        have := Blk.new (wr.alloc (.cells (stepCells (alone l[k])) 30)) 30 (stepCells (alone l[k]))
        simp only [World.size_alloc] at this
        exact this
      have R1 := Lib.hid (rd_one hb1)
      clear hb1
      have hfl := fewOf_length n (l.take k)
      rw [List.length_take] at hfl
      go_wp2_with (at_builtin; refine wpList_append_rd rfl (.tmp 24) (.tmp 26) 22 rfl w.heap.size 30 i0 _ 4 32 Try.underlying22 hi0 hz0 hz1 hz2 rfl (by decide) _ k _ rfl ((HL.out.own5.alloc _).alloc _) _ _ 1 1 (stepRow [alone l[k]]) rfl R1.out (stepRow_one _) (by unfold maxLen; omega) (by omega) (by simp; omega) ?_)
      intro v5' w1 hown1 hg1 hat1
      clear R1
      obtain ⟨f5, f6, fn, fb⟩ := ApL_mid HL.out hlt hown1 hg1 hat1
      have hbs := ap_blk HL.out.own5 hg1
      obtain ⟨c0, c1, c2, c3⟩ : w1.cell? ⟨wr.heap.size, 0, none⟩ = some (.int .i64 l[k].once) ∧ w1.cell? ⟨wr.heap.size, 1, none⟩ = some (.int .i64 l[k].once) ∧ w1.cell? ⟨wr.heap.size, 2, none⟩ = some (.bool l[k].panics) ∧ w1.cell? ⟨wr.heap.size, 3, none⟩ = some (.int .i64 l[k].code) := ⟨hbs.cell 0, hbs.cell 1, hbs.cell 2, hbs.cell 3⟩
      have hsz1 := fb.size
      have F5 := Lib.hid f5
      have F6 := Lib.hid f6
      have FN := Lib.hid fn
      have FB := Lib.hid fb
      clear hown1 hg1 hat1 f5 f6 fn fb hbs s0 s1 s2 s3
      cases he : (l[k].once == n)
      · have R := Lib.hid (ApL_next0 hlt he F5.out F6.out FN.out FB.out)
        go_wp2_with fail
        go_roundw
        case rel => exact ⟨k + 1, by omega, by go_num, R.out⟩
        case measure => simp [intOf]; omega
      · have HE := Lib.hid he
        have R1 := Lib.hid (rd_one (Blk.new w1 30 (stepCells (alone l[k]))))
        go_wp2_with (at_builtin; refine wpList_append_rd rfl (.tmp 32) (.tmp 34) 22 rfl w.heap.size 30 i0 _ 4 32 Try.underlying22 hi0 hz0 hz1 hz2 rfl (by decide) _ (fewOf n (l.take k)).length _ rfl (F6.out.alloc _) _ _ 1 1 (stepRow [alone l[k]]) rfl R1.out (stepRow_one _) (by unfold maxLen; omega) (by omega) (by simp; omega) ?_)
        intro v6' w2 hown2 hg2 hat2
        clear R1
        have R := Lib.hid (ApL_next1 hlt HE.out F5.out F6.out FN.out FB.out hown2 hg2 hat2)
        clear hown2 hg2 hat2
        go_wp2_with fail
        go_roundw
        case rel => exact ⟨k + 1, by omega, by go_num, R.out⟩
        case measure => simp [intOf]; omega
    · obtain rfl : k = l.length := by omega
      obtain ⟨o5, o6, on, ob⟩ := HL.out
      rw [List.take_length] at o5 o6
      obtain ⟨A5, c5, rfl⟩ := own_form o5
      obtain ⟨A6, c6, rfl⟩ := own_form o6
      have O5 := Lib.hid (Rd.of_own o5)
      have O6 := Lib.hid (Rd.of_own o6)
      have OB := Lib.hid ob
      have hfl := fewOf_length n l
      clear o5 o6 on ob HL hk hlt
      go_wp2_with fail
      refine (do_n A5 c5 l.length (allOf l) (allOf_length l) wr O5.out (by omega) (alone_wf HW.out)).mono ?_
      rintro e w3 ⟨v9, rfl, hown9, hb9⟩
      obtain ⟨A9, c9, rfl⟩ := own_form hown9
      have R9 := Lib.hid (Rd.of_own hown9)
      have B9 := Lib.hid hb9
      have O53 := Lib.hid ((O5.out.below hb9).more hb9.size)
      have O63 := Lib.hid ((O6.out.below hb9).more hb9.size)
      clear hown9 hb9 O5 O6
      obtain ⟨j0, hj0, hy0, hy1, hy2⟩ := info_parts info26
      go_wp2_with fail
      go_loopw [10, 47] (fun v i wx => ∃ k : Nat, k ≤ l.length ∧ i = .int .i64 k ∧ ApM w3 l n k v wx) (fun _ i _ => l.length - (intOf i).toNat)
      case atStart => exact ⟨0, Nat.zero_le _, rfl, ApM_start w3 l n⟩
      case round =>
        rename World => wx
        obtain ⟨k, hk, rfl, hL⟩ := hrel
        have HL := Lib.hid hL
        clear hL
        by_cases hlt : k < l.length
        · have hka : k < (allOf l).length := by rw [allOf_length]; exact hlt
          have hkt : k < (doTold fresh (allOf l)).length := by rw [doTold_length]; exact hka
          obtain ⟨b, off, rfl, hb, s0, s1, s2, s3⟩ := (O53.out.below HL.out.below).step hka (allOf_length l)
          have ea : (allOf l)[k] = alone l[k] := by simp [allOf]
          rw [ea] at s0 s1 s2 s3
          simp only [alone] at s0 s1 s2 s3
          obtain ⟨b', off', rfl, hb', t0, t1, t2, t3⟩ := (R9.out.below HL.out.below).told hkt (by rw [doTold_length, allOf_length])
          rw [alone_told l k hlt hkt] at t0 t1 t2 t3
          obtain ⟨T, hT⟩ : ∃ T, T = stepTold (doUsed fresh (allOf (l.take k))) (alone l[k]) := ⟨_, rfl⟩
          rw [← hT] at t0 t1 t2 t3
          have HT := Lib.hid hT
          have hsx := HL.out.below.size
          have hbx : b < wx.heap.size := by omega
          have hbx' : b' < wx.heap.size := by omega
          clear hT ea hka hkt
          cases he : (l[k].once == n)
          · have R := Lib.hid (ApM_next0 (o := .cells (stepCells (alone l[k])) 30) HL.out hlt he)
            go_wp2_with fail
            go_roundw
            case rel => exact ⟨k + 1, by omega, by go_num, R.out⟩
            case measure => simp [intOf]; omega
          · have HE := Lib.hid he
            have hpl := partOf_length n (allOf (l.take k)) (doTold fresh (allOf (l.take k)))
            rw [allOf_length, List.length_take] at hpl
            have hb1 : Blk ((wx.alloc (.cells (stepCells (alone l[k])) 30)).alloc (.cells (toldCells T) 26)) (wx.heap.size + 1) 26 (toldCells T) := by
              have := Blk.new (wx.alloc (.cells (stepCells (alone l[k])) 30)) 26 (toldCells T)
              simp only [World.size_alloc] at this
              exact this
            have R1 := Lib.hid (rd_told hb1)
            clear hb1
            go_wp2_with (at_builtin; refine wpList_append_rd rfl (.tmp 56) (.tmp 61) 23 rfl w3.heap.size 26 j0 _ 4 16 Try.underlying23 hj0 hy0 hy1 hy2 rfl (by decide) _ _ _ rfl ((HL.out.own.alloc _).alloc _) _ _ 1 1 (toldRow [T]) rfl R1.out (toldRow_one _) (by unfold maxLen; omega) (by omega) (by simp; omega) ?_)
            intro v' w2 hown2 hg2 _
            have R := Lib.hid (ApM_next1 HL.out hlt HE.out (by rw [← HT.out]; exact hown2) hg2)
            clear hown2 hg2 R1
            go_wp2_with fail
            go_roundw
            case rel => exact ⟨k + 1, by omega, by go_num, R.out⟩
            case measure => simp [intOf]; omega
        · obtain rfl : k = l.length := by omega
          obtain ⟨op, ob⟩ := HL.out
          rw [List.take_length, apart_told n l fresh fresh rfl, doTold_length] at op
          obtain ⟨A10, c10, rfl⟩ := own_form op
          have RP := Lib.hid (Rd.of_own op)
          have BX := Lib.hid ob
          have R6 := Lib.hid ((O63.out.below ob).more ob.size)
          clear op ob HL hlt hk
          go_wp2_with fail
          refine (do_n A6 c6 (fewOf n l).length (fewOf n l) rfl wx R6.out (by omega) (few_wf HW.out)).mono ?_
          rintro e w4 ⟨v4, rfl, hown4, hb4⟩
          obtain ⟨A4, c4, rfl⟩ := own_form hown4
          have O4 := Lib.hid hown4
          have B4 := Lib.hid hb4
          clear hown4 hb4
          go_wp2_with fail
          refine (same_after (doTold_length _ _) RP.out O4.out B4.out (by omega)).mono ?_
          rintro e w5 ⟨rfl, hb5⟩
          have B5 := Lib.hid hb5
          clear hb5
          go_wp2_with fail
          go_ret
          have hs1 := OB.out.size
          have hs2 := B9.out.size
          have hs3 := BX.out.size
          exact ⟨rfl, ((OB.out.trans (B9.out.mono hs1)).trans (BX.out.mono (by omega))).trans (B5.out.mono (by omega))⟩

set_option maxRecDepth 100000 in
theorem apart_lifted (os : Os) (started : os.Started) (H : Type) (enc : TypeId × Value → H) :
    ReturnsInHanded {} Try.checked os 4 .any (Rows.fnDoApartSpec.pre6 enc Try.prog Try.f4 Rows.fnDoApartRow.domain false) (Rows.fnDoApartSpec.post enc Try.prog Try.f4 false true false false) := by
  refine returnsInHanded_of_change_sized (C := Try.checked) own started (by kernel_rfl) Try.func4
    (ChangeSpec.witness6 (enc := enc) (C := Try.checked) false ⟨#[], #[.slice none 0 0, .int .i64 0], []⟩ 8 (by kernel_rfl) (by kernel_rfl) (by kernel_rfl) (by kernel_rfl)) ?_
  intro W base args ds gs before hval0 hW hcnd hsz0 _
  have hsz : (DataW.weightsEach Try.prog (Try.f4.params.toList ++ Rows.fnDoApartSpec.plain.varTypes Try.prog) (ds ++ gs)).all (· ≤ reachBytes) = true := hsz0
  have hval : ∀ (j : Nat) t v, Try.f4.params[j]? = some t → args[j]? = some v → Value.okWide Try.prog W .any base t v := hval0
  have hW' := hW
  obtain ⟨p, q, hA0, hV, rfl, hfz, hnd⟩ := hW
  have hA : DataW.TrodAll enc Try.prog W 0 (fun _ => true) true Try.f4.params.toList args.toList ds p := hA0
  rw [Try.params4] at hA hval hsz
  obtain ⟨v0, vs0, d0, ds0, p0, q0, hargs, rfl, rfl, h0, r0⟩ := trodAll_cons hA
  obtain ⟨v1, vs1, d1, ds1, p1, q1, rfl, rfl, rfl, h1, r1⟩ := trodAll_cons r0
  obtain ⟨rfl, rfl, rfl⟩ := trodAll_nil r1
  obtain rfl : args = #[v0, v1] := by cases args; simp_all
  obtain ⟨rfl, rfl⟩ := trodVars_none hV
  have k0 := h0
  have lt0 : ∀ x ∈ p0, x.block < W.heap.size := by obtain ⟨m, hm⟩ := k0; exact DataW.trod_lt m _ _ _ hm
  have k1 := h1
  have lt1 : ∀ x ∈ p1, x.block < W.heap.size := by obtain ⟨m, hm⟩ := k1; exact DataW.trod_lt m _ _ _ hm
  obtain ⟨a0, len0, cap0, rfl⟩ := okWide_slice Try.underlying22 (hval 0 22 v0 rfl rfl)
  obtain ⟨l0, hll0, hrd0, hwf0, hx0⟩ : ∃ l : List Step, l.length = len0 ∧ Rd W W.heap.size 4 a0 len0 (stepRow l) ∧ (∀ s ∈ l, StepWf s) ∧ ((d0 = .nil ∧ len0 = 0) ∨ ∃ elems sp, d0 = .slice elems sp ∧ elems.length = len0) := by
    obtain ⟨fuel, hf⟩ := h0
    exact open_steps (x := (d0, p0)) Try.underlying22 Try.underlying30 (by kernel_rfl) cells30 rfl rfl rfl rfl hf
  have hlen0 : l0.length * 32 ≤ 140737488351232 := by
    rcases hx0 with ⟨_, h⟩ | ⟨elems, sp, rfl, h⟩
    · omega
    · have := sized_slice hsz (j := 0) (t := 22) (e := 30) rfl rfl Try.underlying22
      rw [bytes30] at this
      simp only [reachBytes] at this
      omega
  obtain ⟨x1, rfl, rfl, rfl, wx1⟩ := open_int Try.underlying3 (hval 1 3 v1 rfl rfl) h1
  subst hll0
  clear hA0 hval0 hsz0
  refine (apart_walk a0 cap0 l0 x1 W hrd0 hlen0 hwf0 wx1).mono fun e W' ⟨he, bel⟩ => ?_
  subst he
  exact ⟨_, rfl, _, _, _, [], _, [], hW', trodAll_mk1 (shut_bool Try.underlying4 _), (trodAll_cons_mk (Below.trod laidOut (by kernel_rfl) (of_decide_eq_true (by kernel_rfl)) k0 bel lt0) (trodAll_cons_mk (Below.trod laidOut (by kernel_rfl) (of_decide_eq_true (by kernel_rfl)) k1 bel lt1) trodAll_mk0)), rfl, bel.frame _, fun h => by cases h⟩

/-- The statement. -/
theorem apart_holds : Rows.FnDoApartSaid :=
  OpenClaim.holds_of_wide 4 Try.f4 rfl rfl rfl rfl rfl rfl rfl ⟨rfl, rfl, rfl, rfl, rfl⟩ rfl rfl rfl rfl rfl (by kernel_rfl) Try.func4 (by kernel_rfl)
    (of_decide_eq_true (by kernel_rfl)) (by unfold Func.isWrapper; first | (rw [if_pos (by decide +kernel)]; kernel_rfl) | (rw [if_neg (by decide +kernel)]; exact ⟨rfl, rfl⟩))
    (fun os started H enc _ => apart_lifted os started H enc)

end Go.Proofs.Ytpkippcbocmmkaa
