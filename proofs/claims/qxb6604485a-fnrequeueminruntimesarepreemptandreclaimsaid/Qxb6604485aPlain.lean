import Derived.Test.Qxb6604485aSort
namespace Go.Proofs.Qxb6604485a
open Go.RowKit
set_option linter.unusedVariables false

/-! ### the plain mathematics: no Go in sight -/
/-- one round of ascending's loop -/
def step (out : List Int) (x : Int) : List Int := if out.getLast? = some x then out else out ++ [x]
def dd (l : List Int) : List Int := l.foldl step []
def Asc (l : List Int) : Prop := l.Pairwise (· < ·)
def Srt (l : List Int) : Prop := l.Pairwise (· ≤ ·)

theorem step_length (out : List Int) (x : Int) : (step out x).length ≤ out.length + 1 := by unfold step; split <;> simp
theorem step_ne (out : List Int) (x : Int) : step out x ≠ [] := by
  unfold step
  split
  · intro h; subst h; simp at *
  · simp
theorem dd_snoc (l : List Int) (x : Int) : dd (l ++ [x]) = step (dd l) x := by simp [dd]
theorem dd_take_succ (l : List Int) (k : Nat) (h : k < l.length) : dd (l.take (k + 1)) = step (dd (l.take k)) (l.getD k 0) := by
  rw [List.take_succ_eq_append_getElem h, dd_snoc]
  simp [h]
theorem fold_length (l out : List Int) : (l.foldl step out).length ≤ out.length + l.length := by
  induction l generalizing out with
  | nil => simp
  | cons x r ih =>
    have h1 := ih (step out x)
    have h2 := step_length out x
    simp only [List.foldl_cons, List.length_cons]
    omega
theorem dd_length (l : List Int) : (dd l).length ≤ l.length := by
  have := fold_length l []
  simp only [List.length_nil, Nat.zero_add] at this
  exact this
theorem dd_take_pos (l : List Int) (k : Nat) (h : k < l.length) (hk : 0 < k) : 0 < (dd (l.take k)).length := by
  obtain ⟨j, rfl⟩ : ∃ j, k = j + 1 := ⟨k - 1, by omega⟩
  rw [dd_take_succ l j (by omega)]
  exact List.length_pos_iff.2 (step_ne _ _)
theorem asc_last {out : List Int} {y : Int} (h : Asc out) (hl : out.getLast? = some y) : ∀ a ∈ out, a ≤ y := by
  obtain ⟨o, rfl⟩ := List.getLast?_eq_some_iff.1 hl
  intro a ha
  rw [List.mem_append] at ha
  rcases ha with ha | ha
  · exact Int.le_of_lt ((List.pairwise_append.1 h).2.2 a ha y (by simp))
  · simp at ha; omega
theorem step_asc {out : List Int} {x : Int} (h : Asc out) (hx : ∀ a ∈ out, a ≤ x) : Asc (step out x) := by
  unfold step
  split
  · exact h
  · rename_i hne
    refine List.pairwise_append.2 ⟨h, List.pairwise_singleton _ _, fun a ha b hb => ?_⟩
    simp at hb
    subst hb
    cases hl : out.getLast? with
    | none => rw [List.getLast?_eq_none_iff] at hl; subst hl; simp at ha
    | some y =>
      have h1 := asc_last h hl a ha
      have h2 := hx y (List.mem_of_getLast? hl)
      have h3 : y ≠ b := fun e => hne (by rw [hl, e])
      omega
theorem step_mem (out : List Int) (x a : Int) : a ∈ step out x ↔ a ∈ out ∨ a = x := by
  unfold step
  split
  · rename_i h
    constructor
    · exact Or.inl
    · rintro (h1 | rfl)
      · exact h1
      · exact List.mem_of_getLast? h
  · simp
theorem fold_spec (l : List Int) : ∀ out : List Int, Asc out → Srt l → (∀ a ∈ out, ∀ b ∈ l, a ≤ b) → Asc (l.foldl step out) ∧ ∀ a, a ∈ l.foldl step out ↔ a ∈ out ∨ a ∈ l := by
  induction l with
  | nil => intro out h _ _; exact ⟨h, by simp⟩
  | cons x r ih =>
    intro out h hs hb
    have hs' := List.pairwise_cons.1 hs
    have := ih (step out x) (step_asc h fun a ha => hb a ha x (by simp)) hs'.2 (fun a ha b hb' => by
      rcases (step_mem out x a).1 ha with h1 | rfl
      · exact hb a h1 b (by simp [hb'])
      · exact hs'.1 b hb')
    refine ⟨this.1, fun a => ?_⟩
    rw [List.foldl_cons, this.2 a, step_mem]
    simp [or_assoc]
theorem dd_asc {l : List Int} (h : Srt l) : Asc (dd l) := (fold_spec l [] List.Pairwise.nil h (by simp)).1
theorem dd_mem {l : List Int} (h : Srt l) (a : Int) : a ∈ dd l ↔ a ∈ l := by simpa [dd] using (fold_spec l [] List.Pairwise.nil h (by simp)).2 a

/-- the sorted list -/
def srt (l : List Int) : List Int := l.mergeSort fun x y => decide (x ≤ y)
theorem srt_srt (l : List Int) : Srt (srt l) := by
  have := List.pairwise_mergeSort (le := fun x y : Int => decide (x ≤ y)) (fun a b c h1 h2 => by simp at *; omega) (fun a b => by simp; omega) l
  unfold Srt
  simpa [srt] using this
theorem srt_perm (l : List Int) : (srt l).Perm l := List.mergeSort_perm l _
theorem srt_length (l : List Int) : (srt l).length = l.length := (srt_perm l).length_eq
theorem srt_mem (l : List Int) (a : Int) : a ∈ srt l ↔ a ∈ l := (srt_perm l).mem_iff
theorem srt_one (l : List Int) (h : l.length ≤ 1) : srt l = l := by
  match l, h with
  | [], _ => simp [srt]
  | [x], _ => simp [srt]
  | x :: y :: r, h => simp at h
/-- what ascending hands back -/
def asc (l : List Int) : List Int := dd (srt l)
theorem asc_asc (l : List Int) : Asc (asc l) := dd_asc (srt_srt l)
theorem asc_mem (l : List Int) (a : Int) : a ∈ asc l ↔ a ∈ l := by rw [asc, dd_mem (srt_srt l), srt_mem]
theorem asc_length (l : List Int) : (asc l).length ≤ l.length := by
  have := dd_length (srt l)
  rw [srt_length] at this
  exact this
/-- two strictly ascending lists of the same numbers are one -/
theorem asc_ext : ∀ {l m : List Int}, Asc l → Asc m → (∀ a, a ∈ l ↔ a ∈ m) → l = m
  | [], [], _, _, _ => rfl
  | [], y :: s, _, _, h => by have := (h y).2 (by simp); simp at this
  | x :: r, [], _, _, h => by have := (h x).1 (by simp); simp at this
  | x :: r, y :: s, h1, h2, h => by
    have a1 := List.pairwise_cons.1 h1
    have a2 := List.pairwise_cons.1 h2
    have exy : x = y := by
      rcases List.mem_cons.1 ((h x).1 (by simp)) with e | e
      · exact e
      · rcases List.mem_cons.1 ((h y).2 (by simp)) with e' | e'
        · exact e'.symm
        · have := a1.1 y e'; have := a2.1 x e; omega
    subst exy
    congr 1
    refine asc_ext a1.2 a2.2 fun a => ⟨fun ha => ?_, fun ha => ?_⟩
    · rcases List.mem_cons.1 ((h a).1 (by simp [ha])) with e | e
      · have := a1.1 a ha; omega
      · exact e
    · rcases List.mem_cons.1 ((h a).2 (by simp [ha])) with e | e
      · have := a2.1 a ha; omega
      · exact e
end Go.Proofs.Qxb6604485a
