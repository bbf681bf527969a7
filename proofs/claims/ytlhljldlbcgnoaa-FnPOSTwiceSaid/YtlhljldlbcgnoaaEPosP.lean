/- Plain lists of names: each new one behind the others; a name's number is its place. -/
namespace Go.Proofs.Ytlhljldlbcgnoaa.Pos
variable {α : Type} [DecidableEq α]
def step (names : List α) (s : α) : List α := if s ∈ names then names else names ++ [s]
def fold (names : List α) (x : List α) : List α := x.foldl step names
def num (names : List α) (s : α) : Int := (names.idxOf s : Int) + 1
theorem step_pre (names : List α) (s : α) : names <+: step names s := by
  unfold step
  split
  · exact List.prefix_rfl
  · exact List.prefix_append _ _
theorem fold_pre (x : List α) : ∀ names, names <+: fold names x := by
  induction x with
  | nil => intro names; exact List.prefix_rfl
  | cons s x ih => intro names; exact (step_pre names s).trans (ih (step names s))
theorem mem_step (names : List α) (s : α) : s ∈ step names s := by
  unfold step
  split
  · assumption
  · simp
theorem fold_append (names x y : List α) : fold names (x ++ y) = fold (fold names x) y := by simp [fold]
theorem fold_take (names x : List α) (i : Nat) (h : i < x.length) : fold names (x.take (i + 1)) = step (fold names (x.take i)) x[i] := by
  rw [List.take_succ_eq_append_getElem h, fold_append]; rfl
theorem fold_take_pre (names x : List α) (i : Nat) : fold names (x.take i) <+: fold names x := by
  have h : x = x.take i ++ x.drop i := (List.take_append_drop i x).symm
  rw [h, fold_append, ← h]
  exact fold_pre _ _
theorem num_pre {a b : List α} (h : a <+: b) {s : α} (hs : s ∈ a) : num b s = num a s := by
  obtain ⟨c, rfl⟩ := h
  unfold num
  rw [List.idxOf_append, if_pos hs]
theorem mem_fold {names x : List α} {s : α} (hs : s ∈ x) : s ∈ fold names x := by
  induction x generalizing names with
  | nil => cases hs
  | cons t x ih =>
    rcases List.mem_cons.1 hs with rfl | h
    · exact (fold_pre x (step names s)).subset (mem_step names s)
    · exact ih h
theorem of_fold {names x : List α} {s : α} (hs : s ∈ fold names x) : s ∈ names ∨ s ∈ x := by
  induction x generalizing names with
  | nil => exact .inl hs
  | cons t x ih =>
    rcases ih (names := step names t) hs with h | h
    · unfold step at h
      split at h
      · exact .inl h
      · rcases List.mem_append.1 h with h | h
        · exact .inl h
        · rw [List.mem_singleton.1 h]; exact .inr (by simp)
    · exact .inr (List.mem_cons_of_mem _ h)
theorem nodup_step {names : List α} {s : α} (h : names.Nodup) : (step names s).Nodup := by
  unfold step
  split
  · exact h
  · rename_i hn
    rw [List.nodup_append]
    refine ⟨h, by simp, fun a ha b hb => ?_⟩
    rw [List.mem_singleton.1 hb]
    rintro rfl
    exact hn ha
theorem nodup_fold {x : List α} : ∀ {names : List α}, names.Nodup → (fold names x).Nodup := by
  induction x with
  | nil => intro names h; exact h
  | cons s x ih => intro names h; exact ih (nodup_step h)
theorem length_step (names : List α) (s : α) : (step names s).length ≤ names.length + 1 := by
  unfold step; split <;> simp
theorem length_fold (x : List α) : ∀ names, (fold names x).length ≤ names.length + x.length := by
  induction x with
  | nil => intro names; exact Nat.le_refl _
  | cons s x ih => intro names; have := ih (step names s); have := length_step names s; simp [fold] at *; omega
theorem num_old {names : List α} {s : α} (h : s ∈ names) : step names s = names := if_pos h
theorem num_new {names : List α} {s : α} (h : s ∉ names) : num (step names s) s = names.length + 1 := by
  unfold num step
  rw [if_neg h, List.idxOf_append, if_neg h]
  simp
theorem num_first {names : List α} {s : α} {q : Nat} (hq : q < names.length) (he : names[q] = s) (hne : ∀ p, p < q → ∀ h : p < names.length, names[p] ≠ s) : num names s = (q : Int) + 1 := by
  have hmem : s ∈ names := by rw [← he]; exact List.getElem_mem _
  unfold num
  have h1 := List.idxOf_lt_length_iff.2 hmem
  have h2 : names[names.idxOf s] = s := List.getElem_idxOf h1
  have h3 : ¬ names.idxOf s < q := fun hlt => hne _ hlt h1 h2
  have h4 : ¬ q < names.idxOf s := by
    intro hlt
    have := List.not_of_lt_findIdx (xs := names) (p := fun z => z == s) (i := q) hlt
    simp [he] at this
  omega
theorem num_bound (names : List α) (s : α) (n : Nat) (h : names.length ≤ n) : 0 ≤ num names s ∧ num names s ≤ (n : Int) + 1 := by
  unfold num
  have := List.idxOf_le_length (l := names) (a := s)
  omega
theorem get_num {names : List α} {s : α} (h : s ∈ names) : names[names.idxOf s]? = some s := by
  have := List.idxOf_lt_length_iff.2 h
  rw [List.getElem?_eq_getElem this, List.getElem_idxOf]
theorem num_at {names : List α} {s : α} (h : s ∈ names) : ∃ i : Nat, ∃ hi : i < names.length, names[i] = s ∧ num names s = ((i + 1 : Nat) : Int) := by
  have h1 := List.idxOf_lt_length_iff.2 h
  exact ⟨names.idxOf s, h1, List.getElem_idxOf h1, by unfold num; omega⟩
end Go.Proofs.Ytlhljldlbcgnoaa.Pos
