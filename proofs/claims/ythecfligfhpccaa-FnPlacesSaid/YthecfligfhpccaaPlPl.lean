/- FindAllOccs, plain: the places of a part from a text's end on, without overlaps; what the map holds. -/
import Derived.Test.YthecfligfhpccaaLiPl
set_option linter.unusedVariables false
namespace Go.Proofs.Ythecfligfhpccaa.Li
open Go.RowKit Go.Proofs.YthecfligfhpccaaW.PrintWords
/-- The places of p in s ahead of i, from there downwards, one not running into the next. -/
def occ (s p : List Int) : Nat → Nat → List Int
  | 0, _ => []
  | f + 1, i => if lastIx (s.take i) p = -1 then [] else lastIx (s.take i) p :: occ s p f (lastIx (s.take i) p).toNat
def occs (s p : List Int) : List Int := occ s p (s.length + 1) s.length
theorem seek_range (s p : List Int) : ∀ i : Nat, seek s p i = -1 ∨ (0 ≤ seek s p i ∧ seek s p i ≤ i ∧ at_ s p (seek s p i).toNat = true) := by
  intro i
  induction i with
  | zero =>
    unfold seek
    by_cases h : at_ s p 0 = true
    · rw [if_pos h]; exact .inr ⟨by omega, by omega, h⟩
    · rw [if_neg h]; exact .inl rfl
  | succ i ih =>
    unfold seek
    by_cases h : at_ s p (i + 1) = true
    · rw [if_pos h]; exact .inr ⟨by omega, by omega, by rw [Int.toNat_natCast]; exact h⟩
    · rw [if_neg h]
      rcases ih with ih | ⟨h1, h2, h3⟩
      · exact .inl ih
      · exact .inr ⟨h1, by omega, h3⟩
/-- The last place lies so far ahead of the end that p has room behind it. -/
theorem lastIx_range (s p : List Int) : lastIx s p = -1 ∨ (0 ≤ lastIx s p ∧ lastIx s p + p.length ≤ s.length ∧ at_ s p (lastIx s p).toNat = true) := by
  unfold lastIx
  by_cases h : s.length < p.length
  · rw [if_pos h]; exact .inl rfl
  · rw [if_neg h]
    rcases seek_range s p (s.length - p.length) with g | ⟨g1, g2, g3⟩
    · exact .inl g
    · exact .inr ⟨g1, by omega, g3⟩
/-- Enough rounds are enough. -/
theorem occ_enough (s p : List Int) (hp : 1 ≤ p.length) : ∀ (f i : Nat), i < f → i ≤ s.length → occ s p f i = occ s p (s.length + 1) i := by
  have key : ∀ (f g i : Nat), i < f → i < g → i ≤ s.length → occ s p f i = occ s p g i := by
    intro f
    induction f with
    | zero => intro g i h; omega
    | succ f ih =>
      intro g i hf hg hi
      obtain ⟨g', rfl⟩ : ∃ g', g = g' + 1 := ⟨g - 1, by omega⟩
      simp only [occ]
      rcases lastIx_range (s.take i) p with h | ⟨h1, h2, _⟩
      · rw [if_pos h, if_pos h]
      · rw [if_neg (by omega), if_neg (by omega)]
        rw [List.length_take] at h2
        rw [ih g' (lastIx (s.take i) p).toNat (by omega) (by omega) (by omega)]
  intro f i h hi
  exact key f (s.length + 1) i h (by omega) hi
end Go.Proofs.Ythecfligfhpccaa.Li
namespace Go.Proofs.Ythecfligfhpccaa.Li
/-! ### What the map holds -/
def getM {β : Type} : List (ByteArray × β) → ByteArray → Option β
  | [], _ => none
  | p :: D, k => if p.1 = k then some p.2 else getM D k
def putM {β : Type} : List (ByteArray × β) → ByteArray → β → List (ByteArray × β)
  | [], k, v => [(k, v)]
  | p :: D, k, v => if p.1 = k then (k, v) :: D else p :: putM D k v
theorem getM_putM {β : Type} (D : List (ByteArray × β)) (k k' : ByteArray) (v : β) : getM (putM D k v) k' = if k' = k then some v else getM D k' := by
  induction D with
  | nil =>
    unfold putM getM getM
    by_cases e : k' = k
    · subst e; simp
    · rw [if_neg e, if_neg (fun g => e g.symm)]
  | cons p D ih =>
    unfold putM
    by_cases e : p.1 = k
    · rw [if_pos e]
      unfold getM
      by_cases e2 : k' = k
      · subst e2; simp
      · rw [if_neg e2, if_neg (fun g => e2 g.symm), if_neg (fun g => e2 (by rw [← g, e]))]
    · rw [if_neg e]
      unfold getM
      by_cases e2 : p.1 = k'
      · rw [if_pos e2, if_pos e2, if_neg (fun g => e (by rw [e2, g]))]
      · rw [if_neg e2, if_neg e2, ih]
theorem putM_keys {β γ : Type} : ∀ (D : List (ByteArray × β)) (E : List (ByteArray × γ)) (k : ByteArray) (v : β) (u : γ), D.map (·.1) = E.map (·.1) → (putM D k v).map (·.1) = (putM E k u).map (·.1)
  | [], [], _, _, _, _ => rfl
  | [], _ :: _, _, _, _, h => by cases h
  | _ :: _, [], _, _, _, h => by cases h
  | p :: D, q :: E, k, v, u, h => by
    simp only [List.map_cons, List.cons.injEq] at h
    unfold putM
    rw [h.1]
    by_cases e : q.1 = k
    · rw [if_pos e, if_pos e]; simp [h.2]
    · rw [if_neg e, if_neg e]; simp [h.1, putM_keys D E k v u h.2]
/-- One more place of p. -/
def addM (D : List (ByteArray × List Int)) (p : ByteArray) (m : Int) : List (ByteArray × List Int) := putM D p ((getM D p).getD [] ++ [m])
/-- The places of p, one by one. -/
def addAll (D : List (ByteArray × List Int)) (p : ByteArray) (ms : List Int) : List (ByteArray × List Int) := ms.foldl (fun D m => addM D p m) D
theorem getM_addAll (p k : ByteArray) : ∀ (ms : List Int) (D : List (ByteArray × List Int)), getM (addAll D p ms) k = if k = p ∧ ms ≠ [] then some ((getM D p).getD [] ++ ms) else getM D k
  | [], D => by simp [addAll]
  | m :: ms, D => by
    have h := getM_addAll p k ms (addM D p m)
    show getM (addAll (addM D p m) p ms) k = _
    rw [h]
    unfold addM
    by_cases e : k = p
    · subst e
      by_cases e2 : ms = []
      · subst e2; simp [getM_putM]
      · simp [getM_putM, e2]
    · simp [e, getM_putM]
end Go.Proofs.Ythecfligfhpccaa.Li
