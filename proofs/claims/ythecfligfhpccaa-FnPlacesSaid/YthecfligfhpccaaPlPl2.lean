/- Places, plain: all places of a part; where none runs into the next they are those that FindAllOccs tells. What the map holds at the end. -/
import Derived.Test.YthecfligfhpccaaEPlS
set_option linter.unusedVariables false
namespace Go.Proofs.Ythecfligfhpccaa.Li
open Go.RowKit Go.Proofs.YthecfligfhpccaaW.PrintWords
/-- The places of p ahead of n, downwards. -/
def allPos (s p : List Int) : Nat → List Int
  | 0 => []
  | n + 1 => if at_ s p n then (n : Int) :: allPos s p n else allPos s p n
theorem allPos_succ (s p : List Int) (n : Nat) : allPos s p (n + 1) = if at_ s p n then (n : Int) :: allPos s p n else allPos s p n := rfl
theorem allPos_lt (s p : List Int) : ∀ n, ∀ x ∈ allPos s p n, 0 ≤ x ∧ x < n := by
  intro n
  induction n with
  | zero => intro x hx; simp [allPos] at hx
  | succ n ih =>
    intro x hx
    rw [allPos_succ] at hx
    split at hx
    · rcases List.mem_cons.1 hx with e | e
      · subst e; omega
      · have := ih x e; omega
    · have := ih x hx; omega
theorem at_fit {s p : List Int} {i : Nat} (h : at_ s p i = true) (hp : 1 ≤ p.length) : i + p.length ≤ s.length := by
  unfold at_ at h
  have := congrArg List.length (eq_of_beq h)
  rw [List.length_take, List.length_drop] at this
  omega
theorem at_take {s p : List Int} {i j : Nat} (h : j + p.length ≤ i) (hi : i ≤ s.length) : at_ (s.take i) p j = at_ s p j := by
  unfold at_
  rw [List.drop_take, List.take_take]
  congr 2
  omega
theorem seek_all (s p : List Int) : ∀ n, seek s p n = (allPos s p (n + 1)).head?.getD (-1) := by
  intro n
  induction n with
  | zero => unfold seek; rw [allPos_succ]; split <;> simp [allPos]
  | succ n ih =>
    unfold seek
    rw [ih]
    rw [show allPos s p (n + 1 + 1) = if at_ s p (n + 1) then ((n + 1 : Nat) : Int) :: allPos s p (n + 1) else allPos s p (n + 1) from rfl]
    split <;> simp
theorem seek_take {s p : List Int} {i : Nat} (hi : i ≤ s.length) : ∀ n, n + p.length ≤ i → seek (s.take i) p n = seek s p n := by
  intro n
  induction n with
  | zero => intro h; unfold seek; rw [at_take h hi]
  | succ n ih => intro h; unfold seek; rw [at_take h hi, ih (by omega)]
/-- No place is above the last one that fits. -/
theorem allPos_cut (s p : List Int) (hp : 1 ≤ p.length) (n : Nat) (h : s.length < n + p.length) : ∀ m, n ≤ m → allPos s p m = allPos s p n := by
  intro m
  induction m with
  | zero => intro h2; have : n = 0 := by omega
            rw [this]
  | succ m ih =>
    intro h2
    by_cases e : n = m + 1
    · rw [e]
    · rw [allPos_succ, if_neg (fun g => by have := at_fit g hp; omega), ih (by omega)]
/-- Each place ends where the one behind it begins, or ahead of it. -/
def Apart (n : Nat) (l : List Int) : Prop := l.Pairwise (fun a b : Int => b + (n : Int) ≤ a)
theorem allPos_low (s p : List Int) (m : Nat) : ∀ n, n ≤ m → (∀ x ∈ allPos s p m, x + p.length ≤ n + p.length - 1) → allPos s p m = allPos s p n := by
  induction m with
  | zero => intro n h _; have : n = 0 := by omega
            rw [this]
  | succ m ih =>
    intro n h hx
    by_cases e : n = m + 1
    · rw [e]
    · have hm : at_ s p m = false := by
        cases g : at_ s p m with
        | false => rfl
        | true =>
          have := hx m (by rw [allPos_succ, if_pos g]; exact List.mem_cons_self)
          omega
      have e2 : allPos s p (m + 1) = allPos s p m := by rw [allPos_succ, if_neg (by rw [hm]; simp)]
      rw [e2] at hx ⊢
      exact ih n (by omega) hx
theorem occ_all (s p : List Int) (hp : 1 ≤ p.length) : ∀ (f i : Nat), i ≤ s.length → i < f → (∀ x ∈ allPos s p i, x + p.length ≤ i) → Apart p.length (allPos s p i) → occ s p f i = allPos s p i := by
  intro f
  induction f with
  | zero => intro i _ h; omega
  | succ f ih =>
    intro i hi hf hx hA
    have hl : (s.take i).length = i := by rw [List.length_take]; omega
    have hlast : lastIx (s.take i) p = (allPos s p i).head?.getD (-1) := by
      unfold lastIx
      rw [hl]
      by_cases hlt : i < p.length
      · rw [if_pos hlt]
        cases h : allPos s p i with
        | nil => rfl
        | cons a l =>
          have h1 := hx a (by rw [h]; exact List.mem_cons_self)
          have h2 := allPos_lt s p i a (by rw [h]; exact List.mem_cons_self)
          omega
      · rw [if_neg hlt, seek_take hi _ (by omega), seek_all, ← allPos_low s p i (i - p.length + 1) (by omega) (fun x h => by have := hx x h; omega)]
    simp only [occ]
    rw [hlast]
    cases h : allPos s p i with
    | nil => simp
    | cons a l =>
      have hm : a ∈ allPos s p i := by rw [h]; exact List.mem_cons_self
      have h1 := hx a hm
      have h2 := allPos_lt s p i a hm
      obtain ⟨n, rfl⟩ : ∃ n : Nat, a = (n : Int) := ⟨a.toNat, by omega⟩
      have hn : allPos s p i = (n : Int) :: allPos s p n := by
        have h3 : allPos s p i = allPos s p (n + 1) := by
          refine allPos_low s p i (n + 1) (by omega) (fun x hxm => ?_)
          rw [h] at hxm
          have hA := hA
          rw [h] at hA
          unfold Apart at hA
          rcases List.mem_cons.1 hxm with e | e
          · subst e; omega
          · have := (List.pairwise_cons.1 hA).1 x e; omega
        rw [h3]
        rw [allPos_succ]
        by_cases g : at_ s p n = true
        · rw [if_pos g]
        · exfalso
          rw [h3] at hm
          rw [allPos_succ, if_neg g] at hm
          have := allPos_lt s p n _ hm
          omega
      rw [hn] at h
      injection h with _ h
      rw [← h]
      rw [hn] at hA
      unfold Apart at hA
      have hA2 := List.pairwise_cons.1 hA
      have hd1 : ((n : Int) :: allPos s p n).head?.getD (-1) = (n : Int) := rfl
      rw [hd1, if_neg (by omega), Int.toNat_natCast, ih n (by omega) (by omega) (fun x hxm => hA2.1 x hxm) hA2.2]
/-- Where no place runs into the next, FindAllOccs tells all. -/
theorem occs_all (s p : List Int) (hp : 1 ≤ p.length) (N : Nat) (hN : s.length < N + p.length) (hA : Apart p.length (allPos s p N)) : occs s p = allPos s p N := by
  have hfit : ∀ m, ∀ x ∈ allPos s p m, x + p.length ≤ s.length := by
    intro m
    induction m with
    | zero => intro x hx; simp [allPos] at hx
    | succ m ih =>
      intro x hx
      rw [allPos_succ] at hx
      split at hx
      · rename_i g
        rcases List.mem_cons.1 hx with e | e
        · subst e; have := at_fit g hp; omega
        · exact ih x e
      · exact ih x hx
  have h1 : allPos s p s.length = allPos s p N := by
    by_cases h : N ≤ s.length
    · exact allPos_cut s p hp N hN _ h
    · refine (allPos_low s p N s.length (by omega) (fun x hx => ?_)).symm
      have := hfit N x hx
      omega
  unfold occs
  rw [occ_all s p hp (s.length + 1) s.length (Nat.le_refl _) (by omega) (hfit _) (by rw [h1]; exact hA), h1]
/-! ### What the map holds -/
theorem putM_new {β : Type} : ∀ (D : List (ByteArray × β)) (k : ByteArray) (v : β), k ∉ D.map (·.1) → putM D k v = D ++ [(k, v)]
  | [], _, _, _ => rfl
  | p :: D, k, v, h => by
    simp only [List.map_cons, List.mem_cons, not_or] at h
    unfold putM
    rw [if_neg (fun e => h.1 e.symm), putM_new D k v h.2]
    rfl
theorem getM_new {β : Type} : ∀ (D : List (ByteArray × β)) (k : ByteArray), k ∉ D.map (·.1) → getM D k = none
  | [], _, _ => rfl
  | p :: D, k, h => by
    simp only [List.map_cons, List.mem_cons, not_or] at h
    unfold getM
    rw [if_neg (fun e => h.1 e.symm), getM_new D k h.2]
theorem getM_last {β : Type} : ∀ (D : List (ByteArray × β)) (k : ByteArray) (v : β), k ∉ D.map (·.1) → getM (D ++ [(k, v)]) k = some v
  | [], k, v, _ => by simp [getM]
  | p :: D, k, v, h => by
    simp only [List.map_cons, List.mem_cons, not_or] at h
    show getM (p :: (D ++ [(k, v)])) k = _
    unfold getM
    rw [if_neg (fun e => h.1 e.symm), getM_last D k v h.2]
theorem putM_last {β : Type} : ∀ (D : List (ByteArray × β)) (k : ByteArray) (v u : β), k ∉ D.map (·.1) → putM (D ++ [(k, v)]) k u = D ++ [(k, u)]
  | [], k, v, u, _ => by simp [putM]
  | p :: D, k, v, u, h => by
    simp only [List.map_cons, List.mem_cons, not_or] at h
    show putM (p :: (D ++ [(k, v)])) k u = _
    unfold putM
    rw [if_neg (fun e => h.1 e.symm), putM_last D k v u h.2]
    rfl
theorem addAll_last (D : List (ByteArray × List Int)) (k : ByteArray) (h : k ∉ D.map (·.1)) : ∀ (ms l : List Int), addAll (D ++ [(k, l)]) k ms = D ++ [(k, l ++ ms)]
  | [], l => by simp [addAll]
  | m :: ms, l => by
    show addAll (addM (D ++ [(k, l)]) k m) k ms = _
    unfold addM
    rw [getM_last D k l h, putM_last D k l _ h]
    simp only [Option.getD_some]
    rw [addAll_last D k h ms (l ++ [m])]
    simp
theorem addAll_new (D : List (ByteArray × List Int)) (k : ByteArray) (h : k ∉ D.map (·.1)) (ms : List Int) : addAll D k ms = if ms = [] then D else D ++ [(k, ms)] := by
  cases ms with
  | nil => rfl
  | cons m ms =>
    rw [if_neg (by simp)]
    show addAll (addM D k m) k ms = _
    unfold addM
    rw [getM_new D k h, putM_new D k _ h]
    simp only [Option.getD_none, List.nil_append]
    rw [addAll_last D k h ms [m]]
    rfl
/-- The parts that stand in the text, each with its places. -/
def found (s : List Int) (kw : List ByteArray) : List (ByteArray × List Int) := (kw.filter fun p => !(occs s (bytesOf p)).isEmpty).map fun p => (p, occs s (bytesOf p))
theorem found_keys (s : List Int) (kw : List ByteArray) : (found s kw).map (·.1) = kw.filter fun p => !(occs s (bytesOf p)).isEmpty := by
  unfold found
  rw [List.map_map]
  have : ((fun x : ByteArray × List Int => x.1) ∘ fun p => (p, occs s (bytesOf p))) = id := rfl
  rw [this, List.map_id]
theorem foldM_found (s : List Int) (kw : List ByteArray) (hd : kw.Nodup) : foldM s kw = found s kw := by
  have key : ∀ (l pre : List ByteArray), (pre ++ l).Nodup → l.foldl (fun D p => addAll D p (occs s (bytesOf p))) (found s pre) = found s (pre ++ l) := by
    intro l
    induction l with
    | nil => intro pre _; simp
    | cons p l ih =>
      intro pre h
      rw [List.foldl_cons]
      have hnot : p ∉ (found s pre).map (·.1) := by
        rw [found_keys]
        intro hm
        have hm2 := (List.mem_filter.1 hm).1
        rw [List.nodup_append] at h
        exact h.2.2 p hm2 p List.mem_cons_self rfl
      rw [addAll_new _ _ hnot]
      have e : (if occs s (bytesOf p) = [] then found s pre else found s pre ++ [(p, occs s (bytesOf p))]) = found s (pre ++ [p]) := by
        unfold found
        rw [List.filter_append, List.map_append]
        by_cases g : occs s (bytesOf p) = []
        · rw [if_pos g]; simp [g]
        · rw [if_neg g]
          have : (occs s (bytesOf p)).isEmpty = false := by cases hh : occs s (bytesOf p) with
            | nil => exact absurd hh g
            | cons a l => rfl
          simp [this]
      rw [e, ih (pre ++ [p]) (by simpa using h)]
      simp
  have := key kw [] (by simpa using hd)
  simpa [foldM, found] using this
theorem getM_found (s : List Int) (p : ByteArray) : ∀ (kw : List ByteArray), p ∈ kw → (getM (found s kw) p).getD [] = occs s (bytesOf p)
  | [], h => by cases h
  | q :: kw, h => by
    unfold found
    rw [List.filter_cons]
    by_cases e : q = p
    · subst e
      by_cases g : occs s (bytesOf q) = []
      · rw [if_neg (by simp [g])]
        by_cases hm : q ∈ kw
        · exact getM_found s q kw hm
        · rw [show List.map (fun p => (p, occs s (bytesOf p))) (kw.filter fun p => !(occs s (bytesOf p)).isEmpty) = found s kw from rfl, getM_new _ _ (by rw [found_keys]; exact fun hq => hm (List.mem_filter.1 hq).1), g]
          rfl
      · have : (occs s (bytesOf q)).isEmpty = false := by cases hh : occs s (bytesOf q) with
          | nil => exact absurd hh g
          | cons a l => rfl
        rw [if_pos (by simp [this])]
        simp [getM]
    · have hm : p ∈ kw := by rcases List.mem_cons.1 h with a | a; exact absurd a.symm e; exact a
      have ih := getM_found s p kw hm
      unfold found at ih
      by_cases g : (!(occs s (bytesOf q)).isEmpty) = true
      · rw [if_pos g]
        rw [List.map_cons]
        unfold getM
        rw [if_neg e]
        exact ih
      · rw [if_neg g]; exact ih
end Go.Proofs.Ythecfligfhpccaa.Li
