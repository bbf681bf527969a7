/- The parts of a text, plain: one behind the other they are the text, but for the letters' case; none is empty. -/
import Derived.Test.YthecfligfhpccaaDoorPaPl
set_option linter.unusedVariables false
namespace Go.Proofs.YthecfligfhpccaaDoor.Pa
open Go.RowKit Go.Lib
def lo (s : ByteArray) : List UInt8 := s.data.toList.map lowB
theorem lowB_lowB (c : UInt8) : lowB (lowB c) = lowB c := by
  have h1 := lowB_toNat c
  have h2 := lowB_toNat (lowB c)
  rw [h1] at h2
  apply UInt8.toNat_inj.1
  have h3 : lowI (lowI (c.toNat : Int)) = lowI (c.toNat : Int) := by
    unfold lowI
    by_cases h : 65 ≤ (c.toNat : Int) ∧ (c.toNat : Int) ≤ 90
    · rw [if_pos h, if_neg (by omega)]
    · rw [if_neg h, if_neg h]
  omega
theorem lo_low (s : ByteArray) : lo (low s) = lo s := by
  unfold lo low
  simp only [Array.toList_map, List.map_map]
  apply List.map_congr_left
  intro c _
  exact lowB_lowB c
theorem lo_ext (s : ByteArray) (i j : Nat) : lo (s.extract i j) = ((s.data.toList.drop i).take (j - i)).map lowB := by
  unfold lo
  rw [ByteArray.data_extract, Array.toList_extract, List.extract_eq_take_drop]
def los : List ByteArray → List UInt8
  | [] => []
  | p :: l => lo p ++ los l
theorem drop_cut {α : Type} (l : List α) (i j : Nat) (h : i ≤ j) : (l.drop i).take (j - i) ++ l.drop j = l.drop i := by
  have : l.drop j = (l.drop i).drop (j - i) := by rw [List.drop_drop]; congr 1; omega
  rw [this, List.take_append_drop]
theorem go_join (s : ByteArray) (o : Opt) : ∀ (k cur st : Nat) (run : Bool), cur ≤ s.size → s.size < cur + k → st ≤ cur → (run = true → cur = 0 ∨ st < cur) →
    los (go s o k cur st run) = (s.data.toList.drop (if run && !o.each then st else cur)).map lowB ∧ ∀ p ∈ go s o k cur st run, 1 ≤ p.size := by
  have hz : s.size = s.data.toList.length := by rw [Array.length_toList]; rfl
  have cutL : ∀ i j, i ≤ j → lo (s.extract i j) ++ (s.data.toList.drop j).map lowB = (s.data.toList.drop i).map lowB := fun i j h => by
    rw [lo_ext, ← List.map_append, drop_cut _ _ _ h]
  have hsz : ∀ i j, i < j → j ≤ s.size → 1 ≤ (s.extract i j).size := fun i j h hj => by rw [ByteArray.size_extract]; omega
  intro k
  induction k with
  | zero => intro cur st run h1 h2; omega
  | succ k ih =>
    intro cur st run h1 h2 h3 h4
    unfold go
    by_cases hlt : cur < s.size
    · have d1 := sg_pos s cur hlt
      have d2 := sg_le s cur hlt
      rw [if_pos hlt]
      obtain ⟨n, hn⟩ : ∃ n, n = (sg s cur).2 := ⟨_, rfl⟩
      rw [← hn] at d1 d2 ⊢
      by_cases hk : stk o (sg s cur) = true
      · rw [if_pos hk]
        cases he : o.each with
        | true =>
          rw [if_pos rfl]
          obtain ⟨i1, i2⟩ := ih (cur + n) (if run then st else cur) true d2 (by omega) (by split <;> omega) (fun _ => by split <;> omega)
          rw [he] at i1
          simp only [Bool.not_true, Bool.and_false, Bool.false_eq_true, if_false] at i1 ⊢
          refine ⟨?_, fun p hp => ?_⟩
          · show lo (low _) ++ los _ = _
            rw [lo_low, i1, cutL _ _ (by omega)]
          · rcases List.mem_cons.1 hp with rfl | hp
            · rw [low_size]; exact hsz _ _ (by omega) d2
            · exact i2 p hp
        | false =>
          rw [if_neg (by simp)]
          obtain ⟨i1, i2⟩ := ih (cur + n) (if run then st else cur) true d2 (by omega) (by split <;> omega) (fun _ => by split <;> omega)
          rw [he] at i1
          simp only [Bool.not_false, Bool.and_true, if_true] at i1 ⊢
          exact ⟨i1, i2⟩
      · rw [if_neg hk]
        obtain ⟨i1, i2⟩ := ih (cur + n) st false d2 (by omega) (by omega) (fun h => by cases h)
        simp only [Bool.false_and, Bool.false_eq_true, if_false] at i1
        by_cases hc : (run && (decide (cur ≠ 0) && !o.each)) = true
        · rw [if_pos hc]
          simp only [Bool.and_eq_true, decide_eq_true_eq, Bool.not_eq_true'] at hc
          obtain ⟨hr, hc0, he⟩ := hc
          have hst := h4 hr
          rw [hr, he]
          simp only [Bool.not_false, Bool.and_true, if_true]
          refine ⟨?_, fun p hp => ?_⟩
          · show lo (low _) ++ (lo _ ++ los _) = _
            rw [lo_low, i1, cutL _ _ (by omega), cutL _ _ (by omega)]
          · simp only [List.mem_cons] at hp
            rcases hp with rfl | rfl | hp
            · rw [low_size]; exact hsz _ _ (by omega) (by omega)
            · exact hsz _ _ (by omega) d2
            · exact i2 p hp
        · rw [if_neg hc]
          have hse : (if (run && !o.each) = true then st else cur) = cur := by
            split
            · rename_i hq
              simp only [Bool.and_eq_true, Bool.not_eq_true'] at hq
              have : ¬ cur ≠ 0 := fun h => hc (by rw [hq.1, hq.2]; simp [h])
              omega
            · rfl
          rw [hse]
          refine ⟨?_, fun p hp => ?_⟩
          · show lo _ ++ los _ = _
            rw [i1, cutL _ _ (by omega)]
          · simp only [List.mem_cons] at hp
            rcases hp with rfl | hp
            · exact hsz _ _ (by omega) d2
            · exact i2 p hp
    · rw [if_neg hlt]
      have hcs : cur = s.size := by omega
      have hd : s.data.toList.drop cur = [] := List.drop_eq_nil_of_le (by omega)
      by_cases hq : (run && !o.each) = true
      · rw [if_pos hq, if_pos hq]
        simp only [Bool.and_eq_true, Bool.not_eq_true'] at hq
        have hst := h4 hq.1
        by_cases hc0 : cur ≠ 0
        · rw [if_pos hc0]
          refine ⟨?_, fun p hp => ?_⟩
          · show lo (low _) ++ [] = _
            have := cutL st cur h3
            rw [hd] at this
            rw [lo_low, List.append_nil]
            simpa using this
          · rw [List.mem_singleton.1 hp, low_size]
            exact hsz _ _ (by omega) h1
        · rw [if_neg hc0]
          refine ⟨?_, fun p hp => by cases hp⟩
          have : s.data.toList.drop st = [] := List.drop_eq_nil_of_le (by omega)
          rw [this]
          rfl
      · rw [if_neg hq, if_neg hq, hd]
        exact ⟨rfl, fun p hp => by cases hp⟩
theorem parts_join (s : ByteArray) (o : Opt) : los (parts s o) = lo s ∧ ∀ p ∈ parts s o, 1 ≤ p.size := by
  have := go_join s o (s.size + 1) 0 0 true (Nat.zero_le _) (by omega) (Nat.le_refl _) (fun _ => .inl rfl)
  refine ⟨?_, this.2⟩
  rw [show los (parts s o) = los (go s o (s.size + 1) 0 0 true) from rfl, this.1]
  split <;> rfl
end Go.Proofs.YthecfligfhpccaaDoor.Pa
