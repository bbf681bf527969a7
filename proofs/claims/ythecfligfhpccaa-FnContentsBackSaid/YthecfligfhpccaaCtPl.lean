/- Plain words on contents: a text cut at a byte; rows joined and cut again. -/
import Derived.Test.YthecfligfhpccaaECtA
import Derived.Test.YthecfligfhpccaaECtB
import Derived.Test.YthecfligfhpccaaXFits
set_option linter.unusedVariables false
namespace Go.Proofs.Ythecfligfhpccaa.X
open Go.RowKit Go.Proofs.YthecfligfhpccaaW.PrintWords Go.Proofs.YthecfligfhpccaaW.PrintLast Go.Proofs.YthecfligfhpccaaW.PrintMore Go.Proofs.Ythecfligfhpccaa.P

def splitL (c : UInt8) : List UInt8 → List (List UInt8)
  | [] => [[]]
  | x :: xs => if x = c then [] :: splitL c xs else match splitL c xs with
    | [] => [[x]]
    | y :: ys => (x :: y) :: ys
theorem split_none (c : UInt8) (a : List UInt8) (h : c ∉ a) : splitL c a = [a] := by
  induction a with
  | nil => rfl
  | cons x a ih =>
    have h1 : x ≠ c := fun e => h (by rw [e]; simp)
    have h2 : c ∉ a := fun e => h (List.mem_cons_of_mem _ e)
    simp only [splitL, if_neg h1, ih h2]
theorem split_at (c : UInt8) (a b : List UInt8) (h : c ∉ a) : splitL c (a ++ c :: b) = a :: splitL c b := by
  induction a with
  | nil => simp [splitL]
  | cons x a ih =>
    have h1 : x ≠ c := fun e => h (by rw [e]; simp)
    have h2 : c ∉ a := fun e => h (List.mem_cons_of_mem _ e)
    simp only [List.cons_append, splitL, if_neg h1, ih h2]
theorem join_two (x y : List UInt8) (r : List (List UInt8)) (c : UInt8) : Lib.join (x :: y :: r) [c] = x ++ c :: Lib.join (y :: r) [c] := by
  simp [Lib.join_cons, Lib.joinTail]
theorem split_join (c : UInt8) (xs : List (List UInt8)) (hx : xs ≠ []) (h : ∀ x ∈ xs, c ∉ x) : splitL c (Lib.join xs [c]) = xs := by
  induction xs with
  | nil => exact absurd rfl hx
  | cons x xs ih =>
    cases xs with
    | nil => rw [Lib.join_one]; exact split_none c x (h x (by simp))
    | cons y r =>
      rw [join_two, split_at c x _ (h x (by simp)), ih (by simp) (fun z hz => h z (List.mem_cons_of_mem _ hz))]
def mk (l : List UInt8) : ByteArray := ⟨l.toArray⟩
theorem mk_data (s : ByteArray) : mk s.data.toList = s := by unfold mk; simp
theorem mk_list (l : List UInt8) : (mk l).data.toList = l := by unfold mk; simp
theorem toList_data (s : ByteArray) : s.toList = s.data.toList := ByteArray.toList_eq s
theorem ext_list (s : ByteArray) (a b : Nat) : (s.extract a b).data.toList = (s.data.toList.drop a).take (b - a) := by
  rw [ByteArray.data_extract, Array.toList_extract]
theorem list_size (s : ByteArray) : s.data.toList.length = s.size := by rw [Array.length_toList]; rfl
/-- The first place of a byte. -/
theorem index_l0 (c : UInt8) (s : ByteArray) (hs : s.size ≤ 2147483647) (d : Nat) : ∀ i : Nat, i + d = s.size → ∃ r : Int, Ev (fun k => dict_zzIndex.l0 k s (⟨#[c]⟩ : ByteArray) (i : Int)) r ∧ ((r = -1 ∧ c ∉ s.data.toList.drop i) ∨ ∃ t : Nat, i ≤ t ∧ t < s.size ∧ r = t ∧ s.data.toList[t]? = some c ∧ c ∉ (s.data.toList.drop i).take (t - i)) := by
  have h1 : (((⟨#[c]⟩ : ByteArray).size : Nat) : Int) = 1 := rfl
  induction d with
  | zero =>
    intro i hi
    refine ⟨-1, ev1 0 fun k _ => ?_, .inl ⟨rfl, ?_⟩⟩
    · simp only [dict_zzIndex.l0]
      rw [h1, wr1 (by omega) (by omega), if_neg (by omega)]
    · rw [List.drop_eq_nil_of_le (by rw [list_size]; omega)]; simp
  | succ d ih =>
    intro i hi
    obtain ⟨r, ⟨K, hK⟩, hr⟩ := ih (i + 1) (by omega)
    have hlt : i < s.data.toList.length := by rw [list_size]; omega
    have hx : (s.extract i (i + 1)).toList = [s.data.toList[i]] := by
      rw [toList_data, ext_list, show i + 1 - i = 1 by omega, List.drop_eq_getElem_cons hlt]; rfl
    have hc : (⟨#[c]⟩ : ByteArray).toList = [c] := by rw [toList_data]
    by_cases he : s.data.toList[i] = c
    · refine ⟨i, ev1 0 fun k _ => ?_, .inr ⟨i, Nat.le_refl _, by omega, rfl, ?_, by simp⟩⟩
      · simp only [dict_zzIndex.l0]
        rw [h1, wr1 (by omega) (by omega), if_pos (by omega), if_pos (by omega), if_pos (by omega), if_pos (by
          rw [show ((i : Int) + 1).toNat = i + 1 by omega, Int.toNat_natCast, hx, hc, he])]
      · rw [List.getElem?_eq_getElem hlt, he]
    · refine ⟨r, ev1 K fun k hk => ?_, ?_⟩
      · simp only [dict_zzIndex.l0]
        rw [h1, wr1 (by omega) (by omega), if_pos (by omega), if_pos (by omega), if_pos (by omega), if_neg (by
          rw [show ((i : Int) + 1).toNat = i + 1 by omega, Int.toNat_natCast, hx, hc]
          simpa using he)]
        exact hK k hk
      · rw [List.drop_eq_getElem_cons hlt]
        rcases hr with ⟨h2, h3⟩ | ⟨t, h2, h3, h4, h5, h6⟩
        · exact .inl ⟨h2, fun hm => by
            rcases List.mem_cons.1 hm with e | hm
            · exact he e.symm
            · exact h3 hm⟩
        · refine .inr ⟨t, by omega, h3, h4, h5, ?_⟩
          rw [show t - i = (t - (i + 1)) + 1 by omega, List.take_succ_cons]
          intro hm
          rcases List.mem_cons.1 hm with e | hm
          · exact he e.symm
          · exact h6 hm
theorem index_ev (c : UInt8) (s : ByteArray) (hs : s.size ≤ 2147483647) : ∃ r : Int, Ev (fun k => dict_zzIndex.f k s (⟨#[c]⟩ : ByteArray)) r ∧ ((r = -1 ∧ c ∉ s.data.toList) ∨ ∃ t : Nat, t < s.size ∧ r = t ∧ s.data.toList[t]? = some c ∧ c ∉ s.data.toList.take t) := by
  obtain ⟨r, h, hr⟩ := index_l0 c s hs s.size 0 (by omega)
  refine ⟨r, h, ?_⟩
  rcases hr with ⟨h2, h3⟩ | ⟨t, _, h3, h4, h5, h6⟩
  · exact .inl ⟨h2, by simpa using h3⟩
  · exact .inr ⟨t, h3, h4, h5, by simpa using h6⟩
/-- A text cut at a byte. -/
theorem split_l1 (c : UInt8) (n : Nat) : ∀ (s : ByteArray) (acc : List ByteArray), s.size ≤ n → n ≤ 2147483647 → acc.length + n ≤ 4294967294 → Ev (fun k => dict_zzSplit.l1 k s (⟨#[c]⟩ : ByteArray) acc) (acc ++ (splitL c s.data.toList).map mk) := by
  induction n with
  | zero =>
    intro s acc hs hn ha
    obtain ⟨r, ⟨K, hK⟩, hr⟩ := index_ev c s (by omega)
    rcases hr with ⟨h2, h3⟩ | ⟨t, h3, _⟩
    · refine ev1 K fun k hk => ?_
      have := hK k hk
      dsimp only at this
      simp only [dict_zzSplit.l1]
      rw [this]
      simp only [Option.bind_some]
      rw [if_pos (by omega), if_pos (by omega), split_none c _ h3]
      simp [mk_data]
    · omega
  | succ n ih =>
    intro s acc hs hn ha
    have h1 : (((⟨#[c]⟩ : ByteArray).size : Nat) : Int) = 1 := rfl
    obtain ⟨r, ⟨K, hK⟩, hr⟩ := index_ev c s (by omega)
    rcases hr with ⟨h2, h3⟩ | ⟨t, h3, h4, h5, h6⟩
    · refine ev1 K fun k hk => ?_
      have := hK k hk
      dsimp only at this
      simp only [dict_zzSplit.l1]
      rw [this]
      simp only [Option.bind_some]
      rw [if_pos (by omega), if_pos (by omega), split_none c _ h3]
      simp [mk_data]
    · have hlen := list_size s
      have hsz : (s.extract (t + 1) s.size).size = s.size - (t + 1) := by
        rw [← list_size, ext_list, List.length_take, List.length_drop, hlen]; omega
      obtain ⟨K2, hK2⟩ := ih (s.extract (t + 1) s.size) (acc ++ [s.extract 0 t]) (by omega) (by omega) (by simp; omega)
      have hlist : s.data.toList = s.data.toList.take t ++ c :: s.data.toList.drop (t + 1) := by
        have hlt : t < s.data.toList.length := by omega
        have : s.data.toList[t] = c := by rw [List.getElem?_eq_getElem hlt] at h5; injection h5
        rw [← this, ← List.drop_eq_getElem_cons hlt, List.take_append_drop]
      have hr : (s.extract (t + 1) s.size).data.toList = s.data.toList.drop (t + 1) := by
        rw [ext_list, List.take_of_length_le (by rw [List.length_drop]; omega)]
      have hl : s.extract 0 t = mk (s.data.toList.take t) := by
        rw [← mk_data (s.extract 0 t), ext_list]; simp
      refine ev1 (max K K2) fun k hk => ?_
      have e1 := hK k (by omega)
      have e2 := hK2 k (by omega)
      dsimp only at e1 e2
      simp only [dict_zzSplit.l1]
      rw [e1, h4]
      simp only [Option.bind_some]
      rw [if_neg (by omega), if_pos (by omega), if_pos (by omega), if_pos (by omega), h1, wr1 (by omega) (by omega), if_pos (by omega), if_pos (by omega), show ((t : Int) + 1).toNat = t + 1 by omega, Int.toNat_natCast, e2, hr, hl]
      conv => rhs; rw [hlist]
      rw [split_at c _ _ h6]
      simp
theorem split_ev (c : UInt8) (s : ByteArray) (hs : s.size ≤ 2147483647) : Ev (fun k => dict_zzSplit.f k s (⟨#[c]⟩ : ByteArray)) ((splitL c s.data.toList).map mk) := by
  obtain ⟨K, hK⟩ := split_l1 c s.size s [] (Nat.le_refl _) hs (by simp; omega)
  refine ⟨K, fun k hk => ?_⟩
  have h1 : ¬ (((⟨#[c]⟩ : ByteArray).size : Nat) : Int) = 0 := fun h => by have h2 : (1 : Int) = 0 := h; omega
  simp only [dict_zzSplit.f]
  rw [if_neg (by exact h1)]
  simpa using hK k hk
end Go.Proofs.Ythecfligfhpccaa.X
