/- Plain words on contents: what is written is read again. -/
import Derived.Test.YthecfligfhpccaaCtPl
set_option linter.unusedVariables false
namespace Go.Proofs.Ythecfligfhpccaa.X
open Go.RowKit Go.Proofs.YthecfligfhpccaaW.PrintWords Go.Proofs.YthecfligfhpccaaW.PrintLast Go.Proofs.YthecfligfhpccaaW.PrintMore Go.Proofs.Ythecfligfhpccaa.P

def rowOf (s : ByteArray) : List ByteArray := (splitL 7 s.data.toList).map mk
theorem rows_l0 (x15 : List ByteArray) (hn : x15.length ≤ 2147483647) (hx : ∀ s ∈ x15, s.size ≤ 2147483647) (d : Nat) : ∀ (i : Nat) (x5 : List (List ByteArray)), i + d = x15.length → x5 = (x15.take i).map rowOf ++ List.replicate d [] → Ev (fun k => dict_NewContents.l0 k x5 x15 (x15.length : Int) (i : Int)) (x15.map rowOf) := by
  induction d with
  | zero =>
    intro i x5 hi h5
    refine ev1 0 fun k _ => ?_
    simp only [dict_NewContents.l0]
    rw [if_neg (by omega), h5, List.take_of_length_le (by omega)]
    simp
  | succ d ih =>
    intro i x5 hi h5
    have hlt : i < x15.length := by omega
    have hr := rdOf_nat ByteArray.empty x15 i hlt
    obtain ⟨K, hK⟩ := split_ev 7 x15[i] (hx _ (List.getElem_mem hlt))
    obtain ⟨K2, hK2⟩ := ih (i + 1) (x5.set i (rowOf x15[i])) (by omega) (by
      rw [h5, List.set_append_right _ _ (by simp; omega), List.take_succ_eq_append_getElem hlt, List.map_append]
      have : i - ((x15.take i).map rowOf).length = 0 := by simp; omega
      rw [this]
      simp [List.replicate_succ])
    have hl5 : x5.length = x15.length := by rw [h5]; simp; omega
    refine ev1 (max K K2) fun k hk => ?_
    have e1 := hK k (by omega)
    have e2 := hK2 k (by omega)
    dsimp only at e1 e2
    simp only [dict_NewContents.l0]
    rw [if_pos (by omega), if_pos (by omega), if_pos (by omega), hr, e1]
    simp only [Option.bind_some]
    rw [if_pos (by omega), wr1 (by omega) (by omega), Int.toNat_natCast]
    exact e2
theorem mem_join (c a : UInt8) (xs : List (List UInt8)) (h : a ∈ Lib.join xs [c]) : a = c ∨ ∃ x ∈ xs, a ∈ x := by
  induction xs with
  | nil => simp [Lib.join_nil] at h
  | cons x xs ih =>
    cases xs with
    | nil => rw [Lib.join_one] at h; exact .inr ⟨x, by simp, h⟩
    | cons y r =>
      rw [join_two] at h
      rcases List.mem_append.1 h with h | h
      · exact .inr ⟨x, by simp, h⟩
      · rcases List.mem_cons.1 h with h | h
        · exact .inl h
        · rcases ih h with h | ⟨z, hz, h⟩
          · exact .inl h
          · exact .inr ⟨z, List.mem_cons_of_mem _ hz, h⟩
theorem join_len (c : UInt8) (M : Nat) (xs : List (List UInt8)) (h : ∀ x ∈ xs, x.length ≤ M) : (Lib.join xs [c]).length ≤ xs.length * (M + 1) := by
  induction xs with
  | nil => simp [Lib.join_nil]
  | cons x xs ih =>
    have h1 := h x (by simp)
    have h2 := ih (fun y hy => h y (List.mem_cons_of_mem _ hy))
    cases xs with
    | nil => rw [Lib.join_one]; simp; omega
    | cons y r =>
      rw [join_two, List.length_append, List.length_cons]
      simp only [List.length_cons, Nat.succ_mul] at h2 ⊢
      omega
theorem rowB_join (x : List ByteArray) : rowB x = Lib.join (x.map (·.data.toList)) [7] := by
  unfold rowB joined BEL
  simp
theorem textB_cons (x y : List ByteArray) (r : List (List ByteArray)) : textB (x :: y :: r) = rowB x ++ 10 :: textB (y :: r) := by
  unfold textB partB
  have h1 : (x :: y :: r).length - 1 = (y :: r).length - 1 + 1 := by simp
  have h2 : rd_L1 (x :: y :: r) (((x :: y :: r).length : Int) - 1) = rd_L1 (y :: r) (((y :: r).length : Int) - 1) := by
    unfold rd_L1
    have : ((((x :: y :: r).length : Nat) : Int) - 1).toNat = ((((y :: r).length : Nat) : Int) - 1).toNat + 1 := by simp only [List.length_cons]; omega
    rw [this]
    simp
  rw [h1, h2, List.take_succ_cons]
  simp
theorem textB_join (l : List (List ByteArray)) (h : l ≠ []) : textB l = Lib.join (l.map rowB) [10] := by
  induction l with
  | nil => exact absurd rfl h
  | cons x l ih =>
    cases l with
    | nil => simp [textB, partB, rd_L1, Lib.join_one]
    | cons y r =>
      rw [textB_cons, ih (by simp)]
      simp only [List.map_cons]
      rw [join_two]
/-- A string with neither of the two signs. -/
def noSep (s : ByteArray) : Prop := (10 : UInt8) ∉ s.data.toList ∧ (7 : UInt8) ∉ s.data.toList
theorem contents_ev (l : List (List ByteArray)) (hok : textOk l) (h : ∀ x ∈ l, x ≠ [] ∧ ∀ s ∈ x, noSep s) : Ev (fun k => impl_ContentsOf.f k (⟨(textB l).toArray⟩ : ByteArray)) l := by
  obtain ⟨h2, h10, hx⟩ := hok
  have hne : l ≠ [] := by intro e; rw [e] at h2; simp at h2
  have hrow : ∀ x ∈ l, (10 : UInt8) ∉ rowB x := fun x hxl hm => by
    rw [rowB_join] at hm
    rcases mem_join _ _ _ hm with h1 | ⟨y, hy, h1⟩
    · exact absurd h1 (by decide)
    · obtain ⟨s, hs, rfl⟩ := List.mem_map.1 hy
      exact ((h x hxl).2 s hs).1 h1
  have hsplit : splitL 10 (textB l) = l.map rowB := by
    rw [textB_join l hne]
    exact split_join 10 _ (by simpa using hne) (fun x hx => by
      obtain ⟨y, hy, rfl⟩ := List.mem_map.1 hx
      exact hrow y hy)
  have htl : (textB l).length ≤ 10 * 1000002 := by
    have h3 := partB_length l 1000000 (fun x hm => (hx x hm).2) (l.length - 1)
    have h4 : (rowB (rd_L1 l ((l.length : Int) - 1))).length ≤ 1000000 := by
      rw [rowB_length]
      refine (hx _ ?_).2
      have : ((l.length : Int) - 1).toNat = l.length - 1 := by omega
      have hn : l.length - 1 < l.length := by omega
      simp [rd_L1, this, hn]
    unfold textB
    rw [List.length_append]
    have : (l.length - 1) * (1000000 + 1) ≤ 9 * (1000000 + 1) := Nat.mul_le_mul_right _ (by omega)
    omega
  have hsz : (⟨(textB l).toArray⟩ : ByteArray).size = (textB l).length := by simp [ByteArray.size]
  have hback : (l.map (fun x => mk (rowB x))).map rowOf = l := by
    rw [List.map_map]
    conv => rhs; rw [← List.map_id l]
    refine List.map_congr_left fun x hxl => ?_
    obtain ⟨hxn, hxs⟩ := h x hxl
    simp only [Function.comp, rowOf, mk_list, id]
    rw [rowB_join, split_join 7 _ (by simpa using hxn) (fun y hy => by
      obtain ⟨s, hs, rfl⟩ := List.mem_map.1 hy
      exact (hxs s hs).2), List.map_map]
    conv => rhs; rw [← List.map_id x]
    exact List.map_congr_left fun s _ => mk_data s
  have hm2 : ((splitL 10 (⟨(textB l).toArray⟩ : ByteArray).data.toList).map mk) = l.map (fun x => mk (rowB x)) := by
    show (splitL 10 (textB l).toArray.toList).map mk = _
    rw [List.toList_toArray, hsplit, List.map_map]
    rfl
  obtain ⟨K1, hK1⟩ := split_ev 10 (⟨(textB l).toArray⟩ : ByteArray) (by omega)
  obtain ⟨K2, hK2⟩ := rows_l0 (l.map (fun x => mk (rowB x))) (by simp; omega) (fun s hs => by
    obtain ⟨x, hxl, rfl⟩ := List.mem_map.1 hs
    rw [← list_size, mk_list, rowB_length]
    have := (hx x hxl).2
    omega) (l.map (fun x => mk (rowB x))).length 0 (List.replicate (l.map (fun x => mk (rowB x))).length []) (by omega) (by simp)
  refine ⟨max K1 K2, fun k hk => ?_⟩
  have e1 := hK1 k (by omega)
  have e2 := hK2 k (by omega)
  dsimp only at e1 e2
  simp only [impl_ContentsOf.f]
  rw [if_pos (by omega)]
  simp only [dict_NewContents.f]
  rw [strOf_byteInts, e1, hm2]
  simp only [Option.bind_some]
  rw [if_pos (by omega), if_pos (by simp; omega), Int.toNat_natCast]
  rw [hback] at e2
  exact e2
end Go.Proofs.Ythecfligfhpccaa.X
