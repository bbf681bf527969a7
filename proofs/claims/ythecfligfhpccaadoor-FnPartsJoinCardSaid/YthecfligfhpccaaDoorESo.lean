/- sort.Strings over rows of texts; between rows of cells and the print's kinds; append of a whole row. -/
import Derived.Test.YthecfligfhpccaaDoorMGn
import Derived.Test.YthecfligfhpccaaDoorP0
import Derived.Test.YthecfligfhpccaaDoorShelf
set_option linter.unusedVariables false
namespace Go.Proofs.YthecfligfhpccaaDoor.Da
def Srt (kw : List ByteArray) : Prop := kw.Pairwise (fun a b => a.data.toList ≤ b.data.toList)
end Go.Proofs.YthecfligfhpccaaDoor.Da
namespace Go.Proofs.YthecfligfhpccaaDoor.Gn
open Go.RowKit Go.Sort Go.Proofs.YthecfligfhpccaaDoorW.PrintWords
def toB (l : List UInt8) : ByteArray := ⟨l.toArray⟩
theorem toB_toL (s : ByteArray) : toB s.data.toList = s := by cases s; simp [toB]
theorem sort_any (w : World) (g c : Nat) (kw : List ByteArray) (h : ORow w 9 (.slice (some ⟨g, 0, none⟩) kw.length c) (kw.map Value.string)) (hl : kw.length < 1000000) :
    Calls Tryd.prog 24 #[.slice (some ⟨g, 0, none⟩) kw.length c] w fun e w' => e = .returned (.tuple #[]) ∧ ∃ ks : List ByteArray, ks.Perm kw ∧ Da.Srt ks ∧ ORow w' 9 (.slice (some ⟨g, 0, none⟩) ks.length c) (ks.map Value.string) ∧ Chg [g] w w' := by
  obtain ⟨ss, hss⟩ : ∃ ss : List (List UInt8), ss = kw.map (fun s => s.data.toList) := ⟨_, rfl⟩
  have hlen : ss.length = kw.length := by rw [hss, List.length_map]
  rcases h.parts with ⟨h1, _⟩ | ⟨g2, cap, cur, h1, h2, h3, h4, h5, h6⟩
  · cases h1
  injection h1 with h1 h7 h8
  injection h1 with h1
  injection h1 with h1
  subst h1
  subst h8
  have hcell : ∀ j, j < kw.length → cur[j]? = some (Value.string (kw.getD j ⟨#[]⟩)) := fun j hj => by
    have : (cur.toList.take (kw.map Value.string).length)[j]? = some (Value.string (kw.getD j ⟨#[]⟩)) := by
      rw [h6, List.getElem?_map, List.getElem?_eq_getElem hj, List.getD_eq_getElem?_getD, List.getElem?_eq_getElem hj]; rfl
    rw [List.getElem?_take, if_pos (by simpa using hj)] at this
    simpa using this
  have hH : Holds encStr w g 0 ss.toArray := fun j hj => by
    have hj' : j < kw.length := by simpa [hlen] using hj
    refine ⟨?_, by simp [World.frozen?, h2]⟩
    rw [Nat.zero_add]
    have : w.cell? ⟨g, j, none⟩ = cur[j]? := by simp [World.cell?, h2]
    rw [this, hcell j hj']
    have e : ss.toArray[j]! = (kw.getD j ⟨#[]⟩).data.toList := by
      have hj2 : j < ss.length := by omega
      rw [getElem!_pos ss.toArray j (by simpa using hj2)]
      simp only [hss, List.getElem_toArray, List.getElem_map]
      rw [List.getD_eq_getElem?_getD, List.getElem?_eq_getElem hj']; rfl
    rw [e]
  have hc := Tryd.sort_Strings g 0 c ss w hH (Array.getElem?_eq_some_iff.1 h2).1 (by omega)
  rw [hlen] at hc
  refine hc.mono ?_
  rintro e w' ⟨rfl, n, os, rfl⟩
  obtain ⟨ms, hms⟩ : ∃ ms, ms = ss.mergeSort (fun x y => decide (x ≤ y)) := ⟨_, rfl⟩
  rw [← hms]
  have hperm : ms.Perm ss := by rw [hms]; exact List.mergeSort_perm _ _
  have hmlen : ms.length = kw.length := by rw [hperm.length_eq, hlen]
  refine ⟨rfl, ms.map toB, ?_, ?_, ?_, ?_⟩
  · have := hperm.map toB
    rw [hss, List.map_map] at this
    have e : (toB ∘ fun s : ByteArray => s.data.toList) = id := by funext s; exact toB_toL s
    rwa [e, List.map_id] at this
  · have hs := List.pairwise_mergeSort (le := fun x y : List UInt8 => decide (x ≤ y)) (fun a b c h1 h2 => by simp only [decide_eq_true_eq] at *; exact Std.le_trans h1 h2) (fun a b => by simp only [Bool.or_eq_true, decide_eq_true_eq]; exact Std.le_total) ss
    rw [← hms] at hs
    unfold Da.Srt
    rw [List.pairwise_map]
    exact hs.imp (fun h => by simpa [toB] using h)
  · have hb : (grow (putRow encStr (Sort.ahead w n) g 0 ms.toArray) os).heap[g]? = some (.cells (putCells encStr 0 ms.toArray cur) 9 (0, 0)) := by
      have hlt := (Array.getElem?_eq_some_iff.1 h2).1
      have h3' := (Array.getElem?_eq_some_iff.1 h2).2
      show ((w.heap.modify g (onCells (putCells encStr 0 ms.toArray))) ++ os)[g]? = _
      rw [Array.getElem?_append_left (by simpa using hlt), Array.getElem?_eq_getElem (by simpa using hlt), Array.getElem_modify_self, h3']
      rfl
    have hl2 : (ms.map toB).length = (kw.map Value.string).length := by simp [hmlen]
    have e1 : ((ms.map toB).map Value.string).length = (ms.map toB).length := by simp
    rw [← e1]
    refine ORow.of hb (by rw [e1, hl2]; exact h3) h4 (by simp [putCells, h5]) ?_
    apply List.ext_getElem?
    intro j
    rw [List.getElem?_take]
    by_cases hj : j < ms.length
    · rw [if_pos (by simpa using hj)]
      have hjc : j < cur.size := by rw [h5]; simp at h3; omega
      simp only [putCells, Array.getElem?_toList, Array.getElem?_mapIdx, Array.getElem?_eq_getElem hjc, Option.map_some]
      rw [if_pos ⟨Nat.zero_le _, by simpa using hj⟩]
      rw [List.getElem?_map, List.getElem?_map, List.getElem?_eq_getElem hj]
      simp only [Nat.sub_zero]
      rw [getElem!_pos ms.toArray j (by simpa using hj)]
      rfl
    · rw [if_neg (by simpa using hj), List.getElem?_eq_none (by simpa using hj)]
  · refine ⟨rfl, rfl, rfl, ?_, fun k hk hs => ?_⟩
    · show w.heap.size ≤ ((w.heap.modify g (onCells (putCells encStr 0 ms.toArray))) ++ os).size
      simp
    · show ((w.heap.modify g (onCells (putCells encStr 0 ms.toArray))) ++ os)[k]? = w.heap[k]?
      have hkg : g ≠ k := fun e => hs (by simp [e])
      rw [Array.getElem?_append_left (by simpa using hk), Array.getElem?_modify, if_neg hkg]
end Go.Proofs.YthecfligfhpccaaDoor.Gn
namespace Go.Proofs.YthecfligfhpccaaDoor.Gn
open Go.RowKit Go.Proofs.YthecfligfhpccaaDoorW.PrintWords Go.Proofs.YthecfligfhpccaaDoorW.PrintLast Go.Proofs.YthecfligfhpccaaDoorW.PrintMore
theorem R_of_row {α : Type} {enc : α → Value} {h1 : ∀ x, (enc x).oneCell' = true} {w : World} {e base : Nat} {ok : Nat → Prop} {v : Value} {xs : List α} (h : ORow w e v (xs.map enc)) (hb : ∀ g, v.ownBlock = some g → base ≤ g ∧ ok g) : (Kd.scalar enc h1).R e w base ok v xs := by
  refine ⟨fun k hk => (hb k hk).2, xs.map enc, ?_, ?_⟩
  · rcases h.parts with ⟨h2, h3⟩ | ⟨g, cap, cur, h2, h3, h4, h5, h6, h7⟩
    · have : xs = [] := by simpa using h3
      subst this
      exact ⟨rfl, .inl ⟨h2, rfl⟩⟩
    · refine ⟨(show (xs.map enc).length = xs.length * 1 by simp), .inr ⟨g, cap, cur, by simpa using h2, (hb g (by rw [h2]; rfl)).1, h3, by simpa using h4, h5, ?_, ?_⟩⟩
      · show cur.size = cap * 1
        omega
      · show cur.toList.take (xs.length * 1) = _
        simpa using h7
  · refine ⟨(show (xs.map enc).length = xs.length * 1 by simp), fun j p hj => ?_⟩
    show ((xs.map enc).drop (j * 1)).take 1 = [enc p]
    obtain ⟨hj1, hj2⟩ := List.getElem?_eq_some_iff.1 hj
    rw [Nat.mul_one, List.drop_eq_getElem_cons (by simpa using hj1)]
    simp [hj2]
theorem row_of_R {α : Type} {enc : α → Value} {h1 : ∀ x, (enc x).oneCell' = true} {w : World} {e base : Nat} {ok : Nat → Prop} {v : Value} {xs : List α} (h : (Kd.scalar enc h1).R e w base ok v xs) : ORow w e v (xs.map enc) := by
  obtain ⟨_, cs, h2, h3, h4⟩ := h
  have hcs : cs = xs.map enc := by
    apply List.ext_getElem?
    intro j
    have hl : cs.length = xs.length * 1 := h3
    by_cases hj : j < xs.length
    · have := h4 j xs[j] (List.getElem?_eq_getElem hj)
      have this : (cs.drop (j * 1)).take 1 = [enc xs[j]] := this
      rw [Nat.mul_one, List.drop_eq_getElem_cons (by omega)] at this
      simp only [List.take_succ_cons, List.take_zero, List.cons.injEq, and_true] at this
      rw [List.getElem?_eq_getElem (by omega), this, List.getElem?_map, List.getElem?_eq_getElem hj]
      rfl
    · rw [List.getElem?_eq_none (by omega), List.getElem?_eq_none (by simpa using hj)]
  subst hcs
  obtain ⟨a1, a2⟩ := h2
  refine ⟨by simp, ?_⟩
  rcases a2 with ⟨a2, a3⟩ | ⟨g, cap, cur, a2, a3, a4, a5, a6, a7, a8⟩
  · exact .inl ⟨a2, by simpa using a3⟩
  · have a8 : cur.toList.take (xs.length * 1) = xs.map enc := a8
    have a7 : cur.size = cap * 1 := a7
    exact .inr ⟨g, cap, cur, by simpa using a2, Nat.zero_le _, a4, by simpa using a5, a6, a7, by simpa using a8⟩

theorem run_append_none {P : Program} {w : World} {e t ty : TypeId} {v : Value} {xs : List Value} (hown : ORow w e v xs) {i : TypeInfo} (ht : P.underlying t = some (.slice e)) (hi : P.info? e = some i) (c : Nat) : (Builtin.append_ #[t, t] ty #[v, .slice none 0 c]).run P w = .ok v w := by
  rcases hown.parts with ⟨rfl, rfl⟩ | ⟨g, cap, cur, rfl, h2, h3, h4, h5, h6⟩
  · simp [Builtin.append_, run_underlying ht, sizeOf, typeInfo, hi, Builtin.lenOf, Builtin.firstCells]
  · simp [Builtin.append_, run_underlying ht, sizeOf, typeInfo, hi, Builtin.lenOf, Builtin.firstCells, h3, storeCells]
/-- 'append(s, x...)' where x is a row of its own, empty or nil too. -/
theorem wpList_appendRow {P : Program} {w : World} {ops : Array Oper} {rest : List Oper} {o : Oper} {a : Act} {Q : Exit → Act → World → Prop} (hgd : o.guard = none) (s x : Operand) (t : TypeId)
    (ho : o.op = .call { callee := .builtin .append, args := #[s, x], argTypes := #[t, t] })
    (e : TypeId) (z : Value) (bytes : Nat) (ht : P.underlying t = some (.slice e)) (hi : (P.info? e).map (fun i => (i.zero, i.size, i.bytes)) = some (some z, 1, bytes)) (hzs : z.cells.size = 1)
    (v : Value) (xs : List Value) (hs : a.eval s = v) (hown : ORow w e v xs) (e2 : TypeId) (u : Value) (ys : List Value) (hx : a.eval x = u) (hU : ORow w e2 u ys) (h1 : ∀ y ∈ ys, y.oneCell' = true)
    (hl : (xs.length + ys.length) * bytes ≤ 140737488355328) (hl2 : xs.length + ys.length ≤ maxLen)
    (h : ∀ v' w', ORow w' e v' (xs ++ ys) → Chg v.ownBlock.toList w w' → (v'.ownBlock = v.ownBlock ∨ v'.ownBlock = some w.heap.size) → wpList P ops Q rest (a.put o.dst v') w') :
    wpList P ops Q (o :: rest) a w := by
  obtain ⟨i, hi1, hi2, hi3, hi4⟩ := info_parts hi
  rcases hU.parts with ⟨rfl, rfl⟩ | ⟨g, cap, cur, rfl, h2, h3, h4, h5, h6⟩
  · refine wpList_plain hgd fun K hK => ?_
    have hr := run_append_none (P := P) (ty := o.type) hown ht hi1 0
    unfold Oper.wp
    simp [execOp, ho, resolve, invoke, builtin, hs, hx, hr, Result.andThen]
    exact hK _ _ (h v w (by simpa using hown) (Chg.refl _ _) (.inl rfl))
  · refine wpList_append_own_at w hgd s x t ho 0 e i z 1 bytes ht hi1 hi2 hi3 hi4 hzs (by omega) v xs.length xs hs hown ⟨g, 0, none⟩ ys.length cap ys hx (by simp) (fun j y hj => ?_) h1 hl2 hl (Nat.zero_le _) ?_
    · obtain ⟨hj1, hj2⟩ := List.getElem?_eq_some_iff.1 hj
      have := hU.cell j hj1
      unfold Addr.add
      by_cases hz : j = 0
      · subst hz; rw [if_pos rfl]; rw [this, hj2]
      · rw [if_neg hz]; simp only [Nat.zero_add]; rw [this, hj2]
    · intro v' w' h2 h3 _ h5
      exact h v' w' (by unfold ORow; simpa using h2) (grownBy_chg h3) h5
theorem ORow.made0 (w : World) (e : Nat) : ORow (w.alloc (.cells #[] e)) e (.slice (some ⟨w.heap.size, 0, none⟩) 0 0) [] :=
  ORow.of (xs := []) (cap := 0) (heap_alloc_new _ _) (Nat.le_refl _) (by unfold maxLen; omega) rfl rfl
end Go.Proofs.YthecfligfhpccaaDoor.Gn
