/- Raw maps whose entries know when they were laid: updates, and 'range' over one. -/
import Derived.Test.YthecfligfhpccaaMGn
import Derived.Maps.RangeRun
set_option linter.unusedVariables false
namespace Go.Proofs.Ythecfligfhpccaa.Gn
open Go.RowKit Go.Instr
section
variable {α : Type}
/-- Block r is a map with these keys and values, each entry laid at a time of its own, ahead of now. -/
def MapB (w : World) (r : Nat) (enc : α → Value) (S : List (α × Value)) : Prop :=
  ∃ es c, w.heap[r]? = some (.map es c) ∧ es.toList.map kv = S.map (fun p => (enc p.1, p.2)) ∧ (∀ x ∈ es.toList, x.born < c) ∧ (es.toList.map (·.born)).Nodup
theorem MapB.at {w : World} {r : Nat} {enc : α → Value} {S : List (α × Value)} (h : MapB w r enc S) : MapAt w r enc S := by
  obtain ⟨es, c, h1, h2, _⟩ := h
  exact ⟨es, c, h1, h2⟩
theorem MapB.lt {w : World} {r : Nat} {enc : α → Value} {S : List (α × Value)} (h : MapB w r enc S) : r < w.heap.size := h.at.lt
theorem MapB.chg {T : List Nat} {w w' : World} {r : Nat} {enc : α → Value} {S : List (α × Value)} (h : MapB w r enc S) (hc : Chg T w w') (hs : r ∉ T) : MapB w' r enc S := by
  obtain ⟨es, c, h1, h2⟩ := h
  exact ⟨es, c, (hc.block r (Array.getElem?_eq_some_iff.1 h1).1 hs).trans h1, h2⟩
theorem MapB.new (w : World) (enc : α → Value) : MapB (w.alloc (.map #[] 0)) w.heap.size enc [] := ⟨#[], 0, heap_alloc_new _ _, rfl, by simp, by simp⟩
variable [DecidableEq α]
theorem run_mapUpdateB {P : Program} {w : World} {r : Nat} {enc : α → Value} {S : List (α × Value)} (h : MapB w r enc S) {t kt et : TypeId} (K : KeyOk P kt enc) (ht : P.underlying t = some (.map kt et)) (k : α) (v : Value) :
    ∃ w', (mapUpdate t (.map (some r)) (enc k) v).run P w = .ok () w' ∧ MapB w' r enc (putL S k v) ∧ Chg [r] w w' ∧ w'.heap.size = w.heap.size := by
  obtain ⟨es, c, h1, h2, hb1, hb2⟩ := h
  obtain ⟨d, hd1, hd2⟩ := K.same
  obtain ⟨f, f1, f2⟩ := find_spec (P := P) (kt := kt) hd2 k v es.toList S 0 h2
  have hlt := (Array.getElem?_eq_some_iff.1 h1).1
  have hgo : (getObj r).run P w = .ok (.map es c) w := by simp [getObj, Sem.run, h1]
  have hset : ∀ o, (setObj r o).run P w = .ok () { w with heap := w.heap.setIfInBounds r o } := fun o => by simp [setObj, Sem.run, h1]
  have hchg : ∀ o, Chg [r] w { w with heap := w.heap.setIfInBounds r o } := fun o => ⟨rfl, rfl, rfl, by simp, fun j hj hs => by
    have : r ≠ j := fun g => hs (by simp [g])
    simp [this]⟩
  cases f with
  | none =>
    refine ⟨{ w with heap := w.heap.setIfInBounds r (.map (es.push { key := enc k, val := v, born := c }) (c + 1)) }, ?_, ⟨es.push { key := enc k, val := v, born := c }, c + 1, by simp [hlt], ?_, ?_, ?_⟩, hchg _, by simp⟩
    · simp [mapUpdate, run_underlying ht, hgo, K.check, findKey, run_underlying hd1, f1, hset]
    · rw [Array.toList_push]
      exact f2.2 c
    · rw [Array.toList_push]
      intro x hx
      rcases List.mem_append.1 hx with hx | hx
      · have := hb1 x hx; omega
      · rw [List.mem_singleton.1 hx]; exact Nat.lt_succ_self _
    · rw [Array.toList_push, List.map_append, List.nodup_append]
      refine ⟨hb2, by simp, ?_⟩
      intro a ha b hb
      obtain ⟨x, hx, rfl⟩ := List.mem_map.1 ha
      have : b = c := by simpa using hb
      have := hb1 x hx
      omega
  | some q =>
    obtain ⟨i, x⟩ := q
    obtain ⟨a1, a2, ⟨e3, a3, a4⟩, a5⟩ := f2
    simp only [Nat.sub_zero] at a3 a5
    have hk : (((es[i]?).map (·.key)).getD (enc k)) = enc k := by
      rw [← Array.getElem?_toList, a3]
      simpa using a4
    have hst : (keyThatStays (enc k) (enc k)).run P w = .ok (enc k) w := by
      unfold keyThatStays
      rw [if_pos (K.bits k)]
      rfl
    have hborn : (es.modify i (fun e : MapEntry => { e with key := enc k, val := v })).toList.map (·.born) = es.toList.map (·.born) := by
      rw [Array.toList_modify]
      apply List.ext_getElem
      · simp
      · intro n h1 h2
        simp only [List.getElem_map, List.getElem_modify]
        split <;> rfl
    refine ⟨{ w with heap := w.heap.setIfInBounds r (.map (es.modify i (fun e : MapEntry => { e with key := enc k, val := v })) c) }, ?_, ⟨_, c, by simp [hlt]; rfl, ?_, ?_, ?_⟩, hchg _, by simp⟩
    · simp [mapUpdate, run_underlying ht, hgo, K.check, findKey, run_underlying hd1, f1, hk, hst, hset]
    · simpa using a5
    · intro y hy
      have : y.born ∈ es.toList.map (·.born) := by rw [← hborn]; exact List.mem_map.2 ⟨y, hy, rfl⟩
      obtain ⟨z, hz, he⟩ := List.mem_map.1 this
      rw [← he]
      exact hb1 z hz
    · rw [hborn]; exact hb2
theorem wpList_mapUpdateB {P : Program} {w : World} {ops : Array Oper} {rest : List Oper} {o : Oper} {a : Act} {Q : Exit → Act → World → Prop} (hgd : o.guard = none) (m x y : Operand) (t : TypeId) (ho : o.op = .mapUpdate t m x y)
    {r : Nat} {enc : α → Value} {S : List (α × Value)} (hm : a.eval m = .map (some r)) (k : α) (hx : a.eval x = enc k) (v : Value) (hy : a.eval y = v) (h : MapB w r enc S) {kt et : TypeId} (K : KeyOk P kt enc) (ht : P.underlying t = some (.map kt et))
    (hK : ∀ w', MapB w' r enc (putL S k v) → Chg [r] w w' → w'.heap.size = w.heap.size → wpList P ops Q rest (a.put o.dst undef) w') :
    wpList P ops Q (o :: rest) a w := by
  refine wpList_plain hgd fun K' hK' => ?_
  obtain ⟨w', hr, h1, h2, h3⟩ := run_mapUpdateB h K ht k v
  unfold Oper.wp
  simp [execOp, ho, hm, hx, hy, hr, Result.andThen]
  exact hK' _ _ (hK w' h1 h2 h3)
end
end Go.Proofs.Ythecfligfhpccaa.Gn
namespace Go.Proofs.Ythecfligfhpccaa.Gn
open Go.RowKit Go.Instr
section
variable {α : Type}
/-- A round of 'range' over the map r by the iterator it: done are the keys that have come. -/
def Ranged (w : World) (it r : Nat) (enc : α → Value) (S : List (α × Value)) (done : List α) : Prop :=
  ∃ (es : Array MapEntry) (c since : Nat) (seen : Array Nat) (c0 : Nat) (vis : List MapEntry), w.heap[r]? = some (.map es c) ∧ w.heap[it]? = some (.mapIter (some r) since seen c0) ∧ es.toList.map kv = S.map (fun p => (enc p.1, p.2)) ∧ (∀ x ∈ es.toList, x.born < since) ∧ (es.toList.map (·.born)).Nodup ∧ since ≤ c0 ∧ since ≤ c ∧
    (∀ x ∈ vis, x ∈ es.toList) ∧ vis.map (·.born) = seen.toList ∧ (vis.map (·.born)).Nodup ∧ vis.map (·.key) = done.map enc
theorem Ranged.chg {T : List Nat} {w w' : World} {it r : Nat} {enc : α → Value} {S : List (α × Value)} {done : List α} (h : Ranged w it r enc S done) (hc : Chg T w w') (hr : r ∉ T) (hi : it ∉ T) : Ranged w' it r enc S done := by
  obtain ⟨es, c, since, seen, c0, vis, h1, h2, h3⟩ := h
  exact ⟨es, c, since, seen, c0, vis, (hc.block r (Array.getElem?_eq_some_iff.1 h1).1 hr).trans h1, (hc.block it (Array.getElem?_eq_some_iff.1 h2).1 hi).trans h2, h3⟩
theorem find_in (es : Array MapEntry) (seen : Array Nat) (x : MapEntry) : x ∈ (leftOf es seen).toList ↔ x ∈ es.toList ∧ x.born ∉ seen.toList := by
  unfold leftOf
  simp [Array.mem_filter]
theorem nodup_of_map {β γ : Type} (f : β → γ) : ∀ {l : List β}, (l.map f).Nodup → l.Nodup
  | [], _ => List.nodup_nil
  | x :: l, h => by
    rw [List.map_cons, List.nodup_cons] at h
    exact List.nodup_cons.2 ⟨fun hx => h.1 (List.mem_map.2 ⟨x, hx, rfl⟩), nodup_of_map f h.2⟩
theorem inj_of_nodup {β γ : Type} (f : β → γ) : ∀ {l : List β}, (l.map f).Nodup → ∀ {x y : β}, x ∈ l → y ∈ l → f x = f y → x = y
  | [], _, _, _, hx, _, _ => by cases hx
  | z :: l, h, x, y, hx, hy, e => by
    rw [List.map_cons, List.nodup_cons] at h
    rcases List.mem_cons.1 hx with hx2 | hx2
    · rcases List.mem_cons.1 hy with hy2 | hy2
      · rw [hx2, hy2]
      · exact absurd (List.mem_map.2 ⟨y, hy2, by rw [← e, hx2]⟩) h.1
    · rcases List.mem_cons.1 hy with hy2 | hy2
      · exact absurd (List.mem_map.2 ⟨x, hx2, by rw [e, hy2]⟩) h.1
      · exact inj_of_nodup f h.2 hx2 hy2 e
theorem nodup_len : ∀ {l m : List Nat}, l.Nodup → (∀ x ∈ l, x ∈ m) → l.length ≤ m.length
  | [], _, _, _ => Nat.zero_le _
  | x :: l, m, h, hs => by
    rw [List.nodup_cons] at h
    have h1 := nodup_len (m := m.erase x) h.2 (fun y hy => (List.mem_erase_of_ne (fun e => h.1 (by rw [← e]; exact hy))).2 (hs y (List.mem_cons_of_mem _ hy)))
    have h2 := List.length_erase_of_mem (hs x List.mem_cons_self)
    have h3 : 0 < m.length := List.length_pos_of_mem (hs x List.mem_cons_self)
    rw [List.length_cons]
    omega
/-- The next round: nothing is left, all keys have come; or one more key comes. -/
theorem Ranged.next {P : Program} {w : World} {it r : Nat} {enc : α → Value} {S : List (α × Value)} {done : List α} (h : Ranged w it r enc S done) (hne : it ≠ r) (ty : TypeId) :
    ((Instr.next (.pointer (some ⟨it, 0, none⟩)) false ty).run P w = .ok (.tuple #[.bool false]) w ∧ (done.map enc).Perm (S.map (fun p => enc p.1))) ∨
    ∃ (k : α) (v : Value) (w' : World), (k, v) ∈ S ∧ (Instr.next (.pointer (some ⟨it, 0, none⟩)) false ty).run P w = .ok (.tuple #[.bool true, enc k, v]) w' ∧ Ranged w' it r enc S (done ++ [k]) ∧ Chg [it] w w' ∧ w'.heap.size = w.heap.size ∧ done.length < S.length ∧
      (Instr.entry (.pointer (some ⟨it, 0, none⟩))).run P w' = .ok (.tuple #[enc k, v]) w' := by
  obtain ⟨es, c, since, seen, c0, vis, h1, h2, h3, h4, h5, h6, h7, h8, h9, h10, h11⟩ := h
  have hsub : ∀ {l : List MapEntry}, (∀ x ∈ l, x ∈ es.toList) → (l.map (·.born)).Nodup → (∀ x ∈ es.toList, x.born ∈ l.map (·.born)) → l.Perm es.toList := by
    intro l a b d
    refine (List.perm_ext_iff_of_nodup (nodup_of_map _ b) (nodup_of_map _ h5)).2 (fun x => ⟨a x, fun hx => ?_⟩)
    obtain ⟨y, hy, e⟩ := List.mem_map.1 (d x hx)
    have : y = x := inj_of_nodup _ h5 (a y hy) hx e
    rw [← this]; exact hy
  rcases run_next_at w ty it r since c0 seen es c h2 h1 h4 h6 with ⟨h0, hrun⟩ | ⟨e, he, w1, hw1, hrun⟩
  · refine .inl ⟨hrun, ?_⟩
    have hp := hsub h8 h10 (fun x hx => by
      rw [h9]
      by_cases g : x.born ∈ seen.toList
      · exact g
      · have := (find_in es seen x).2 ⟨hx, g⟩
        have h00 : (leftOf es seen).toList.length = 0 := by simpa using h0
        rw [List.length_eq_zero_iff.1 h00] at this
        cases this)
    have := hp.map (·.key)
    rw [h11] at this
    have h12 : es.toList.map (·.key) = S.map (fun p => enc p.1) := by
      have := congrArg (List.map Prod.fst) h3
      rw [List.map_map, List.map_map] at this
      exact this
    rw [h12] at this
    exact this
  · obtain ⟨he1, he2⟩ := (find_in es seen e).1 he
    have hk : kv e ∈ S.map (fun p => (enc p.1, p.2)) := by rw [← h3]; exact List.mem_map.2 ⟨e, he1, rfl⟩
    obtain ⟨⟨k, v⟩, hkm, hke⟩ := List.mem_map.1 hk
    have hke1 : e.key = enc k := (congrArg Prod.fst hke).symm
    have hke2 : e.val = v := (congrArg Prod.snd hke).symm
    rw [hke1, hke2] at hrun
    have hbn : ((vis ++ [e]).map (·.born)).Nodup := by
      rw [List.map_append, List.nodup_append]
      refine ⟨h10, by simp, fun a ha b hb hab => ?_⟩
      have : b = e.born := by simpa using hb
      rw [h9] at ha
      exact he2 (by rw [← this, ← hab]; exact ha)
    have hch : Chg [it] w (Go.ChangeMaps.setBlock w1 it (.mapIter (some r) since (seen.push e.born) c)) := by
      rcases hw1 with rfl | rfl
      · exact ⟨rfl, rfl, rfl, by simp [Go.ChangeMaps.setBlock], fun j hj hs => by
          have : it ≠ j := fun g => hs (by simp [g])
          simp [Go.ChangeMaps.setBlock, this]⟩
      · exact ⟨rfl, rfl, rfl, by simp [Go.ChangeMaps.setBlock], fun j hj hs => by
          have : it ≠ j := fun g => hs (by simp [g])
          have h9 : (w.drew.heap.setIfInBounds it (.mapIter (some r) since (seen.push e.born) c))[j]? = w.drew.heap[j]? := by simp [this]
          exact h9⟩
    have hil := (Array.getElem?_eq_some_iff.1 h2).1
    have hz : (Go.ChangeMaps.setBlock w1 it (.mapIter (some r) since (seen.push e.born) c)).heap.size = w.heap.size := by
      rcases hw1 with rfl | rfl <;> simp [Go.ChangeMaps.setBlock]
    have hit : (Go.ChangeMaps.setBlock w1 it (.mapIter (some r) since (seen.push e.born) c)).heap[it]? = some (.mapIter (some r) since (seen.push e.born) c) := by
      rcases hw1 with rfl | rfl <;> simp [Go.ChangeMaps.setBlock, hil]
    have hr' := (hch.block r (Array.getElem?_eq_some_iff.1 h1).1 (by simpa using fun g : r = it => hne g.symm)).trans h1
    refine .inr ⟨k, v, _, hkm, hrun, ⟨es, c, since, seen.push e.born, c, vis ++ [e], hr', hit, h3, h4, h5, h7, h7, fun x hx => ?_, ?_, hbn, ?_⟩, hch, hz, ?_, ?_⟩
    · rcases List.mem_append.1 hx with hx | hx
      · exact h8 x hx
      · rw [List.mem_singleton.1 hx]; exact he1
    · rw [List.map_append, h9, Array.toList_push]; rfl
    · rw [List.map_append, List.map_append, h11, List.map_cons, List.map_nil, List.map_cons, List.map_nil, hke1]
    · have h12 := nodup_len (m := es.toList.map (·.born)) hbn (fun x hx => by
        obtain ⟨y, hy, rfl⟩ := List.mem_map.1 hx
        refine List.mem_map.2 ⟨y, ?_, rfl⟩
        rcases List.mem_append.1 hy with hy | hy
        · exact h8 y hy
        · rw [List.mem_singleton.1 hy]; exact he1)
      have h13 := congrArg List.length h3
      have h14 := congrArg List.length h11
      simp only [List.length_map, List.length_append, List.length_cons, List.length_nil] at h12 h13 h14
      omega
    · have := run_entry_at (P := P) _ it r since seen es c e hit hr' he1 h5
      rw [hke1, hke2] at this
      exact this
theorem wpList_rangeB {P : Program} {w : World} {ops : Array Oper} {rest : List Oper} {o : Oper} {a : Act} {Q : Exit → Act → World → Prop} (hgd : o.guard = none) (m : Operand) (t : TypeId) (ho : o.op = .range t m)
    {r : Nat} {enc : α → Value} {S : List (α × Value)} (hm : a.eval m = .map (some r)) (h : MapB w r enc S) {kt et : TypeId} (ht : P.underlying t = some (.map kt et))
    (hK : ∀ w', Ranged w' w.heap.size r enc S [] → Chg [] w w' → w'.heap.size = w.heap.size + 1 → wpList P ops Q rest (a.put o.dst (.pointer (some ⟨w.heap.size, 0, none⟩))) w') :
    wpList P ops Q (o :: rest) a w := by
  refine wpList_plain hgd fun K' hK' => ?_
  obtain ⟨es, c, h1, h2, h3, h4⟩ := h
  have hlt := (Array.getElem?_eq_some_iff.1 h1).1
  have hrun := run_range_map (P := P) w t kt et r es c ht h1
  unfold Oper.wp
  simp [execOp, ho, hm, hrun, Result.andThen]
  refine hK' _ _ (hK _ ⟨es, c, c, #[], c, [], (Below.heap_alloc w _ r hlt).trans h1, heap_alloc_new _ _, h2, h3, h4, Nat.le_refl _, Nat.le_refl _, by simp, rfl, List.nodup_nil, rfl⟩ ((Chg.refl [] w).alloc _) (size_alloc _ _))
theorem wpList_nextB {P : Program} {w : World} {ops : Array Oper} {rest : List Oper} {o : Oper} {a : Act} {Q : Exit → Act → World → Prop} (hgd : o.guard = none) (x : Operand) (ho : o.op = .next x false)
    {it r : Nat} {enc : α → Value} {S : List (α × Value)} {done : List α} (hx : a.eval x = .pointer (some ⟨it, 0, none⟩)) (h : Ranged w it r enc S done) (hne : it ≠ r)
    (hD : (done.map enc).Perm (S.map (fun p => enc p.1)) → wpList P ops Q rest (a.put o.dst (.tuple #[.bool false])) w)
    (hK : ∀ (k : α) (v : Value) (w' : World), (k, v) ∈ S → Ranged w' it r enc S (done ++ [k]) → Chg [it] w w' → w'.heap.size = w.heap.size → done.length < S.length →
      (Instr.entry (.pointer (some ⟨it, 0, none⟩))).run P w' = .ok (.tuple #[enc k, v]) w' → wpList P ops Q rest (a.put o.dst (.tuple #[.bool true, enc k, v])) w') :
    wpList P ops Q (o :: rest) a w := by
  refine wpList_plain hgd fun K' hK' => ?_
  unfold Oper.wp
  rcases h.next (P := P) hne o.type with ⟨hr, hp⟩ | ⟨k, v, w', h1, hr, h2, h3, h4, h5, h6⟩
  · simp [execOp, ho, hx, hr, Result.andThen]
    exact hK' _ _ (hD hp)
  · simp [execOp, ho, hx, hr, Result.andThen]
    exact hK' _ _ (hK k v w' h1 h2 h3 h4 h5 h6)
end
end Go.Proofs.Ythecfligfhpccaa.Gn
