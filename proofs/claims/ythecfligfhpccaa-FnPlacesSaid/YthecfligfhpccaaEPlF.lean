/- gse.FindAllOccs: the walk. -/
import Derived.Test.YthecfligfhpccaaPlPl
import Derived.Test.YthecfligfhpccaaLiW
import Derived.Test.YthecfligfhpccaaEMq
set_option linter.unusedVariables false
namespace Go.Proofs.Ythecfligfhpccaa.Li
open Go.RowKit Go.Proofs.YthecfligfhpccaaW.PrintWords Go.Proofs.Ythecfligfhpccaa.Gn
/-- The map's keys hold rows of their own, which are as D says. -/
structure OccW (w wr : World) (r : Nat) (S : List (ByteArray × Value)) (D : List (ByteArray × List Int)) : Prop where
  mp : MapB wr r Value.string S
  keys : S.map (·.1) = D.map (·.1)
  row : ∀ k v, getL S k = some v → ∃ l, getM D k = some l ∧ ORow wr 3 v (l.map (Value.int .i64))
  non : ∀ k, getL S k = none → getM D k = none
  own : ∀ k v, getL S k = some v → ∀ g, v.ownBlock = some g → w.heap.size ≤ g ∧ g ≠ r
  ne : ∀ k k' v v', getL S k = some v → getL S k' = some v' → k ≠ k' → ∀ g, v.ownBlock = some g → v'.ownBlock ≠ some g
  chg : Chg [] w wr
  rge : w.heap.size ≤ r
theorem OccW.start (w : World) : OccW w (w.alloc (.map #[] 0)) w.heap.size [] [] :=
  ⟨MapB.new w _, rfl, fun k v h => by simp [getL] at h, fun k h => rfl, fun k v h => by simp [getL] at h, fun k k' v v' h => by simp [getL] at h, (Chg.refl [] w).alloc _, Nat.le_refl _⟩
theorem OccW.step {w wr w' : World} {r : Nat} {S : List (ByteArray × Value)} {D : List (ByteArray × List Int)} (h : OccW w wr r S D) (hc : Chg [] wr w') : OccW w w' r S D :=
  ⟨h.mp.chg hc (by simp), h.keys, fun k v hk => by obtain ⟨l, h1, h2⟩ := h.row k v hk; exact ⟨l, h1, h2.chg hc (by simp)⟩, h.non, h.own, h.ne, h.chg.trans hc, h.rge⟩
theorem OccW.look {w wr : World} {r : Nat} {S : List (ByteArray × Value)} {D : List (ByteArray × List Int)} (h : OccW w wr r S D) (p : ByteArray) : ORow wr 3 ((getL S p).getD (.slice none 0 0)) (((getM D p).getD []).map (Value.int .i64)) := by
  cases hg : getL S p with
  | none => rw [h.non p hg]; exact ORow.nil _ _
  | some v => obtain ⟨l, h1, h2⟩ := h.row p v hg; rw [h1]; exact h2
theorem putL_keys {γ : Type} : ∀ (S : List (ByteArray × Value)) (E : List (ByteArray × γ)) (k : ByteArray) (v : Value) (u : γ), S.map (·.1) = E.map (·.1) → (putL S k v).map (·.1) = (putM E k u).map (·.1)
  | [], [], _, _, _, _ => rfl
  | [], _ :: _, _, _, _, h => by cases h
  | _ :: _, [], _, _, _, h => by cases h
  | p :: D, q :: E, k, v, u, h => by
    simp only [List.map_cons, List.cons.injEq] at h
    unfold putL putM
    rw [h.1]
    by_cases e : q.1 = k
    · rw [if_pos e, if_pos e]; simp [h.2]
    · rw [if_neg e, if_neg e]; simp [h.1, putL_keys D E k v u h.2]
theorem OccW.add {w wr wa w3 : World} {r : Nat} {S : List (ByteArray × Value)} {D : List (ByteArray × List Int)} (h : OccW w wr r S D) (p : ByteArray) (m : Int) (o : Obj) (v' : Value)
    (hrow : ORow wa 3 v' (((getM D p).getD []).map (Value.int .i64) ++ [.int .i64 m])) (hc : Chg ((getL S p).getD (.slice none 0 0)).ownBlock.toList (wr.alloc o) wa)
    (hown : v'.ownBlock = ((getL S p).getD (.slice none 0 0)).ownBlock ∨ v'.ownBlock = some (wr.alloc o).heap.size) (hm : MapB w3 r Value.string (putL S p v')) (hc3 : Chg [r] wa w3) : OccW w w3 r (putL S p v') (addM D p m) := by
  have hr := h.mp.lt
  have h0 : ∀ g, ((getL S p).getD (.slice none 0 0)).ownBlock = some g → w.heap.size ≤ g ∧ g ≠ r := fun g hg => by
    cases hs : getL S p with
    | none => rw [hs] at hg; cases hg
    | some v => rw [hs] at hg; exact h.own p v hs g hg
  have hz : (wr.alloc o).heap.size = wr.heap.size + 1 := size_alloc _ _
  have hv : ∀ g, v'.ownBlock = some g → w.heap.size ≤ g ∧ g ≠ r := fun g hg => by
    rcases hown with e | e
    · exact h0 g (by rw [← e]; exact hg)
    · rw [hg] at e
      injection e with e
      have := h.chg.size
      exact ⟨by omega, by omega⟩
  have hold : ∀ k v, k ≠ p → getL S k = some v → ∀ g, v.ownBlock = some g → g ∉ ((getL S p).getD (.slice none 0 0)).ownBlock.toList ∧ v'.ownBlock ≠ some g := fun k v hk hs g hg => by
    have h1 : g ∉ ((getL S p).getD (.slice none 0 0)).ownBlock.toList := fun hmem => by
      cases hq : getL S p with
      | none => rw [hq] at hmem; simp [Value.ownBlock] at hmem
      | some u => rw [hq] at hmem; exact h.ne k p v u hs hq hk g hg (by simpa using hmem)
    refine ⟨h1, fun e => ?_⟩
    rcases hown with q | q
    · exact h1 (by rw [← q, e]; simp)
    · rw [e] at q
      injection q with q
      obtain ⟨l, _, h2⟩ := h.row k v hs
      have := (h2.block hg).1
      omega
  have hcw : Chg ((getL S p).getD (.slice none 0 0)).ownBlock.toList wr wa := ((Chg.refl _ wr).alloc o).trans hc
  refine ⟨hm, ?_, fun k v hk => ?_, fun k hk => ?_, fun k v hk => ?_, fun k k' v u hk hk' hne => ?_, ?_, h.rge⟩
  · exact putL_keys S D p v' _ h.keys
  · rw [getL_putL] at hk
    unfold addM
    rw [getM_putM]
    by_cases e : k = p
    · rw [if_pos e] at hk ⊢
      injection hk with hk
      subst hk
      exact ⟨_, rfl, by rw [List.map_append]; exact hrow.chg hc3 (fun g hg => by simpa using (hv g hg).2)⟩
    · rw [if_neg e] at hk ⊢
      obtain ⟨l, h1, h2⟩ := h.row k v hk
      exact ⟨l, h1, (h2.chg hcw (fun g hg => (hold k v e hk g hg).1)).chg hc3 (fun g hg => by simpa using (h.own k v hk g hg).2)⟩
  · rw [getL_putL] at hk
    unfold addM
    rw [getM_putM]
    by_cases e : k = p
    · rw [if_pos e] at hk; cases hk
    · rw [if_neg e] at hk ⊢; exact h.non k hk
  · rw [getL_putL] at hk
    by_cases e : k = p
    · rw [if_pos e] at hk; injection hk with hk; subst hk; exact hv
    · rw [if_neg e] at hk; exact h.own k v hk
  · rw [getL_putL] at hk hk'
    intro g hg
    by_cases e : k = p
    · rw [if_pos e] at hk
      injection hk with hk
      subst hk
      rw [if_neg (fun q => hne (by rw [e, q]))] at hk'
      intro hu
      exact (hold k' u (fun q => hne (by rw [e, q])) hk' g hu).2 hg
    · rw [if_neg e] at hk
      by_cases e2 : k' = p
      · rw [if_pos e2] at hk'
        injection hk' with hk'
        subst hk'
        exact (hold k v e hk g hg).2
      · rw [if_neg e2] at hk'
        exact h.ne k k' v u hk hk' hne g hg
  · refine (h.chg.above hcw (fun i hi => .inr (h0 i (by simpa using hi)).1)).above hc3 (fun i hi => .inr ?_)
    rw [List.mem_singleton.1 hi]; exact h.rge
end Go.Proofs.Ythecfligfhpccaa.Li
namespace Go.Proofs.Ythecfligfhpccaa.Li
open Go.RowKit Go.Proofs.YthecfligfhpccaaW.PrintWords Go.Proofs.Ythecfligfhpccaa.Gn
theorem by_bytes (s : ByteArray) : By (bytesOf s) := fun x hx => by
  obtain ⟨b, _, rfl⟩ := List.mem_map.1 hx
  have := UInt8.toNat_lt b
  omega
/-- '[]byte(s)'. -/
theorem wpList_bytesC {P : Program} {w : World} {ops : Array Oper} {rest : List Oper} {o : Oper} {a : Act} {Q : Exit → Act → World → Prop} (hg : o.guard = none) (x : Operand) (src dst e : TypeId) (ho : o.op = .convert src dst x) (s : ByteArray) (hx : a.eval x = .string s)
    (hs : P.underlying src = some .string) (hd : P.underlying dst = some (.slice e)) (he : P.underlying e = some (.int .u8)) (hz : s.size ≤ 9223372036854775807)
    (hK : ∀ w' cap, Chg [] w w' → w'.heap.size = w.heap.size + 1 → Kd.C (Kd.int .u8) w' (some ⟨w.heap.size, 0, none⟩) s.size (bytesOf s) → s.size ≤ cap → wpList P ops Q rest (a.put o.dst (.slice (some ⟨w.heap.size, 0, none⟩) s.size cap)) w') :
    wpList P ops Q (o :: rest) a w := by
  refine wpList_plain hg fun K hK' => ?_
  have hr := print_bytes (P := P) src dst e hs hd he s w
  have hrd := bytes_reads w e s hz
  unfold Oper.wp
  simp [execOp, ho, hx, hr, Result.andThen]
  refine hK' _ _ (hK _ _ ⟨rfl, rfl, rfl, by rw [Lib.bytesWorld_size]; omega, fun i hi _ => Lib.bytesWorld_at_old w e s i hi⟩ (by rw [Lib.bytesWorld_size]) ?_ (grownCap_ge _ _ _ _))
  exact Kd.C_of_reads (d := 0) (h1 := fun _ => rfl) hrd
end Go.Proofs.Ythecfligfhpccaa.Li
