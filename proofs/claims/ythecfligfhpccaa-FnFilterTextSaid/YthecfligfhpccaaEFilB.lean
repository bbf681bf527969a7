/- Whether a filter matches features: the walk down its nodes. -/
import Derived.Test.YthecfligfhpccaaEFilA
set_option linter.unusedVariables false
namespace Go.Proofs.Ythecfligfhpccaa.P
open Go.RowKit Go.Proofs.YthecfligfhpccaaW.PrintWords Go.Proofs.YthecfligfhpccaaW.PrintLast Go.Proofs.YthecfligfhpccaaW.PrintMore
open Go.Proofs.Ythecfligfhpccaa.X

theorem hasI_spec (es : Fil.Nd) (x : ByteArray) : ∀ j : Int, (Fil.nxt es x = none ∧ hasI es x j = -1) ∨ ∃ (k : Nat) (c : Nat) (s : ByteArray), es[k]? = some (s, c) ∧ Fil.nxt es x = some c ∧ hasI es x j = j + k := by
  induction es with
  | nil => intro j; exact .inl ⟨rfl, rfl⟩
  | cons e es ih =>
    intro j
    by_cases hh : Fil.hit x e = true
    · exact .inr ⟨0, e.2, e.1, rfl, by simp [Fil.nxt, List.find?, hh], by simp [hasI, hh]⟩
    · have hh' : Fil.hit x e = false := by simpa using hh
      have h1 : Fil.nxt (e :: es) x = Fil.nxt es x := by simp [Fil.nxt, List.find?, hh']
      have h2 : hasI (e :: es) x j = hasI es x (j + 1) := by simp [hasI, hh']
      rw [h1, h2]
      rcases ih (j + 1) with h | ⟨k, c, s, a, b, d⟩
      · exact .inl h
      · exact .inr ⟨k + 1, c, s, by simpa using a, b, by rw [d]; omega⟩

def Small (G : List Fil.Nd) (m : Nat) : Prop := ∀ i, (Fil.node G i).length ≤ m
/-- The nodes of a filter in memory: each in a block of its own (bs), its row and its edges in blocks that are its own. -/
def FTree (W : World) (base : Nat) (bs : List Nat) (G : List Fil.Nd) : Prop :=
  bs.length = G.length ∧ bs.Nodup ∧ ∃ own : Nat → Nat, ∀ (i : Nat) b, bs[i]? = some b → base ≤ b ∧ ∃ v t, W.heap[b]? = some (.cells #[v] t (0, 0)) ∧ (t = 73 ∨ t = 71) ∧ Edges W base (fun k => own k = i) bs v (Fil.node G i)
theorem FTree.below {W w1 : World} {base : Nat} {bs : List Nat} {G : List Fil.Nd} (h : FTree W base bs G) (hb : Below W.heap.size W w1) : FTree w1 base bs G := by
  obtain ⟨h1, h2, own, h3⟩ := h
  refine ⟨h1, h2, own, fun i b hi => ?_⟩
  obtain ⟨a, v, t, hh, ht, he⟩ := h3 i b hi
  exact ⟨a, v, t, (hb.block b (blk_lt hh)).trans hh, ht, he.below hb⟩
theorem one_cell {W : World} {b t : Nat} {x : Value} (h : W.heap[b]? = some (.cells #[x] t (0, 0))) (hx : x.oneCell' = true) : W.cell? ⟨b, 0, none⟩ = some x := by
  simp [World.cell?, h]
/-- A node: its value, and its edges. -/
theorem FTree.at {W : World} {base : Nat} {bs : List Nat} {G : List Fil.Nd} (h : FTree W base bs G) {i b : Nat} (hi : bs[i]? = some b) :
    ∃ (A : Option Addr) (c : Nat) (ok : Nat → Prop), W.cell? ⟨b, 0, none⟩ = some (.slice A (Fil.node G i).length c) ∧ Edges W base ok bs (.slice A (Fil.node G i).length c) (Fil.node G i) := by
  obtain ⟨h1, h2, own, h3⟩ := h
  obtain ⟨_, v, t, hh, _, he⟩ := h3 i b hi
  obtain ⟨A, c, rfl⟩ := he.slice
  exact ⟨A, c, _, one_cell hh rfl, he⟩

end Go.Proofs.Ythecfligfhpccaa.P
