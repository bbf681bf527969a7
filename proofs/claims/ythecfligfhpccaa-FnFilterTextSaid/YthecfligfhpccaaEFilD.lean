/- A filter made of its lists, and what it tells of features. -/
import Derived.Test.YthecfligfhpccaaEFilC
set_option linter.unusedVariables false
namespace Go.Proofs.Ythecfligfhpccaa.P
open Go.RowKit Go.Proofs.YthecfligfhpccaaW.PrintWords Go.Proofs.YthecfligfhpccaaW.PrintLast Go.Proofs.YthecfligfhpccaaW.PrintMore
open Go.Proofs.Ythecfligfhpccaa.X

theorem Small.grow' {G : List Fil.Nd} {m : Nat} (h : Small G m) (n : Nat) (v : ByteArray) : Small (Fil.grow G n v) (m + 1) := by
  rcases Nat.lt_or_ge n G.length with hn | hn
  · exact h.grow n v hn
  · intro i
    have e : Fil.grow G n v = G ++ [[]] := by
      unfold Fil.grow
      rw [List.set_eq_of_length_le hn]
    rw [e]
    rcases Nat.lt_or_ge i G.length with hi | hi
    · have : Fil.node (G ++ [[]]) i = Fil.node G i := by
        unfold Fil.node
        rw [List.getD_eq_getElem?_getD, List.getElem?_append_left hi, List.getD_eq_getElem?_getD]
      rw [this]
      have := h i
      omega
    · have : Fil.node (G ++ [[]]) i = [] := by
        unfold Fil.node
        rw [List.getD_eq_getElem?_getD, List.getElem?_append_right hi]
        rcases i - G.length with _ | k <;> simp
      rw [this]; simp
theorem Small.add (fs : List ByteArray) : ∀ {G : List Fil.Nd} {m : Nat} (n : Nat), Small G m → Small (Fil.addA G n fs) (m + fs.length) := by
  induction fs with
  | nil => intro G m n h; exact h
  | cons x xs ih =>
    intro G m n h
    cases hn : Fil.nxt (Fil.node G n) x with
    | none =>
      simp only [Fil.addA, hn, List.length_cons]
      exact (ih _ (h.grow' n x)).up (by omega)
    | some c =>
      simp only [Fil.addA, hn, List.length_cons]
      split
      · exact h.up (by omega)
      · split
        · intro i
          by_cases e : c = i
          · subst e
            by_cases hc : c < G.length
            · rw [Fil.node_set_same hc]; simp
            · rw [List.set_eq_of_length_le (by omega)]; have := h c; omega
          · rw [Fil.node_set_ne e]; have := h i; omega
        · exact (ih c h).up (by omega)
theorem FTree.init (w : World) : FTree (w.alloc (.cells #[.slice none 0 0] 73 (0, 0))) w.heap.size [w.heap.size] [[]] := by
  refine ⟨rfl, by simp, fun _ => 0, fun i b hi => ?_⟩
  have hl := (List.getElem?_eq_some_iff.1 hi).1
  simp at hl
  subst hl
  simp at hi
  subst hi
  exact ⟨Nat.le_refl _, _, 73, heap_new w _, .inl rfl, [], Kd.R_nil _ _ _ _ _, rfl, fun _ => rfl, fun j b e hj => by simp at hj⟩
theorem Small.init : Small [[]] 0 := by
  intro i
  rcases i with _ | k <;> simp [Fil.node]

set_option maxHeartbeats 8000000 in
set_option maxRecDepth 100000 in
theorem new_calls (w : World) (A : Option Addr) (c : Nat) (fl : List (List ByteArray)) (hr : Kd.C (Kd.slice 9 Kd.string) w A fl.length fl) (hl : fl.length ≤ 1000) (hx : ∀ f ∈ fl, f.length ≤ 1000) :
    Calls Try.prog 25 #[.slice A fl.length c] w fun e w' => ∃ b0 bs, e = .returned (.pointer (some ⟨b0, 0, none⟩)) ∧ FTree w' w.heap.size bs (Fil.buildA fl) ∧ Small (Fil.buildA fl) 1000000 ∧ bs[0]? = some b0 ∧ Below w.heap.size w w' := by
  have HR := Aside0.mk hr
  have HX := Aside0.mk hx
  clear hr hx
  go_enter Try.func25, Try.ntmps25
  go_wp2
  go_loopw [8] (fun v8 wr => ∃ (i : Int) (bs : List Nat) (Gi : List Fil.Nd), v8 = .int .i64 i ∧ Aside0 (0 ≤ i ∧ i ≤ fl.length) ∧ Aside0 (bs[0]? = some w.heap.size) ∧ Aside0 (FTree wr w.heap.size bs Gi) ∧ Aside0 ((fl.drop i.toNat).foldl (fun G f => Fil.addA G 0 f) Gi = Fil.buildA fl) ∧ Aside0 (Small Gi (1000 * i.toNat)) ∧ Aside0 (Below w.heap.size w wr)) (fun v8 _ => fl.length - (intOf v8).toNat)
  case atStart => exact ⟨0, [w.heap.size], [[]], rfl, ⟨by omega⟩, ⟨rfl⟩, ⟨FTree.init w⟩, ⟨by simp [Fil.buildA]⟩, ⟨Small.init⟩, ⟨below_alloc (Below.refl _ _) _⟩⟩
  case round =>
    obtain ⟨i, bs, Gi, rfl, HI, HZ, HT, HA, HS, HB⟩ := hrel
    obtain ⟨hi0, hi1⟩ := HI.out
    by_cases hlt : i < fl.length
    · have hb1 : decide (i < (fl.length : Int)) = true := decide_eq_true hlt
      have g0 : decide ((0 : Int) ≤ i) = true := decide_eq_true hi0
      obtain ⟨ad, A1, c1, e0, hx, hlc, hC⟩ := at_L1 HR.out i hi0 hlt
      subst e0
      replace hx := (HB.out.cell (World.block_lt_of_cell? w _ hx)).trans hx
      have hn : i.toNat < fl.length := by omega
      have hrd : rd_L1 fl i = fl[i.toNat] := by simp [rd_L1, hn]
      have hdrop : fl.drop i.toNat = rd_L1 fl i :: fl.drop (i.toNat + 1) := by
        rw [List.drop_eq_getElem_cons hn, hrd]
      have hlx : (rd_L1 fl i).length ≤ 1000 := by rw [hrd]; exact HX.out _ (List.getElem_mem hn)
      have HD := Aside0.mk hdrop
      have HLX := Aside0.mk hlx
      have HC := Aside0.mk hC
      clear hdrop hlx hC hrd hn
      generalize rd_L1 fl i = x at *
      go_wp2_with fail
      refine (add_calls w wr w.heap.size (1000 * i.toNat) bs Gi A1 c1 x HT.out HZ.out HS.out (by have := HLX.out; omega) HC.out HB.out).mono ?_
      rintro e w1 ⟨rfl, ⟨bs1, ht1, hz1⟩, hb1'⟩
      have HT1 := Aside0.mk ht1
      have HZ1 := Aside0.mk hz1
      have HB1 := Aside0.mk hb1'
      have hres : (fl.drop (i + 1).toNat).foldl (fun G f => Fil.addA G 0 f) (Fil.addA Gi 0 x) = Fil.buildA fl := by
        rw [← HA.out, HD.out, show (i + 1).toNat = i.toNat + 1 by omega]; rfl
      have HRES := Aside0.mk hres
      have hsm : Small (Fil.addA Gi 0 x) (1000 * (i + 1).toNat) := (HS.out.add x 0).up (by have := HLX.out; omega)
      have HSM := Aside0.mk hsm
      clear hres hsm ht1 hz1 hb1' hx
      go_wp2
      go_roundw
      case rel => exact ⟨i + 1, bs1, Fil.addA Gi 0 x, rfl, ⟨by omega⟩, HZ1, HT1, HRES, HSM, HB1⟩
      case measure => simp [intOf]; omega
    · have hb1 : decide (i < (fl.length : Int)) = false := decide_eq_false hlt
      have hres : Gi = Fil.buildA fl := by
        rw [← HA.out, List.drop_eq_nil_of_le (by omega)]; rfl
      have HRES := Aside0.mk hres
      clear hres
      go_wp2
      go_ret
      exact ⟨w.heap.size, rfl, bs, by rw [← HRES.out]; exact HT.out, by rw [← HRES.out]; exact HS.out.up (by omega), HZ.out, HB.out⟩
end Go.Proofs.Ythecfligfhpccaa.P
