/- Whether a filter matches features: the walk down its nodes. -/
import Derived.Test.YtlhljldlbcgnoaaEFilA
set_option linter.unusedVariables false
namespace Go.Proofs.Ytlhljldlbcgnoaa.P
open Go.RowKit Go.Proofs.YtlhljldlbcgnoaaW.PrintWords Go.Proofs.YtlhljldlbcgnoaaW.PrintLast Go.Proofs.YtlhljldlbcgnoaaW.PrintMore
open Go.Proofs.Ytlhljldlbcgnoaa.X

theorem hasI_spec (es : Fil.Nd) (x : ByteArray) : ∀ j : Int, (Fil.nxt es x = none ∧ hasI es x j = -1) ∨ ∃ (k : Nat) (c : Nat) (s : ByteArray), es[k]? = some (s, c) ∧ Fil.nxt es x = some c ∧ hasI es x j = j + k := by
  induction es with
  | nil => intro j; exact .inl ⟨rfl, rfl⟩
  | cons e es ih =>
    intro j
    by_cases hh : Fil.hit x e = true
    · exact .inr ⟨0, e.2, e.1, rfl, by simp [Fil.nxt, List.find?, hh], by simp [hasI, hh]⟩
    · have hh' : Fil.hit x e = false := by simpa using hh
      have h1 : Fil.nxt (e :: es) x = Fil.nxt es x := by simp [Fil.nxt, List.find?, hh']
      have h2 : hasI (e :: es) x j = hasI es x (j + 1) := by simp [hasI, hh']
      rw [h1, h2]
      rcases ih (j + 1) with h | ⟨k, c, s, a, b, d⟩
      · exact .inl h
      · exact .inr ⟨k + 1, c, s, by simpa using a, b, by rw [d]; omega⟩

def Small (G : List Fil.Nd) (m : Nat) : Prop := ∀ i, (Fil.node G i).length ≤ m
/-- The nodes of a filter in memory: each in a block of its own (bs), its row and its edges in blocks that are its own. -/
def FTree (W : World) (base : Nat) (bs : List Nat) (G : List Fil.Nd) : Prop :=
  bs.length = G.length ∧ bs.Nodup ∧ ∃ own : Nat → Nat, ∀ (i : Nat) b, bs[i]? = some b → base ≤ b ∧ ∃ v t, W.heap[b]? = some (.cells #[v] t (0, 0)) ∧ (t = 53 ∨ t = 51) ∧ Edges W base (fun k => own k = i) bs v (Fil.node G i)
theorem FTree.below {W w1 : World} {base : Nat} {bs : List Nat} {G : List Fil.Nd} (h : FTree W base bs G) (hb : Below W.heap.size W w1) : FTree w1 base bs G := by
  obtain ⟨h1, h2, own, h3⟩ := h
  refine ⟨h1, h2, own, fun i b hi => ?_⟩
  obtain ⟨a, v, t, hh, ht, he⟩ := h3 i b hi
  exact ⟨a, v, t, (hb.block b (blk_lt hh)).trans hh, ht, he.below hb⟩
theorem one_cell {W : World} {b t : Nat} {x : Value} (h : W.heap[b]? = some (.cells #[x] t (0, 0))) (hx : x.oneCell' = true) : W.cell? ⟨b, 0, none⟩ = some x := by
  simp [World.cell?, h]
/-- A node: its value, and its edges. -/
theorem FTree.at {W : World} {base : Nat} {bs : List Nat} {G : List Fil.Nd} (h : FTree W base bs G) {i b : Nat} (hi : bs[i]? = some b) :
    ∃ (A : Option Addr) (c : Nat) (ok : Nat → Prop), W.cell? ⟨b, 0, none⟩ = some (.slice A (Fil.node G i).length c) ∧ Edges W base ok bs (.slice A (Fil.node G i).length c) (Fil.node G i) := by
  obtain ⟨h1, h2, own, h3⟩ := h
  obtain ⟨_, v, t, hh, _, he⟩ := h3 i b hi
  obtain ⟨A, c, rfl⟩ := he.slice
  exact ⟨A, c, _, one_cell hh rfl, he⟩

set_option maxHeartbeats 4000000 in
theorem match_calls (w : World) (base b0 : Nat) (bs : List Nat) (G : List Fil.Nd) (A : Option Addr) (c : Nat) (fs : List ByteArray) (hT : FTree w base bs G) (h0 : bs[0]? = some b0) (hG : Small G 1000000) (hr : Kd.C Kd.string w A fs.length fs) (hl : fs.length ≤ 1000000) :
    Calls Try.prog 23 #[.pointer (some ⟨b0, 0, none⟩), .slice A fs.length c] w fun e w' => e = .returned (.bool (Fil.matchA G 0 fs)) ∧ Below w.heap.size w w' := by
  have HT := Aside0.mk hT
  have H0 := Aside0.mk h0
  have HG := Aside0.mk hG
  have HR := Aside0.mk hr
  clear hT h0 hG hr
  go_enter Try.func23, Try.ntmps23
  go_wp2
  go_loopw [5, 14] (fun v5 v14 wr => ∃ (i : Int) (n b : Nat), v5 = .pointer (some ⟨b, 0, none⟩) ∧ v14 = .int .i64 i ∧ Aside0 (0 ≤ i ∧ i ≤ fs.length) ∧ Aside0 (bs[n]? = some b) ∧ Aside0 (Fil.matchA G n (fs.drop i.toNat) = Fil.matchA G 0 fs) ∧ Aside0 (Below w.heap.size w wr)) (fun _ v14 _ => fs.length - (intOf v14).toNat)
  case atStart => exact ⟨0, 0, b0, rfl, rfl, ⟨by omega⟩, H0, ⟨by simp⟩, ⟨Below.refl _ _⟩⟩
  case round =>
    obtain ⟨i, n, b, rfl, rfl, HI, HN, HM, HB⟩ := hrel
    obtain ⟨hi0, hi1⟩ := HI.out
    by_cases hlt : i < fs.length
    · have hb1 : decide (i < (fs.length : Int)) = true := decide_eq_true hlt
      have g0 : decide ((0 : Int) ≤ i) = true := decide_eq_true hi0
      obtain ⟨ad, e0, hx⟩ := Kd.at_string (Kd.C_below HR.out HB.out) i hi0 hlt
      subst e0
      obtain ⟨A1, c1, ok, hc, hE⟩ := (HT.out.below HB.out).at HN.out
      have hdrop : fs.drop i.toNat = rdOf ByteArray.empty fs i :: fs.drop (i.toNat + 1) := by
        have hn : i.toNat < fs.length := by omega
        rw [List.drop_eq_getElem_cons hn]
        simp [rdOf, hn]
      have HD := Aside0.mk hdrop
      have HE := Aside0.mk hE
      clear hdrop hE
      generalize rdOf ByteArray.empty fs i = x at *
      go_wp2_with fail
      refine (has_calls wr _ (Fil.node G n) base ok bs x HE.out (HG.out n)).mono ?_
      rintro e w1 ⟨rfl, hb⟩
      have HB1 := Aside0.mk hb
      have HBB := Aside0.mk (HB.out.trans (hb.mono HB.out.size))
      clear hb hx
      rcases hasI_spec (Fil.node G n) x 0 with ⟨hn1, hv⟩ | ⟨k, cc, s, hk, hn1, hv⟩
      · have hres : Fil.matchA G 0 fs = false := by
          rw [← HM.out, HD.out]
          simp only [Fil.matchA, hn1]
        have HRES := Aside0.mk hres
        rw [hv]
        clear hres hn1 hv
        go_wp2
        go_ret
        exact ⟨congrArg (fun z => Ending.returned (.bool z)) HRES.out.symm, HBB.out⟩
      · rw [hv, Int.zero_add]
        clear hv
        have hkl := (List.getElem?_eq_some_iff.1 hk).1
        obtain ⟨ad1, eb, cc', s', ea, he1, hce, d, hd, hh⟩ := (HE.out.below HB1.out).at (k : Int) (by omega) (by omega)
        subst ea
        rw [Int.toNat_natCast] at he1 hce
        rw [hk] at he1
        obtain ⟨rfl, rfl⟩ : s = s' ∧ cc = cc' := by injection he1 with he1; injection he1 with a b; exact ⟨a, b⟩
        obtain ⟨p0, p1⟩ := two_cells hh rfl rfl
        have hc' := (HB1.out.cell (World.block_lt_of_cell? wr _ hc)).trans hc
        obtain ⟨A2, c2, ok2, hc2, hE2⟩ := ((HT.out.below HB.out).below HB1.out).at hd
        have HE2 := Aside0.mk hE2
        have HDD := Aside0.mk hd
        have HNX := Aside0.mk hn1
        have g1 : decide ((0 : Int) ≤ (k : Int)) = true := decide_eq_true (by omega)
        have g2 : decide ((k : Int) < ((Fil.node G n).length : Int)) = true := decide_eq_true (by omega)
        have g3 : (0 : Int) ≤ (k : Int) := by omega
        have g4 : (k : Int) < ((Fil.node G n).length : Int) := by omega
        clear hE2 hd hn1 hk hc hh he1 hkl
        go_wp2_with fail
        refine (leaf_calls w1 _ (Fil.node G cc) base ok2 bs HE2.out).mono ?_
        rintro e w2 ⟨rfl, hb2⟩
        have HB2 := Aside0.mk (HBB.out.trans (hb2.mono HBB.out.size))
        clear hb2 hc' hc2 p0 p1 hce
        cases hem : (Fil.node G cc).isEmpty with
        | true =>
          have hres : Fil.matchA G 0 fs = true := by
            rw [← HM.out, HD.out]
            simp only [Fil.matchA, HNX.out, hem]
            rfl
          have HRES := Aside0.mk hres
          clear hres hem
          go_wp2
          go_ret
          exact ⟨congrArg (fun z => Ending.returned (.bool z)) HRES.out.symm, HB2.out⟩
        | false =>
          have hres : Fil.matchA G cc (fs.drop (i.toNat + 1)) = Fil.matchA G 0 fs := by
            rw [← HM.out, HD.out]
            simp only [Fil.matchA, HNX.out, hem]
            rfl
          have HRES := Aside0.mk (show Fil.matchA G cc (fs.drop (i + 1).toNat) = Fil.matchA G 0 fs by
            rw [show (i + 1).toNat = i.toNat + 1 by omega]; exact hres)
          clear hres hem
          go_wp2
          go_roundw
          case rel => exact ⟨i + 1, cc, d, rfl, rfl, ⟨by omega⟩, HDD, HRES, HB2⟩
          case measure => simp [intOf]; omega
    · have hb1 : decide (i < (fs.length : Int)) = false := decide_eq_false hlt
      have hres : Fil.matchA G 0 fs = false := by
        rw [← HM.out, List.drop_eq_nil_of_le (by omega)]; rfl
      have HRES := Aside0.mk hres
      clear hres
      go_wp2
      go_ret
      exact ⟨congrArg (fun z => Ending.returned (.bool z)) HRES.out.symm, HB.out⟩
end Go.Proofs.Ytlhljldlbcgnoaa.P
