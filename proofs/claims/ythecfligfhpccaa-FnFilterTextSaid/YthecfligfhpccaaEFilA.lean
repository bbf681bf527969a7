/- A filter's nodes in memory, and what 'has' and 'isLeaf' tell of one. -/
import Derived.Test.YthecfligfhpccaaP0
import Derived.Test.YthecfligfhpccaaEFilP
import Derived.Test.YthecfligfhpccaaXLaws
import Derived.WalkSpells
import Derived.Deep.QuietTactic
import Derived.BigQuiet
set_option linter.unusedVariables false
namespace Go.Proofs.Ythecfligfhpccaa.P
open Go.RowKit Go.Proofs.YthecfligfhpccaaW.PrintWords Go.Proofs.YthecfligfhpccaaW.PrintLast Go.Proofs.YthecfligfhpccaaW.PrintMore
open Go.Proofs.Ythecfligfhpccaa.X

def kP : Kd Nat := Kd.scalar (fun b : Nat => Value.pointer (some ⟨b, 0, none⟩)) (fun _ => rfl)
/-- An edge: its feature, and the node behind it, bs telling the nodes' blocks. -/
def Edge (W : World) (bs : List Nat) (b : Nat) (e : ByteArray × Nat) : Prop :=
  ∃ c, bs[e.2]? = some c ∧ W.heap[b]? = some (.cells #[.string e.1, .pointer (some ⟨c, 0, none⟩)] 85 (0, 0))
/-- A node's value: its edges, in a row of the call's own. -/
def Edges (W : World) (base : Nat) (ok : Nat → Prop) (bs : List Nat) (v : Value) (es : Fil.Nd) : Prop :=
  ∃ ebs : List Nat, kP.R 86 W base ok v ebs ∧ ebs.length = es.length ∧ (es = [] → v = .slice none 0 0) ∧ ∀ (j : Nat) b e, ebs[j]? = some b → es[j]? = some e → Edge W bs b e ∧ ok b ∧ base ≤ b

def hasI : Fil.Nd → ByteArray → Int → Int
  | [], _, _ => -1
  | e :: es, x, i => if Fil.hit x e then i else hasI es x (i + 1)
theorem Edges.slice {W : World} {base : Nat} {ok : Nat → Prop} {bs : List Nat} {v : Value} {es : Fil.Nd} (h : Edges W base ok bs v es) : ∃ A c, v = .slice A es.length c := by
  obtain ⟨ebs, h, hl, _⟩ := h
  obtain ⟨A, c, e⟩ := Kd.R_slice h
  exact ⟨A, c, by rw [e, hl]⟩
theorem Edges.at {W : World} {base : Nat} {ok : Nat → Prop} {bs : List Nat} {A : Option Addr} {n c : Nat} {es : Fil.Nd} (h : Edges W base ok bs (.slice A n c) es) (i : Int) (h0 : 0 ≤ i) (h1 : i < es.length) :
    ∃ ad b cc s, A = some ad ∧ es[i.toNat]? = some (s, cc) ∧ W.cell? (ad.add i.toNat) = some (.pointer (some ⟨b, 0, none⟩)) ∧ ∃ d, bs[cc]? = some d ∧ W.heap[b]? = some (.cells #[.string s, .pointer (some ⟨d, 0, none⟩)] 85 (0, 0)) := by
  obtain ⟨ebs, h, hl, _, he⟩ := h
  obtain ⟨hn, _, hC⟩ := Kd.R_reads' h
  obtain ⟨ad, cs, e, hs, hK, hcell⟩ := Kd.C_get hC (0 : Nat) i h0 (by omega)
  have hlt : i.toNat < ebs.length := by omega
  have hlt2 : i.toNat < es.length := by omega
  have hb : ebs.getD i.toNat 0 = ebs[i.toNat] := by simp [hlt]
  rw [hb] at hK
  have hcs : cs = [.pointer (some ⟨ebs[i.toNat], 0, none⟩)] := hK
  subst hcs
  obtain ⟨⟨d, hd, hh⟩, _⟩ := he i.toNat _ _ (List.getElem?_eq_getElem hlt) (List.getElem?_eq_getElem hlt2)
  refine ⟨ad, ebs[i.toNat], es[i.toNat].2, es[i.toNat].1, e, by rw [List.getElem?_eq_getElem hlt2], ?_, d, hd, hh⟩
  have := hcell 0 _ rfl
  have hz : kP.sz = 1 := rfl
  rwa [hz, Nat.mul_one, Nat.add_zero] at this
theorem Edges.below {W w1 : World} {base : Nat} {ok : Nat → Prop} {bs : List Nat} {v : Value} {es : Fil.Nd} (h : Edges W base ok bs v es) (hb : Below W.heap.size W w1) : Edges w1 base ok bs v es := by
  obtain ⟨ebs, h, hl, hn, he⟩ := h
  refine ⟨ebs, Kd.R_below h hb, hl, hn, fun j b e h1 h2 => ?_⟩
  obtain ⟨⟨c, hc, hh⟩, h3, h4⟩ := he j b e h1 h2
  exact ⟨⟨c, hc, (hb.block b (blk_lt hh)).trans hh⟩, h3, h4⟩
theorem two_cells {W : World} {b t : Nat} {x y : Value} (h : W.heap[b]? = some (.cells #[x, y] t (0, 0))) (hx : x.oneCell' = true) (hy : y.oneCell' = true) : W.cell? ⟨b, 0, none⟩ = some x ∧ W.cell? ⟨b, 1, none⟩ = some y := by
  constructor <;> simp [World.cell?, h]

theorem Edges.nil? {W : World} {base : Nat} {ok : Nat → Prop} {bs : List Nat} {A : Option Addr} {n c : Nat} {es : Fil.Nd} (h : Edges W base ok bs (.slice A n c) es) : A.isNone = es.isEmpty := by
  obtain ⟨ebs, h, hl, hn, he⟩ := h
  cases es with
  | nil =>
    have := hn rfl
    injection this with h1
    rw [h1]; rfl
  | cons e es =>
    obtain ⟨g, cap, e1, _⟩ := Kd.R_form h (by rw [hl]; simp)
    injection e1 with h1
    rw [h1]; rfl
theorem leaf_calls (w : World) (v : Value) (es : Fil.Nd) (base : Nat) (ok : Nat → Prop) (bs : List Nat) (h : Edges w base ok bs v es) :
    Calls Try.prog 41 #[.agg #[v]] w fun e w' => e = .returned (.bool es.isEmpty) ∧ Below w.heap.size w w' := by
  obtain ⟨A, c, rfl⟩ := h.slice
  have hn := h.nil?
  have HN := Aside0.mk hn
  have hq := fun w : World => Lib.run_eql_slice_nil (P := Try.prog) w 69 86 A es.length c 0 0 Try.underlying69
  clear h hn
  go_enter Try.func41, Try.ntmps41
  go_wp2
  go_ret
  exact ⟨congrArg (fun z => Ending.returned (.bool z)) HN.out, (Below.refl _ _).alloc (Nat.le_refl _) _⟩
theorem toList_inj' {a b : ByteArray} (h : a.toList = b.toList) : a = b := by
  rw [ByteArray.toList_eq, ByteArray.toList_eq] at h
  cases a; cases b
  simpa using h
theorem any_of {s : ByteArray} (h : s.toList = ([0] : List UInt8)) : s = Fil.ANY := toList_inj' (by rw [h, ByteArray.toList_eq]; rfl)
set_option maxHeartbeats 2000000 in
theorem has_calls (w : World) (v : Value) (es : Fil.Nd) (base : Nat) (ok : Nat → Prop) (bs : List Nat) (x : ByteArray) (h : Edges w base ok bs v es) (hl : es.length ≤ 1000000) :
    Calls Try.prog 40 #[.agg #[v], .string x] w fun e w' => e = .returned (.int .i64 (hasI es x 0)) ∧ Below w.heap.size w w' := by
  obtain ⟨A, c, rfl⟩ := h.slice
  have HE := Aside0.mk h
  clear h
  go_enter Try.func40, Try.ntmps40
  go_wp2
  go_loopw [10] (fun v10 wr => ∃ i : Int, v10 = .int .i64 i ∧ Aside0 (0 ≤ i ∧ i ≤ es.length) ∧ Aside0 (hasI (es.drop i.toNat) x i = hasI es x 0) ∧ Aside0 (Below w.heap.size w wr)) (fun v10 _ => es.length - (intOf v10).toNat)
  case atStart => exact ⟨0, rfl, ⟨by omega⟩, ⟨by simp⟩, ⟨(Below.refl _ _).alloc (Nat.le_refl _) _⟩⟩
  case round =>
    obtain ⟨i, rfl, HI, HH, HB⟩ := hrel
    obtain ⟨h0, h1⟩ := HI.out
    by_cases hlt : i < es.length
    · have hb1 : decide (i < (es.length : Int)) = true := decide_eq_true hlt
      obtain ⟨ad, b, cc, s, e0, he, hc, d, hd, hh⟩ := (HE.out.below HB.out).at i h0 hlt
      subst e0
      obtain ⟨c0, c1⟩ := two_cells hh rfl rfl
      have g0 : decide ((0 : Int) ≤ i) = true := decide_eq_true h0
      have hdrop : es.drop i.toNat = (s, cc) :: es.drop (i.toNat + 1) := by
        have hlt2 := (List.getElem?_eq_some_iff.1 he)
        obtain ⟨q1, q2⟩ := hlt2
        rw [List.drop_eq_getElem_cons q1, q2]
      have HD := Aside0.mk hdrop
      clear hdrop he hd hh
      by_cases ha : s = Fil.ANY
      · have e1 : (s.toList == ([0] : List UInt8)) = true := by rw [ha, ByteArray.toList_eq]; decide
        have hres : hasI es x 0 = i := by
          rw [← HH.out, HD.out]
          simp [hasI, Fil.hit, ha]
        have HRES := Aside0.mk hres
        clear ha hres
        go_wp2
        go_ret
        exact ⟨congrArg (fun z => Ending.returned (.int .i64 z)) HRES.out.symm, HB.out⟩
      · have e1 : (s.toList == ([0] : List UInt8)) = false := by
          rw [beq_eq_false_iff_ne]
          intro e
          exact ha (any_of e)
        by_cases hx : s = x
        · have e2 : (s.toList == x.toList) = true := by rw [hx]; exact beq_self_eq_true _
          have hres : hasI es x 0 = i := by
            rw [← HH.out, HD.out]
            simp [hasI, Fil.hit, hx]
          have HRES := Aside0.mk hres
          clear ha hres hx
          go_wp2
          go_ret
          exact ⟨congrArg (fun z => Ending.returned (.int .i64 z)) HRES.out.symm, HB.out⟩
        · have e2 : (s.toList == x.toList) = false := by
            rw [beq_eq_false_iff_ne]
            intro e
            exact hx (toList_inj' e)
          have hres : hasI (es.drop (i.toNat + 1)) x (i + 1) = hasI es x 0 := by
            rw [← HH.out, HD.out]
            simp [hasI, Fil.hit, hx, ha]
          have HRES := Aside0.mk (show hasI (es.drop (i + 1).toNat) x (i + 1) = hasI es x 0 by
            rw [show (i + 1).toNat = i.toNat + 1 by omega]; exact hres)
          clear ha hres hx
          go_wp2
          go_roundw
          case rel => exact ⟨i + 1, rfl, ⟨by omega⟩, HRES, HB⟩
          case measure => simp [intOf]; omega
    · have hb1 : decide (i < (es.length : Int)) = false := decide_eq_false hlt
      have hend : hasI es x 0 = -1 := by
        rw [← HH.out, List.drop_eq_nil_of_le (by omega)]; rfl
      have HE := Aside0.mk hend
      clear hend
      go_wp2
      go_ret
      exact ⟨congrArg (fun z => Ending.returned (.int .i64 z)) HE.out.symm, HB.out⟩
end Go.Proofs.Ythecfligfhpccaa.P
