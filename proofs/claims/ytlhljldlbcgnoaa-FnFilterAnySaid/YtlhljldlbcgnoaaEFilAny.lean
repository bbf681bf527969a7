/- Several filters match what one of them does, in any order: the law's walk. No condition. -/
import Derived.Test.YtlhljldlbcgnoaaEFilOne
import Derived.Test.YtlhljldlbcgnoaaP17
import Derived.Test.YtlhljldlbcgnoaaP9
set_option linter.unusedVariables false
namespace Go.Proofs.Ytlhljldlbcgnoaa.P
open Go.RowKit Go.Proofs.YtlhljldlbcgnoaaW.PrintWords Go.Proofs.YtlhljldlbcgnoaaW.PrintLast Go.Proofs.YtlhljldlbcgnoaaW.PrintMore
open Go.Proofs.Ytlhljldlbcgnoaa.X

def laws_FnFilterAny.f (l0 : List (List ByteArray)) (l1 : List ByteArray) : Option Bool := some true
/-- A filter that the law lets by. -/
def okF (f : List ByteArray) : Prop := f ≠ [] ∧ f.length ≤ 8 ∧ f.any (fun v => decide (v = Fil.ANY)) = false
theorem any_f (l : List (List ByteArray)) (fs : List ByteArray) (h1 : l.length ≤ 8) (h2 : fs.length ≤ 8) (h : ∀ f ∈ l, okF f) : impl_FilterMatch.f l fs = some (l.any (fun f => Fil.wild f fs)) := by
  rw [impl_f l fs (by omega) (fun f hf => by have := (h f hf).2.1; omega) (by omega), build_any l fs (fun f hf => (h f hf).1) (fun _ f hf => (h f hf).2.2)]

set_option maxHeartbeats 8000000 in
set_option maxRecDepth 100000 in
theorem laws_FnFilterAny.calls (A0 : Option Addr) (c0 : Nat) (l0 : List (List ByteArray)) (A1 : Option Addr) (c1 : Nat) (l1 : List ByteArray) (r : Bool) (w : World) (hr0 : Kd.C (Kd.slice 9 Kd.string) w A0 l0.length l0) (hc0 : l0.length ≤ c0) (hr1 : Kd.C Kd.string w A1 l1.length l1) (hc1 : l1.length ≤ c1) (h : laws_FnFilterAny.f l0 l1 = some r) :
    Calls Try.prog 6 #[.slice A0 l0.length c0, .slice A1 l1.length c1] w fun e w' => e = .returned (.bool r) ∧ Below w.heap.size w w' := by
  obtain rfl : true = r := Option.some.inj h
  clear h
  have HR0 := Aside0.mk hr0
  have HC0 := Aside0.mk hc0
  have HR1 := Aside0.mk hr1
  have HC1 := Aside0.mk hc1
  obtain ⟨b0, ⟨K0, hK0⟩, hb0⟩ := fit9 l0
  have H0 := Aside0.mk (hK0 K0 (Nat.le_refl _))
  obtain ⟨b1, ⟨K1, hK1⟩, -⟩ := fit4 l1
  have H1 := Aside0.mk (hK1 K1 (Nat.le_refl _))
  clear hr0 hc0 hr1 hc1 hK0 hK1
  dsimp only at H0 H1
  go_enter Try.func6, Try.ntmps6
  go_wp2_with fail
  refine (laws_zzFits9.calls K0 _ _ l0 b0 _ HR0.out HC0.out H0.out).mono ?_
  rintro e w1 ⟨rfl, hd⟩
  have HB1 := Aside0.mk hd.below
  clear hd H0
  cases b0 with
  | false =>
    go_wp2
    go_ret
    exact ⟨rfl, HB1.out⟩
  | true =>
    have HF := Aside0.mk (hb0 rfl)
    clear hb0
    go_wp2_with fail
    refine (laws_zzFits4.calls K1 _ _ l1 b1 _ (Kd.C_below HR1.out HB1.out) HC1.out H1.out).mono ?_
    rintro e w2 ⟨rfl, hd⟩
    have HB2 := Aside0.mk (below_up' HB1.out hd.below)
    clear hd H1 HB1
    cases b1 with
    | false =>
      go_wp2
      go_ret
      exact ⟨rfl, HB2.out⟩
    | true =>
      go_wp2_with fail
      obtain ⟨h1, h2, h3, h4⟩ := three_alloc' w2 (.cells #[.string ⟨#[97]⟩] 9 (0, 0)) (.cells #[.slice (some ⟨w2.heap.size, 0, none⟩) 1 1] 25 (0, 0)) (.cells #[.string ⟨#[97]⟩] 9 (0, 0))
      have HQ := Aside0.mk h4
      refine (impl_FilterMatch.calls _ _ [[(⟨#[97]⟩ : ByteArray)]] _ _ [(⟨#[97]⟩ : ByteArray)] _ _ (one_C h2 (one_K h1)) (Nat.le_refl _) (texts1_C h3) (Nat.le_refl _) (canary1 _ _ (by decide))).mono ?_
      rintro e w3 ⟨rfl, hb⟩
      have HB3 := Aside0.mk (below_up' (below_up' HB2.out HQ.out) hb)
      clear h1 h2 h3 h4 hb HQ HB2
      have hd1 : decide ((⟨#[97]⟩ : ByteArray) = (⟨#[97]⟩ : ByteArray)) = true := decide_eq_true rfl
      rw [hd1]
      clear hd1
      go_wp2_with fail
      obtain ⟨h1, h2, h3, h4⟩ := three_alloc' w3 (.cells #[.string ⟨#[97]⟩] 9 (0, 0)) (.cells #[.slice (some ⟨w3.heap.size, 0, none⟩) 1 1] 25 (0, 0)) (.cells #[.string ⟨#[98]⟩] 9 (0, 0))
      have HQ := Aside0.mk h4
      refine (impl_FilterMatch.calls _ _ [[(⟨#[97]⟩ : ByteArray)]] _ _ [(⟨#[98]⟩ : ByteArray)] _ _ (one_C h2 (one_K h1)) (Nat.le_refl _) (texts1_C h3) (Nat.le_refl _) (canary1 _ _ (by decide))).mono ?_
      rintro e w4 ⟨rfl, hb⟩
      have HB4 := Aside0.mk (below_up' (below_up' HB3.out HQ.out) hb)
      clear h1 h2 h3 h4 hb HQ HB3
      have hd1 : decide ((⟨#[97]⟩ : ByteArray) = (⟨#[98]⟩ : ByteArray)) = false := decide_eq_false (by decide)
      rw [hd1]
      clear hd1
      by_cases h8 : 8 < l0.length
      · have q3 : decide ((8 : Int) < (l0.length : Int)) = true := decide_eq_true (by omega)
        have q4 : decide (8 < l0.length) = true := decide_eq_true (by omega)
        go_wp2
        go_ret
        exact ⟨rfl, HB4.out⟩
      have q3 : decide ((8 : Int) < (l0.length : Int)) = false := decide_eq_false (by omega)
      have q4 : decide (8 < l0.length) = false := decide_eq_false (by omega)
      by_cases h12 : 8 < l1.length
      · have q5 : decide ((8 : Int) < (l1.length : Int)) = true := decide_eq_true (by omega)
        have q6 : decide (8 < l1.length) = true := decide_eq_true (by omega)
        go_wp2
        go_ret
        exact ⟨rfl, HB4.out⟩
      have q5 : decide ((8 : Int) < (l1.length : Int)) = false := decide_eq_false (by omega)
      have q6 : decide (8 < l1.length) = false := decide_eq_false (by omega)
      have H8 := Aside0.mk (Nat.le_of_not_lt h8)
      have H12 := Aside0.mk (Nat.le_of_not_lt h12)
      clear h8 h12
      go_wp2_with fail
      clear q3 q4 q5 q6
      go_loopw [5, 6, 37] (fun v5 v6 v37 wr => ∃ (i : Int) (o : Bool), v5 = .bool o ∧ v37 = .int .i64 i ∧ Aside0 (0 ≤ i ∧ i ≤ l0.length) ∧ Aside0 (Kd.R (Kd.fixed (Kd.slice 9 Kd.string) w) 25 wr w.heap.size (fun _ => True) v6 (l0.reverse.take i.toNat)) ∧ Aside0 (∀ f ∈ l0.take i.toNat, okF f) ∧ Aside0 (o = (l0.take i.toNat).any (fun f => Fil.wild f l1)) ∧ Aside0 (Below w.heap.size w wr)) (fun _ _ v37 _ => l0.length - (intOf v37).toNat)
      case atStart => exact ⟨0, false, rfl, rfl, ⟨by omega⟩, ⟨by simpa using Kd.R_nil _ _ _ _ _⟩, ⟨by simp⟩, ⟨by simp⟩, HB4⟩
      case round =>
        clear HB4
        obtain ⟨i, o, rfl, rfl, HI, HRR, HK, HO, HB⟩ := hrel
        obtain ⟨hi0, hi1⟩ := HI.out
        have hl8 : l0.length ≤ 8 := H8.out
        by_cases hlt : i < l0.length
        · have hb1 : decide (i < (l0.length : Int)) = true := decide_eq_true hlt
          have g0 : decide ((0 : Int) ≤ i) = true := decide_eq_true hi0
          obtain ⟨ad0, B0, d0, e0, hx, hlx, hCx⟩ := at_L1 (Kd.C_below HR0.out HB.out) i hi0 hlt
          subst e0
          have hn : i.toNat < l0.length := by omega
          have hrd : rd_L1 l0 i = l0[i.toNat] := by simp [rd_L1, hn]
          have htk : l0.take (i + 1).toNat = l0.take i.toNat ++ [rd_L1 l0 i] := by
            rw [show (i + 1).toNat = i.toNat + 1 by omega, List.take_succ_eq_append_getElem hn, hrd]
          have hxl : (rd_L1 l0 i).length ≤ 2147483647 := by rw [hrd]; exact (HF.out.2 _ (List.getElem_mem hn)).1
          have hone : (l0.drop i.toNat).take 1 = [rd_L1 l0 i] := by
            rw [List.drop_eq_getElem_cons hn, hrd]; rfl
          have HTK := Aside0.mk htk
          have HXL := Aside0.mk hxl
          have HONE := Aside0.mk hone
          have HCX := Aside0.mk hCx
          have HLX := Aside0.mk hlx
          clear hrd htk hxl hone hCx hlx
          generalize rd_L1 l0 i = x at *
          by_cases hz : x.length = 0
          · have q1 : ((x.length : Int) == 0) = true := by rw [hz]; rfl
            have q2 : (x.length == 0) = true := by rw [hz]; rfl
            have q3 : x = [] := List.length_eq_zero_iff.1 hz
            subst q3
            go_wp2
            go_ret
            exact ⟨rfl, HB.out⟩
          have q1 : ((x.length : Int) == 0) = false := beq_eq_false_iff_ne.2 (by omega)
          have q2 : (x.length == 0) = false := beq_eq_false_iff_ne.2 hz
          by_cases h8 : 8 < x.length
          · have q3 : decide ((8 : Int) < (x.length : Int)) = true := decide_eq_true (by omega)
            have q4 : decide (8 < x.length) = true := decide_eq_true (by omega)
            go_wp2
            go_ret
            exact ⟨rfl, HB.out⟩
          have q3 : decide ((8 : Int) < (x.length : Int)) = false := decide_eq_false (by omega)
          have q4 : decide (8 < x.length) = false := decide_eq_false (by omega)
          obtain ⟨KA, hKA⟩ := hasAny_ev x HXL.out
          have HKA := Aside0.mk (hKA KA (Nat.le_refl _))
          dsimp only at HKA
          obtain ⟨an, han⟩ : ∃ an, x.any (fun v => decide (v = Fil.ANY)) = an := ⟨_, rfl⟩
          rw [han] at HKA
          have HAN := Aside0.mk han
          have HXZ := Aside0.mk hz
          have HX8 := Aside0.mk (Nat.le_of_not_lt h8)
          clear hKA han hz h8
          go_wp2_with fail
          refine (laws_hasAny.calls KA _ _ x an _ HCX.out HLX.out HKA.out).mono ?_
          rintro e w5 ⟨rfl, hd⟩
          have HB5 := Aside0.mk (below_up' HB.out hd.below)
          have HRR5 := Aside0.mk (Kd.R_below HRR.out hd.below)
          replace hx := (hd.below.cell (World.block_lt_of_cell? wr _ hx)).trans hx
          clear hd HCX
          cases an with
          | true =>
            go_wp2
            go_ret
            exact ⟨rfl, HB5.out⟩
          | false =>
            obtain ⟨ad2, B2, d2, e2, hy, hly, hCy⟩ := at_L1 HR0.out ((l0.length : Int) - 1 - i) (by omega) (by omega)
            cases e2
            replace hy := (HB5.out.cell (World.block_lt_of_cell? w _ hy)).trans hy
            have hn2 : ((l0.length : Int) - 1 - i).toNat < l0.length := by omega
            have hrev : l0.reverse.take (i + 1).toNat = l0.reverse.take i.toNat ++ [rd_L1 l0 ((l0.length : Int) - 1 - i)] := by
              rw [show (i + 1).toNat = i.toNat + 1 by omega, List.take_succ_eq_append_getElem (by rw [List.length_reverse]; omega), List.getElem_reverse]
              simp only [rd_L1, List.getD_eq_getElem?_getD]
              rw [List.getElem?_eq_getElem hn2]
              simp only [show ((l0.length : Int) - 1 - i).toNat = l0.length - 1 - i.toNat by omega, Option.getD_some]
            have HREV := Aside0.mk hrev
            have HCY := Aside0.mk hCy
            have HLY := Aside0.mk hly
            clear hrev hCy hly hn2 hn
            generalize rd_L1 l0 ((l0.length : Int) - 1 - i) = y at *
            have hbl : (l0.reverse.take i.toNat).length ≤ 8 := by
              have := List.length_take_le i.toNat l0.reverse
              omega
            have HBL := Aside0.mk hbl
            clear hbl
            generalize l0.reverse.take i.toNat = bk at *
            obtain ⟨A6, c6, rfl⟩ := Kd.R_slice HRR5.out
            have HOX := Aside0.mk (show ∀ f ∈ l0.take (i + 1).toNat, okF f from fun f hf => by
              rw [HTK.out] at hf
              rcases List.mem_append.1 hf with hf | hf
              · exact HK.out f hf
              · simp at hf
                subst hf
                exact ⟨fun e => HXZ.out (by rw [e]; rfl), HX8.out, HAN.out⟩)
            have HAY := Aside0.mk (show (l0.take (i + 1).toNat).any (fun f => Fil.wild f l1) = (o || Fil.wild x l1) by rw [HTK.out, HO.out]; simp)
            have g1 : decide ((0 : Int) ≤ (l0.length : Int) - 1 - i) = true := decide_eq_true (by omega)
            have g2 : decide ((l0.length : Int) - 1 - i < (l0.length : Int)) = true := decide_eq_true (by omega)
            have g3 : (0 : Int) ≤ (l0.length : Int) - 1 - i := by omega
            have g4 : (l0.length : Int) - 1 - i < (l0.length : Int) := by omega
            cases o with
            | true =>
              go_wp2_with (first | ((with_reducible refine gate_dst (N := 81) rfl ?_); refine Kd.R_append (Kd.fixed (Kd.slice 9 Kd.string) w) (w0 := w) w.heap.size rfl (.tmp 71) (.tmp 80) 22 25 (.slice none 0 0) 24 rfl Try.underlying22 info25 rfl Nat.one_pos (by omega) (.slice A6 bk.length c6) bk y [.slice B2 y.length d2] (fun _ => True) (fun _ => False) rfl rfl ?aP (fun _ hk => hk.elim) (fun _ _ => trivial) HRR5.out HB5.out HB5.out.size ?aL ?_; (case aP => exact ⟨B2, d2, rfl, HLY.out, HCY.out⟩); (case aL => have := HBL.out; omega); intro v1 w7 hr7 hb7 hg7 _; rw [← HREV.out] at hr7; have HR7 := Aside0.mk hr7; have HB7 := Aside0.mk hb7; clear hr7 hb7 hg7) | fail)
              go_roundw
              case rel => exact ⟨i + 1, true, rfl, rfl, ⟨by omega⟩, HR7, HOX, ⟨by rw [HAY.out]; rfl⟩, HB7⟩
              case measure => simp [intOf]; omega
            | false =>
              have k1 : decide (i ≤ i + 1) = true := decide_eq_true (by omega)
              have k2 : decide (i + 1 ≤ (c0 : Int)) = true := decide_eq_true (by have := HC0.out; omega)
              have k3 : i ≤ i + 1 := by omega
              have k4 : i + 1 ≤ (c0 : Int) := by have := HC0.out; omega
              have k5 : (0 : Int) ≤ i + 1 := by omega
              have k6 : (i + 1).toNat - i.toNat = 1 := by omega
              have k7 : ¬ (c0 : Int) - i = 0 := by omega
              have k8 : ¬ c0 - i.toNat = 0 := by omega
              have hC1 : (Kd.slice 9 Kd.string).C w5 (some (ad0.add i.toNat)) 1 [x] := by
                have h1 := Kd.C_drop (m := i.toNat) (Kd.C_below HR0.out HB5.out) (by omega) HC0.out
                rw [if_neg (by omega)] at h1
                have h2 := Kd.C_take (m := 1) h1 (by rw [List.length_drop]; omega)
                rw [HONE.out] at h2
                have hz : (Kd.slice 9 Kd.string).sz = 1 := rfl
                rw [hz, Nat.mul_one] at h2
                exact h2
              have hF1 : impl_FilterMatch.f [x] l1 = some (Fil.wild x l1) := by
                rw [any_f [x] l1 (by simp) H12.out (fun f hf => by
                  simp at hf
                  subst hf
                  exact ⟨fun e => HXZ.out (by rw [e]; rfl), HX8.out, HAN.out⟩)]
                simp
              have HCS := Aside0.mk hC1
              have HF1 := Aside0.mk hF1
              clear hC1 hF1
              go_wp2_with fail
              refine (impl_FilterMatch.calls _ _ [x] _ _ l1 _ _ HCS.out (show 1 ≤ c0 - i.toNat by have := HC0.out; omega) (Kd.C_below HR1.out HB5.out) HC1.out HF1.out).mono ?_
              rintro e w6 ⟨rfl, hb⟩
              have HB6 := Aside0.mk (below_up' HB5.out hb)
              have HRR6 := Aside0.mk (Kd.R_below HRR5.out hb)
              replace hy := (hb.cell (World.block_lt_of_cell? w5 _ hy)).trans hy
              clear hb hx k1 k2 k3 k4 k5 k6 k7 k8
              generalize Fil.wild x l1 = o2 at *
              go_wp2_with (first | ((with_reducible refine gate_dst (N := 81) rfl ?_); refine Kd.R_append (Kd.fixed (Kd.slice 9 Kd.string) w) (w0 := w) w.heap.size rfl (.tmp 71) (.tmp 80) 22 25 (.slice none 0 0) 24 rfl Try.underlying22 info25 rfl Nat.one_pos (by omega) (.slice A6 bk.length c6) bk y [.slice B2 y.length d2] (fun _ => True) (fun _ => False) rfl rfl ?aP (fun _ hk => hk.elim) (fun _ _ => trivial) HRR6.out HB6.out HB6.out.size ?aL ?_; (case aP => exact ⟨B2, d2, rfl, HLY.out, HCY.out⟩); (case aL => have := HBL.out; omega); intro v1 w7 hr7 hb7 hg7 _; rw [← HREV.out] at hr7; have HR7 := Aside0.mk hr7; have HB7 := Aside0.mk hb7; clear hr7 hb7 hg7) | fail)
              go_roundw
              case rel => exact ⟨i + 1, o2, rfl, rfl, ⟨by omega⟩, HR7, HOX, ⟨by rw [HAY.out]; rfl⟩, HB7⟩
              case measure => simp [intOf]; omega
        · have hb1 : decide (i < (l0.length : Int)) = false := decide_eq_false hlt
          have hall : l0.take i.toNat = l0 := List.take_of_length_le (by omega)
          have hallr : l0.reverse.take i.toNat = l0.reverse := List.take_of_length_le (by rw [List.length_reverse]; omega)
          rw [hall] at HK HO
          rw [hallr] at HRR
          have hF1 : impl_FilterMatch.f l0 l1 = some o := by rw [any_f l0 l1 H8.out H12.out HK.out, HO.out]
          have hF2 : impl_FilterMatch.f l0.reverse l1 = some o := by
            rw [any_f l0.reverse l1 (by rw [List.length_reverse]; exact H8.out) H12.out (fun f hf => HK.out f (List.mem_reverse.1 hf)), List.any_reverse, HO.out]
          have HF1 := Aside0.mk hF1
          have HF2 := Aside0.mk hF2
          obtain ⟨A6, c6, rfl⟩ := Kd.R_slice HRR.out
          clear hall hallr hF1 hF2
          go_wp2_with fail
          refine (impl_FilterMatch.calls _ _ l0 _ _ l1 _ _ (Kd.C_below HR0.out HB.out) HC0.out (Kd.C_below HR1.out HB.out) HC1.out HF1.out).mono ?_
          rintro e w5 ⟨rfl, hb⟩
          have HB5 := Aside0.mk (below_up' HB.out hb)
          have HRR5 := Aside0.mk (Kd.R_below HRR.out hb)
          clear hb
          have e3 : (o == o) = true := beq_self_eq_true o
          go_wp2_with fail
          obtain ⟨q1, q2, q3⟩ := Kd.R_reads' HRR5.out
          have hcl := impl_FilterMatch.calls A6 c6 l0.reverse A1 c1 l1 o w5 (C_fixed q3 HB5.out) q2 (Kd.C_below HR1.out HB5.out) HC1.out HF2.out
          rw [List.length_reverse] at hcl
          refine hcl.mono ?_
          rintro e w6 ⟨rfl, hb⟩
          have HB6 := Aside0.mk (below_up' HB5.out hb)
          clear hb q1 q2 q3 hcl
          go_wp2
          go_ret
          exact ⟨rfl, HB6.out⟩
end Go.Proofs.Ytlhljldlbcgnoaa.P
