-- PRINTED by print.py (a twelfth state) out of the translation. Not trusted: Lean checks it.
import Derived.Test.YthecfligfhpccaaDoorP0
namespace Go.Proofs.YthecfligfhpccaaDoor.P
open Go.RowKit Go.Proofs.YthecfligfhpccaaDoorW.PrintWords Go.Proofs.YthecfligfhpccaaDoorW.PrintLast Go.Proofs.YthecfligfhpccaaDoorW.PrintMore
attribute [local go_sem] max2_int min2_int max_two min_two max_three min_three max_four min_four   -- for this text's walks alone
set_option linter.unusedVariables false
set_option linter.unusedSimpArgs false

/-! ### spec_Places: function 15 -/
mutual
def spec_Places.l0 : Nat → ByteArray → List ByteArray → List (List Int) → List ByteArray → Int → Int → Option ((List (List Int)) × Int)
  | 0, _, _, _, _, _, _ => none
  | k + 1, x0, x1, x6, x13, x14, x15 => if x15 < x14 then (if 0 ≤ x15 then (if x15 < (x13.length : Int) then (if x15 ≤ (x1.length : Int) then (spec_Places.l1 k x0 x1 x6 (rdOf ByteArray.empty x13 x15) x13 x14 x15 (x1.take (x15 : Int).toNat) ((x1.take (x15 : Int).toNat).length : Int) 0) else (none)) else (none)) else (none)) else (some (x6, 1))
def spec_Places.l1 : Nat → ByteArray → List ByteArray → List (List Int) → ByteArray → List ByteArray → Int → Int → List ByteArray → Int → Int → Option ((List (List Int)) × Int)
  | 0, _, _, _, _, _, _, _, _, _, _ => none
  | k + 1, x0, x1, x6, x8, x13, x14, x15, x22, x23, x24 => if x24 < x23 then (if 0 ≤ x24 then (if x24 < (x22.length : Int) then (if x8.toList = (rdOf ByteArray.empty x22 x24).toList then (if x8.toList = ([] : List UInt8) then (spec_Places.l1 k x0 x1 x6 x8 x13 x14 x15 x22 x23 (wrap64 (x24 + 1))) else (some (([] : List (List Int)), 2))) else (spec_Places.l1 k x0 x1 x6 x8 x13 x14 x15 x22 x23 (wrap64 (x24 + 1)))) else (none)) else (none)) else (spec_Places.l2 k x0 x1 x6 x8 ([] : List Int) (wrap64 ((x0.size : Int) - (x8.size : Int))) x13 x14 x15)
def spec_Places.l2 : Nat → ByteArray → List ByteArray → List (List Int) → ByteArray → List Int → Int → List ByteArray → Int → Int → Option ((List (List Int)) × Int)
  | 0, _, _, _, _, _, _, _, _, _ => none
  | k + 1, x0, x1, x6, x8, x11, x12, x13, x14, x15 => if x12 ≥ 0 then (spec_Places.j3 k x0 x1 x6 x8 x11 x12 x13 x14 x15 (x8.toList != ([] : List UInt8))) else (spec_Places.j3 k x0 x1 x6 x8 x11 x12 x13 x14 x15 false)
def spec_Places.j3 : Nat → ByteArray → List ByteArray → List (List Int) → ByteArray → List Int → Int → List ByteArray → Int → Int → Bool → Option ((List (List Int)) × Int)
  | 0, _, _, _, _, _, _, _, _, _, _ => none
  | k + 1, x0, x1, x6, x8, x11, x12, x13, x14, x15, x46 => if x46 = true then (if 0 ≤ x12 then (if x12 ≤ (wrap64 (x12 + (x8.size : Int))) then (if (wrap64 (x12 + (x8.size : Int))) ≤ (x0.size : Int) then (if (x0.extract (x12 : Int).toNat ((wrap64 (x12 + (x8.size : Int))) : Int).toNat).toList = x8.toList then (if x11.length < 17592186044416 then (spec_Places.l2 k x0 x1 x6 x8 (x11 ++ [x12]) (wrap64 ((wrap64 (x12 - (wrap64 ((x8.size : Int) - 1)))) - 1)) x13 x14 x15) else (none)) else (spec_Places.l2 k x0 x1 x6 x8 x11 (wrap64 (x12 - 1)) x13 x14 x15)) else (none)) else (none)) else (none)) else (if x6.length < 5864062014805 then (spec_Places.l0 k x0 x1 (x6 ++ [x11]) x13 x14 (wrap64 (x15 + 1))) else (none))
end
def spec_Places.f (k : Nat) (a0 : ByteArray) (l1 : List ByteArray) : Option ((List (List Int)) × Int) := spec_Places.l0 k a0 l1 ([] : List (List Int)) l1 (l1.length : Int) 0
theorem spec_Places.mono_l : ∀ k, (∀ y0 y1 y2 y3 y4 y5, LeO (spec_Places.l0 k y0 y1 y2 y3 y4 y5) (spec_Places.l0 (k + 1) y0 y1 y2 y3 y4 y5)) ∧ (∀ y0 y1 y2 y3 y4 y5 y6 y7 y8 y9, LeO (spec_Places.l1 k y0 y1 y2 y3 y4 y5 y6 y7 y8 y9) (spec_Places.l1 (k + 1) y0 y1 y2 y3 y4 y5 y6 y7 y8 y9)) ∧ (∀ y0 y1 y2 y3 y4 y5 y6 y7 y8, LeO (spec_Places.l2 k y0 y1 y2 y3 y4 y5 y6 y7 y8) (spec_Places.l2 (k + 1) y0 y1 y2 y3 y4 y5 y6 y7 y8)) ∧ (∀ y0 y1 y2 y3 y4 y5 y6 y7 y8 y9, LeO (spec_Places.j3 k y0 y1 y2 y3 y4 y5 y6 y7 y8 y9) (spec_Places.j3 (k + 1) y0 y1 y2 y3 y4 y5 y6 y7 y8 y9))
  | 0 => ⟨fun _ _ _ _ _ _ r h => by simp [spec_Places.l0] at h, fun _ _ _ _ _ _ _ _ _ _ r h => by simp [spec_Places.l1] at h, fun _ _ _ _ _ _ _ _ _ r h => by simp [spec_Places.l2] at h, fun _ _ _ _ _ _ _ _ _ _ r h => by simp [spec_Places.j3] at h⟩
  | k + 1 => by
    obtain ⟨ih0, ih1, ih2, ih3⟩ := spec_Places.mono_l k
    refine ⟨?_, ?_, ?_, ?_⟩
    · intro y0 y1 y2 y3 y4 y5
      unfold spec_Places.l0
      repeat' first
      | (with_reducible exact ih0 _ _ _ _ _ _)
      | (with_reducible exact ih1 _ _ _ _ _ _ _ _ _ _)
      | (with_reducible exact ih2 _ _ _ _ _ _ _ _ _)
      | (with_reducible exact ih3 _ _ _ _ _ _ _ _ _ _)
      | (with_reducible exact LeO.refl _)
      | (with_reducible exact LeO.none _)
      | (with_reducible refine LeO.ite ?_ ?_)
      | (with_reducible refine LeO.bind ?_ (fun _ => ?_))
      | exact ih0 _ _ _ _ _ _
      | exact ih1 _ _ _ _ _ _ _ _ _ _
      | exact ih2 _ _ _ _ _ _ _ _ _
      | exact ih3 _ _ _ _ _ _ _ _ _ _
      | exact LeO.none _
      | refine LeO.ite ?_ ?_
      | refine LeO.bind ?_ (fun _ => ?_)
    · intro y0 y1 y2 y3 y4 y5 y6 y7 y8 y9
      unfold spec_Places.l1
      repeat' first
      | (with_reducible exact ih0 _ _ _ _ _ _)
      | (with_reducible exact ih1 _ _ _ _ _ _ _ _ _ _)
      | (with_reducible exact ih2 _ _ _ _ _ _ _ _ _)
      | (with_reducible exact ih3 _ _ _ _ _ _ _ _ _ _)
      | (with_reducible exact LeO.refl _)
      | (with_reducible exact LeO.none _)
      | (with_reducible refine LeO.ite ?_ ?_)
      | (with_reducible refine LeO.bind ?_ (fun _ => ?_))
      | exact ih0 _ _ _ _ _ _
      | exact ih1 _ _ _ _ _ _ _ _ _ _
      | exact ih2 _ _ _ _ _ _ _ _ _
      | exact ih3 _ _ _ _ _ _ _ _ _ _
      | exact LeO.none _
      | refine LeO.ite ?_ ?_
      | refine LeO.bind ?_ (fun _ => ?_)
    · intro y0 y1 y2 y3 y4 y5 y6 y7 y8
      unfold spec_Places.l2
      repeat' first
      | (with_reducible exact ih0 _ _ _ _ _ _)
      | (with_reducible exact ih1 _ _ _ _ _ _ _ _ _ _)
      | (with_reducible exact ih2 _ _ _ _ _ _ _ _ _)
      | (with_reducible exact ih3 _ _ _ _ _ _ _ _ _ _)
      | (with_reducible exact LeO.refl _)
      | (with_reducible exact LeO.none _)
      | (with_reducible refine LeO.ite ?_ ?_)
      | (with_reducible refine LeO.bind ?_ (fun _ => ?_))
      | exact ih0 _ _ _ _ _ _
      | exact ih1 _ _ _ _ _ _ _ _ _ _
      | exact ih2 _ _ _ _ _ _ _ _ _
      | exact ih3 _ _ _ _ _ _ _ _ _ _
      | exact LeO.none _
      | refine LeO.ite ?_ ?_
      | refine LeO.bind ?_ (fun _ => ?_)
    · intro y0 y1 y2 y3 y4 y5 y6 y7 y8 y9
      unfold spec_Places.j3
      repeat' first
      | (with_reducible exact ih0 _ _ _ _ _ _)
      | (with_reducible exact ih1 _ _ _ _ _ _ _ _ _ _)
      | (with_reducible exact ih2 _ _ _ _ _ _ _ _ _)
      | (with_reducible exact ih3 _ _ _ _ _ _ _ _ _ _)
      | (with_reducible exact LeO.refl _)
      | (with_reducible exact LeO.none _)
      | (with_reducible refine LeO.ite ?_ ?_)
      | (with_reducible refine LeO.bind ?_ (fun _ => ?_))
      | exact ih0 _ _ _ _ _ _
      | exact ih1 _ _ _ _ _ _ _ _ _ _
      | exact ih2 _ _ _ _ _ _ _ _ _
      | exact ih3 _ _ _ _ _ _ _ _ _ _
      | exact LeO.none _
      | refine LeO.ite ?_ ?_
      | refine LeO.bind ?_ (fun _ => ?_)
theorem spec_Places.mono : ∀ a0 a1 k, LeO (spec_Places.f k a0 a1) (spec_Places.f (k + 1) a0 a1) := by
  intro a0 a1 k
  obtain ⟨ih0, ih1, ih2, ih3⟩ := spec_Places.mono_l k
  unfold spec_Places.f
  repeat' first
      | (with_reducible exact ih0 _ _ _ _ _ _)
      | (with_reducible exact ih1 _ _ _ _ _ _ _ _ _ _)
      | (with_reducible exact ih2 _ _ _ _ _ _ _ _ _)
      | (with_reducible exact ih3 _ _ _ _ _ _ _ _ _ _)
      | (with_reducible exact LeO.refl _)
      | (with_reducible exact LeO.none _)
      | (with_reducible refine LeO.ite ?_ ?_)
      | (with_reducible refine LeO.bind ?_ (fun _ => ?_))
      | exact ih0 _ _ _ _ _ _
      | exact ih1 _ _ _ _ _ _ _ _ _ _
      | exact ih2 _ _ _ _ _ _ _ _ _
      | exact ih3 _ _ _ _ _ _ _ _ _ _
      | exact LeO.none _
      | refine LeO.ite ?_ ?_
      | refine LeO.bind ?_ (fun _ => ?_)
set_option maxHeartbeats 8000000 in
set_option maxRecDepth 100000 in
theorem spec_Places.calls (k : Nat) (a0 : ByteArray) (A1 : Option Addr) (c1 : Nat) (l1 : List ByteArray) (r1 : List (List Int)) (r2 : Int) (w : World) (hr1 : Kd.C Kd.string w A1 l1.length l1) (hc1 : l1.length ≤ c1) (h : spec_Places.f k a0 l1 = some (r1, r2)) :
    Calls Tryd.prog 15 #[.string a0, .slice A1 l1.length c1] w fun e w' => ∃ v0_ : Value, e = .returned (.tuple #[v0_, .int .i64 r2]) ∧ Kd.S (Kd.slice 3 (Kd.int .i64)) 37 w' w.heap.size (fun _ => True) v0_ r1 ∧ Below w.heap.size w w' := by
  have HR1 := Aside0.mk hr1
  have HC1 := Aside0.mk hc1
  clear hr1 hc1
  have HB := Aside0.mk (Below.refl w.heap.size w)
  have H : (spec_Places.l0 k a0 l1 ([] : List (List Int)) l1 (l1.length : Int) 0) = some (r1, r2) := h
  clear h
  have H' := Aside0.mk H
  clear H
  go_enter Tryd.func15, Tryd.ntmps15
  go_wp2
  go_loopg [6, 15] k (fun kq v6 v15 w' => ∃ (x6_1 : List (List Int)) (x15_1 : Int), v15 = .int .i64 x15_1 ∧ Aside0 (spec_Places.l0 kq a0 l1 x6_1 l1 (l1.length : Int) x15_1 = some (r1, r2)) ∧ Aside0 (kq ≤ k) ∧ Aside0 (Kd.S (Kd.slice 3 (Kd.int .i64)) 37 w' w.heap.size (fun _ => True) v6 x6_1) ∧ Aside0 (Below w.heap.size w w'))
  case atStart => exact ⟨(([] : List (List Int))), (0), (by first | rfl | (simp; done) | (simp [*]; done) | (simp; generalize ByteArray.toList _ = l_; cases l_ <;> rfl)), H', ⟨Nat.le_refl _⟩, ⟨by first | exact Kd.S_nil _ _ _ _ _ | exact Kd.N_nil _ _ _ _ _ | exact Kd.V_nil _ _ _ _ _ | exact Kd.Q_nil _ _ _ _ _ | exact Kd.R_nil _ _ _ _ _⟩, ⟨by repeat (first | (with_reducible first | exact HB.out | apply below_alloc | apply pw_below_drewN | apply below_drew1) | exact HB.out)⟩⟩
  case round =>
    clear H'
    try clear c1
    try clear p2
    obtain ⟨x6_1, x15_1, rfl, HA, HK1, HO_6, HB⟩ := hrel
    cases gk with
    | zero => exact absurd HA.out (by simp [spec_Places.l0])
    | succ k1 =>
      have H := HA.out
      clear HA
      simp only [spec_Places.l0] at H
      by_cases c3 : x15_1 < (l1.length : Int)
      · rw [if_pos c3] at H
        have c3b0 : decide (x15_1 < (l1.length : Int)) = true := decide_eq_true c3
        clear c3
        by_cases c4 : 0 ≤ x15_1
        · rw [if_pos c4] at H
          have c4b0 : decide (0 ≤ x15_1) = true := decide_eq_true c4
          clear c4
          by_cases c5 : x15_1 < (l1.length : Int)
          · rw [if_pos c5] at H
            have c5b0 : decide (x15_1 < (l1.length : Int)) = true := decide_eq_true c5
            clear c5
            have c6b0 := eq_true (of_decide_eq_true (by first | (with_reducible assumption) | assumption) : 0 ≤ x15_1)
            by_cases c7 : x15_1 ≤ (l1.length : Int)
            · rw [if_pos c7] at H
              have c7b0 := eq_true c7
              have c7b1 : decide (x15_1 ≤ (l1.length : Int)) = true := decide_eq_true c7
              have KC13 := Aside0.mk c7b1
              clear c7
              have H' := Aside0.mk H
              clear H
              have p293 : 0 ≤ (x15_1 : Int) := of_decide_eq_true (by first | (with_reducible assumption) | assumption)
              have q293 : x15_1 < (l1.length : Int) := of_decide_eq_true (by first | (with_reducible assumption) | assumption)
              obtain ⟨ad293, e293, hx293_0⟩ := Kd.at_string HR1.out x15_1 p293 q293
              cases e293
              first | (replace hx293_0 := (HB.out.cell (World.block_lt_of_cell? w _ hx293_0)).trans hx293_0) | skip
              replace p293 := eq_true p293
              replace q293 := eq_true q293
              obtain ⟨i08, hi08, _, hsz8, _⟩ := info_parts info9
              obtain ⟨hcut8, hA8, hC8⟩ := print_take_of (P := Tryd.prog) Value.string (⟨#[]⟩ : ByteArray) 22 9 .i64 Tryd.underlying22 hi08 hsz8 (some ad293) c1 l1 x15_1 (of_decide_eq_true (by first | (with_reducible assumption) | assumption)) (of_decide_eq_true (by first | (with_reducible assumption) | assumption)) HC1.out
              have HR294 := Aside0.mk (Kd.C_of_reads (h1 := fun _ => rfl) (hA8 _ (Kd.reads_of_C HR1.out)))
              have HC294 := Aside0.mk hC8
              clear hA8 hC8 hi08 hsz8
              go_wp2
              go_loopg [24] k1 (fun kq v24 w' => ∃ (x24_2 : Int), v24 = .int .i64 x24_2 ∧ Aside0 (spec_Places.l1 kq a0 l1 x6_1 (rdOf ByteArray.empty l1 x15_1) l1 (l1.length : Int) x15_1 (l1.take (x15_1 : Int).toNat) ((l1.take (x15_1 : Int).toNat).length : Int) x24_2 = some (r1, r2)) ∧ Aside0 (kq ≤ k1) ∧ Aside0 (Kd.S (Kd.slice 3 (Kd.int .i64)) 37 w' w.heap.size (fun _ => True) u6 x6_1) ∧ Aside0 (Below w.heap.size w w'))
              case atStart => exact ⟨(0), (by first | rfl | (simp; done) | (simp [*]; done) | (simp; generalize ByteArray.toList _ = l_; cases l_ <;> rfl)), H', ⟨Nat.le_refl _⟩, ⟨by (with_reducible repeat (first | apply Kd.S_alloc | apply Kd.S_drewN | apply Kd.S_drew)); exact HO_6.out⟩, ⟨by repeat (first | (with_reducible first | exact HB.out | apply below_alloc | apply pw_below_drewN | apply below_drew1) | exact HB.out)⟩⟩
              case round =>
                clear H'
                try clear c1
                try clear p2
                try clear q2
                try clear hx2
                try clear c3
                try clear c3b0
                try clear c4
                try clear c4b0
                try clear c5
                try clear c5b0
                try clear c6
                try clear c6b0
                try clear c7
                try clear c7b0
                try clear c7b1
                try clear hx293_0
                try clear p2
                try clear p293
                try clear q293
                obtain ⟨x24_2, rfl, HA, HK2, HO_6, HB⟩ := hrel
                cases gk with
                | zero => exact absurd HA.out (by simp [spec_Places.l1])
                | succ k2 =>
                  have H := HA.out
                  clear HA
                  simp only [spec_Places.l1] at H
                  by_cases c9 : x24_2 < ((l1.take (x15_1 : Int).toNat).length : Int)
                  · rw [if_pos c9] at H
                    have c9b0 : decide (x24_2 < ((l1.take (x15_1 : Int).toNat).length : Int)) = true := decide_eq_true c9
                    have cm0 : x24_2 < max x15_1 0 := by have cm9 := of_decide_eq_true c9b0; rw [List.length_take] at cm9; omega
                    have cm1 : (max x15_1 0 ≤ x24_2) = False := eq_false (by omega)
                    have cm2 : decide (x24_2 < max x15_1 0) = true := decide_eq_true cm0
                    clear c9
                    by_cases c10 : 0 ≤ x24_2
                    · rw [if_pos c10] at H
                      have c10b0 : decide (0 ≤ x24_2) = true := decide_eq_true c10
                      clear c10
                      by_cases c11 : x24_2 < ((l1.take (x15_1 : Int).toNat).length : Int)
                      · rw [if_pos c11] at H
                        have c11b0 : decide (x24_2 < ((l1.take (x15_1 : Int).toNat).length : Int)) = true := decide_eq_true c11
                        clear c11
                        by_cases c12 : (rdOf ByteArray.empty l1 x15_1).toList = (rdOf ByteArray.empty (l1.take (x15_1 : Int).toNat) x24_2).toList
                        · rw [if_pos c12] at H
                          have c12b0 : ((rdOf ByteArray.empty l1 x15_1).toList == (rdOf ByteArray.empty (l1.take (x15_1 : Int).toNat) x24_2).toList) = true := beq_iff_eq.mpr c12
                          have c12b1 : ((rdOf ByteArray.empty l1 x15_1).toList != (rdOf ByteArray.empty (l1.take (x15_1 : Int).toNat) x24_2).toList) = false := bne_eq_false_iff_eq.mpr c12
                          clear c12
                          by_cases c13 : (rdOf ByteArray.empty l1 x15_1).toList = ([] : List UInt8)
                          · rw [if_pos c13] at H
                            have c13b0 : ((rdOf ByteArray.empty l1 x15_1).toList == ([] : List UInt8)) = true := beq_iff_eq.mpr c13
                            have c13b1 : ((rdOf ByteArray.empty l1 x15_1).toList != ([] : List UInt8)) = false := bne_eq_false_iff_eq.mpr c13
                            clear c13
                            have H' := Aside0.mk H
                            clear H
                            have p295 : 0 ≤ (x24_2 : Int) := of_decide_eq_true (by first | (with_reducible assumption) | assumption)
                            have q295 : x24_2 < ((l1.take (x15_1 : Int).toNat).length : Int) := of_decide_eq_true (by first | (with_reducible assumption) | assumption)
                            obtain ⟨ad295, e295, hx295_0⟩ := Kd.at_string HR294.out x24_2 p295 q295
                            obtain rfl : ad293 = ad295 := (by injection e295)
                            first | (replace hx295_0 := (HB.out.cell (World.block_lt_of_cell? w _ hx295_0)).trans hx295_0) | skip
                            replace p295 := eq_true p295
                            replace q295 := eq_true q295
                            go_wp2
                            go_roundg k2
                            case measure => have := HK1.out; have := HK2.out; omega
                            case rel => exact ⟨(wrap64 (x24_2 + 1)), (by first | rfl | (simp; done) | (simp [*]; done) | (simp; generalize ByteArray.toList _ = l_; cases l_ <;> rfl)), H', ⟨by have := HK1.out; have := HK2.out; omega⟩, ⟨by (with_reducible repeat (first | apply Kd.S_alloc | apply Kd.S_drewN | apply Kd.S_drew)); exact HO_6.out⟩, ⟨by repeat (first | (with_reducible first | exact HB.out | apply below_alloc | apply pw_below_drewN | apply below_drew1) | exact HB.out)⟩⟩
                          · rw [if_neg c13] at H
                            have c13b0 : ((rdOf ByteArray.empty l1 x15_1).toList == ([] : List UInt8)) = false := beq_eq_false_iff_ne.mpr c13
                            have c13b1 : ((rdOf ByteArray.empty l1 x15_1).toList != ([] : List UInt8)) = true := bne_iff_ne.mpr c13
                            simp only [Option.some.injEq, Prod.mk.injEq] at H
                            obtain ⟨rfl, rfl⟩ := H
                            have p295 : 0 ≤ (x24_2 : Int) := of_decide_eq_true (by first | (with_reducible assumption) | assumption)
                            have q295 : x24_2 < ((l1.take (x15_1 : Int).toNat).length : Int) := of_decide_eq_true (by first | (with_reducible assumption) | assumption)
                            obtain ⟨ad295, e295, hx295_0⟩ := Kd.at_string HR294.out x24_2 p295 q295
                            obtain rfl : ad293 = ad295 := (by injection e295)
                            first | (replace hx295_0 := (HB.out.cell (World.block_lt_of_cell? w _ hx295_0)).trans hx295_0) | skip
                            replace p295 := eq_true p295
                            replace q295 := eq_true q295
                            go_wp2
                            go_ret2
                            exact ⟨_, by first | rfl | (simp [errW_none, errW_some] <;> rfl) | (simp [*, errW_none, errW_some] <;> rfl), by first | exact Kd.S_nil _ _ _ _ _ | exact Kd.N_nil _ _ _ _ _ | exact Kd.V_nil _ _ _ _ _ | exact Kd.Q_nil _ _ _ _ _ | exact Kd.R_nil _ _ _ _ _, by repeat (first | (with_reducible first | exact HB.out | apply below_alloc | apply pw_below_drewN | apply below_drew1) | exact HB.out)⟩
                        · rw [if_neg c12] at H
                          have c12b0 : ((rdOf ByteArray.empty l1 x15_1).toList == (rdOf ByteArray.empty (l1.take (x15_1 : Int).toNat) x24_2).toList) = false := beq_eq_false_iff_ne.mpr c12
                          have c12b1 : ((rdOf ByteArray.empty l1 x15_1).toList != (rdOf ByteArray.empty (l1.take (x15_1 : Int).toNat) x24_2).toList) = true := bne_iff_ne.mpr c12
                          have H' := Aside0.mk H
                          clear H
                          have p295 : 0 ≤ (x24_2 : Int) := of_decide_eq_true (by first | (with_reducible assumption) | assumption)
                          have q295 : x24_2 < ((l1.take (x15_1 : Int).toNat).length : Int) := of_decide_eq_true (by first | (with_reducible assumption) | assumption)
                          obtain ⟨ad295, e295, hx295_0⟩ := Kd.at_string HR294.out x24_2 p295 q295
                          obtain rfl : ad293 = ad295 := (by injection e295)
                          first | (replace hx295_0 := (HB.out.cell (World.block_lt_of_cell? w _ hx295_0)).trans hx295_0) | skip
                          replace p295 := eq_true p295
                          replace q295 := eq_true q295
                          go_wp2
                          go_roundg k2
                          case measure => have := HK1.out; have := HK2.out; omega
                          case rel => exact ⟨(wrap64 (x24_2 + 1)), (by first | rfl | (simp; done) | (simp [*]; done) | (simp; generalize ByteArray.toList _ = l_; cases l_ <;> rfl)), H', ⟨by have := HK1.out; have := HK2.out; omega⟩, ⟨by (with_reducible repeat (first | apply Kd.S_alloc | apply Kd.S_drewN | apply Kd.S_drew)); exact HO_6.out⟩, ⟨by repeat (first | (with_reducible first | exact HB.out | apply below_alloc | apply pw_below_drewN | apply below_drew1) | exact HB.out)⟩⟩
                      · rw [if_neg c11] at H
                        exact absurd H (by simp)
                    · rw [if_neg c10] at H
                      exact absurd H (by simp)
                  · rw [if_neg c9] at H
                    have c9b0 : decide (x24_2 < ((l1.take (x15_1 : Int).toNat).length : Int)) = false := decide_eq_false c9
                    have cm0 : ¬ x24_2 < max x15_1 0 := by have cm9 := of_decide_eq_false c9b0; rw [List.length_take] at cm9; have cm8 := of_decide_eq_true KC13.out; omega
                    have cm1 : (max x15_1 0 ≤ x24_2) = True := eq_true (by omega)
                    have cm2 : decide (x24_2 < max x15_1 0) = false := decide_eq_false cm0
                    clear c9
                    have H' := Aside0.mk H
                    clear H
                    go_wp2
                    go_loopg [11, 12] k2 (fun kq v11 v12 w' => ∃ (x11_3 : List Int) (x12_3 : Int), v12 = .int .i64 x12_3 ∧ Aside0 (spec_Places.l2 kq a0 l1 x6_1 (rdOf ByteArray.empty l1 x15_1) x11_3 x12_3 l1 (l1.length : Int) x15_1 = some (r1, r2)) ∧ Aside0 (kq ≤ k2) ∧ Aside0 (Kd.S (Kd.slice 3 (Kd.int .i64)) 37 w' w.heap.size (fun k_ => some k_ ≠ (v11 : Value).ownBlock) u6 x6_1) ∧ Aside0 (Kd.R (Kd.int .i64) 3 w' w.heap.size (fun _ => True) v11 x11_3) ∧ Aside0 (Below w.heap.size w w'))
                    case atStart => exact ⟨(([] : List Int)), (wrap64 ((a0.size : Int) - ((rdOf ByteArray.empty l1 x15_1).size : Int))), (by first | rfl | (simp; done) | (simp [*]; done) | (simp; generalize ByteArray.toList _ = l_; cases l_ <;> rfl)), H', ⟨Nat.le_refl _⟩, ⟨by (with_reducible repeat (first | apply Kd.S_alloc | apply Kd.S_drewN | apply Kd.S_drew)); exact Kd.S_mono HO_6.out (fun _ hk => (by simp [Value.ownBlock]))⟩, ⟨by first | exact Kd.R_nil _ _ _ _ _ | exact Kd.N_nil _ _ _ _ _ | exact Kd.V_nil _ _ _ _ _ | exact Kd.Q_nil _ _ _ _ _ | exact Kd.S_nil _ _ _ _ _⟩, ⟨by repeat (first | (with_reducible first | exact HB.out | apply below_alloc | apply pw_below_drewN | apply below_drew1) | exact HB.out)⟩⟩
                    case round =>
                      clear H'
                      try clear c1
                      try clear p2
                      try clear q2
                      try clear hx2
                      try clear c3
                      try clear c3b0
                      try clear c4
                      try clear c4b0
                      try clear c5
                      try clear c5b0
                      try clear c6
                      try clear c6b0
                      try clear p6
                      try clear c7
                      try clear c7b0
                      try clear c7b1
                      try clear c9
                      try clear c9b0
                      try clear c10
                      try clear c10b0
                      try clear c11
                      try clear c11b0
                      try clear c12
                      try clear c12b0
                      try clear c12b1
                      try clear c13
                      try clear c13b0
                      try clear c13b1
                      try clear hx293_0
                      try clear hx295_0
                      try clear p2
                      try clear p293
                      try clear p295
                      try clear q2
                      try clear q293
                      try clear q295
                      obtain ⟨x11_3, x12_3, rfl, HA, HK3, HO_6, HO_11, HB⟩ := hrel
                      cases gk with
                      | zero => exact absurd HA.out (by simp [spec_Places.l2])
                      | succ k3 =>
                        have H := HA.out
                        clear HA
                        simp only [spec_Places.l2] at H
                        have HC14 := Aside0.mk H
                        clear H
                        go_upto_region 13 with (fail)
                        go_cut [46] (fun v46 wc => ∃ (kq : Nat) (x46_13 : Bool), v46 = .bool x46_13 ∧ Aside0 (spec_Places.j3 kq a0 l1 x6_1 (rdOf ByteArray.empty l1 x15_1) x11_3 x12_3 l1 (l1.length : Int) x15_1 x46_13 = some (r1, r2)) ∧ Aside0 (kq ≤ k3) ∧ Aside0 (Kd.S (Kd.slice 3 (Kd.int .i64)) 37 wc w.heap.size (fun k_ => some k_ ≠ (u11 : Value).ownBlock) u6 x6_1) ∧ Aside0 (Kd.R (Kd.int .i64) 3 wc w.heap.size (fun _ => True) u11 x11_3) ∧ Aside0 (Below w.heap.size w wc))
                        case first =>
                          have H := HC14.out
                          clear HC14
                          by_cases c15 : x12_3 ≥ 0
                          · rw [if_pos c15] at H
                            have c15b0 : decide (0 ≤ x12_3) = true := decide_eq_true c15
                            clear c15
                            (first | rw [c15b0] | (simp only [i64_w, i32_w]; rw [c15b0]) | skip)
                            have H' := Aside0.mk H
                            clear H
                            go_wp2
                            go_meet
                            case rel => exact ⟨_, (((rdOf ByteArray.empty l1 x15_1).toList != ([] : List UInt8))), (by first | rfl | (simp; done) | (simp [*]; done) | (simp; generalize ByteArray.toList _ = l_; cases l_ <;> rfl)), H', ⟨by have := HK1.out; have := HK2.out; have := HK3.out; first | omega | exact Nat.le_refl _⟩, ⟨by (with_reducible repeat (first | apply Kd.S_alloc | apply Kd.S_drewN | apply Kd.S_drew)); exact HO_6.out⟩, ⟨by (with_reducible repeat (first | apply Kd.R_alloc | apply Kd.R_drewN | apply Kd.R_drew)); exact HO_11.out⟩, ⟨by repeat (first | (with_reducible first | exact HB.out | apply below_alloc | apply pw_below_drewN | apply below_drew1) | exact HB.out)⟩⟩
                          · rw [if_neg c15] at H
                            have c15b0 : decide (0 ≤ x12_3) = false := decide_eq_false c15
                            clear c15
                            (first | rw [c15b0] | (simp only [i64_w, i32_w]; rw [c15b0]) | skip)
                            have H' := Aside0.mk H
                            clear H
                            go_wp2
                            go_meet
                            case rel => exact ⟨_, (false), (by first | rfl | (simp; done) | (simp [*]; done) | (simp; generalize ByteArray.toList _ = l_; cases l_ <;> rfl)), H', ⟨by have := HK1.out; have := HK2.out; have := HK3.out; first | omega | exact Nat.le_refl _⟩, ⟨by (with_reducible repeat (first | apply Kd.S_alloc | apply Kd.S_drewN | apply Kd.S_drew)); exact HO_6.out⟩, ⟨by (with_reducible repeat (first | apply Kd.R_alloc | apply Kd.R_drewN | apply Kd.R_drew)); exact HO_11.out⟩, ⟨by repeat (first | (with_reducible first | exact HB.out | apply below_alloc | apply pw_below_drewN | apply below_drew1) | exact HB.out)⟩⟩
                        case rest =>
                          clear HC14
                          try clear c1
                          try clear p2
                          try clear q2
                          try clear hx2
                          try clear c3
                          try clear c3b0
                          try clear c4
                          try clear c4b0
                          try clear c5
                          try clear c5b0
                          try clear c6
                          try clear c6b0
                          try clear p6
                          try clear c7
                          try clear c7b0
                          try clear c7b1
                          try clear c9
                          try clear c9b0
                          try clear c10
                          try clear c10b0
                          try clear c11
                          try clear c11b0
                          try clear c12
                          try clear c12b0
                          try clear c12b1
                          try clear c13
                          try clear c13b0
                          try clear c13b1
                          try clear c15
                          try clear c15b0
                          try clear hx293_0
                          try clear hx295_0
                          try clear p2
                          try clear p293
                          try clear p295
                          try clear p6
                          try clear q2
                          try clear q293
                          try clear q295
                          obtain ⟨kq, x46_13, rfl, HA, HJ13, HO_6, HO_11, HB⟩ := hcut
                          cases kq with
                          | zero => exact absurd HA.out (by simp [spec_Places.j3])
                          | succ kj13 =>
                            have H := HA.out
                            clear HA
                            simp only [spec_Places.j3] at H
                            by_cases c16 : x46_13 = true
                            · subst c16
                              have H1 : (if 0 ≤ x12_3 then (if x12_3 ≤ (wrap64 (x12_3 + ((rdOf ByteArray.empty l1 x15_1).size : Int))) then (if (wrap64 (x12_3 + ((rdOf ByteArray.empty l1 x15_1).size : Int))) ≤ (a0.size : Int) then (if (a0.extract (x12_3 : Int).toNat ((wrap64 (x12_3 + ((rdOf ByteArray.empty l1 x15_1).size : Int))) : Int).toNat).toList = (rdOf ByteArray.empty l1 x15_1).toList then (if x11_3.length < 17592186044416 then (spec_Places.l2 kj13 a0 l1 x6_1 (rdOf ByteArray.empty l1 x15_1) (x11_3 ++ [x12_3]) (wrap64 ((wrap64 (x12_3 - (wrap64 (((rdOf ByteArray.empty l1 x15_1).size : Int) - 1)))) - 1)) l1 (l1.length : Int) x15_1) else (none)) else (spec_Places.l2 kj13 a0 l1 x6_1 (rdOf ByteArray.empty l1 x15_1) x11_3 (wrap64 (x12_3 - 1)) l1 (l1.length : Int) x15_1)) else (none)) else (none)) else (none)) = some (r1, r2) := by rw [if_pos rfl] at H; exact H
                              clear H
                              have H := H1
                              clear H1
                              by_cases c17 : 0 ≤ x12_3
                              · rw [if_pos c17] at H
                                have c17b0 := eq_true c17
                                have c17b1 : decide (0 ≤ x12_3) = true := decide_eq_true c17
                                clear c17
                                by_cases c18 : x12_3 ≤ (wrap64 (x12_3 + ((rdOf ByteArray.empty l1 x15_1).size : Int)))
                                · rw [if_pos c18] at H
                                  have c18b0 := eq_true c18
                                  have c18b1 : decide (x12_3 ≤ (wrap64 (x12_3 + ((rdOf ByteArray.empty l1 x15_1).size : Int)))) = true := decide_eq_true c18
                                  by_cases c19 : (wrap64 (x12_3 + ((rdOf ByteArray.empty l1 x15_1).size : Int))) ≤ (a0.size : Int)
                                  · rw [if_pos c19] at H
                                    have c19b0 := eq_true c19
                                    have c19b1 : decide ((wrap64 (x12_3 + ((rdOf ByteArray.empty l1 x15_1).size : Int))) ≤ (a0.size : Int)) = true := decide_eq_true c19
                                    by_cases c20 : (a0.extract (x12_3 : Int).toNat ((wrap64 (x12_3 + ((rdOf ByteArray.empty l1 x15_1).size : Int))) : Int).toNat).toList = (rdOf ByteArray.empty l1 x15_1).toList
                                    · rw [if_pos c20] at H
                                      have c20b0 : ((a0.extract (x12_3 : Int).toNat ((wrap64 (x12_3 + ((rdOf ByteArray.empty l1 x15_1).size : Int))) : Int).toNat).toList == (rdOf ByteArray.empty l1 x15_1).toList) = true := beq_iff_eq.mpr c20
                                      have c20b1 : ((a0.extract (x12_3 : Int).toNat ((wrap64 (x12_3 + ((rdOf ByteArray.empty l1 x15_1).size : Int))) : Int).toNat).toList != (rdOf ByteArray.empty l1 x15_1).toList) = false := bne_eq_false_iff_eq.mpr c20
                                      clear c20
                                      by_cases c21 : x11_3.length < 17592186044416
                                      · rw [if_pos c21] at H
                                        have LMc21 := Aside0.mk c21
                                        clear c21
                                        obtain ⟨y296, hy296⟩ : ∃ y_ : List Int, y_ = (x11_3 ++ [x12_3]) := ⟨_, rfl⟩
                                        replace H : (spec_Places.l2 kj13 a0 l1 x6_1 (rdOf ByteArray.empty l1 x15_1) y296 (wrap64 ((wrap64 (x12_3 - (wrap64 (((rdOf ByteArray.empty l1 x15_1).size : Int) - 1)))) - 1)) l1 (l1.length : Int) x15_1) = some (r1, r2) := by first | (rw [hy296]; with_reducible exact H) | (have H2_ := (Option.bind_some _ _).symm.trans H; rw [hy296]; with_reducible exact H2_) | (have H2_ := (Option.bind_some _ _).symm.trans H; with_reducible exact H2_) | with_reducible exact H | (rw [hy296]; exact H) | exact H
                                        have Ny296 := Aside0.mk hy296
                                        clear hy296
                                        have H' := Aside0.mk H
                                        clear H
                                        go_wp2_with (first | ((with_reducible refine gate_builtin (b := .append) (xs := #[.tmp 58, .tmp 60]) rfl ?_); at_builtin; refine Kd.R_append (Kd.int .i64) (w0 := w) w.heap.size rfl (.tmp 58) (.tmp 60) 37 3 (.int .i64 0) 8 rfl Tryd.underlying37 info3 rfl (by decide) (by omega) u11 x11_3 x12_3 [.int .i64 x12_3] (fun _ => True) (fun _ => False) rfl rfl ?aP (fun _ hk => hk.elim) ?aF ?aO ?aB ?aS ?aL ?_; (case aP => exact rfl); (case aB => exact (by repeat (first | (with_reducible first | exact HB.out | apply below_alloc | apply pw_below_drewN | apply below_drew1) | exact HB.out))); (case aF => exact (fun _ _ => trivial)); (case aO => exact (by (with_reducible repeat (first | apply Kd.R_alloc | apply Kd.R_drewN | apply Kd.R_drew)); exact HO_11.out)); (case aS => exact (below_size (by repeat (first | (with_reducible first | exact HB.out | apply below_alloc | apply pw_below_drewN | apply below_drew1) | exact HB.out)))); (case aL => have := LMc21.out; omega); intro v297 w22 ho hb hg hat; rw [← Ny296.out] at ho; have n0_ := Aside0.mk (Kd.S_after (ok := (fun _ => True)) (by (with_reducible repeat (first | apply Kd.S_alloc | apply Kd.S_drewN | apply Kd.S_drew)); exact Kd.S_mono HO_6.out (fun _ hk => ⟨trivial, hk⟩)) hg hat); have n1_ := Aside0.mk (hb); have n2_ := Aside0.mk (ho); clear HO_6; clear HB; clear HO_11; have HO_6 := n0_; have HB := n1_; have HO298 := n2_; clear n0_ n1_ n2_; clear ho hb hg hat))
                                        go_roundg kj13
                                        case measure => have := HK1.out; have := HK2.out; have := HK3.out; have := HJ13.out; omega
                                        case rel => exact ⟨(y296), (wrap64 ((wrap64 (x12_3 - (wrap64 (((rdOf ByteArray.empty l1 x15_1).size : Int) - 1)))) - 1)), (by first | rfl | (simp; done) | (simp [*]; done) | (simp; generalize ByteArray.toList _ = l_; cases l_ <;> rfl)), H', ⟨by have := HK1.out; have := HK2.out; have := HK3.out; have := HJ13.out; omega⟩, ⟨by (with_reducible repeat (first | apply Kd.S_alloc | apply Kd.S_drewN | apply Kd.S_drew)); exact Kd.S_mono HO_6.out (fun _ hk => hk.2)⟩, ⟨by (with_reducible repeat (first | apply Kd.R_alloc | apply Kd.R_drewN | apply Kd.R_drew)); exact HO298.out⟩, ⟨by repeat (first | (with_reducible first | exact HB.out | apply below_alloc | apply pw_below_drewN | apply below_drew1) | exact HB.out)⟩⟩
                                      · rw [if_neg c21] at H
                                        exact absurd H (by simp)
                                    · rw [if_neg c20] at H
                                      have c20b0 : ((a0.extract (x12_3 : Int).toNat ((wrap64 (x12_3 + ((rdOf ByteArray.empty l1 x15_1).size : Int))) : Int).toNat).toList == (rdOf ByteArray.empty l1 x15_1).toList) = false := beq_eq_false_iff_ne.mpr c20
                                      have c20b1 : ((a0.extract (x12_3 : Int).toNat ((wrap64 (x12_3 + ((rdOf ByteArray.empty l1 x15_1).size : Int))) : Int).toNat).toList != (rdOf ByteArray.empty l1 x15_1).toList) = true := bne_iff_ne.mpr c20
                                      have H' := Aside0.mk H
                                      clear H
                                      go_wp2
                                      go_roundg kj13
                                      case measure => have := HK1.out; have := HK2.out; have := HK3.out; have := HJ13.out; omega
                                      case rel => exact ⟨(x11_3), (wrap64 (x12_3 - 1)), (by first | rfl | (simp; done) | (simp [*]; done) | (simp; generalize ByteArray.toList _ = l_; cases l_ <;> rfl)), H', ⟨by have := HK1.out; have := HK2.out; have := HK3.out; have := HJ13.out; omega⟩, ⟨by (with_reducible repeat (first | apply Kd.S_alloc | apply Kd.S_drewN | apply Kd.S_drew)); exact HO_6.out⟩, ⟨by (with_reducible repeat (first | apply Kd.R_alloc | apply Kd.R_drewN | apply Kd.R_drew)); exact HO_11.out⟩, ⟨by repeat (first | (with_reducible first | exact HB.out | apply below_alloc | apply pw_below_drewN | apply below_drew1) | exact HB.out)⟩⟩
                                  · rw [if_neg c19] at H
                                    exact absurd H (by simp)
                                · rw [if_neg c18] at H
                                  exact absurd H (by simp)
                              · rw [if_neg c17] at H
                                exact absurd H (by simp)
                            · replace c16 := Bool.eq_false_iff.mpr c16
                              subst c16
                              have H1 : (if x6_1.length < 5864062014805 then (spec_Places.l0 kj13 a0 l1 (x6_1 ++ [x11_3]) l1 (l1.length : Int) (wrap64 (x15_1 + 1))) else (none)) = some (r1, r2) := by rw [if_neg (show ¬ (false = true) by decide)] at H; exact H
                              clear H
                              have H := H1
                              clear H1
                              by_cases c23 : x6_1.length < 5864062014805
                              · rw [if_pos c23] at H
                                have LMc23 := Aside0.mk c23
                                clear c23
                                obtain ⟨y299, hy299⟩ : ∃ y_ : List (List Int), y_ = (x6_1 ++ [x11_3]) := ⟨_, rfl⟩
                                replace H : (spec_Places.l0 kj13 a0 l1 y299 l1 (l1.length : Int) (wrap64 (x15_1 + 1))) = some (r1, r2) := by first | (rw [hy299]; with_reducible exact H) | (have H2_ := (Option.bind_some _ _).symm.trans H; rw [hy299]; with_reducible exact H2_) | (have H2_ := (Option.bind_some _ _).symm.trans H; with_reducible exact H2_) | with_reducible exact H | (rw [hy299]; exact H) | exact H
                                have Ny299 := Aside0.mk hy299
                                clear hy299
                                have H' := Aside0.mk H
                                clear H
                                obtain ⟨Ao25, co25, eo25⟩ := Kd.R_slice HO_11.out
                                subst eo25
                                go_wp2_with (first | ((with_reducible refine gate_builtin (b := .append) (xs := #[.tmp 67, .tmp 69]) rfl ?_); at_builtin; refine Kd.S_append (Kd.slice 3 (Kd.int .i64)) (w0 := w) w.heap.size rfl (.tmp 67) (.tmp 69) 32 37 (.slice none 0 0) 24 rfl Tryd.underlying32 info37 rfl (by decide) (by omega) u6 x6_1 x11_3 [.slice Ao25 x11_3.length co25] (fun _ => True) (fun k_ => some k_ = (.slice Ao25 x11_3.length co25 : Value).ownBlock) rfl rfl ?aP (fun k_ hk_ => ((Kd.R_mono (ok' := fun k_ => ((fun _ => True)) k_ ∧ some k_ ≠ (u6 : Value).ownBlock) (Kd.R_apart' (HO_11.out) (Kd.S_typed HO_6.out) (by decide)) (fun k_ hk => ⟨trivial, hk.2⟩))).1 k_ hk_.symm) ?aF ?aO ?aB ?aS ?aL ?_; (case aP => exact Kd.M_row (Kd.R_mono (Kd.R_tight rfl (Kd.R_mono (ok' := fun k_ => ((fun _ => True)) k_ ∧ some k_ ≠ (u6 : Value).ownBlock) (Kd.R_apart' (HO_11.out) (Kd.S_typed HO_6.out) (by decide)) (fun k_ hk => ⟨trivial, hk.2⟩))) (fun _ h_ => h_))); (case aB => exact (by repeat (first | (with_reducible first | exact HB.out | apply below_alloc | apply pw_below_drewN | apply below_drew1) | exact HB.out))); (case aF => exact (fun _ _ => trivial)); (case aO => exact (by (with_reducible repeat (first | apply Kd.S_alloc | apply Kd.S_drewN | apply Kd.S_drew)); exact Kd.S_mono HO_6.out (fun k_ hk => ⟨trivial, fun e_ => hk e_⟩))); (case aS => exact (below_size (by repeat (first | (with_reducible first | exact HB.out | apply below_alloc | apply pw_below_drewN | apply below_drew1) | exact HB.out)))); (case aL => have := LMc23.out; omega); intro v300 w24 ho hb hg hat; rw [← Ny299.out] at ho; have n0_ := Aside0.mk (hb); have n1_ := Aside0.mk (ho); clear HB; clear HO_6; clear HO_11; have HB := n0_; have HO301 := n1_; clear n0_ n1_; clear ho hb hg hat))
                                go_roundg kj13
                                case measure => have := HK1.out; have := HK2.out; have := HK3.out; have := HJ13.out; omega
                                case rel => exact ⟨(y299), (wrap64 (x15_1 + 1)), (by first | rfl | (simp; done) | (simp [*]; done) | (simp; generalize ByteArray.toList _ = l_; cases l_ <;> rfl)), H', ⟨by have := HK1.out; have := HK2.out; have := HK3.out; have := HJ13.out; omega⟩, ⟨by (with_reducible repeat (first | apply Kd.S_alloc | apply Kd.S_drewN | apply Kd.S_drew)); exact HO301.out⟩, ⟨by repeat (first | (with_reducible first | exact HB.out | apply below_alloc | apply pw_below_drewN | apply below_drew1) | exact HB.out)⟩⟩
                              · rw [if_neg c23] at H
                                exact absurd H (by simp)
            · rw [if_neg c7] at H
              exact absurd H (by simp)
          · rw [if_neg c5] at H
            exact absurd H (by simp)
        · rw [if_neg c4] at H
          exact absurd H (by simp)
      · rw [if_neg c3] at H
        have c3b0 : decide (x15_1 < (l1.length : Int)) = false := decide_eq_false c3
        clear c3
        simp only [Option.some.injEq, Prod.mk.injEq] at H
        obtain ⟨rfl, rfl⟩ := H
        go_wp2
        go_ret2
        exact ⟨_, by first | rfl | (simp [errW_none, errW_some] <;> rfl) | (simp [*, errW_none, errW_some] <;> rfl), by (with_reducible repeat (first | apply Kd.S_alloc | apply Kd.S_drewN | apply Kd.S_drew)); exact HO_6.out, by repeat (first | (with_reducible first | exact HB.out | apply below_alloc | apply pw_below_drewN | apply below_drew1) | exact HB.out)⟩

end Go.Proofs.YthecfligfhpccaaDoor.P
