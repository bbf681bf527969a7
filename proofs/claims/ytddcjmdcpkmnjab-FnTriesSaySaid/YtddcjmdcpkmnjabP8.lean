-- PRINTED by print.py (a twelfth state) out of the translation. Not trusted: Lean checks it.
import Derived.Test.YtddcjmdcpkmnjabP0
namespace Go.Proofs.Ytddcjmdcpkmnjab.P
open Go.RowKit Go.Proofs.YtddcjmdcpkmnjabW.PrintWords Go.Proofs.YtddcjmdcpkmnjabW.PrintLast
set_option linter.unusedVariables false
set_option linter.unusedSimpArgs false

/-! ### spec_FairWords: function 8 -/
mutual
def spec_FairWords.l0 : Nat → List ByteArray → List Int → List ByteArray → Int → Int → Option (Bool)
  | 0, _, _, _, _, _ => none
  | k + 1, x0, x1, x10, x11, x12 => if x12 < x11 then (if 0 ≤ x12 then (if x12 < (x10.length : Int) then (if (rdOf ByteArray.empty x10 x12).toList = ([] : List UInt8) then (some false) else (spec_FairWords.l1 k x0 x1 x12 (rdOf ByteArray.empty x10 x12) x10 x11 x12 ((rdOf ByteArray.empty x10 x12).size : Int) 0)) else (none)) else (none)) else (if (x1.length : Int) = 0 then (some true) else (some ((x1.length : Int) == (x0.length : Int))))
def spec_FairWords.l1 : Nat → List ByteArray → List Int → Int → ByteArray → List ByteArray → Int → Int → Int → Int → Option (Bool)
  | 0, _, _, _, _, _, _, _, _, _ => none
  | k + 1, x0, x1, x5, x6, x10, x11, x12, x20, x21 => if x21 < x20 then (if 0 ≤ x21 then (if x21 < (x6.size : Int) then (if (bt x6 x21) = 0 then (some false) else (spec_FairWords.l1 k x0 x1 x5 x6 x10 x11 x12 x20 (wrap64 (x21 + 1)))) else (none)) else (none)) else (if 0 ≤ x5 then (if x5 ≤ (x0.length : Int) then (spec_FairWords.l2 k x0 x1 x6 x10 x11 x12 (x0.take (x5 : Int).toNat) ((x0.take (x5 : Int).toNat).length : Int) 0) else (none)) else (none))
def spec_FairWords.l2 : Nat → List ByteArray → List Int → ByteArray → List ByteArray → Int → Int → List ByteArray → Int → Int → Option (Bool)
  | 0, _, _, _, _, _, _, _, _, _ => none
  | k + 1, x0, x1, x6, x10, x11, x12, x31, x32, x33 => if x33 < x32 then (if 0 ≤ x33 then (if x33 < (x31.length : Int) then (if (rdOf ByteArray.empty x31 x33).toList = x6.toList then (some false) else (spec_FairWords.l2 k x0 x1 x6 x10 x11 x12 x31 x32 (wrap64 (x33 + 1)))) else (none)) else (none)) else (spec_FairWords.l0 k x0 x1 x10 x11 (wrap64 (x12 + 1)))
end
def spec_FairWords.f (k : Nat) (l0 : List ByteArray) (l1 : List Int) : Option (Bool) := spec_FairWords.l0 k l0 l1 l0 (l0.length : Int) 0
theorem spec_FairWords.mono_l : ∀ k, (∀ y0 y1 y2 y3 y4, LeO (spec_FairWords.l0 k y0 y1 y2 y3 y4) (spec_FairWords.l0 (k + 1) y0 y1 y2 y3 y4)) ∧ (∀ y0 y1 y2 y3 y4 y5 y6 y7 y8, LeO (spec_FairWords.l1 k y0 y1 y2 y3 y4 y5 y6 y7 y8) (spec_FairWords.l1 (k + 1) y0 y1 y2 y3 y4 y5 y6 y7 y8)) ∧ (∀ y0 y1 y2 y3 y4 y5 y6 y7 y8, LeO (spec_FairWords.l2 k y0 y1 y2 y3 y4 y5 y6 y7 y8) (spec_FairWords.l2 (k + 1) y0 y1 y2 y3 y4 y5 y6 y7 y8))
  | 0 => ⟨fun _ _ _ _ _ r h => by simp [spec_FairWords.l0] at h, fun _ _ _ _ _ _ _ _ _ r h => by simp [spec_FairWords.l1] at h, fun _ _ _ _ _ _ _ _ _ r h => by simp [spec_FairWords.l2] at h⟩
  | k + 1 => by
    obtain ⟨ih0, ih1, ih2⟩ := spec_FairWords.mono_l k
    refine ⟨?_, ?_, ?_⟩
    · intro y0 y1 y2 y3 y4
      unfold spec_FairWords.l0
      repeat' first
      | (with_reducible exact ih0 _ _ _ _ _)
      | (with_reducible exact ih1 _ _ _ _ _ _ _ _ _)
      | (with_reducible exact ih2 _ _ _ _ _ _ _ _ _)
      | (with_reducible exact LeO.refl _)
      | (with_reducible exact LeO.none _)
      | (with_reducible refine LeO.ite ?_ ?_)
      | (with_reducible refine LeO.bind ?_ (fun _ => ?_))
      | exact ih0 _ _ _ _ _
      | exact ih1 _ _ _ _ _ _ _ _ _
      | exact ih2 _ _ _ _ _ _ _ _ _
      | exact LeO.none _
      | refine LeO.ite ?_ ?_
      | refine LeO.bind ?_ (fun _ => ?_)
    · intro y0 y1 y2 y3 y4 y5 y6 y7 y8
      unfold spec_FairWords.l1
      repeat' first
      | (with_reducible exact ih0 _ _ _ _ _)
      | (with_reducible exact ih1 _ _ _ _ _ _ _ _ _)
      | (with_reducible exact ih2 _ _ _ _ _ _ _ _ _)
      | (with_reducible exact LeO.refl _)
      | (with_reducible exact LeO.none _)
      | (with_reducible refine LeO.ite ?_ ?_)
      | (with_reducible refine LeO.bind ?_ (fun _ => ?_))
      | exact ih0 _ _ _ _ _
      | exact ih1 _ _ _ _ _ _ _ _ _
      | exact ih2 _ _ _ _ _ _ _ _ _
      | exact LeO.none _
      | refine LeO.ite ?_ ?_
      | refine LeO.bind ?_ (fun _ => ?_)
    · intro y0 y1 y2 y3 y4 y5 y6 y7 y8
      unfold spec_FairWords.l2
      repeat' first
      | (with_reducible exact ih0 _ _ _ _ _)
      | (with_reducible exact ih1 _ _ _ _ _ _ _ _ _)
      | (with_reducible exact ih2 _ _ _ _ _ _ _ _ _)
      | (with_reducible exact LeO.refl _)
      | (with_reducible exact LeO.none _)
      | (with_reducible refine LeO.ite ?_ ?_)
      | (with_reducible refine LeO.bind ?_ (fun _ => ?_))
      | exact ih0 _ _ _ _ _
      | exact ih1 _ _ _ _ _ _ _ _ _
      | exact ih2 _ _ _ _ _ _ _ _ _
      | exact LeO.none _
      | refine LeO.ite ?_ ?_
      | refine LeO.bind ?_ (fun _ => ?_)
theorem spec_FairWords.mono : ∀ a0 a1 k, LeO (spec_FairWords.f k a0 a1) (spec_FairWords.f (k + 1) a0 a1) := by
  intro a0 a1 k
  obtain ⟨ih0, ih1, ih2⟩ := spec_FairWords.mono_l k
  unfold spec_FairWords.f
  repeat' first
      | (with_reducible exact ih0 _ _ _ _ _)
      | (with_reducible exact ih1 _ _ _ _ _ _ _ _ _)
      | (with_reducible exact ih2 _ _ _ _ _ _ _ _ _)
      | (with_reducible exact LeO.refl _)
      | (with_reducible exact LeO.none _)
      | (with_reducible refine LeO.ite ?_ ?_)
      | (with_reducible refine LeO.bind ?_ (fun _ => ?_))
      | exact ih0 _ _ _ _ _
      | exact ih1 _ _ _ _ _ _ _ _ _
      | exact ih2 _ _ _ _ _ _ _ _ _
      | exact LeO.none _
      | refine LeO.ite ?_ ?_
      | refine LeO.bind ?_ (fun _ => ?_)
set_option maxHeartbeats 8000000 in
set_option maxRecDepth 100000 in
theorem spec_FairWords.calls (k : Nat) (A0 : Option Addr) (c0 : Nat) (l0 : List ByteArray) (A1 : Option Addr) (c1 : Nat) (l1 : List Int) (r : Bool) (w : World) (hr0 : Kd.C Kd.string w A0 l0.length l0) (hc0 : l0.length ≤ c0) (hr1 : Kd.C (Kd.int .i64) w A1 l1.length l1) (hc1 : l1.length ≤ c1) (h : spec_FairWords.f k l0 l1 = some r) :
    Calls Try.prog 8 #[.slice A0 l0.length c0, .slice A1 l1.length c1] w fun e w' => e = .returned (.bool r) ∧ Drawn0 w w' := by
  have HR0 := Aside0.mk hr0
  have HC0 := Aside0.mk hc0
  clear hr0 hc0
  have HR1 := Aside0.mk hr1
  have HC1 := Aside0.mk hc1
  clear hr1 hc1
  have H : (spec_FairWords.l0 k l0 l1 l0 (l0.length : Int) 0) = some r := h
  clear h
  have H' := Aside0.mk H
  clear H
  go_enter Try.func8, Try.ntmps8
  go_wp2
  go_loopg [12] k (fun kq v12 w' => ∃ (x12_1 : Int), v12 = .int .i64 x12_1 ∧ Aside0 (spec_FairWords.l0 kq l0 l1 l0 (l0.length : Int) x12_1 = some r) ∧ Aside0 (kq ≤ k) ∧ Drawn0 w w')
  case atStart => exact ⟨(0), (by first | rfl | (simp; done) | (simp [*]; done)), H', ⟨Nat.le_refl _⟩, by repeat (first | exact Drawn0.refl _ | apply Drawn0.step)⟩
  case round =>
    clear H'
    try clear c1
    try clear p2
    obtain ⟨x12_1, rfl, HA, HK1, ⟨m1, rfl⟩⟩ := hrel
    cases gk with
    | zero => exact absurd HA.out (by simp [spec_FairWords.l0])
    | succ k1 =>
      have H := HA.out
      clear HA
      simp only [spec_FairWords.l0] at H
      by_cases c3 : x12_1 < (l0.length : Int)
      · rw [if_pos c3] at H
        have c3b0 : decide (x12_1 < (l0.length : Int)) = true := decide_eq_true c3
        clear c3
        by_cases c4 : 0 ≤ x12_1
        · rw [if_pos c4] at H
          have c4b0 : decide (0 ≤ x12_1) = true := decide_eq_true c4
          clear c4
          by_cases c5 : x12_1 < (l0.length : Int)
          · rw [if_pos c5] at H
            have c5b0 : decide (x12_1 < (l0.length : Int)) = true := decide_eq_true c5
            clear c5
            by_cases c6 : (rdOf ByteArray.empty l0 x12_1).toList = ([] : List UInt8)
            · rw [if_pos c6] at H
              have c6b0 : ((rdOf ByteArray.empty l0 x12_1).toList == ([] : List UInt8)) = true := beq_iff_eq.mpr c6
              have c6b1 : ((rdOf ByteArray.empty l0 x12_1).toList != ([] : List UInt8)) = false := bne_eq_false_iff_eq.mpr c6
              clear c6
              obtain rfl := Option.some.inj H
              have p263 : 0 ≤ (x12_1 : Int) := of_decide_eq_true (by first | (with_reducible assumption) | assumption)
              have q263 : x12_1 < (l0.length : Int) := of_decide_eq_true (by first | (with_reducible assumption) | assumption)
              obtain ⟨ad263, e263, hx263_0⟩ := Kd.at_string HR0.out x12_1 p263 q263
              cases e263
              replace p263 := eq_true p263
              replace q263 := eq_true q263
              go_wp2
              go_ret
              exact ⟨by first | rfl | (simp; done) | (simp [*]; done), by repeat (first | exact Drawn0.refl _ | apply Drawn0.step)⟩
            · rw [if_neg c6] at H
              have c6b0 : ((rdOf ByteArray.empty l0 x12_1).toList == ([] : List UInt8)) = false := beq_eq_false_iff_ne.mpr c6
              have c6b1 : ((rdOf ByteArray.empty l0 x12_1).toList != ([] : List UInt8)) = true := bne_iff_ne.mpr c6
              have H' := Aside0.mk H
              clear H
              have p263 : 0 ≤ (x12_1 : Int) := of_decide_eq_true (by first | (with_reducible assumption) | assumption)
              have q263 : x12_1 < (l0.length : Int) := of_decide_eq_true (by first | (with_reducible assumption) | assumption)
              obtain ⟨ad263, e263, hx263_0⟩ := Kd.at_string HR0.out x12_1 p263 q263
              cases e263
              replace p263 := eq_true p263
              replace q263 := eq_true q263
              go_wp2
              go_loopg [21] k1 (fun kq v21 w' => ∃ (x21_2 : Int), v21 = .int .i64 x21_2 ∧ Aside0 (spec_FairWords.l1 kq l0 l1 x12_1 (rdOf ByteArray.empty l0 x12_1) l0 (l0.length : Int) x12_1 ((rdOf ByteArray.empty l0 x12_1).size : Int) x21_2 = some r) ∧ Aside0 (kq ≤ k1) ∧ Drawn0 w w')
              case atStart => exact ⟨(0), (by first | rfl | (simp; done) | (simp [*]; done)), H', ⟨Nat.le_refl _⟩, by repeat (first | exact Drawn0.refl _ | apply Drawn0.step)⟩
              case round =>
                clear H'
                try clear c1
                try clear p2
                try clear q2
                try clear hx2
                try clear c3
                try clear c3b0
                try clear c4
                try clear c4b0
                try clear c5
                try clear c5b0
                try clear c6
                try clear c6b0
                try clear c6b1
                try clear hx263_0
                try clear p2
                try clear p263
                try clear q263
                obtain ⟨x21_2, rfl, HA, HK2, ⟨m2, rfl⟩⟩ := hrel
                cases gk with
                | zero => exact absurd HA.out (by simp [spec_FairWords.l1])
                | succ k2 =>
                  have H := HA.out
                  clear HA
                  simp only [spec_FairWords.l1] at H
                  by_cases c7 : x21_2 < ((rdOf ByteArray.empty l0 x12_1).size : Int)
                  · rw [if_pos c7] at H
                    have c7b0 : decide (x21_2 < ((rdOf ByteArray.empty l0 x12_1).size : Int)) = true := decide_eq_true c7
                    clear c7
                    by_cases c8 : 0 ≤ x21_2
                    · rw [if_pos c8] at H
                      have c8b0 : decide (0 ≤ x21_2) = true := decide_eq_true c8
                      clear c8
                      by_cases c9 : x21_2 < ((rdOf ByteArray.empty l0 x12_1).size : Int)
                      · rw [if_pos c9] at H
                        have c9b0 : decide (x21_2 < ((rdOf ByteArray.empty l0 x12_1).size : Int)) = true := decide_eq_true c9
                        clear c9
                        by_cases c11 : (bt (rdOf ByteArray.empty l0 x12_1) x21_2) = 0
                        · rw [if_pos c11] at H
                          have c11b0 : ((bt (rdOf ByteArray.empty l0 x12_1) x21_2) == 0) = true := beq_iff_eq.mpr c11
                          have c11b1 : ((bt (rdOf ByteArray.empty l0 x12_1) x21_2) != 0) = false := bne_eq_false_iff_eq.mpr c11
                          clear c11
                          obtain rfl := Option.some.inj H
                          have p10 : 0 ≤ (x21_2 : Int) := of_decide_eq_true (by first | (with_reducible assumption) | assumption)
                          have q10 : x21_2 < ((rdOf ByteArray.empty l0 x12_1).size : Int) := of_decide_eq_true (by first | (with_reducible assumption) | assumption)
                          have hx10 := bt_at (rdOf ByteArray.empty l0 x12_1) x21_2
                          replace p10 := eq_true p10
                          replace q10 := eq_true q10
                          go_wp2
                          go_ret
                          exact ⟨by first | rfl | (simp; done) | (simp [*]; done), by repeat (first | exact Drawn0.refl _ | apply Drawn0.step)⟩
                        · rw [if_neg c11] at H
                          have c11b0 : ((bt (rdOf ByteArray.empty l0 x12_1) x21_2) == 0) = false := beq_eq_false_iff_ne.mpr c11
                          have c11b1 : ((bt (rdOf ByteArray.empty l0 x12_1) x21_2) != 0) = true := bne_iff_ne.mpr c11
                          have H' := Aside0.mk H
                          clear H
                          have p10 : 0 ≤ (x21_2 : Int) := of_decide_eq_true (by first | (with_reducible assumption) | assumption)
                          have q10 : x21_2 < ((rdOf ByteArray.empty l0 x12_1).size : Int) := of_decide_eq_true (by first | (with_reducible assumption) | assumption)
                          have hx10 := bt_at (rdOf ByteArray.empty l0 x12_1) x21_2
                          replace p10 := eq_true p10
                          replace q10 := eq_true q10
                          go_wp2
                          go_roundg k2
                          case measure => have := HK1.out; have := HK2.out; omega
                          case rel => exact ⟨(wrap64 (x21_2 + 1)), (by first | rfl | (simp; done) | (simp [*]; done)), H', ⟨by have := HK1.out; have := HK2.out; omega⟩, by repeat (first | exact Drawn0.refl _ | apply Drawn0.step)⟩
                      · rw [if_neg c9] at H
                        exact absurd H (by simp)
                    · rw [if_neg c8] at H
                      exact absurd H (by simp)
                  · rw [if_neg c7] at H
                    have c7b0 : decide (x21_2 < ((rdOf ByteArray.empty l0 x12_1).size : Int)) = false := decide_eq_false c7
                    clear c7
                    by_cases c12 : 0 ≤ x12_1
                    · rw [if_pos c12] at H
                      have c12b0 := eq_true c12
                      have c12b1 : decide (0 ≤ x12_1) = true := decide_eq_true c12
                      clear c12
                      by_cases c13 : x12_1 ≤ (l0.length : Int)
                      · rw [if_pos c13] at H
                        have c13b0 := eq_true c13
                        have c13b1 : decide (x12_1 ≤ (l0.length : Int)) = true := decide_eq_true c13
                        have KC13 := Aside0.mk c13b1
                        clear c13
                        have H' := Aside0.mk H
                        clear H
                        obtain ⟨i014, hi014, _, hsz14, _⟩ := info_parts info9
                        obtain ⟨hcut14, hA14, hC14⟩ := print_take_of (P := Try.prog) Value.string (⟨#[]⟩ : ByteArray) 22 9 .i64 Try.underlying22 hi014 hsz14 (some ad263) c0 l0 x12_1 (of_decide_eq_true (by first | (with_reducible assumption) | assumption)) (of_decide_eq_true (by first | (with_reducible assumption) | assumption)) HC0.out
                        have HR264 := Aside0.mk (Kd.C_of_reads (h1 := fun _ => rfl) (hA14 _ (Kd.reads_of_C HR0.out)))
                        have HC264 := Aside0.mk hC14
                        clear hA14 hC14 hi014 hsz14
                        go_wp2
                        go_loopg [33] k2 (fun kq v33 w' => ∃ (x33_3 : Int), v33 = .int .i64 x33_3 ∧ Aside0 (spec_FairWords.l2 kq l0 l1 (rdOf ByteArray.empty l0 x12_1) l0 (l0.length : Int) x12_1 (l0.take (x12_1 : Int).toNat) ((l0.take (x12_1 : Int).toNat).length : Int) x33_3 = some r) ∧ Aside0 (kq ≤ k2) ∧ Drawn0 w w')
                        case atStart => exact ⟨(0), (by first | rfl | (simp; done) | (simp [*]; done)), H', ⟨Nat.le_refl _⟩, by repeat (first | exact Drawn0.refl _ | apply Drawn0.step)⟩
                        case round =>
                          clear H'
                          try clear c1
                          try clear p1
                          try clear q1
                          try clear hx1
                          try clear p2
                          try clear q2
                          try clear hx2
                          try clear c3
                          try clear c3b0
                          try clear c4
                          try clear c4b0
                          try clear c5
                          try clear c5b0
                          try clear c6
                          try clear c6b0
                          try clear c6b1
                          try clear p6
                          try clear c7
                          try clear c7b0
                          try clear c8
                          try clear c8b0
                          try clear c9
                          try clear c9b0
                          try clear p10
                          try clear q10
                          try clear hx10
                          try clear c11
                          try clear c11b0
                          try clear c11b1
                          try clear c12
                          try clear c12b0
                          try clear c12b1
                          try clear c13
                          try clear c13b0
                          try clear c13b1
                          try clear hx263_0
                          try clear p10
                          try clear p2
                          try clear p263
                          try clear q10
                          try clear q2
                          try clear q263
                          obtain ⟨x33_3, rfl, HA, HK3, ⟨m3, rfl⟩⟩ := hrel
                          cases gk with
                          | zero => exact absurd HA.out (by simp [spec_FairWords.l2])
                          | succ k3 =>
                            have H := HA.out
                            clear HA
                            simp only [spec_FairWords.l2] at H
                            by_cases c15 : x33_3 < ((l0.take (x12_1 : Int).toNat).length : Int)
                            · rw [if_pos c15] at H
                              have c15b0 : decide (x33_3 < ((l0.take (x12_1 : Int).toNat).length : Int)) = true := decide_eq_true c15
                              have cm0 : x33_3 < max x12_1 0 := by have cm9 := of_decide_eq_true c15b0; rw [List.length_take] at cm9; omega
                              have cm1 : (max x12_1 0 ≤ x33_3) = False := eq_false (by omega)
                              have cm2 : decide (x33_3 < max x12_1 0) = true := decide_eq_true cm0
                              clear c15
                              by_cases c16 : 0 ≤ x33_3
                              · rw [if_pos c16] at H
                                have c16b0 : decide (0 ≤ x33_3) = true := decide_eq_true c16
                                clear c16
                                by_cases c17 : x33_3 < ((l0.take (x12_1 : Int).toNat).length : Int)
                                · rw [if_pos c17] at H
                                  have c17b0 : decide (x33_3 < ((l0.take (x12_1 : Int).toNat).length : Int)) = true := decide_eq_true c17
                                  clear c17
                                  by_cases c18 : (rdOf ByteArray.empty (l0.take (x12_1 : Int).toNat) x33_3).toList = (rdOf ByteArray.empty l0 x12_1).toList
                                  · rw [if_pos c18] at H
                                    have c18b0 : ((rdOf ByteArray.empty (l0.take (x12_1 : Int).toNat) x33_3).toList == (rdOf ByteArray.empty l0 x12_1).toList) = true := beq_iff_eq.mpr c18
                                    have c18b1 : ((rdOf ByteArray.empty (l0.take (x12_1 : Int).toNat) x33_3).toList != (rdOf ByteArray.empty l0 x12_1).toList) = false := bne_eq_false_iff_eq.mpr c18
                                    clear c18
                                    obtain rfl := Option.some.inj H
                                    have p265 : 0 ≤ (x33_3 : Int) := of_decide_eq_true (by first | (with_reducible assumption) | assumption)
                                    have q265 : x33_3 < ((l0.take (x12_1 : Int).toNat).length : Int) := of_decide_eq_true (by first | (with_reducible assumption) | assumption)
                                    obtain ⟨ad265, e265, hx265_0⟩ := Kd.at_string HR264.out x33_3 p265 q265
                                    obtain rfl : ad263 = ad265 := (by injection e265)
                                    replace p265 := eq_true p265
                                    replace q265 := eq_true q265
                                    go_wp2
                                    go_ret
                                    exact ⟨by first | rfl | (simp; done) | (simp [*]; done), by repeat (first | exact Drawn0.refl _ | apply Drawn0.step)⟩
                                  · rw [if_neg c18] at H
                                    have c18b0 : ((rdOf ByteArray.empty (l0.take (x12_1 : Int).toNat) x33_3).toList == (rdOf ByteArray.empty l0 x12_1).toList) = false := beq_eq_false_iff_ne.mpr c18
                                    have c18b1 : ((rdOf ByteArray.empty (l0.take (x12_1 : Int).toNat) x33_3).toList != (rdOf ByteArray.empty l0 x12_1).toList) = true := bne_iff_ne.mpr c18
                                    have H' := Aside0.mk H
                                    clear H
                                    have p265 : 0 ≤ (x33_3 : Int) := of_decide_eq_true (by first | (with_reducible assumption) | assumption)
                                    have q265 : x33_3 < ((l0.take (x12_1 : Int).toNat).length : Int) := of_decide_eq_true (by first | (with_reducible assumption) | assumption)
                                    obtain ⟨ad265, e265, hx265_0⟩ := Kd.at_string HR264.out x33_3 p265 q265
                                    obtain rfl : ad263 = ad265 := (by injection e265)
                                    replace p265 := eq_true p265
                                    replace q265 := eq_true q265
                                    go_wp2
                                    go_roundg k3
                                    case measure => have := HK1.out; have := HK2.out; have := HK3.out; omega
                                    case rel => exact ⟨(wrap64 (x33_3 + 1)), (by first | rfl | (simp; done) | (simp [*]; done)), H', ⟨by have := HK1.out; have := HK2.out; have := HK3.out; omega⟩, by repeat (first | exact Drawn0.refl _ | apply Drawn0.step)⟩
                                · rw [if_neg c17] at H
                                  exact absurd H (by simp)
                              · rw [if_neg c16] at H
                                exact absurd H (by simp)
                            · rw [if_neg c15] at H
                              have c15b0 : decide (x33_3 < ((l0.take (x12_1 : Int).toNat).length : Int)) = false := decide_eq_false c15
                              have cm0 : ¬ x33_3 < max x12_1 0 := by have cm9 := of_decide_eq_false c15b0; rw [List.length_take] at cm9; have cm8 := of_decide_eq_true KC13.out; omega
                              have cm1 : (max x12_1 0 ≤ x33_3) = True := eq_true (by omega)
                              have cm2 : decide (x33_3 < max x12_1 0) = false := decide_eq_false cm0
                              clear c15
                              have H' := Aside0.mk H
                              clear H
                              go_wp2
                              go_roundg k3
                              case measure => have := HK1.out; have := HK2.out; have := HK3.out; omega
                              case rel => exact ⟨(wrap64 (x12_1 + 1)), (by first | rfl | (simp; done) | (simp [*]; done)), H', ⟨by have := HK1.out; have := HK2.out; have := HK3.out; omega⟩, by repeat (first | exact Drawn0.refl _ | apply Drawn0.step)⟩
                      · rw [if_neg c13] at H
                        exact absurd H (by simp)
                    · rw [if_neg c12] at H
                      exact absurd H (by simp)
          · rw [if_neg c5] at H
            exact absurd H (by simp)
        · rw [if_neg c4] at H
          exact absurd H (by simp)
      · rw [if_neg c3] at H
        have c3b0 : decide (x12_1 < (l0.length : Int)) = false := decide_eq_false c3
        clear c3
        by_cases c19 : (l1.length : Int) = 0
        · rw [if_pos c19] at H
          have c19b0 : ((l1.length : Int) == 0) = true := beq_iff_eq.mpr c19
          have c19b1 : ((l1.length : Int) != 0) = false := bne_eq_false_iff_eq.mpr c19
          clear c19
          obtain rfl := Option.some.inj H
          go_wp2
          go_ret
          exact ⟨by first | rfl | (simp; done) | (simp [*]; done), by repeat (first | exact Drawn0.refl _ | apply Drawn0.step)⟩
        · rw [if_neg c19] at H
          have c19b0 : ((l1.length : Int) == 0) = false := beq_eq_false_iff_ne.mpr c19
          have c19b1 : ((l1.length : Int) != 0) = true := bne_iff_ne.mpr c19
          have c19b2 : ¬ (l1 = []) := fun h_ => c19 (by rw [h_]; rfl)
          obtain rfl := Option.some.inj H
          go_wp2
          go_ret
          exact ⟨by first | rfl | (simp; done) | (simp [*]; done), by repeat (first | exact Drawn0.refl _ | apply Drawn0.step)⟩

end Go.Proofs.Ytddcjmdcpkmnjab.P
