-- PRINTED by print.py (a twelfth state) out of the translation. Not trusted: Lean checks it.
import Derived.Test.YtlhljldlbcgnoaaP0
import Derived.Test.YtlhljldlbcgnoaaP24
namespace Go.Proofs.Ytlhljldlbcgnoaa.P
open Go.RowKit Go.Proofs.YtlhljldlbcgnoaaW.PrintWords Go.Proofs.YtlhljldlbcgnoaaW.PrintLast Go.Proofs.YtlhljldlbcgnoaaW.PrintMore
attribute [local go_sem] max2_int min2_int max_two min_two max_three min_three max_four min_four   -- for this text's walks alone
set_option linter.unusedVariables false
set_option linter.unusedSimpArgs false

/-! ### spec_FilterMatch: function 18 -/
mutual
def spec_FilterMatch.l0 : Nat → List (List ByteArray) → List ByteArray → Int → List (List ByteArray) → Int → Int → Option (Int)
  | 0, _, _, _, _, _, _ => none
  | k + 1, x0, x1, x5, x10, x11, x12 => if x12 < x11 then (if 0 ≤ x12 then (if x12 < (x10.length : Int) then (if ((rd_L1 x10 x12).length : Int) = 0 then (spec_FilterMatch.j1 k x0 x1 x5 (rd_L1 x10 x12) x10 x11 x12 true) else (if (x0.length : Int) > 1 then ((spec_anyIn.f k (rd_L1 x10 x12)).bind fun t265 => (spec_FilterMatch.j1 k x0 x1 x5 (rd_L1 x10 x12) x10 x11 x12 t265)) else (spec_FilterMatch.j1 k x0 x1 x5 (rd_L1 x10 x12) x10 x11 x12 false))) else (none)) else (none)) else (some x5)
def spec_FilterMatch.j1 : Nat → List (List ByteArray) → List ByteArray → Int → List ByteArray → List (List ByteArray) → Int → Int → Bool → Option (Int)
  | 0, _, _, _, _, _, _, _, _ => none
  | k + 1, x0, x1, x5, x7, x10, x11, x12, x27 => if x27 = true then (some 2) else (spec_FilterMatch.l1 k x0 x1 x5 x7 (decide ((x7.length : Int) ≤ (x1.length : Int))) 0 x10 x11 x12)
def spec_FilterMatch.l1 : Nat → List (List ByteArray) → List ByteArray → Int → List ByteArray → Bool → Int → List (List ByteArray) → Int → Int → Option (Int)
  | 0, _, _, _, _, _, _, _, _, _ => none
  | k + 1, x0, x1, x5, x7, x8, x9, x10, x11, x12 => if x9 < (x7.length : Int) then (if x8 = true then (if 0 ≤ x9 then (if (rdOf ByteArray.empty x7 x9).toList = ([0] : List UInt8) then (spec_FilterMatch.l1 k x0 x1 x5 x7 true (wrap64 (x9 + 1)) x10 x11 x12) else (if x9 < (x1.length : Int) then (spec_FilterMatch.l1 k x0 x1 x5 x7 ((rdOf ByteArray.empty x7 x9).toList == (rdOf ByteArray.empty x1 x9).toList) (wrap64 (x9 + 1)) x10 x11 x12) else (none))) else (none)) else (spec_FilterMatch.l0 k x0 x1 x5 x10 x11 (wrap64 (x12 + 1)))) else (if x8 = true then (spec_FilterMatch.l0 k x0 x1 1 x10 x11 (wrap64 (x12 + 1))) else (spec_FilterMatch.l0 k x0 x1 x5 x10 x11 (wrap64 (x12 + 1))))
end
def spec_FilterMatch.f (k : Nat) (l0 : List (List ByteArray)) (l1 : List ByteArray) : Option (Int) := spec_FilterMatch.l0 k l0 l1 0 l0 (l0.length : Int) 0
theorem spec_FilterMatch.mono_l : ∀ k, (∀ y0 y1 y2 y3 y4 y5, LeO (spec_FilterMatch.l0 k y0 y1 y2 y3 y4 y5) (spec_FilterMatch.l0 (k + 1) y0 y1 y2 y3 y4 y5)) ∧ (∀ y0 y1 y2 y3 y4 y5 y6 y7, LeO (spec_FilterMatch.j1 k y0 y1 y2 y3 y4 y5 y6 y7) (spec_FilterMatch.j1 (k + 1) y0 y1 y2 y3 y4 y5 y6 y7)) ∧ (∀ y0 y1 y2 y3 y4 y5 y6 y7 y8, LeO (spec_FilterMatch.l1 k y0 y1 y2 y3 y4 y5 y6 y7 y8) (spec_FilterMatch.l1 (k + 1) y0 y1 y2 y3 y4 y5 y6 y7 y8))
  | 0 => ⟨fun _ _ _ _ _ _ r h => by simp [spec_FilterMatch.l0] at h, fun _ _ _ _ _ _ _ _ r h => by simp [spec_FilterMatch.j1] at h, fun _ _ _ _ _ _ _ _ _ r h => by simp [spec_FilterMatch.l1] at h⟩
  | k + 1 => by
    obtain ⟨ih0, ih1, ih2⟩ := spec_FilterMatch.mono_l k
    refine ⟨?_, ?_, ?_⟩
    · intro y0 y1 y2 y3 y4 y5
      unfold spec_FilterMatch.l0
      repeat' first
      | (with_reducible exact ih0 _ _ _ _ _ _)
      | (with_reducible exact ih1 _ _ _ _ _ _ _ _)
      | (with_reducible exact ih2 _ _ _ _ _ _ _ _ _)
      | (with_reducible exact spec_anyIn.mono _ _)
      | (with_reducible exact LeO.refl _)
      | (with_reducible exact LeO.none _)
      | (with_reducible refine LeO.ite ?_ ?_)
      | (with_reducible refine LeO.bind ?_ (fun _ => ?_))
      | exact ih0 _ _ _ _ _ _
      | exact ih1 _ _ _ _ _ _ _ _
      | exact ih2 _ _ _ _ _ _ _ _ _
      | exact spec_anyIn.mono _ _
      | exact LeO.none _
      | refine LeO.ite ?_ ?_
      | refine LeO.bind ?_ (fun _ => ?_)
    · intro y0 y1 y2 y3 y4 y5 y6 y7
      unfold spec_FilterMatch.j1
      repeat' first
      | (with_reducible exact ih0 _ _ _ _ _ _)
      | (with_reducible exact ih1 _ _ _ _ _ _ _ _)
      | (with_reducible exact ih2 _ _ _ _ _ _ _ _ _)
      | (with_reducible exact spec_anyIn.mono _ _)
      | (with_reducible exact LeO.refl _)
      | (with_reducible exact LeO.none _)
      | (with_reducible refine LeO.ite ?_ ?_)
      | (with_reducible refine LeO.bind ?_ (fun _ => ?_))
      | exact ih0 _ _ _ _ _ _
      | exact ih1 _ _ _ _ _ _ _ _
      | exact ih2 _ _ _ _ _ _ _ _ _
      | exact spec_anyIn.mono _ _
      | exact LeO.none _
      | refine LeO.ite ?_ ?_
      | refine LeO.bind ?_ (fun _ => ?_)
    · intro y0 y1 y2 y3 y4 y5 y6 y7 y8
      unfold spec_FilterMatch.l1
      repeat' first
      | (with_reducible exact ih0 _ _ _ _ _ _)
      | (with_reducible exact ih1 _ _ _ _ _ _ _ _)
      | (with_reducible exact ih2 _ _ _ _ _ _ _ _ _)
      | (with_reducible exact spec_anyIn.mono _ _)
      | (with_reducible exact LeO.refl _)
      | (with_reducible exact LeO.none _)
      | (with_reducible refine LeO.ite ?_ ?_)
      | (with_reducible refine LeO.bind ?_ (fun _ => ?_))
      | exact ih0 _ _ _ _ _ _
      | exact ih1 _ _ _ _ _ _ _ _
      | exact ih2 _ _ _ _ _ _ _ _ _
      | exact spec_anyIn.mono _ _
      | exact LeO.none _
      | refine LeO.ite ?_ ?_
      | refine LeO.bind ?_ (fun _ => ?_)
theorem spec_FilterMatch.mono : ∀ a0 a1 k, LeO (spec_FilterMatch.f k a0 a1) (spec_FilterMatch.f (k + 1) a0 a1) := by
  intro a0 a1 k
  obtain ⟨ih0, ih1, ih2⟩ := spec_FilterMatch.mono_l k
  unfold spec_FilterMatch.f
  repeat' first
      | (with_reducible exact ih0 _ _ _ _ _ _)
      | (with_reducible exact ih1 _ _ _ _ _ _ _ _)
      | (with_reducible exact ih2 _ _ _ _ _ _ _ _ _)
      | (with_reducible exact spec_anyIn.mono _ _)
      | (with_reducible exact LeO.refl _)
      | (with_reducible exact LeO.none _)
      | (with_reducible refine LeO.ite ?_ ?_)
      | (with_reducible refine LeO.bind ?_ (fun _ => ?_))
      | exact ih0 _ _ _ _ _ _
      | exact ih1 _ _ _ _ _ _ _ _
      | exact ih2 _ _ _ _ _ _ _ _ _
      | exact spec_anyIn.mono _ _
      | exact LeO.none _
      | refine LeO.ite ?_ ?_
      | refine LeO.bind ?_ (fun _ => ?_)
set_option maxHeartbeats 8000000 in
set_option maxRecDepth 100000 in
theorem spec_FilterMatch.calls (k : Nat) (A0 : Option Addr) (c0 : Nat) (l0 : List (List ByteArray)) (A1 : Option Addr) (c1 : Nat) (l1 : List ByteArray) (r : Int) (w : World) (hr0 : Kd.C (Kd.slice 9 Kd.string) w A0 l0.length l0) (hc0 : l0.length ≤ c0) (hr1 : Kd.C Kd.string w A1 l1.length l1) (hc1 : l1.length ≤ c1) (h : spec_FilterMatch.f k l0 l1 = some r) :
    Calls Try.prog 18 #[.slice A0 l0.length c0, .slice A1 l1.length c1] w fun e w' => e = .returned (.int .i64 r) ∧ Drawn0 w w' := by
  have HR0 := Aside0.mk hr0
  have HC0 := Aside0.mk hc0
  clear hr0 hc0
  have HR1 := Aside0.mk hr1
  have HC1 := Aside0.mk hc1
  clear hr1 hc1
  have H : (spec_FilterMatch.l0 k l0 l1 0 l0 (l0.length : Int) 0) = some r := h
  clear h
  have H' := Aside0.mk H
  clear H
  go_enter Try.func18, Try.ntmps18
  go_wp2
  repeat (go_quiet (fail); try go_wp2)
  go_loopg [5, 12] k (fun kq v5 v12 w' => ∃ (x5_1 : Int) (x12_1 : Int), v5 = .int .i64 x5_1 ∧ v12 = .int .i64 x12_1 ∧ Aside0 (spec_FilterMatch.l0 kq l0 l1 x5_1 l0 (l0.length : Int) x12_1 = some r) ∧ Aside0 (kq ≤ k) ∧ Drawn0 w w')
  case atStart => exact ⟨(0), (0), (by first | rfl | (simp; done) | (simp [*]; done)), (by first | rfl | (simp; done) | (simp [*]; done)), H', ⟨Nat.le_refl _⟩, by repeat (first | exact Drawn0.refl _ | apply Drawn0.step)⟩
  case round =>
    clear H'
    try clear c1
    try clear p2
    obtain ⟨x5_1, x12_1, rfl, rfl, HA, HK1, ⟨m1, rfl⟩⟩ := hrel
    cases gk with
    | zero => exact absurd HA.out (by simp [spec_FilterMatch.l0])
    | succ k1 =>
      have H := HA.out
      clear HA
      simp only [spec_FilterMatch.l0] at H
      by_cases c3 : x12_1 < (l0.length : Int)
      · rw [if_pos c3] at H
        have c3b0 : decide (x12_1 < (l0.length : Int)) = true := decide_eq_true c3
        clear c3
        by_cases c4 : 0 ≤ x12_1
        · rw [if_pos c4] at H
          have c4b0 : decide (0 ≤ x12_1) = true := decide_eq_true c4
          clear c4
          by_cases c5 : x12_1 < (l0.length : Int)
          · rw [if_pos c5] at H
            have c5b0 : decide (x12_1 < (l0.length : Int)) = true := decide_eq_true c5
            clear c5
            have HC6 := Aside0.mk H
            clear H
            have p264 : 0 ≤ (x12_1 : Int) := of_decide_eq_true (by first | (with_reducible assumption) | assumption)
            have q264 : x12_1 < (l0.length : Int) := of_decide_eq_true (by first | (with_reducible assumption) | assumption)
            obtain ⟨ad264, A264_0, c264_0, e264, hx264_0, hl264_0, hi264_0⟩ := at_L1 HR0.out x12_1 p264 q264
            cases e264
            have HR264_0 := Aside0.mk hi264_0
            have HC264_0 := Aside0.mk hl264_0
            clear hi264_0 hl264_0
            replace p264 := eq_true p264
            replace q264 := eq_true q264
            go_upto_region 5 with (fail)
            repeat (go_quiet (fail); go_upto_region 5 with (fail))
            go_cut [27] (fun v27 wc => ∃ (kq : Nat) (x27_5 : Bool), v27 = .bool x27_5 ∧ Aside0 (spec_FilterMatch.j1 kq l0 l1 x5_1 (rd_L1 l0 x12_1) l0 (l0.length : Int) x12_1 x27_5 = some r) ∧ Aside0 (kq ≤ k1) ∧ Drawn0 w wc)
            case first =>
              have H := HC6.out
              clear HC6
              by_cases c7 : ((rd_L1 l0 x12_1).length : Int) = 0
              · rw [if_pos c7] at H
                have c7b0 : (((rd_L1 l0 x12_1).length : Int) == 0) = true := beq_iff_eq.mpr c7
                have c7b1 : (((rd_L1 l0 x12_1).length : Int) != 0) = false := bne_eq_false_iff_eq.mpr c7
                clear c7
                (first | rw [c7b0] | (simp only [i64_w, i32_w]; rw [c7b0]) | skip)
                have H' := Aside0.mk H
                clear H
                go_wp2
                repeat (go_quiet (fail); try go_wp2)
                go_meet
                case rel => exact ⟨_, (true), (by first | rfl | (simp; done) | (simp [*]; done)), H', ⟨by have := HK1.out; first | omega | exact Nat.le_refl _⟩, by repeat (first | exact Drawn0.refl _ | apply Drawn0.step)⟩
              · rw [if_neg c7] at H
                have c7b0 : (((rd_L1 l0 x12_1).length : Int) == 0) = false := beq_eq_false_iff_ne.mpr c7
                have c7b1 : (((rd_L1 l0 x12_1).length : Int) != 0) = true := bne_iff_ne.mpr c7
                have c7b2 : ¬ ((rd_L1 l0 x12_1) = []) := fun h_ => c7 (by rw [h_]; rfl)
                (first | rw [c7b0] | (simp only [i64_w, i32_w]; rw [c7b0]) | skip)
                by_cases c8 : (l0.length : Int) > 1
                · rw [if_pos c8] at H
                  have c8b0 : decide (1 < (l0.length : Int)) = true := decide_eq_true c8
                  have c8b1 : decide (1 < l0.length) = true := decide_eq_true (by omega)
                  clear c8
                  replace H := Option.bind_eq_some_iff.mp H
                  obtain ⟨t265, A90, H⟩ := H
                  replace H : (spec_FilterMatch.j1 k1 l0 l1 x5_1 (rd_L1 l0 x12_1) l0 (l0.length : Int) x12_1 t265) = some r := H
                  have A9 := Aside0.mk A90
                  clear A90
                  have H' := Aside0.mk H
                  clear H
                  go_wp2_with (first | (go_at_call 24; (with_reducible refine (spec_anyIn.calls k1 _ _ (rd_L1 l0 x12_1) t265 _ ?side1 ?side2 A9.out).mono ?_); (case side1 => repeat (first | exact HR264_0.out | (with_reducible refine Kd.C_alloc ?_ _) | (with_reducible refine Kd.C_drewN ?_ _) | (with_reducible refine Kd.C_drew ?_))); (case side2 => exact HC264_0.out); rintro e w' ⟨rfl, ⟨nd, rfl⟩⟩; (try first | exact ⟨rfl, _, World.drewN_drewN _ _ _⟩ | exact ⟨rfl, _, Eq.trans (World.drewN_drewN _ _ _) (congrArg (World.drewN _) (Nat.add_assoc _ _ _))⟩)))
                  repeat (go_quiet (first | (go_at_call 24; (with_reducible refine (spec_anyIn.calls k1 _ _ (rd_L1 l0 x12_1) t265 _ ?side1 ?side2 A9.out).mono ?_); (case side1 => repeat (first | exact HR264_0.out | (with_reducible refine Kd.C_alloc ?_ _) | (with_reducible refine Kd.C_drewN ?_ _) | (with_reducible refine Kd.C_drew ?_))); (case side2 => exact HC264_0.out); rintro e w' ⟨rfl, ⟨nd, rfl⟩⟩; (try first | exact ⟨rfl, _, World.drewN_drewN _ _ _⟩ | exact ⟨rfl, _, Eq.trans (World.drewN_drewN _ _ _) (congrArg (World.drewN _) (Nat.add_assoc _ _ _))⟩))); try go_wp2_with (first | (go_at_call 24; (with_reducible refine (spec_anyIn.calls k1 _ _ (rd_L1 l0 x12_1) t265 _ ?side1 ?side2 A9.out).mono ?_); (case side1 => repeat (first | exact HR264_0.out | (with_reducible refine Kd.C_alloc ?_ _) | (with_reducible refine Kd.C_drewN ?_ _) | (with_reducible refine Kd.C_drew ?_))); (case side2 => exact HC264_0.out); rintro e w' ⟨rfl, ⟨nd, rfl⟩⟩; (try first | exact ⟨rfl, _, World.drewN_drewN _ _ _⟩ | exact ⟨rfl, _, Eq.trans (World.drewN_drewN _ _ _) (congrArg (World.drewN _) (Nat.add_assoc _ _ _))⟩))))
                  go_meet
                  case rel => exact ⟨_, (t265), (by first | rfl | (simp; done) | (simp [*]; done)), H', ⟨by have := HK1.out; first | omega | exact Nat.le_refl _⟩, by repeat (first | exact Drawn0.refl _ | apply Drawn0.step)⟩
                · rw [if_neg c8] at H
                  have c8b0 : decide (1 < (l0.length : Int)) = false := decide_eq_false c8
                  have c8b1 : decide (1 < l0.length) = false := decide_eq_false (by omega)
                  clear c8
                  have H' := Aside0.mk H
                  clear H
                  go_wp2
                  repeat (go_quiet (fail); try go_wp2)
                  go_meet
                  case rel => exact ⟨_, (false), (by first | rfl | (simp; done) | (simp [*]; done)), H', ⟨by have := HK1.out; first | omega | exact Nat.le_refl _⟩, by repeat (first | exact Drawn0.refl _ | apply Drawn0.step)⟩
            case rest =>
              clear HC6
              try clear c1
              try clear c2
              try clear p2
              try clear q2
              try clear hx2
              try clear c3
              try clear c3b0
              try clear c4
              try clear c4b0
              try clear c5
              try clear c5b0
              try clear c7
              try clear c7b0
              try clear c7b1
              try clear c7b2
              try clear c8
              try clear c8b0
              try clear c8b1
              try clear hx264_0
              try clear p2
              try clear p264
              try clear q264
              obtain ⟨kq, x27_5, rfl, HA, HJ5, ⟨mc5, rfl⟩⟩ := hcut
              cases kq with
              | zero => exact absurd HA.out (by simp [spec_FilterMatch.j1])
              | succ kj5 =>
                have H := HA.out
                clear HA
                simp only [spec_FilterMatch.j1] at H
                by_cases c10 : x27_5 = true
                · subst c10
                  have H1 : (some 2) = some r := by rw [if_pos rfl] at H; exact H
                  clear H
                  have H := H1
                  clear H1
                  obtain rfl := Option.some.inj H
                  go_wp2
                  repeat (go_quiet (fail); try go_wp2)
                  go_ret
                  exact ⟨by first | rfl | (simp; done) | (simp [*]; done), by repeat (first | exact Drawn0.refl _ | apply Drawn0.step)⟩
                · replace c10 := Bool.eq_false_iff.mpr c10
                  subst c10
                  have H1 : (spec_FilterMatch.l1 kj5 l0 l1 x5_1 (rd_L1 l0 x12_1) (decide (((rd_L1 l0 x12_1).length : Int) ≤ (l1.length : Int))) 0 l0 (l0.length : Int) x12_1) = some r := by rw [if_neg (show ¬ (false = true) by decide)] at H; exact H
                  clear H
                  have H := H1
                  clear H1
                  have H' := Aside0.mk H
                  clear H
                  go_wp2
                  repeat (go_quiet (fail); try go_wp2)
                  go_loopg [8, 9] kj5 (fun kq v8 v9 w' => ∃ (x8_3 : Bool) (x9_3 : Int), v8 = .bool x8_3 ∧ v9 = .int .i64 x9_3 ∧ Aside0 (spec_FilterMatch.l1 kq l0 l1 x5_1 (rd_L1 l0 x12_1) x8_3 x9_3 l0 (l0.length : Int) x12_1 = some r) ∧ Aside0 (kq ≤ kj5) ∧ Drawn0 w w')
                  case atStart => exact ⟨(decide (((rd_L1 l0 x12_1).length : Int) ≤ (l1.length : Int))), (0), (by first | rfl | (simp; done) | (simp [*]; done)), (by first | rfl | (simp; done) | (simp [*]; done)), H', ⟨Nat.le_refl _⟩, by repeat (first | exact Drawn0.refl _ | apply Drawn0.step)⟩
                  case round =>
                    clear H'
                    try clear c1
                    try clear c2
                    try clear p2
                    try clear q2
                    try clear hx2
                    try clear c3
                    try clear c3b0
                    try clear c4
                    try clear c4b0
                    try clear c5
                    try clear c5b0
                    try clear c7
                    try clear c7b0
                    try clear c7b1
                    try clear c7b2
                    try clear c8
                    try clear c8b0
                    try clear c8b1
                    try clear c10
                    try clear hx264_0
                    try clear p2
                    try clear p264
                    try clear q2
                    try clear q264
                    obtain ⟨x8_3, x9_3, rfl, rfl, HA, HK3, ⟨m3, rfl⟩⟩ := hrel
                    cases gk with
                    | zero => exact absurd HA.out (by simp [spec_FilterMatch.l1])
                    | succ k3 =>
                      have H := HA.out
                      clear HA
                      simp only [spec_FilterMatch.l1] at H
                      by_cases c11 : x9_3 < ((rd_L1 l0 x12_1).length : Int)
                      · rw [if_pos c11] at H
                        have c11b0 : decide (x9_3 < ((rd_L1 l0 x12_1).length : Int)) = true := decide_eq_true c11
                        clear c11
                        by_cases c12 : x8_3 = true
                        · subst c12
                          have H1 : (if 0 ≤ x9_3 then (if (rdOf ByteArray.empty (rd_L1 l0 x12_1) x9_3).toList = ([0] : List UInt8) then (spec_FilterMatch.l1 k3 l0 l1 x5_1 (rd_L1 l0 x12_1) true (wrap64 (x9_3 + 1)) l0 (l0.length : Int) x12_1) else (if x9_3 < (l1.length : Int) then (spec_FilterMatch.l1 k3 l0 l1 x5_1 (rd_L1 l0 x12_1) ((rdOf ByteArray.empty (rd_L1 l0 x12_1) x9_3).toList == (rdOf ByteArray.empty l1 x9_3).toList) (wrap64 (x9_3 + 1)) l0 (l0.length : Int) x12_1) else (none))) else (none)) = some r := by rw [if_pos rfl] at H; exact H
                          clear H
                          have H := H1
                          clear H1
                          by_cases c13 : 0 ≤ x9_3
                          · rw [if_pos c13] at H
                            have c13b0 : decide (0 ≤ x9_3) = true := decide_eq_true c13
                            clear c13
                            by_cases c14 : (rdOf ByteArray.empty (rd_L1 l0 x12_1) x9_3).toList = ([0] : List UInt8)
                            · rw [if_pos c14] at H
                              have c14b0 : ((rdOf ByteArray.empty (rd_L1 l0 x12_1) x9_3).toList == ([0] : List UInt8)) = true := beq_iff_eq.mpr c14
                              have c14b1 : ((rdOf ByteArray.empty (rd_L1 l0 x12_1) x9_3).toList != ([0] : List UInt8)) = false := bne_eq_false_iff_eq.mpr c14
                              clear c14
                              have H' := Aside0.mk H
                              clear H
                              have p266 : 0 ≤ (x9_3 : Int) := of_decide_eq_true (by first | (with_reducible assumption) | assumption)
                              have q266 : x9_3 < ((rd_L1 l0 x12_1).length : Int) := of_decide_eq_true (by first | (with_reducible assumption) | assumption)
                              obtain ⟨ad266, e266, hx266_0⟩ := Kd.at_string HR264_0.out x9_3 p266 q266
                              cases e266
                              replace p266 := eq_true p266
                              replace q266 := eq_true q266
                              go_wp2
                              repeat (go_quiet (fail); try go_wp2)
                              go_roundg k3
                              case measure => have := HK1.out; have := HJ5.out; have := HK3.out; omega
                              case rel => exact ⟨(true), (wrap64 (x9_3 + 1)), (by first | rfl | (simp; done) | (simp [*]; done)), (by first | rfl | (simp; done) | (simp [*]; done)), H', ⟨by have := HK1.out; have := HJ5.out; have := HK3.out; omega⟩, by repeat (first | exact Drawn0.refl _ | apply Drawn0.step)⟩
                            · rw [if_neg c14] at H
                              have c14b0 : ((rdOf ByteArray.empty (rd_L1 l0 x12_1) x9_3).toList == ([0] : List UInt8)) = false := beq_eq_false_iff_ne.mpr c14
                              have c14b1 : ((rdOf ByteArray.empty (rd_L1 l0 x12_1) x9_3).toList != ([0] : List UInt8)) = true := bne_iff_ne.mpr c14
                              by_cases c15 : x9_3 < (l1.length : Int)
                              · rw [if_pos c15] at H
                                have c15b0 : decide (x9_3 < (l1.length : Int)) = true := decide_eq_true c15
                                clear c15
                                have H' := Aside0.mk H
                                clear H
                                have p266 : 0 ≤ (x9_3 : Int) := of_decide_eq_true (by first | (with_reducible assumption) | assumption)
                                have q266 : x9_3 < ((rd_L1 l0 x12_1).length : Int) := of_decide_eq_true (by first | (with_reducible assumption) | assumption)
                                obtain ⟨ad266, e266, hx266_0⟩ := Kd.at_string HR264_0.out x9_3 p266 q266
                                cases e266
                                replace p266 := eq_true p266
                                replace q266 := eq_true q266
                                have p267 : 0 ≤ (x9_3 : Int) := of_decide_eq_true (by first | (with_reducible assumption) | assumption)
                                have q267 : x9_3 < ((rd_L1 l0 x12_1).length : Int) := of_decide_eq_true (by first | (with_reducible assumption) | assumption)
                                obtain ⟨ad267, e267, hx267_0⟩ := Kd.at_string HR264_0.out x9_3 p267 q267
                                obtain rfl : ad266 = ad267 := (by injection e267)
                                replace p267 := eq_true p267
                                replace q267 := eq_true q267
                                have p268 : 0 ≤ (x9_3 : Int) := of_decide_eq_true (by first | (with_reducible assumption) | assumption)
                                have q268 : x9_3 < (l1.length : Int) := of_decide_eq_true (by first | (with_reducible assumption) | assumption)
                                obtain ⟨ad268, e268, hx268_0⟩ := Kd.at_string HR1.out x9_3 p268 q268
                                cases e268
                                replace p268 := eq_true p268
                                replace q268 := eq_true q268
                                go_wp2
                                repeat (go_quiet (fail); try go_wp2)
                                go_roundg k3
                                case measure => have := HK1.out; have := HJ5.out; have := HK3.out; omega
                                case rel => exact ⟨(((rdOf ByteArray.empty (rd_L1 l0 x12_1) x9_3).toList == (rdOf ByteArray.empty l1 x9_3).toList)), (wrap64 (x9_3 + 1)), (by first | rfl | (simp; done) | (simp [*]; done)), (by first | rfl | (simp; done) | (simp [*]; done)), H', ⟨by have := HK1.out; have := HJ5.out; have := HK3.out; omega⟩, by repeat (first | exact Drawn0.refl _ | apply Drawn0.step)⟩
                              · rw [if_neg c15] at H
                                exact absurd H (by simp)
                          · rw [if_neg c13] at H
                            exact absurd H (by simp)
                        · replace c12 := Bool.eq_false_iff.mpr c12
                          subst c12
                          have H1 : (spec_FilterMatch.l0 k3 l0 l1 x5_1 l0 (l0.length : Int) (wrap64 (x12_1 + 1))) = some r := by rw [if_neg (show ¬ (false = true) by decide)] at H; exact H
                          clear H
                          have H := H1
                          clear H1
                          have H' := Aside0.mk H
                          clear H
                          go_wp2
                          repeat (go_quiet (fail); try go_wp2)
                          go_roundg k3
                          case measure => have := HK1.out; have := HJ5.out; have := HK3.out; omega
                          case rel => exact ⟨(x5_1), (wrap64 (x12_1 + 1)), (by first | rfl | (simp; done) | (simp [*]; done)), (by first | rfl | (simp; done) | (simp [*]; done)), H', ⟨by have := HK1.out; have := HJ5.out; have := HK3.out; omega⟩, by repeat (first | exact Drawn0.refl _ | apply Drawn0.step)⟩
                      · rw [if_neg c11] at H
                        have c11b0 : decide (x9_3 < ((rd_L1 l0 x12_1).length : Int)) = false := decide_eq_false c11
                        clear c11
                        by_cases c16 : x8_3 = true
                        · subst c16
                          have H1 : (spec_FilterMatch.l0 k3 l0 l1 1 l0 (l0.length : Int) (wrap64 (x12_1 + 1))) = some r := by rw [if_pos rfl] at H; exact H
                          clear H
                          have H := H1
                          clear H1
                          have H' := Aside0.mk H
                          clear H
                          go_wp2
                          repeat (go_quiet (fail); try go_wp2)
                          go_roundg k3
                          case measure => have := HK1.out; have := HJ5.out; have := HK3.out; omega
                          case rel => exact ⟨(1), (wrap64 (x12_1 + 1)), (by first | rfl | (simp; done) | (simp [*]; done)), (by first | rfl | (simp; done) | (simp [*]; done)), H', ⟨by have := HK1.out; have := HJ5.out; have := HK3.out; omega⟩, by repeat (first | exact Drawn0.refl _ | apply Drawn0.step)⟩
                        · replace c16 := Bool.eq_false_iff.mpr c16
                          subst c16
                          have H1 : (spec_FilterMatch.l0 k3 l0 l1 x5_1 l0 (l0.length : Int) (wrap64 (x12_1 + 1))) = some r := by rw [if_neg (show ¬ (false = true) by decide)] at H; exact H
                          clear H
                          have H := H1
                          clear H1
                          have H' := Aside0.mk H
                          clear H
                          go_wp2
                          repeat (go_quiet (fail); try go_wp2)
                          go_roundg k3
                          case measure => have := HK1.out; have := HJ5.out; have := HK3.out; omega
                          case rel => exact ⟨(x5_1), (wrap64 (x12_1 + 1)), (by first | rfl | (simp; done) | (simp [*]; done)), (by first | rfl | (simp; done) | (simp [*]; done)), H', ⟨by have := HK1.out; have := HJ5.out; have := HK3.out; omega⟩, by repeat (first | exact Drawn0.refl _ | apply Drawn0.step)⟩
          · rw [if_neg c5] at H
            exact absurd H (by simp)
        · rw [if_neg c4] at H
          exact absurd H (by simp)
      · rw [if_neg c3] at H
        have c3b0 : decide (x12_1 < (l0.length : Int)) = false := decide_eq_false c3
        clear c3
        obtain rfl := Option.some.inj H
        go_wp2
        repeat (go_quiet (fail); try go_wp2)
        go_ret
        exact ⟨by first | rfl | (simp; done) | (simp [*]; done), by repeat (first | exact Drawn0.refl _ | apply Drawn0.step)⟩

end Go.Proofs.Ytlhljldlbcgnoaa.P
