-- PRINTED by print.py (a twelfth state) out of the translation. Not trusted: Lean checks it.
import Derived.Test.YtpjnebmcbeblkaaDoorP0
namespace Go.Proofs.YtpjnebmcbeblkaaDoor.P
open Go.RowKit Go.Proofs.YtpjnebmcbeblkaaDoorW.PrintWords Go.Proofs.YtpjnebmcbeblkaaDoorW.PrintLast Go.Proofs.YtpjnebmcbeblkaaDoorW.PrintMore
attribute [local go_sem] max2_int min2_int max_two min_two max_three min_three max_four min_four   -- for this text's walks alone
set_option linter.unusedVariables false
set_option linter.unusedSimpArgs false

/-! ### laws_size: function 27 -/
mutual
def laws_size.j2 : Nat → ByteArray → Int → Int → Int → Int → Option (Int)
  | 0, _, _, _, _, _ => none
  | k + 1, x0, x3, x4, x5, x6 => if x3 = 224 then (laws_size.j3 k x0 x4 160 x6) else (if x3 = 237 then (laws_size.j3 k x0 x4 x5 159) else (if x3 = 240 then (laws_size.j3 k x0 x4 144 x6) else (if x3 = 244 then (laws_size.j3 k x0 x4 x5 143) else (laws_size.j3 k x0 x4 x5 x6))))
def laws_size.j3 : Nat → ByteArray → Int → Int → Int → Option (Int)
  | 0, _, _, _, _ => none
  | k + 1, x0, x4, x5, x6 => if x4 = 0 then (laws_size.j4 k x0 x4 true) else (if (x0.size : Int) < x4 then (laws_size.j4 k x0 x4 true) else (if 1 < (x0.size : Int) then (if (bt x0 1) < x5 then (laws_size.j4 k x0 x4 true) else (laws_size.j4 k x0 x4 (decide ((bt x0 1) > x6)))) else (none)))
def laws_size.j4 : Nat → ByteArray → Int → Bool → Option (Int)
  | 0, _, _, _ => none
  | k + 1, x0, x4, x62 => if x62 = true then (some 0) else (laws_size.l0 k x0 x4 2)
def laws_size.l0 : Nat → ByteArray → Int → Int → Option (Int)
  | 0, _, _, _ => none
  | k + 1, x0, x4, x7 => if x7 < x4 then (if 0 ≤ x7 then (if x7 < (x0.size : Int) then (if (bt x0 x7) < 128 then (some 0) else (if (bt x0 x7) > 191 then (some 0) else (laws_size.l0 k x0 x4 (wrap64 (x7 + 1))))) else (none)) else (none)) else (some x4)
def laws_size.j0 : Nat → ByteArray → Int → Int → Int → Int → Bool → Option (Int)
  | 0, _, _, _, _, _, _ => none
  | k + 1, x0, x3, x4, x5, x6, x13 => if x13 = true then (laws_size.j2 k x0 x3 2 x5 x6) else (if x3 ≥ 224 then (laws_size.j1 k x0 x3 x4 x5 x6 (decide (x3 ≤ 239))) else (laws_size.j1 k x0 x3 x4 x5 x6 false))
def laws_size.j1 : Nat → ByteArray → Int → Int → Int → Int → Bool → Option (Int)
  | 0, _, _, _, _, _, _ => none
  | k + 1, x0, x3, x4, x5, x6, x20 => if x20 = true then (laws_size.j2 k x0 x3 3 x5 x6) else (if x3 ≥ 240 then (if x3 ≤ 244 then (laws_size.j2 k x0 x3 4 x5 x6) else (laws_size.j2 k x0 x3 x4 x5 x6)) else (laws_size.j2 k x0 x3 x4 x5 x6))
end
def laws_size.f (k : Nat) (a0 : ByteArray) : Option (Int) := if 0 < (a0.size : Int) then (if (bt a0 0) < 128 then (some 1) else (if (bt a0 0) ≥ 194 then (laws_size.j0 k a0 (bt a0 0) 0 128 191 (decide ((bt a0 0) ≤ 223))) else (laws_size.j0 k a0 (bt a0 0) 0 128 191 false))) else (none)
theorem laws_size.mono_l : ∀ k, (∀ y0 y1 y2 y3 y4, LeO (laws_size.j2 k y0 y1 y2 y3 y4) (laws_size.j2 (k + 1) y0 y1 y2 y3 y4)) ∧ (∀ y0 y1 y2 y3, LeO (laws_size.j3 k y0 y1 y2 y3) (laws_size.j3 (k + 1) y0 y1 y2 y3)) ∧ (∀ y0 y1 y2, LeO (laws_size.j4 k y0 y1 y2) (laws_size.j4 (k + 1) y0 y1 y2)) ∧ (∀ y0 y1 y2, LeO (laws_size.l0 k y0 y1 y2) (laws_size.l0 (k + 1) y0 y1 y2)) ∧ (∀ y0 y1 y2 y3 y4 y5, LeO (laws_size.j0 k y0 y1 y2 y3 y4 y5) (laws_size.j0 (k + 1) y0 y1 y2 y3 y4 y5)) ∧ (∀ y0 y1 y2 y3 y4 y5, LeO (laws_size.j1 k y0 y1 y2 y3 y4 y5) (laws_size.j1 (k + 1) y0 y1 y2 y3 y4 y5))
  | 0 => ⟨fun _ _ _ _ _ r h => by simp [laws_size.j2] at h, fun _ _ _ _ r h => by simp [laws_size.j3] at h, fun _ _ _ r h => by simp [laws_size.j4] at h, fun _ _ _ r h => by simp [laws_size.l0] at h, fun _ _ _ _ _ _ r h => by simp [laws_size.j0] at h, fun _ _ _ _ _ _ r h => by simp [laws_size.j1] at h⟩
  | k + 1 => by
    obtain ⟨ih0, ih1, ih2, ih3, ih4, ih5⟩ := laws_size.mono_l k
    refine ⟨?_, ?_, ?_, ?_, ?_, ?_⟩
    · intro y0 y1 y2 y3 y4
      unfold laws_size.j2
      repeat' first
      | (with_reducible exact ih0 _ _ _ _ _)
      | (with_reducible exact ih1 _ _ _ _)
      | (with_reducible exact ih2 _ _ _)
      | (with_reducible exact ih3 _ _ _)
      | (with_reducible exact ih4 _ _ _ _ _ _)
      | (with_reducible exact ih5 _ _ _ _ _ _)
      | (with_reducible exact LeO.refl _)
      | (with_reducible exact LeO.none _)
      | (with_reducible refine LeO.ite ?_ ?_)
      | (with_reducible refine LeO.bind ?_ (fun _ => ?_))
      | exact ih0 _ _ _ _ _
      | exact ih1 _ _ _ _
      | exact ih2 _ _ _
      | exact ih3 _ _ _
      | exact ih4 _ _ _ _ _ _
      | exact ih5 _ _ _ _ _ _
      | exact LeO.none _
      | refine LeO.ite ?_ ?_
      | refine LeO.bind ?_ (fun _ => ?_)
    · intro y0 y1 y2 y3
      unfold laws_size.j3
      repeat' first
      | (with_reducible exact ih0 _ _ _ _ _)
      | (with_reducible exact ih1 _ _ _ _)
      | (with_reducible exact ih2 _ _ _)
      | (with_reducible exact ih3 _ _ _)
      | (with_reducible exact ih4 _ _ _ _ _ _)
      | (with_reducible exact ih5 _ _ _ _ _ _)
      | (with_reducible exact LeO.refl _)
      | (with_reducible exact LeO.none _)
      | (with_reducible refine LeO.ite ?_ ?_)
      | (with_reducible refine LeO.bind ?_ (fun _ => ?_))
      | exact ih0 _ _ _ _ _
      | exact ih1 _ _ _ _
      | exact ih2 _ _ _
      | exact ih3 _ _ _
      | exact ih4 _ _ _ _ _ _
      | exact ih5 _ _ _ _ _ _
      | exact LeO.none _
      | refine LeO.ite ?_ ?_
      | refine LeO.bind ?_ (fun _ => ?_)
    · intro y0 y1 y2
      unfold laws_size.j4
      repeat' first
      | (with_reducible exact ih0 _ _ _ _ _)
      | (with_reducible exact ih1 _ _ _ _)
      | (with_reducible exact ih2 _ _ _)
      | (with_reducible exact ih3 _ _ _)
      | (with_reducible exact ih4 _ _ _ _ _ _)
      | (with_reducible exact ih5 _ _ _ _ _ _)
      | (with_reducible exact LeO.refl _)
      | (with_reducible exact LeO.none _)
      | (with_reducible refine LeO.ite ?_ ?_)
      | (with_reducible refine LeO.bind ?_ (fun _ => ?_))
      | exact ih0 _ _ _ _ _
      | exact ih1 _ _ _ _
      | exact ih2 _ _ _
      | exact ih3 _ _ _
      | exact ih4 _ _ _ _ _ _
      | exact ih5 _ _ _ _ _ _
      | exact LeO.none _
      | refine LeO.ite ?_ ?_
      | refine LeO.bind ?_ (fun _ => ?_)
    · intro y0 y1 y2
      unfold laws_size.l0
      repeat' first
      | (with_reducible exact ih0 _ _ _ _ _)
      | (with_reducible exact ih1 _ _ _ _)
      | (with_reducible exact ih2 _ _ _)
      | (with_reducible exact ih3 _ _ _)
      | (with_reducible exact ih4 _ _ _ _ _ _)
      | (with_reducible exact ih5 _ _ _ _ _ _)
      | (with_reducible exact LeO.refl _)
      | (with_reducible exact LeO.none _)
      | (with_reducible refine LeO.ite ?_ ?_)
      | (with_reducible refine LeO.bind ?_ (fun _ => ?_))
      | exact ih0 _ _ _ _ _
      | exact ih1 _ _ _ _
      | exact ih2 _ _ _
      | exact ih3 _ _ _
      | exact ih4 _ _ _ _ _ _
      | exact ih5 _ _ _ _ _ _
      | exact LeO.none _
      | refine LeO.ite ?_ ?_
      | refine LeO.bind ?_ (fun _ => ?_)
    · intro y0 y1 y2 y3 y4 y5
      unfold laws_size.j0
      repeat' first
      | (with_reducible exact ih0 _ _ _ _ _)
      | (with_reducible exact ih1 _ _ _ _)
      | (with_reducible exact ih2 _ _ _)
      | (with_reducible exact ih3 _ _ _)
      | (with_reducible exact ih4 _ _ _ _ _ _)
      | (with_reducible exact ih5 _ _ _ _ _ _)
      | (with_reducible exact LeO.refl _)
      | (with_reducible exact LeO.none _)
      | (with_reducible refine LeO.ite ?_ ?_)
      | (with_reducible refine LeO.bind ?_ (fun _ => ?_))
      | exact ih0 _ _ _ _ _
      | exact ih1 _ _ _ _
      | exact ih2 _ _ _
      | exact ih3 _ _ _
      | exact ih4 _ _ _ _ _ _
      | exact ih5 _ _ _ _ _ _
      | exact LeO.none _
      | refine LeO.ite ?_ ?_
      | refine LeO.bind ?_ (fun _ => ?_)
    · intro y0 y1 y2 y3 y4 y5
      unfold laws_size.j1
      repeat' first
      | (with_reducible exact ih0 _ _ _ _ _)
      | (with_reducible exact ih1 _ _ _ _)
      | (with_reducible exact ih2 _ _ _)
      | (with_reducible exact ih3 _ _ _)
      | (with_reducible exact ih4 _ _ _ _ _ _)
      | (with_reducible exact ih5 _ _ _ _ _ _)
      | (with_reducible exact LeO.refl _)
      | (with_reducible exact LeO.none _)
      | (with_reducible refine LeO.ite ?_ ?_)
      | (with_reducible refine LeO.bind ?_ (fun _ => ?_))
      | exact ih0 _ _ _ _ _
      | exact ih1 _ _ _ _
      | exact ih2 _ _ _
      | exact ih3 _ _ _
      | exact ih4 _ _ _ _ _ _
      | exact ih5 _ _ _ _ _ _
      | exact LeO.none _
      | refine LeO.ite ?_ ?_
      | refine LeO.bind ?_ (fun _ => ?_)
theorem laws_size.mono : ∀ a0 k, LeO (laws_size.f k a0) (laws_size.f (k + 1) a0) := by
  intro a0 k
  obtain ⟨ih0, ih1, ih2, ih3, ih4, ih5⟩ := laws_size.mono_l k
  unfold laws_size.f
  repeat' first
      | (with_reducible exact ih0 _ _ _ _ _)
      | (with_reducible exact ih1 _ _ _ _)
      | (with_reducible exact ih2 _ _ _)
      | (with_reducible exact ih3 _ _ _)
      | (with_reducible exact ih4 _ _ _ _ _ _)
      | (with_reducible exact ih5 _ _ _ _ _ _)
      | (with_reducible exact LeO.refl _)
      | (with_reducible exact LeO.none _)
      | (with_reducible refine LeO.ite ?_ ?_)
      | (with_reducible refine LeO.bind ?_ (fun _ => ?_))
      | exact ih0 _ _ _ _ _
      | exact ih1 _ _ _ _
      | exact ih2 _ _ _
      | exact ih3 _ _ _
      | exact ih4 _ _ _ _ _ _
      | exact ih5 _ _ _ _ _ _
      | exact LeO.none _
      | refine LeO.ite ?_ ?_
      | refine LeO.bind ?_ (fun _ => ?_)
set_option maxHeartbeats 8000000 in
set_option maxRecDepth 100000 in
theorem laws_size.calls (k : Nat) (a0 : ByteArray) (r : Int) (w : World) (h : laws_size.f k a0 = some r) :
    Calls Tryd.prog 27 #[.string a0] w fun e w' => e = .returned (.int .i64 r) ∧ Drawn0 w w' := by
  have H : (if 0 < (a0.size : Int) then (if (bt a0 0) < 128 then (some 1) else (if (bt a0 0) ≥ 194 then (laws_size.j0 k a0 (bt a0 0) 0 128 191 (decide ((bt a0 0) ≤ 223))) else (laws_size.j0 k a0 (bt a0 0) 0 128 191 false))) else (none)) = some r := h
  clear h
  by_cases c2 : 0 < (a0.size : Int)
  · rw [if_pos c2] at H
    have c2b0 : decide (0 < (a0.size : Int)) = true := decide_eq_true c2
    have c2b1 : decide (0 < a0.size) = true := decide_eq_true (by omega)
    clear c2
    have HC4 := Aside0.mk H
    clear H
    have p3 : 0 ≤ (0 : Int) := (by omega)
    have q3 : 0 < a0.size := (by have : (0 : Int) < (a0.size : Int) := of_decide_eq_true (by first | (with_reducible assumption) | assumption); omega)
    have hx3 : ∀ h : 0 < a0.size, ((a0[0]'h).toNat : Int) = bt a0 0 := bt_at a0 0
    clear p3
    have qi3 : (0 < (a0.size : Int)) = True := eq_true (of_decide_eq_true (by first | (with_reducible assumption) | assumption))
    replace q3 := eq_true q3
    go_enter Tryd.func27, Tryd.ntmps27
    go_upto_block 0 with (fail)
    go_cut [4] (fun v4 wc => ∃ (kq : Nat) (x4_3 : Int), v4 = .int .i64 x4_3 ∧ Aside0 (laws_size.j2 kq a0 (bt a0 0) x4_3 128 191 = some r) ∧ Aside0 (kq ≤ k) ∧ Drawn0 w wc)
    case first =>
      have H := HC4.out
      clear HC4
      by_cases c5 : (bt a0 0) < 128
      · rw [if_pos c5] at H
        have c5b0 : decide ((bt a0 0) < 128) = true := decide_eq_true c5
        clear c5
        (first | rw [c5b0] | (simp only [i64_w, i32_w]; rw [c5b0]) | skip)
        obtain rfl := Option.some.inj H
        go_wp2
        go_ret
        exact ⟨by first | rfl | (simp; done) | (simp [*]; done), by repeat (first | exact Drawn0.refl _ | apply Drawn0.step)⟩
      · rw [if_neg c5] at H
        have c5b0 : decide ((bt a0 0) < 128) = false := decide_eq_false c5
        clear c5
        (first | rw [c5b0] | (simp only [i64_w, i32_w]; rw [c5b0]) | skip)
        have HC6 := Aside0.mk H
        clear H
        go_upto_region 5 with (fail)
        go_cut [13] (fun v13 wc => ∃ (kq : Nat) (x13_5 : Bool), v13 = .bool x13_5 ∧ Aside0 (laws_size.j0 kq a0 (bt a0 0) 0 128 191 x13_5 = some r) ∧ Aside0 (kq ≤ k) ∧ Drawn0 w wc)
        case first =>
          have H := HC6.out
          clear HC6
          by_cases c7 : (bt a0 0) ≥ 194
          · rw [if_pos c7] at H
            have c7b0 : decide (194 ≤ (bt a0 0)) = true := decide_eq_true c7
            clear c7
            (first | rw [c7b0] | (simp only [i64_w, i32_w]; rw [c7b0]) | skip)
            have H' := Aside0.mk H
            clear H
            go_wp2
            go_meet
            case rel => exact ⟨_, (decide ((bt a0 0) ≤ 223)), (by first | rfl | (simp; done) | (simp [*]; done)), H', ⟨by first | omega | exact Nat.le_refl _⟩, by repeat (first | exact Drawn0.refl _ | apply Drawn0.step)⟩
          · rw [if_neg c7] at H
            have c7b0 : decide (194 ≤ (bt a0 0)) = false := decide_eq_false c7
            clear c7
            (first | rw [c7b0] | (simp only [i64_w, i32_w]; rw [c7b0]) | skip)
            have H' := Aside0.mk H
            clear H
            go_wp2
            go_meet
            case rel => exact ⟨_, (false), (by first | rfl | (simp; done) | (simp [*]; done)), H', ⟨by first | omega | exact Nat.le_refl _⟩, by repeat (first | exact Drawn0.refl _ | apply Drawn0.step)⟩
        case rest =>
          clear HC6
          try clear c2
          try clear c2b0
          try clear c2b1
          try clear p2
          try clear p3
          try clear q3
          try clear hx3
          try clear qi3
          try clear c5
          try clear c5b0
          try clear c7
          try clear c7b0
          try clear p3
          try clear q3
          obtain ⟨kq, x13_5, rfl, HA, HJ5, ⟨mc5, rfl⟩⟩ := hcut
          cases kq with
          | zero => exact absurd HA.out (by simp [laws_size.j0])
          | succ kj5 =>
            have H := HA.out
            clear HA
            simp only [laws_size.j0] at H
            by_cases c8 : x13_5 = true
            · subst c8
              have H1 : (laws_size.j2 kj5 a0 (bt a0 0) 2 128 191) = some r := by rw [if_pos rfl] at H; exact H
              clear H
              have H := H1
              clear H1
              have H' := Aside0.mk H
              clear H
              go_wp2
              go_meet
              case rel => exact ⟨_, (2), (by first | rfl | (simp; done) | (simp [*]; done)), H', ⟨by have := HJ5.out; first | omega | exact Nat.le_refl _⟩, by repeat (first | exact Drawn0.refl _ | apply Drawn0.step)⟩
            · replace c8 := Bool.eq_false_iff.mpr c8
              subst c8
              have H1 : (if (bt a0 0) ≥ 224 then (laws_size.j1 kj5 a0 (bt a0 0) 0 128 191 (decide ((bt a0 0) ≤ 239))) else (laws_size.j1 kj5 a0 (bt a0 0) 0 128 191 false)) = some r := by rw [if_neg (show ¬ (false = true) by decide)] at H; exact H
              clear H
              have H := H1
              clear H1
              have HC9 := Aside0.mk H
              clear H
              go_upto_region 7 with (fail)
              go_cut [20] (fun v20 wc => ∃ (kq : Nat) (x20_8 : Bool), v20 = .bool x20_8 ∧ Aside0 (laws_size.j1 kq a0 (bt a0 0) 0 128 191 x20_8 = some r) ∧ Aside0 (kq ≤ kj5) ∧ Drawn0 w wc)
              case first =>
                have H := HC9.out
                clear HC9
                by_cases c10 : (bt a0 0) ≥ 224
                · rw [if_pos c10] at H
                  have c10b0 : decide (224 ≤ (bt a0 0)) = true := decide_eq_true c10
                  clear c10
                  (first | rw [c10b0] | (simp only [i64_w, i32_w]; rw [c10b0]) | skip)
                  have H' := Aside0.mk H
                  clear H
                  go_wp2
                  go_meet
                  case rel => exact ⟨_, (decide ((bt a0 0) ≤ 239)), (by first | rfl | (simp; done) | (simp [*]; done)), H', ⟨by have := HJ5.out; first | omega | exact Nat.le_refl _⟩, by repeat (first | exact Drawn0.refl _ | apply Drawn0.step)⟩
                · rw [if_neg c10] at H
                  have c10b0 : decide (224 ≤ (bt a0 0)) = false := decide_eq_false c10
                  clear c10
                  (first | rw [c10b0] | (simp only [i64_w, i32_w]; rw [c10b0]) | skip)
                  have H' := Aside0.mk H
                  clear H
                  go_wp2
                  go_meet
                  case rel => exact ⟨_, (false), (by first | rfl | (simp; done) | (simp [*]; done)), H', ⟨by have := HJ5.out; first | omega | exact Nat.le_refl _⟩, by repeat (first | exact Drawn0.refl _ | apply Drawn0.step)⟩
              case rest =>
                clear HC9
                try clear c1
                try clear c2
                try clear c2b0
                try clear c2b1
                try clear p2
                try clear p3
                try clear q3
                try clear hx3
                try clear qi3
                try clear c5
                try clear c5b0
                try clear c7
                try clear c7b0
                try clear c8
                try clear c10
                try clear c10b0
                try clear p2
                try clear p3
                try clear q3
                obtain ⟨kq, x20_8, rfl, HA, HJ8, ⟨mc8, rfl⟩⟩ := hcut
                cases kq with
                | zero => exact absurd HA.out (by simp [laws_size.j1])
                | succ kj8 =>
                  have H := HA.out
                  clear HA
                  simp only [laws_size.j1] at H
                  by_cases c11 : x20_8 = true
                  · subst c11
                    have H1 : (laws_size.j2 kj8 a0 (bt a0 0) 3 128 191) = some r := by rw [if_pos rfl] at H; exact H
                    clear H
                    have H := H1
                    clear H1
                    have H' := Aside0.mk H
                    clear H
                    go_wp2
                    go_meet
                    case rel => exact ⟨_, (3), (by first | rfl | (simp; done) | (simp [*]; done)), H', ⟨by have := HJ5.out; have := HJ8.out; first | omega | exact Nat.le_refl _⟩, by repeat (first | exact Drawn0.refl _ | apply Drawn0.step)⟩
                  · replace c11 := Bool.eq_false_iff.mpr c11
                    subst c11
                    have H1 : (if (bt a0 0) ≥ 240 then (if (bt a0 0) ≤ 244 then (laws_size.j2 kj8 a0 (bt a0 0) 4 128 191) else (laws_size.j2 kj8 a0 (bt a0 0) 0 128 191)) else (laws_size.j2 kj8 a0 (bt a0 0) 0 128 191)) = some r := by rw [if_neg (show ¬ (false = true) by decide)] at H; exact H
                    clear H
                    have H := H1
                    clear H1
                    by_cases c12 : (bt a0 0) ≥ 240
                    · rw [if_pos c12] at H
                      have c12b0 : decide (240 ≤ (bt a0 0)) = true := decide_eq_true c12
                      clear c12
                      by_cases c13 : (bt a0 0) ≤ 244
                      · rw [if_pos c13] at H
                        have c13b0 : decide ((bt a0 0) ≤ 244) = true := decide_eq_true c13
                        clear c13
                        have H' := Aside0.mk H
                        clear H
                        go_wp2
                        go_meet
                        case rel => exact ⟨_, (4), (by first | rfl | (simp; done) | (simp [*]; done)), H', ⟨by have := HJ5.out; have := HJ8.out; first | omega | exact Nat.le_refl _⟩, by repeat (first | exact Drawn0.refl _ | apply Drawn0.step)⟩
                      · rw [if_neg c13] at H
                        have c13b0 : decide ((bt a0 0) ≤ 244) = false := decide_eq_false c13
                        clear c13
                        have H' := Aside0.mk H
                        clear H
                        go_wp2
                        go_meet
                        case rel => exact ⟨_, (0), (by first | rfl | (simp; done) | (simp [*]; done)), H', ⟨by have := HJ5.out; have := HJ8.out; first | omega | exact Nat.le_refl _⟩, by repeat (first | exact Drawn0.refl _ | apply Drawn0.step)⟩
                    · rw [if_neg c12] at H
                      have c12b0 : decide (240 ≤ (bt a0 0)) = false := decide_eq_false c12
                      clear c12
                      have H' := Aside0.mk H
                      clear H
                      go_wp2
                      go_meet
                      case rel => exact ⟨_, (0), (by first | rfl | (simp; done) | (simp [*]; done)), H', ⟨by have := HJ5.out; have := HJ8.out; first | omega | exact Nat.le_refl _⟩, by repeat (first | exact Drawn0.refl _ | apply Drawn0.step)⟩
    case rest =>
      clear HC4
      try clear c1
      try clear c2
      try clear c2b0
      try clear c2b1
      try clear p2
      try clear p3
      try clear q3
      try clear hx3
      try clear qi3
      try clear c5
      try clear c5b0
      try clear c7
      try clear c7b0
      try clear c8
      try clear c10
      try clear c10b0
      try clear c11
      try clear c12
      try clear c12b0
      try clear c13
      try clear c13b0
      try clear p2
      try clear p3
      try clear q3
      obtain ⟨kq, x4_3, rfl, HA, HJ3, ⟨mc3, rfl⟩⟩ := hcut
      cases kq with
      | zero => exact absurd HA.out (by simp [laws_size.j2])
      | succ kj3 =>
        have H := HA.out
        clear HA
        simp only [laws_size.j2] at H
        have HC14 := Aside0.mk H
        clear H
        go_upto_block 1 with (fail)
        go_cut [5, 6] (fun v5 v6 wc => ∃ (kq : Nat) (x5_13 : Int) (x6_13 : Int), v5 = .int .u8 x5_13 ∧ v6 = .int .u8 x6_13 ∧ Aside0 (laws_size.j3 kq a0 x4_3 x5_13 x6_13 = some r) ∧ Aside0 (kq ≤ kj3) ∧ Drawn0 w wc)
        case first =>
          have H := HC14.out
          clear HC14
          by_cases c15 : (bt a0 0) = 224
          · rw [if_pos c15] at H
            have c15b0 : ((bt a0 0) == 224) = true := beq_iff_eq.mpr c15
            have c15b1 : ((bt a0 0) != 224) = false := bne_eq_false_iff_eq.mpr c15
            clear c15
            (first | rw [c15b0] | (simp only [i64_w, i32_w]; rw [c15b0]) | skip)
            have H' := Aside0.mk H
            clear H
            go_wp2
            go_meet
            case rel => exact ⟨_, (160), (191), (by first | rfl | (simp; done) | (simp [*]; done)), (by first | rfl | (simp; done) | (simp [*]; done)), H', ⟨by have := HJ3.out; first | omega | exact Nat.le_refl _⟩, by repeat (first | exact Drawn0.refl _ | apply Drawn0.step)⟩
          · rw [if_neg c15] at H
            have c15b0 : ((bt a0 0) == 224) = false := beq_eq_false_iff_ne.mpr c15
            have c15b1 : ((bt a0 0) != 224) = true := bne_iff_ne.mpr c15
            (first | rw [c15b0] | (simp only [i64_w, i32_w]; rw [c15b0]) | skip)
            by_cases c16 : (bt a0 0) = 237
            · rw [if_pos c16] at H
              have c16b0 : ((bt a0 0) == 237) = true := beq_iff_eq.mpr c16
              have c16b1 : ((bt a0 0) != 237) = false := bne_eq_false_iff_eq.mpr c16
              clear c16
              have H' := Aside0.mk H
              clear H
              go_wp2
              go_meet
              case rel => exact ⟨_, (128), (159), (by first | rfl | (simp; done) | (simp [*]; done)), (by first | rfl | (simp; done) | (simp [*]; done)), H', ⟨by have := HJ3.out; first | omega | exact Nat.le_refl _⟩, by repeat (first | exact Drawn0.refl _ | apply Drawn0.step)⟩
            · rw [if_neg c16] at H
              have c16b0 : ((bt a0 0) == 237) = false := beq_eq_false_iff_ne.mpr c16
              have c16b1 : ((bt a0 0) != 237) = true := bne_iff_ne.mpr c16
              by_cases c17 : (bt a0 0) = 240
              · rw [if_pos c17] at H
                have c17b0 : ((bt a0 0) == 240) = true := beq_iff_eq.mpr c17
                have c17b1 : ((bt a0 0) != 240) = false := bne_eq_false_iff_eq.mpr c17
                clear c17
                have H' := Aside0.mk H
                clear H
                go_wp2
                go_meet
                case rel => exact ⟨_, (144), (191), (by first | rfl | (simp; done) | (simp [*]; done)), (by first | rfl | (simp; done) | (simp [*]; done)), H', ⟨by have := HJ3.out; first | omega | exact Nat.le_refl _⟩, by repeat (first | exact Drawn0.refl _ | apply Drawn0.step)⟩
              · rw [if_neg c17] at H
                have c17b0 : ((bt a0 0) == 240) = false := beq_eq_false_iff_ne.mpr c17
                have c17b1 : ((bt a0 0) != 240) = true := bne_iff_ne.mpr c17
                by_cases c18 : (bt a0 0) = 244
                · rw [if_pos c18] at H
                  have c18b0 : ((bt a0 0) == 244) = true := beq_iff_eq.mpr c18
                  have c18b1 : ((bt a0 0) != 244) = false := bne_eq_false_iff_eq.mpr c18
                  clear c18
                  have H' := Aside0.mk H
                  clear H
                  go_wp2
                  go_meet
                  case rel => exact ⟨_, (128), (143), (by first | rfl | (simp; done) | (simp [*]; done)), (by first | rfl | (simp; done) | (simp [*]; done)), H', ⟨by have := HJ3.out; first | omega | exact Nat.le_refl _⟩, by repeat (first | exact Drawn0.refl _ | apply Drawn0.step)⟩
                · rw [if_neg c18] at H
                  have c18b0 : ((bt a0 0) == 244) = false := beq_eq_false_iff_ne.mpr c18
                  have c18b1 : ((bt a0 0) != 244) = true := bne_iff_ne.mpr c18
                  have H' := Aside0.mk H
                  clear H
                  go_wp2
                  go_meet
                  case rel => exact ⟨_, (128), (191), (by first | rfl | (simp; done) | (simp [*]; done)), (by first | rfl | (simp; done) | (simp [*]; done)), H', ⟨by have := HJ3.out; first | omega | exact Nat.le_refl _⟩, by repeat (first | exact Drawn0.refl _ | apply Drawn0.step)⟩
        case rest =>
          clear HC14
          try clear c1
          try clear c2
          try clear c2b0
          try clear c2b1
          try clear p2
          try clear c3
          try clear p3
          try clear q3
          try clear hx3
          try clear qi3
          try clear c5
          try clear c5b0
          try clear c7
          try clear c7b0
          try clear c8
          try clear c10
          try clear c10b0
          try clear c11
          try clear c12
          try clear c12b0
          try clear c13
          try clear c13b0
          try clear c15
          try clear c15b0
          try clear c15b1
          try clear c16
          try clear c16b0
          try clear c16b1
          try clear c17
          try clear c17b0
          try clear c17b1
          try clear c18
          try clear c18b0
          try clear c18b1
          try clear p2
          try clear p3
          try clear q3
          obtain ⟨kq, x5_13, x6_13, rfl, rfl, HA, HJ13, ⟨mc13, rfl⟩⟩ := hcut
          cases kq with
          | zero => exact absurd HA.out (by simp [laws_size.j3])
          | succ kj13 =>
            have H := HA.out
            clear HA
            simp only [laws_size.j3] at H
            have HC19 := Aside0.mk H
            clear H
            go_upto_region 20 with (fail)
            go_cut [62] (fun v62 wc => ∃ (kq : Nat) (x62_18 : Bool), v62 = .bool x62_18 ∧ Aside0 (laws_size.j4 kq a0 x4_3 x62_18 = some r) ∧ Aside0 (kq ≤ kj13) ∧ Drawn0 w wc)
            case first =>
              have H := HC19.out
              clear HC19
              by_cases c20 : x4_3 = 0
              · rw [if_pos c20] at H
                have c20b0 : (x4_3 == 0) = true := beq_iff_eq.mpr c20
                have c20b1 : (x4_3 != 0) = false := bne_eq_false_iff_eq.mpr c20
                clear c20
                (first | rw [c20b0] | (simp only [i64_w, i32_w]; rw [c20b0]) | skip)
                have H' := Aside0.mk H
                clear H
                go_wp2
                go_meet
                case rel => exact ⟨_, (true), (by first | rfl | (simp; done) | (simp [*]; done)), H', ⟨by have := HJ3.out; have := HJ13.out; first | omega | exact Nat.le_refl _⟩, by repeat (first | exact Drawn0.refl _ | apply Drawn0.step)⟩
              · rw [if_neg c20] at H
                have c20b0 : (x4_3 == 0) = false := beq_eq_false_iff_ne.mpr c20
                have c20b1 : (x4_3 != 0) = true := bne_iff_ne.mpr c20
                (first | rw [c20b0] | (simp only [i64_w, i32_w]; rw [c20b0]) | skip)
                by_cases c21 : (a0.size : Int) < x4_3
                · rw [if_pos c21] at H
                  have c21b0 : decide ((a0.size : Int) < x4_3) = true := decide_eq_true c21
                  clear c21
                  have H' := Aside0.mk H
                  clear H
                  go_wp2
                  go_meet
                  case rel => exact ⟨_, (true), (by first | rfl | (simp; done) | (simp [*]; done)), H', ⟨by have := HJ3.out; have := HJ13.out; first | omega | exact Nat.le_refl _⟩, by repeat (first | exact Drawn0.refl _ | apply Drawn0.step)⟩
                · rw [if_neg c21] at H
                  have c21b0 : decide ((a0.size : Int) < x4_3) = false := decide_eq_false c21
                  clear c21
                  by_cases c22 : 1 < (a0.size : Int)
                  · rw [if_pos c22] at H
                    have c22b0 : decide (1 < (a0.size : Int)) = true := decide_eq_true c22
                    have c22b1 : decide (1 < a0.size) = true := decide_eq_true (by omega)
                    clear c22
                    by_cases c24 : (bt a0 1) < x5_13
                    · rw [if_pos c24] at H
                      have c24b0 : decide ((bt a0 1) < x5_13) = true := decide_eq_true c24
                      clear c24
                      have H' := Aside0.mk H
                      clear H
                      have p23 : 0 ≤ (1 : Int) := (by omega)
                      have q23 : 1 < a0.size := (by have : (1 : Int) < (a0.size : Int) := of_decide_eq_true (by first | (with_reducible assumption) | assumption); omega)
                      have hx23 : ∀ h : 1 < a0.size, ((a0[1]'h).toNat : Int) = bt a0 1 := bt_at a0 1
                      clear p23
                      have qi23 : (1 < (a0.size : Int)) = True := eq_true (of_decide_eq_true (by first | (with_reducible assumption) | assumption))
                      replace q23 := eq_true q23
                      go_wp2
                      go_meet
                      case rel => exact ⟨_, (true), (by first | rfl | (simp; done) | (simp [*]; done)), H', ⟨by have := HJ3.out; have := HJ13.out; first | omega | exact Nat.le_refl _⟩, by repeat (first | exact Drawn0.refl _ | apply Drawn0.step)⟩
                    · rw [if_neg c24] at H
                      have c24b0 : decide ((bt a0 1) < x5_13) = false := decide_eq_false c24
                      clear c24
                      have H' := Aside0.mk H
                      clear H
                      have p23 : 0 ≤ (1 : Int) := (by omega)
                      have q23 : 1 < a0.size := (by have : (1 : Int) < (a0.size : Int) := of_decide_eq_true (by first | (with_reducible assumption) | assumption); omega)
                      have hx23 : ∀ h : 1 < a0.size, ((a0[1]'h).toNat : Int) = bt a0 1 := bt_at a0 1
                      clear p23
                      have qi23 : (1 < (a0.size : Int)) = True := eq_true (of_decide_eq_true (by first | (with_reducible assumption) | assumption))
                      replace q23 := eq_true q23
                      have p25 : 0 ≤ (1 : Int) := (by omega)
                      have q25 : 1 < a0.size := (by have : (1 : Int) < (a0.size : Int) := of_decide_eq_true (by first | (with_reducible assumption) | assumption); omega)
                      have hx25 : ∀ h : 1 < a0.size, ((a0[1]'h).toNat : Int) = bt a0 1 := bt_at a0 1
                      clear p25
                      have qi25 : (1 < (a0.size : Int)) = True := eq_true (of_decide_eq_true (by first | (with_reducible assumption) | assumption))
                      replace q25 := eq_true q25
                      go_wp2
                      go_meet
                      case rel => exact ⟨_, (decide ((bt a0 1) > x6_13)), (by first | rfl | (simp; done) | (simp [*]; done)), H', ⟨by have := HJ3.out; have := HJ13.out; first | omega | exact Nat.le_refl _⟩, by repeat (first | exact Drawn0.refl _ | apply Drawn0.step)⟩
                  · rw [if_neg c22] at H
                    exact absurd H (by simp)
            case rest =>
              clear HC19
              try clear c1
              try clear c2
              try clear c2b0
              try clear c2b1
              try clear p2
              try clear q2
              try clear hx2
              try clear qi2
              try clear c3
              try clear p3
              try clear q3
              try clear hx3
              try clear qi3
              try clear c5
              try clear c5b0
              try clear c7
              try clear c7b0
              try clear c8
              try clear c10
              try clear c10b0
              try clear c11
              try clear c12
              try clear c12b0
              try clear c13
              try clear c13b0
              try clear c15
              try clear c15b0
              try clear c15b1
              try clear c16
              try clear c16b0
              try clear c16b1
              try clear c17
              try clear c17b0
              try clear c17b1
              try clear c18
              try clear c18b0
              try clear c18b1
              try clear c20
              try clear c20b0
              try clear c20b1
              try clear c21
              try clear c21b0
              try clear c22
              try clear c22b0
              try clear c22b1
              try clear p23
              try clear q23
              try clear hx23
              try clear qi23
              try clear c24
              try clear c24b0
              try clear p25
              try clear q25
              try clear hx25
              try clear qi25
              try clear p2
              try clear p23
              try clear p25
              try clear p3
              try clear q23
              try clear q25
              try clear q3
              obtain ⟨kq, x62_18, rfl, HA, HJ18, ⟨mc18, rfl⟩⟩ := hcut
              cases kq with
              | zero => exact absurd HA.out (by simp [laws_size.j4])
              | succ kj18 =>
                have H := HA.out
                clear HA
                simp only [laws_size.j4] at H
                by_cases c26 : x62_18 = true
                · subst c26
                  have H1 : (some 0) = some r := by rw [if_pos rfl] at H; exact H
                  clear H
                  have H := H1
                  clear H1
                  obtain rfl := Option.some.inj H
                  go_wp2
                  go_ret
                  exact ⟨by first | rfl | (simp; done) | (simp [*]; done), by repeat (first | exact Drawn0.refl _ | apply Drawn0.step)⟩
                · replace c26 := Bool.eq_false_iff.mpr c26
                  subst c26
                  have H1 : (laws_size.l0 kj18 a0 x4_3 2) = some r := by rw [if_neg (show ¬ (false = true) by decide)] at H; exact H
                  clear H
                  have H := H1
                  clear H1
                  have H' := Aside0.mk H
                  clear H
                  go_wp2
                  go_loopg [7] kj18 (fun kq v7 w' => ∃ (x7_4 : Int), v7 = .int .i64 x7_4 ∧ Aside0 (laws_size.l0 kq a0 x4_3 x7_4 = some r) ∧ Aside0 (kq ≤ kj18) ∧ Drawn0 w w')
                  case atStart => exact ⟨(2), (by first | rfl | (simp; done) | (simp [*]; done)), H', ⟨Nat.le_refl _⟩, by repeat (first | exact Drawn0.refl _ | apply Drawn0.step)⟩
                  case round =>
                    clear H'
                    try clear c1
                    try clear c2
                    try clear c2b0
                    try clear c2b1
                    try clear p2
                    try clear q2
                    try clear hx2
                    try clear qi2
                    try clear c3
                    try clear p3
                    try clear q3
                    try clear hx3
                    try clear qi3
                    try clear c5
                    try clear c5b0
                    try clear c7
                    try clear c7b0
                    try clear c8
                    try clear c10
                    try clear c10b0
                    try clear c11
                    try clear c12
                    try clear c12b0
                    try clear c13
                    try clear c13b0
                    try clear c15
                    try clear c15b0
                    try clear c15b1
                    try clear c16
                    try clear c16b0
                    try clear c16b1
                    try clear c17
                    try clear c17b0
                    try clear c17b1
                    try clear c18
                    try clear c18b0
                    try clear c18b1
                    try clear c20
                    try clear c20b0
                    try clear c20b1
                    try clear c21
                    try clear c21b0
                    try clear c22
                    try clear c22b0
                    try clear c22b1
                    try clear p23
                    try clear q23
                    try clear hx23
                    try clear qi23
                    try clear c24
                    try clear c24b0
                    try clear p25
                    try clear q25
                    try clear hx25
                    try clear qi25
                    try clear c26
                    try clear p2
                    try clear p23
                    try clear p25
                    try clear p3
                    try clear q2
                    try clear q23
                    try clear q25
                    try clear q3
                    obtain ⟨x7_4, rfl, HA, HK4, ⟨m4, rfl⟩⟩ := hrel
                    cases gk with
                    | zero => exact absurd HA.out (by simp [laws_size.l0])
                    | succ k4 =>
                      have H := HA.out
                      clear HA
                      simp only [laws_size.l0] at H
                      by_cases c27 : x7_4 < x4_3
                      · rw [if_pos c27] at H
                        have c27b0 : decide (x7_4 < x4_3) = true := decide_eq_true c27
                        clear c27
                        by_cases c28 : 0 ≤ x7_4
                        · rw [if_pos c28] at H
                          have c28b0 : decide (0 ≤ x7_4) = true := decide_eq_true c28
                          clear c28
                          by_cases c29 : x7_4 < (a0.size : Int)
                          · rw [if_pos c29] at H
                            have c29b0 : decide (x7_4 < (a0.size : Int)) = true := decide_eq_true c29
                            clear c29
                            by_cases c31 : (bt a0 x7_4) < 128
                            · rw [if_pos c31] at H
                              have c31b0 : decide ((bt a0 x7_4) < 128) = true := decide_eq_true c31
                              clear c31
                              obtain rfl := Option.some.inj H
                              have p30 : 0 ≤ (x7_4 : Int) := of_decide_eq_true (by first | (with_reducible assumption) | assumption)
                              have q30 : x7_4 < (a0.size : Int) := of_decide_eq_true (by first | (with_reducible assumption) | assumption)
                              have hx30 := bt_at a0 x7_4
                              replace p30 := eq_true p30
                              replace q30 := eq_true q30
                              go_wp2
                              go_ret
                              exact ⟨by first | rfl | (simp; done) | (simp [*]; done), by repeat (first | exact Drawn0.refl _ | apply Drawn0.step)⟩
                            · rw [if_neg c31] at H
                              have c31b0 : decide ((bt a0 x7_4) < 128) = false := decide_eq_false c31
                              clear c31
                              by_cases c33 : (bt a0 x7_4) > 191
                              · rw [if_pos c33] at H
                                have c33b0 : decide (191 < (bt a0 x7_4)) = true := decide_eq_true c33
                                clear c33
                                obtain rfl := Option.some.inj H
                                have p30 : 0 ≤ (x7_4 : Int) := of_decide_eq_true (by first | (with_reducible assumption) | assumption)
                                have q30 : x7_4 < (a0.size : Int) := of_decide_eq_true (by first | (with_reducible assumption) | assumption)
                                have hx30 := bt_at a0 x7_4
                                replace p30 := eq_true p30
                                replace q30 := eq_true q30
                                have p32 : 0 ≤ (x7_4 : Int) := of_decide_eq_true (by first | (with_reducible assumption) | assumption)
                                have q32 : x7_4 < (a0.size : Int) := of_decide_eq_true (by first | (with_reducible assumption) | assumption)
                                have hx32 := bt_at a0 x7_4
                                replace p32 := eq_true p32
                                replace q32 := eq_true q32
                                go_wp2
                                go_ret
                                exact ⟨by first | rfl | (simp; done) | (simp [*]; done), by repeat (first | exact Drawn0.refl _ | apply Drawn0.step)⟩
                              · rw [if_neg c33] at H
                                have c33b0 : decide (191 < (bt a0 x7_4)) = false := decide_eq_false c33
                                clear c33
                                have H' := Aside0.mk H
                                clear H
                                have p30 : 0 ≤ (x7_4 : Int) := of_decide_eq_true (by first | (with_reducible assumption) | assumption)
                                have q30 : x7_4 < (a0.size : Int) := of_decide_eq_true (by first | (with_reducible assumption) | assumption)
                                have hx30 := bt_at a0 x7_4
                                replace p30 := eq_true p30
                                replace q30 := eq_true q30
                                have p32 : 0 ≤ (x7_4 : Int) := of_decide_eq_true (by first | (with_reducible assumption) | assumption)
                                have q32 : x7_4 < (a0.size : Int) := of_decide_eq_true (by first | (with_reducible assumption) | assumption)
                                have hx32 := bt_at a0 x7_4
                                replace p32 := eq_true p32
                                replace q32 := eq_true q32
                                go_wp2
                                go_roundg k4
                                case measure => have := HJ3.out; have := HJ13.out; have := HJ18.out; have := HK4.out; omega
                                case rel => exact ⟨(wrap64 (x7_4 + 1)), (by first | rfl | (simp; done) | (simp [*]; done)), H', ⟨by have := HJ3.out; have := HJ13.out; have := HJ18.out; have := HK4.out; omega⟩, by repeat (first | exact Drawn0.refl _ | apply Drawn0.step)⟩
                          · rw [if_neg c29] at H
                            exact absurd H (by simp)
                        · rw [if_neg c28] at H
                          exact absurd H (by simp)
                      · rw [if_neg c27] at H
                        have c27b0 : decide (x7_4 < x4_3) = false := decide_eq_false c27
                        clear c27
                        obtain rfl := Option.some.inj H
                        go_wp2
                        go_ret
                        exact ⟨by first | rfl | (simp; done) | (simp [*]; done), by repeat (first | exact Drawn0.refl _ | apply Drawn0.step)⟩
  · rw [if_neg c2] at H
    exact absurd H (by simp)

end Go.Proofs.YtpjnebmcbeblkaaDoor.P
