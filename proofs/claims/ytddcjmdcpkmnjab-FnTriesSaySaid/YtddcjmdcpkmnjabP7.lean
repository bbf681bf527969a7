-- PRINTED by print.py (a twelfth state) out of the translation. Not trusted: Lean checks it.
import Derived.Test.YtddcjmdcpkmnjabP0
import Derived.Test.YtddcjmdcpkmnjabP24
namespace Go.Proofs.Ytddcjmdcpkmnjab.P
open Go.RowKit Go.Proofs.YtddcjmdcpkmnjabW.PrintWords Go.Proofs.YtddcjmdcpkmnjabW.PrintLast
set_option linter.unusedVariables false
set_option linter.unusedSimpArgs false

/-! ### laws_ahead: function 7 -/
def laws_ahead.l0 : Nat → ByteArray → Bool → List ByteArray → Int → Int → Option (Bool)
  | 0, _, _, _, _, _ => none
  | k + 1, x1, x5, x8, x9, x10 => if x10 < x9 then (if 0 ≤ x10 then (if x10 < (x8.length : Int) then (if (rdOf ByteArray.empty x8 x10).toList = x1.toList then (some false) else (if x5 = true then (laws_ahead.l0 k x1 true x8 x9 (wrap64 (x10 + 1))) else ((laws_begins.f (rdOf ByteArray.empty x8 x10) x1).bind fun t262 => (laws_ahead.l0 k x1 t262 x8 x9 (wrap64 (x10 + 1)))))) else (none)) else (none)) else (some x5)
def laws_ahead.f (k : Nat) (l0 : List ByteArray) (a1 : ByteArray) : Option (Bool) := laws_ahead.l0 k a1 false l0 (l0.length : Int) 0
theorem laws_ahead.mono_l : ∀ k, (∀ y0 y1 y2 y3 y4, LeO (laws_ahead.l0 k y0 y1 y2 y3 y4) (laws_ahead.l0 (k + 1) y0 y1 y2 y3 y4))
  | 0 => fun _ _ _ _ _ r h => by simp [laws_ahead.l0] at h
  | k + 1 => by
    have ih0 := laws_ahead.mono_l k
    · intro y0 y1 y2 y3 y4
      unfold laws_ahead.l0
      repeat' first
      | (with_reducible exact ih0 _ _ _ _ _)
      | (with_reducible exact LeO.refl _)
      | (with_reducible exact LeO.none _)
      | (with_reducible refine LeO.ite ?_ ?_)
      | (with_reducible refine LeO.bind ?_ (fun _ => ?_))
      | exact ih0 _ _ _ _ _
      | exact LeO.none _
      | refine LeO.ite ?_ ?_
      | refine LeO.bind ?_ (fun _ => ?_)
theorem laws_ahead.mono : ∀ a0 a1 k, LeO (laws_ahead.f k a0 a1) (laws_ahead.f (k + 1) a0 a1) := by
  intro a0 a1 k
  have ih0 := laws_ahead.mono_l k
  unfold laws_ahead.f
  repeat' first
      | (with_reducible exact ih0 _ _ _ _ _)
      | (with_reducible exact LeO.refl _)
      | (with_reducible exact LeO.none _)
      | (with_reducible refine LeO.ite ?_ ?_)
      | (with_reducible refine LeO.bind ?_ (fun _ => ?_))
      | exact ih0 _ _ _ _ _
      | exact LeO.none _
      | refine LeO.ite ?_ ?_
      | refine LeO.bind ?_ (fun _ => ?_)
set_option maxHeartbeats 8000000 in
set_option maxRecDepth 100000 in
theorem laws_ahead.calls (k : Nat) (A0 : Option Addr) (c0 : Nat) (l0 : List ByteArray) (a1 : ByteArray) (r : Bool) (w : World) (hr0 : Kd.C Kd.string w A0 l0.length l0) (hc0 : l0.length ≤ c0) (h : laws_ahead.f k l0 a1 = some r) :
    Calls Try.prog 7 #[.slice A0 l0.length c0, .string a1] w fun e w' => e = .returned (.bool r) ∧ Drawn0 w w' := by
  have HR0 := Aside0.mk hr0
  have HC0 := Aside0.mk hc0
  clear hr0 hc0
  have H : (laws_ahead.l0 k a1 false l0 (l0.length : Int) 0) = some r := h
  clear h
  have H' := Aside0.mk H
  clear H
  go_enter Try.func7, Try.ntmps7
  go_wp2
  go_loopg [5, 10] k (fun kq v5 v10 w' => ∃ (x5_1 : Bool) (x10_1 : Int), v5 = .bool x5_1 ∧ v10 = .int .i64 x10_1 ∧ Aside0 (laws_ahead.l0 kq a1 x5_1 l0 (l0.length : Int) x10_1 = some r) ∧ Aside0 (kq ≤ k) ∧ Drawn0 w w')
  case atStart => exact ⟨(false), (0), (by first | rfl | (simp; done) | (simp [*]; done)), (by first | rfl | (simp; done) | (simp [*]; done)), H', ⟨Nat.le_refl _⟩, by repeat (first | exact Drawn0.refl _ | apply Drawn0.step)⟩
  case round =>
    clear H'
    try clear p2
    obtain ⟨x5_1, x10_1, rfl, rfl, HA, HK1, ⟨m1, rfl⟩⟩ := hrel
    cases gk with
    | zero => exact absurd HA.out (by simp [laws_ahead.l0])
    | succ k1 =>
      have H := HA.out
      clear HA
      simp only [laws_ahead.l0] at H
      by_cases c3 : x10_1 < (l0.length : Int)
      · rw [if_pos c3] at H
        have c3b0 : decide (x10_1 < (l0.length : Int)) = true := decide_eq_true c3
        clear c3
        by_cases c4 : 0 ≤ x10_1
        · rw [if_pos c4] at H
          have c4b0 : decide (0 ≤ x10_1) = true := decide_eq_true c4
          clear c4
          by_cases c5 : x10_1 < (l0.length : Int)
          · rw [if_pos c5] at H
            have c5b0 : decide (x10_1 < (l0.length : Int)) = true := decide_eq_true c5
            clear c5
            by_cases c6 : (rdOf ByteArray.empty l0 x10_1).toList = a1.toList
            · rw [if_pos c6] at H
              have c6b0 : ((rdOf ByteArray.empty l0 x10_1).toList == a1.toList) = true := beq_iff_eq.mpr c6
              have c6b1 : ((rdOf ByteArray.empty l0 x10_1).toList != a1.toList) = false := bne_eq_false_iff_eq.mpr c6
              clear c6
              obtain rfl := Option.some.inj H
              have p261 : 0 ≤ (x10_1 : Int) := of_decide_eq_true (by first | (with_reducible assumption) | assumption)
              have q261 : x10_1 < (l0.length : Int) := of_decide_eq_true (by first | (with_reducible assumption) | assumption)
              obtain ⟨ad261, e261, hx261_0⟩ := Kd.at_string HR0.out x10_1 p261 q261
              cases e261
              replace p261 := eq_true p261
              replace q261 := eq_true q261
              go_wp2
              go_ret
              exact ⟨by first | rfl | (simp; done) | (simp [*]; done), by repeat (first | exact Drawn0.refl _ | apply Drawn0.step)⟩
            · rw [if_neg c6] at H
              have c6b0 : ((rdOf ByteArray.empty l0 x10_1).toList == a1.toList) = false := beq_eq_false_iff_ne.mpr c6
              have c6b1 : ((rdOf ByteArray.empty l0 x10_1).toList != a1.toList) = true := bne_iff_ne.mpr c6
              by_cases c7 : x5_1 = true
              · subst c7
                have H1 : (laws_ahead.l0 k1 a1 true l0 (l0.length : Int) (wrap64 (x10_1 + 1))) = some r := by rw [if_pos rfl] at H; exact H
                clear H
                have H := H1
                clear H1
                have H' := Aside0.mk H
                clear H
                have p261 : 0 ≤ (x10_1 : Int) := of_decide_eq_true (by first | (with_reducible assumption) | assumption)
                have q261 : x10_1 < (l0.length : Int) := of_decide_eq_true (by first | (with_reducible assumption) | assumption)
                obtain ⟨ad261, e261, hx261_0⟩ := Kd.at_string HR0.out x10_1 p261 q261
                cases e261
                replace p261 := eq_true p261
                replace q261 := eq_true q261
                go_wp2
                go_roundg k1
                case measure => have := HK1.out; omega
                case rel => exact ⟨(true), (wrap64 (x10_1 + 1)), (by first | rfl | (simp; done) | (simp [*]; done)), (by first | rfl | (simp; done) | (simp [*]; done)), H', ⟨by have := HK1.out; omega⟩, by repeat (first | exact Drawn0.refl _ | apply Drawn0.step)⟩
              · replace c7 := Bool.eq_false_iff.mpr c7
                subst c7
                have H1 : ((laws_begins.f (rdOf ByteArray.empty l0 x10_1) a1).bind fun t262 => (laws_ahead.l0 k1 a1 t262 l0 (l0.length : Int) (wrap64 (x10_1 + 1)))) = some r := by rw [if_neg (show ¬ (false = true) by decide)] at H; exact H
                clear H
                have H := H1
                clear H1
                replace H := Option.bind_eq_some_iff.mp H
                obtain ⟨t262, A80, H⟩ := H
                replace H : (laws_ahead.l0 k1 a1 t262 l0 (l0.length : Int) (wrap64 (x10_1 + 1))) = some r := H
                have A8 := Aside0.mk A80
                clear A80
                have H' := Aside0.mk H
                clear H
                have p261 : 0 ≤ (x10_1 : Int) := of_decide_eq_true (by first | (with_reducible assumption) | assumption)
                have q261 : x10_1 < (l0.length : Int) := of_decide_eq_true (by first | (with_reducible assumption) | assumption)
                obtain ⟨ad261, e261, hx261_0⟩ := Kd.at_string HR0.out x10_1 p261 q261
                cases e261
                replace p261 := eq_true p261
                replace q261 := eq_true q261
                go_wp2_with (first | (go_at_call 24; (with_reducible refine (laws_begins.calls (rdOf ByteArray.empty l0 x10_1) a1 t262 _ A8.out).mono ?_); rintro e w' ⟨rfl, ⟨nd, rfl⟩⟩))
                go_roundg k1
                case measure => have := HK1.out; omega
                case rel => exact ⟨(t262), (wrap64 (x10_1 + 1)), (by first | rfl | (simp; done) | (simp [*]; done)), (by first | rfl | (simp; done) | (simp [*]; done)), H', ⟨by have := HK1.out; omega⟩, by repeat (first | exact Drawn0.refl _ | apply Drawn0.step)⟩
          · rw [if_neg c5] at H
            exact absurd H (by simp)
        · rw [if_neg c4] at H
          exact absurd H (by simp)
      · rw [if_neg c3] at H
        have c3b0 : decide (x10_1 < (l0.length : Int)) = false := decide_eq_false c3
        clear c3
        obtain rfl := Option.some.inj H
        go_wp2
        go_ret
        exact ⟨by first | rfl | (simp; done) | (simp [*]; done), by repeat (first | exact Drawn0.refl _ | apply Drawn0.step)⟩

end Go.Proofs.Ytddcjmdcpkmnjab.P
