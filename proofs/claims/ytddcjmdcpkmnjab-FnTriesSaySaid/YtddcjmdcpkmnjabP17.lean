-- PRINTED by print.py (a twelfth state) out of the translation. Not trusted: Lean checks it.
import Derived.Test.YtddcjmdcpkmnjabP0
import Derived.Test.YtddcjmdcpkmnjabGtB
namespace Go.Proofs.Ytddcjmdcpkmnjab.P
open Go.RowKit Go.Proofs.YtddcjmdcpkmnjabW.PrintWords Go.Proofs.YtddcjmdcpkmnjabW.PrintLast
set_option linter.unusedVariables false
set_option linter.unusedSimpArgs false

/-! ### spec_FairIndex: function 17 -/
mutual
def spec_FairIndex.l0 : Nat → List ByteArray → List ByteArray → Int → Int → Option (Bool)
  | 0, _, _, _, _ => none
  | k + 1, x0, x6, x7, x8 => if x8 < x7 then (if 0 ≤ x8 then (if x8 < (x6.length : Int) then (if (rdOf ByteArray.empty x6 x8).toList = ([] : List UInt8) then (spec_FairIndex.j1 k x0 (rdOf ByteArray.empty x6 x8) x6 x7 x8 true) else (if x8 > 0 then (if 0 ≤ (wrap64 (x8 - 1)) then (if (wrap64 (x8 - 1)) < (x0.length : Int) then (spec_FairIndex.j1 k x0 (rdOf ByteArray.empty x6 x8) x6 x7 x8 (Op.bytesLess ((rdOf ByteArray.empty x6 x8).toList) ((rdOf ByteArray.empty x0 (wrap64 (x8 - 1))).toList))) else (none)) else (none)) else (spec_FairIndex.j1 k x0 (rdOf ByteArray.empty x6 x8) x6 x7 x8 false))) else (none)) else (none)) else (some true)
def spec_FairIndex.j1 : Nat → List ByteArray → ByteArray → List ByteArray → Int → Int → Bool → Option (Bool)
  | 0, _, _, _, _, _, _ => none
  | k + 1, x0, x4, x6, x7, x8, x27 => if x27 = true then (some false) else (spec_FairIndex.l1 k x0 x4 x6 x7 x8 (x4.size : Int) 0)
def spec_FairIndex.l1 : Nat → List ByteArray → ByteArray → List ByteArray → Int → Int → Int → Int → Option (Bool)
  | 0, _, _, _, _, _, _, _ => none
  | k + 1, x0, x4, x6, x7, x8, x29, x30 => if x30 < x29 then (if 0 ≤ x30 then (if x30 < (x4.size : Int) then (if (bt x4 x30) = 0 then (some false) else (spec_FairIndex.l1 k x0 x4 x6 x7 x8 x29 (wrap64 (x30 + 1)))) else (none)) else (none)) else (spec_FairIndex.l0 k x0 x6 x7 (wrap64 (x8 + 1)))
end
def spec_FairIndex.f (k : Nat) (l0 : List ByteArray) : Option (Bool) := spec_FairIndex.l0 k l0 l0 (l0.length : Int) 0
theorem spec_FairIndex.mono_l : ∀ k, (∀ y0 y1 y2 y3, LeO (spec_FairIndex.l0 k y0 y1 y2 y3) (spec_FairIndex.l0 (k + 1) y0 y1 y2 y3)) ∧ (∀ y0 y1 y2 y3 y4 y5, LeO (spec_FairIndex.j1 k y0 y1 y2 y3 y4 y5) (spec_FairIndex.j1 (k + 1) y0 y1 y2 y3 y4 y5)) ∧ (∀ y0 y1 y2 y3 y4 y5 y6, LeO (spec_FairIndex.l1 k y0 y1 y2 y3 y4 y5 y6) (spec_FairIndex.l1 (k + 1) y0 y1 y2 y3 y4 y5 y6))
  | 0 => ⟨fun _ _ _ _ r h => by simp [spec_FairIndex.l0] at h, fun _ _ _ _ _ _ r h => by simp [spec_FairIndex.j1] at h, fun _ _ _ _ _ _ _ r h => by simp [spec_FairIndex.l1] at h⟩
  | k + 1 => by
    obtain ⟨ih0, ih1, ih2⟩ := spec_FairIndex.mono_l k
    refine ⟨?_, ?_, ?_⟩
    · intro y0 y1 y2 y3
      unfold spec_FairIndex.l0
      repeat' first
      | (with_reducible exact ih0 _ _ _ _)
      | (with_reducible exact ih1 _ _ _ _ _ _)
      | (with_reducible exact ih2 _ _ _ _ _ _ _)
      | (with_reducible exact LeO.refl _)
      | (with_reducible exact LeO.none _)
      | (with_reducible refine LeO.ite ?_ ?_)
      | (with_reducible refine LeO.bind ?_ (fun _ => ?_))
      | exact ih0 _ _ _ _
      | exact ih1 _ _ _ _ _ _
      | exact ih2 _ _ _ _ _ _ _
      | exact LeO.none _
      | refine LeO.ite ?_ ?_
      | refine LeO.bind ?_ (fun _ => ?_)
    · intro y0 y1 y2 y3 y4 y5
      unfold spec_FairIndex.j1
      repeat' first
      | (with_reducible exact ih0 _ _ _ _)
      | (with_reducible exact ih1 _ _ _ _ _ _)
      | (with_reducible exact ih2 _ _ _ _ _ _ _)
      | (with_reducible exact LeO.refl _)
      | (with_reducible exact LeO.none _)
      | (with_reducible refine LeO.ite ?_ ?_)
      | (with_reducible refine LeO.bind ?_ (fun _ => ?_))
      | exact ih0 _ _ _ _
      | exact ih1 _ _ _ _ _ _
      | exact ih2 _ _ _ _ _ _ _
      | exact LeO.none _
      | refine LeO.ite ?_ ?_
      | refine LeO.bind ?_ (fun _ => ?_)
    · intro y0 y1 y2 y3 y4 y5 y6
      unfold spec_FairIndex.l1
      repeat' first
      | (with_reducible exact ih0 _ _ _ _)
      | (with_reducible exact ih1 _ _ _ _ _ _)
      | (with_reducible exact ih2 _ _ _ _ _ _ _)
      | (with_reducible exact LeO.refl _)
      | (with_reducible exact LeO.none _)
      | (with_reducible refine LeO.ite ?_ ?_)
      | (with_reducible refine LeO.bind ?_ (fun _ => ?_))
      | exact ih0 _ _ _ _
      | exact ih1 _ _ _ _ _ _
      | exact ih2 _ _ _ _ _ _ _
      | exact LeO.none _
      | refine LeO.ite ?_ ?_
      | refine LeO.bind ?_ (fun _ => ?_)
theorem spec_FairIndex.mono : ∀ a0 k, LeO (spec_FairIndex.f k a0) (spec_FairIndex.f (k + 1) a0) := by
  intro a0 k
  obtain ⟨ih0, ih1, ih2⟩ := spec_FairIndex.mono_l k
  unfold spec_FairIndex.f
  repeat' first
      | (with_reducible exact ih0 _ _ _ _)
      | (with_reducible exact ih1 _ _ _ _ _ _)
      | (with_reducible exact ih2 _ _ _ _ _ _ _)
      | (with_reducible exact LeO.refl _)
      | (with_reducible exact LeO.none _)
      | (with_reducible refine LeO.ite ?_ ?_)
      | (with_reducible refine LeO.bind ?_ (fun _ => ?_))
      | exact ih0 _ _ _ _
      | exact ih1 _ _ _ _ _ _
      | exact ih2 _ _ _ _ _ _ _
      | exact LeO.none _
      | refine LeO.ite ?_ ?_
      | refine LeO.bind ?_ (fun _ => ?_)
set_option maxHeartbeats 8000000 in
set_option maxRecDepth 100000 in
theorem spec_FairIndex.calls (k : Nat) (A0 : Option Addr) (c0 : Nat) (l0 : List ByteArray) (r : Bool) (w : World) (hr0 : Kd.C Kd.string w A0 l0.length l0) (hc0 : l0.length ≤ c0) (h : spec_FairIndex.f k l0 = some r) :
    Calls Try.prog 17 #[.slice A0 l0.length c0] w fun e w' => e = .returned (.bool r) ∧ Drawn0 w w' := by
  have HR0 := Aside0.mk hr0
  have HC0 := Aside0.mk hc0
  clear hr0 hc0
  have H : (spec_FairIndex.l0 k l0 l0 (l0.length : Int) 0) = some r := h
  clear h
  have H' := Aside0.mk H
  clear H
  go_enter Try.func17, Try.ntmps17
  go_wp2
  go_loopg [8] k (fun kq v8 w' => ∃ (x8_1 : Int), v8 = .int .i64 x8_1 ∧ Aside0 (spec_FairIndex.l0 kq l0 l0 (l0.length : Int) x8_1 = some r) ∧ Aside0 (kq ≤ k) ∧ Drawn0 w w')
  case atStart => exact ⟨(0), (by first | rfl | (simp; done) | (simp [*]; done)), H', ⟨Nat.le_refl _⟩, by repeat (first | exact Drawn0.refl _ | apply Drawn0.step)⟩
  case round =>
    clear H'
    try clear c1
    obtain ⟨x8_1, rfl, HA, HK1, ⟨m1, rfl⟩⟩ := hrel
    cases gk with
    | zero => exact absurd HA.out (by simp [spec_FairIndex.l0])
    | succ k1 =>
      have H := HA.out
      clear HA
      simp only [spec_FairIndex.l0] at H
      by_cases c2 : x8_1 < (l0.length : Int)
      · rw [if_pos c2] at H
        have c2b0 : decide (x8_1 < (l0.length : Int)) = true := decide_eq_true c2
        clear c2
        by_cases c3 : 0 ≤ x8_1
        · rw [if_pos c3] at H
          have c3b0 : decide (0 ≤ x8_1) = true := decide_eq_true c3
          clear c3
          by_cases c4 : x8_1 < (l0.length : Int)
          · rw [if_pos c4] at H
            have c4b0 : decide (x8_1 < (l0.length : Int)) = true := decide_eq_true c4
            clear c4
            have HC5 := Aside0.mk H
            clear H
            have p309 : 0 ≤ (x8_1 : Int) := of_decide_eq_true (by first | (with_reducible assumption) | assumption)
            have q309 : x8_1 < (l0.length : Int) := of_decide_eq_true (by first | (with_reducible assumption) | assumption)
            obtain ⟨ad309, e309, hx309_0⟩ := Kd.at_string HR0.out x8_1 p309 q309
            cases e309
            replace p309 := eq_true p309
            replace q309 := eq_true q309
            go_upto_region 4 with (fail)
            go_cut [27] (fun v27 wc => ∃ (kq : Nat) (x27_4 : Bool), v27 = .bool x27_4 ∧ Aside0 (spec_FairIndex.j1 kq l0 (rdOf ByteArray.empty l0 x8_1) l0 (l0.length : Int) x8_1 x27_4 = some r) ∧ Aside0 (kq ≤ k1) ∧ Drawn0 w wc)
            case first =>
              have H := HC5.out
              clear HC5
              by_cases c6 : (rdOf ByteArray.empty l0 x8_1).toList = ([] : List UInt8)
              · rw [if_pos c6] at H
                have c6b0 : ((rdOf ByteArray.empty l0 x8_1).toList == ([] : List UInt8)) = true := beq_iff_eq.mpr c6
                have c6b1 : ((rdOf ByteArray.empty l0 x8_1).toList != ([] : List UInt8)) = false := bne_eq_false_iff_eq.mpr c6
                clear c6
                (first | rw [c6b0] | (simp only [i64_w, i32_w]; rw [c6b0]) | skip)
                have H' := Aside0.mk H
                clear H
                go_wp2
                go_meet
                case rel => exact ⟨_, (true), (by first | rfl | (simp; done) | (simp [*]; done)), H', ⟨by have := HK1.out; first | omega | exact Nat.le_refl _⟩, by repeat (first | exact Drawn0.refl _ | apply Drawn0.step)⟩
              · rw [if_neg c6] at H
                have c6b0 : ((rdOf ByteArray.empty l0 x8_1).toList == ([] : List UInt8)) = false := beq_eq_false_iff_ne.mpr c6
                have c6b1 : ((rdOf ByteArray.empty l0 x8_1).toList != ([] : List UInt8)) = true := bne_iff_ne.mpr c6
                (first | rw [c6b0] | (simp only [i64_w, i32_w]; rw [c6b0]) | skip)
                by_cases c7 : x8_1 > 0
                · rw [if_pos c7] at H
                  have c7b0 : decide (0 < x8_1) = true := decide_eq_true c7
                  clear c7
                  obtain ⟨ji8, hji8⟩ : ∃ j_ : Int, (wrap64 (x8_1 - 1)) = j_ := ⟨_, rfl⟩
                  replace H : (if 0 ≤ (ji8) then (if (ji8) < (l0.length : Int) then (spec_FairIndex.j1 k1 l0 (rdOf ByteArray.empty l0 x8_1) l0 (l0.length : Int) x8_1 (Op.bytesLess ((rdOf ByteArray.empty l0 x8_1).toList) ((rdOf ByteArray.empty l0 (ji8)).toList))) else (none)) else (none)) = some r := by first | (rw [hji8] at H; exact H) | (simp only [hji8] at H ⊢; exact H)
                  have hji8w : (IntKind.i64.wrap (x8_1 - 1)) = ji8 := (i64_w _).trans hji8
                  by_cases c9 : 0 ≤ (ji8)
                  · rw [if_pos c9] at H
                    have c9b0 : decide (0 ≤ (ji8)) = true := decide_eq_true c9
                    clear c9
                    by_cases c10 : (ji8) < (l0.length : Int)
                    · rw [if_pos c10] at H
                      have c10b0 : decide ((ji8) < (l0.length : Int)) = true := decide_eq_true c10
                      clear c10
                      have H' := Aside0.mk H
                      clear H
                      have p310 : 0 ≤ ((ji8) : Int) := of_decide_eq_true (by first | (with_reducible assumption) | assumption)
                      have q310 : (ji8) < (l0.length : Int) := of_decide_eq_true (by first | (with_reducible assumption) | assumption)
                      obtain ⟨ad310, e310, hx310_0⟩ := Kd.at_string HR0.out (ji8) p310 q310
                      obtain rfl : ad309 = ad310 := (by injection e310)
                      replace p310 := eq_true p310
                      replace q310 := eq_true q310
                      have hgb : (!(Op.bytesLess (rdOf ByteArray.empty l0 ji8).toList (rdOf ByteArray.empty l0 x8_1).toList || (rdOf ByteArray.empty l0 ji8).toList == (rdOf ByteArray.empty l0 x8_1).toList)) = Op.bytesLess (rdOf ByteArray.empty l0 x8_1).toList (rdOf ByteArray.empty l0 ji8).toList := Go.Proofs.Ytddcjmdcpkmnjab.Gn.gtr_bytes _ _
                      go_wp2
                      go_meet
                      case rel => exact ⟨_, ((Op.bytesLess ((rdOf ByteArray.empty l0 x8_1).toList) ((rdOf ByteArray.empty l0 (ji8)).toList))), (by first | rfl | (simp; done) | (simp only [← hji8] <;> (first | rfl | simp)) | (simp [*]; done)), H', ⟨by have := HK1.out; first | omega | exact Nat.le_refl _⟩, by repeat (first | exact Drawn0.refl _ | apply Drawn0.step)⟩
                    · rw [if_neg c10] at H
                      exact absurd H (by simp)
                  · rw [if_neg c9] at H
                    exact absurd H (by simp)
                · rw [if_neg c7] at H
                  have c7b0 : decide (0 < x8_1) = false := decide_eq_false c7
                  clear c7
                  have H' := Aside0.mk H
                  clear H
                  go_wp2
                  go_meet
                  case rel => exact ⟨_, (false), (by first | rfl | (simp; done) | (simp [*]; done)), H', ⟨by have := HK1.out; first | omega | exact Nat.le_refl _⟩, by repeat (first | exact Drawn0.refl _ | apply Drawn0.step)⟩
            case rest =>
              clear HC5
              try clear c1
              try clear c2
              try clear c2b0
              try clear p2
              try clear c3
              try clear c3b0
              try clear p3
              try clear q3
              try clear hx3
              try clear c4
              try clear c4b0
              try clear c6
              try clear c6b0
              try clear c6b1
              try clear p6
              try clear c7
              try clear c7b0
              try clear c9
              try clear c9b0
              try clear c10
              try clear c10b0
              try clear hx309_0
              try clear hx310_0
              try clear p309
              try clear p310
              try clear q309
              try clear q310
              obtain ⟨kq, x27_4, rfl, HA, HJ4, ⟨mc4, rfl⟩⟩ := hcut
              cases kq with
              | zero => exact absurd HA.out (by simp [spec_FairIndex.j1])
              | succ kj4 =>
                have H := HA.out
                clear HA
                simp only [spec_FairIndex.j1] at H
                by_cases c11 : x27_4 = true
                · subst c11
                  have H1 : (some false) = some r := by rw [if_pos rfl] at H; exact H
                  clear H
                  have H := H1
                  clear H1
                  obtain rfl := Option.some.inj H
                  go_wp2
                  go_ret
                  exact ⟨by first | rfl | (simp; done) | (simp [*]; done), by repeat (first | exact Drawn0.refl _ | apply Drawn0.step)⟩
                · replace c11 := Bool.eq_false_iff.mpr c11
                  subst c11
                  have H1 : (spec_FairIndex.l1 kj4 l0 (rdOf ByteArray.empty l0 x8_1) l0 (l0.length : Int) x8_1 ((rdOf ByteArray.empty l0 x8_1).size : Int) 0) = some r := by rw [if_neg (show ¬ (false = true) by decide)] at H; exact H
                  clear H
                  have H := H1
                  clear H1
                  have H' := Aside0.mk H
                  clear H
                  go_wp2
                  go_loopg [30] kj4 (fun kq v30 w' => ∃ (x30_3 : Int), v30 = .int .i64 x30_3 ∧ Aside0 (spec_FairIndex.l1 kq l0 (rdOf ByteArray.empty l0 x8_1) l0 (l0.length : Int) x8_1 ((rdOf ByteArray.empty l0 x8_1).size : Int) x30_3 = some r) ∧ Aside0 (kq ≤ kj4) ∧ Drawn0 w w')
                  case atStart => exact ⟨(0), (by first | rfl | (simp; done) | (simp [*]; done)), H', ⟨Nat.le_refl _⟩, by repeat (first | exact Drawn0.refl _ | apply Drawn0.step)⟩
                  case round =>
                    clear H'
                    try clear c1
                    try clear c2
                    try clear c2b0
                    try clear p2
                    try clear c3
                    try clear c3b0
                    try clear p3
                    try clear q3
                    try clear hx3
                    try clear c4
                    try clear c4b0
                    try clear c6
                    try clear c6b0
                    try clear c6b1
                    try clear p6
                    try clear c7
                    try clear c7b0
                    try clear c9
                    try clear c9b0
                    try clear c10
                    try clear c10b0
                    try clear c11
                    try clear hx309_0
                    try clear hx310_0
                    try clear p2
                    try clear p3
                    try clear p309
                    try clear p310
                    try clear p6
                    try clear q3
                    try clear q309
                    try clear q310
                    obtain ⟨x30_3, rfl, HA, HK3, ⟨m3, rfl⟩⟩ := hrel
                    cases gk with
                    | zero => exact absurd HA.out (by simp [spec_FairIndex.l1])
                    | succ k3 =>
                      have H := HA.out
                      clear HA
                      simp only [spec_FairIndex.l1] at H
                      by_cases c12 : x30_3 < ((rdOf ByteArray.empty l0 x8_1).size : Int)
                      · rw [if_pos c12] at H
                        have c12b0 : decide (x30_3 < ((rdOf ByteArray.empty l0 x8_1).size : Int)) = true := decide_eq_true c12
                        clear c12
                        by_cases c13 : 0 ≤ x30_3
                        · rw [if_pos c13] at H
                          have c13b0 : decide (0 ≤ x30_3) = true := decide_eq_true c13
                          clear c13
                          by_cases c14 : x30_3 < ((rdOf ByteArray.empty l0 x8_1).size : Int)
                          · rw [if_pos c14] at H
                            have c14b0 : decide (x30_3 < ((rdOf ByteArray.empty l0 x8_1).size : Int)) = true := decide_eq_true c14
                            clear c14
                            by_cases c16 : (bt (rdOf ByteArray.empty l0 x8_1) x30_3) = 0
                            · rw [if_pos c16] at H
                              have c16b0 : ((bt (rdOf ByteArray.empty l0 x8_1) x30_3) == 0) = true := beq_iff_eq.mpr c16
                              have c16b1 : ((bt (rdOf ByteArray.empty l0 x8_1) x30_3) != 0) = false := bne_eq_false_iff_eq.mpr c16
                              clear c16
                              obtain rfl := Option.some.inj H
                              have p15 : 0 ≤ (x30_3 : Int) := of_decide_eq_true (by first | (with_reducible assumption) | assumption)
                              have q15 : x30_3 < ((rdOf ByteArray.empty l0 x8_1).size : Int) := of_decide_eq_true (by first | (with_reducible assumption) | assumption)
                              have hx15 := bt_at (rdOf ByteArray.empty l0 x8_1) x30_3
                              replace p15 := eq_true p15
                              replace q15 := eq_true q15
                              go_wp2
                              go_ret
                              exact ⟨by first | rfl | (simp; done) | (simp [*]; done), by repeat (first | exact Drawn0.refl _ | apply Drawn0.step)⟩
                            · rw [if_neg c16] at H
                              have c16b0 : ((bt (rdOf ByteArray.empty l0 x8_1) x30_3) == 0) = false := beq_eq_false_iff_ne.mpr c16
                              have c16b1 : ((bt (rdOf ByteArray.empty l0 x8_1) x30_3) != 0) = true := bne_iff_ne.mpr c16
                              have H' := Aside0.mk H
                              clear H
                              have p15 : 0 ≤ (x30_3 : Int) := of_decide_eq_true (by first | (with_reducible assumption) | assumption)
                              have q15 : x30_3 < ((rdOf ByteArray.empty l0 x8_1).size : Int) := of_decide_eq_true (by first | (with_reducible assumption) | assumption)
                              have hx15 := bt_at (rdOf ByteArray.empty l0 x8_1) x30_3
                              replace p15 := eq_true p15
                              replace q15 := eq_true q15
                              go_wp2
                              go_roundg k3
                              case measure => have := HK1.out; have := HJ4.out; have := HK3.out; omega
                              case rel => exact ⟨(wrap64 (x30_3 + 1)), (by first | rfl | (simp; done) | (simp [*]; done)), H', ⟨by have := HK1.out; have := HJ4.out; have := HK3.out; omega⟩, by repeat (first | exact Drawn0.refl _ | apply Drawn0.step)⟩
                          · rw [if_neg c14] at H
                            exact absurd H (by simp)
                        · rw [if_neg c13] at H
                          exact absurd H (by simp)
                      · rw [if_neg c12] at H
                        have c12b0 : decide (x30_3 < ((rdOf ByteArray.empty l0 x8_1).size : Int)) = false := decide_eq_false c12
                        clear c12
                        have H' := Aside0.mk H
                        clear H
                        go_wp2
                        go_roundg k3
                        case measure => have := HK1.out; have := HJ4.out; have := HK3.out; omega
                        case rel => exact ⟨(wrap64 (x8_1 + 1)), (by first | rfl | (simp; done) | (simp [*]; done)), H', ⟨by have := HK1.out; have := HJ4.out; have := HK3.out; omega⟩, by repeat (first | exact Drawn0.refl _ | apply Drawn0.step)⟩
          · rw [if_neg c4] at H
            exact absurd H (by simp)
        · rw [if_neg c3] at H
          exact absurd H (by simp)
      · rw [if_neg c2] at H
        have c2b0 : decide (x8_1 < (l0.length : Int)) = false := decide_eq_false c2
        clear c2
        obtain rfl := Option.some.inj H
        go_wp2
        go_ret
        exact ⟨by first | rfl | (simp; done) | (simp [*]; done), by repeat (first | exact Drawn0.refl _ | apply Drawn0.step)⟩

end Go.Proofs.Ytddcjmdcpkmnjab.P
