-- PRINTED by print.py (a twelfth state) out of the translation. Not trusted: Lean checks it.
import Derived.Test.YtddcjmdcpkmnjabP0
import Derived.Test.YtddcjmdcpkmnjabP6
namespace Go.Proofs.Ytddcjmdcpkmnjab.P
open Go.RowKit Go.Proofs.YtddcjmdcpkmnjabW.PrintWords Go.Proofs.YtddcjmdcpkmnjabW.PrintLast
set_option linter.unusedVariables false
set_option linter.unusedSimpArgs false

/-! ### laws_fair: function 9 -/
mutual
def laws_fair.j0 : Nat → List ByteArray → List Int → Bool → Option (Bool)
  | 0, _, _, _ => none
  | k + 1, x0, x1, x32 => if x32 = true then (some false) else (laws_fair.l0 k x0 x1 x0 (x0.length : Int) 0)
def laws_fair.l0 : Nat → List ByteArray → List Int → List ByteArray → Int → Int → Option (Bool)
  | 0, _, _, _, _, _ => none
  | k + 1, x0, x1, x33, x34, x35 => if x35 < x34 then (if 0 ≤ x35 then (if x35 < (x33.length : Int) then (laws_fair.l1 k x0 x1 x35 (rdOf ByteArray.empty x33 x35) x33 x34 x35 x35 0) else (none)) else (none)) else (some true)
def laws_fair.l1 : Nat → List ByteArray → List Int → Int → ByteArray → List ByteArray → Int → Int → Int → Int → Option (Bool)
  | 0, _, _, _, _, _, _, _, _, _ => none
  | k + 1, x0, x1, x5, x6, x33, x34, x35, x40, x41 => if x41 < x40 then (if 0 ≤ x41 then (if x41 < (x0.length : Int) then (if (rdOf ByteArray.empty x0 x41).toList = x6.toList then (some false) else (laws_fair.l1 k x0 x1 x5 x6 x33 x34 x35 x40 (wrap64 (x41 + 1)))) else (none)) else (none)) else (if x6.toList = ([] : List UInt8) then (some false) else (if (x1.length : Int) > 0 then (if 0 ≤ x5 then (if x5 < (x1.length : Int) then (if (rd x1 x5) < 1 then (some false) else (if (rd x1 x5) > 1048576 then (some false) else (laws_fair.l0 k x0 x1 x33 x34 (wrap64 (x35 + 1))))) else (none)) else (none)) else (laws_fair.l0 k x0 x1 x33 x34 (wrap64 (x35 + 1)))))
end
def laws_fair.f (k : Nat) (l0 : List ByteArray) (l1 : List Int) : Option (Bool) := if (l0.length : Int) = 0 then (laws_fair.j0 k l0 l1 true) else (if (l0.length : Int) > 30 then (laws_fair.j0 k l0 l1 true) else ((laws_clean.f k 40 l0).bind fun t266 => (if t266 = true then (if (l1.length : Int) = 0 then (laws_fair.j0 k l0 l1 false) else (laws_fair.j0 k l0 l1 ((l1.length : Int) != (l0.length : Int)))) else (laws_fair.j0 k l0 l1 true))))
theorem laws_fair.mono_l : ∀ k, (∀ y0 y1 y2, LeO (laws_fair.j0 k y0 y1 y2) (laws_fair.j0 (k + 1) y0 y1 y2)) ∧ (∀ y0 y1 y2 y3 y4, LeO (laws_fair.l0 k y0 y1 y2 y3 y4) (laws_fair.l0 (k + 1) y0 y1 y2 y3 y4)) ∧ (∀ y0 y1 y2 y3 y4 y5 y6 y7 y8, LeO (laws_fair.l1 k y0 y1 y2 y3 y4 y5 y6 y7 y8) (laws_fair.l1 (k + 1) y0 y1 y2 y3 y4 y5 y6 y7 y8))
  | 0 => ⟨fun _ _ _ r h => by simp [laws_fair.j0] at h, fun _ _ _ _ _ r h => by simp [laws_fair.l0] at h, fun _ _ _ _ _ _ _ _ _ r h => by simp [laws_fair.l1] at h⟩
  | k + 1 => by
    obtain ⟨ih0, ih1, ih2⟩ := laws_fair.mono_l k
    refine ⟨?_, ?_, ?_⟩
    · intro y0 y1 y2
      unfold laws_fair.j0
      repeat' first
      | (with_reducible exact ih0 _ _ _)
      | (with_reducible exact ih1 _ _ _ _ _)
      | (with_reducible exact ih2 _ _ _ _ _ _ _ _ _)
      | (with_reducible exact laws_clean.mono _ _ _)
      | (with_reducible exact LeO.refl _)
      | (with_reducible exact LeO.none _)
      | (with_reducible refine LeO.ite ?_ ?_)
      | (with_reducible refine LeO.bind ?_ (fun _ => ?_))
      | exact ih0 _ _ _
      | exact ih1 _ _ _ _ _
      | exact ih2 _ _ _ _ _ _ _ _ _
      | exact laws_clean.mono _ _ _
      | exact LeO.none _
      | refine LeO.ite ?_ ?_
      | refine LeO.bind ?_ (fun _ => ?_)
    · intro y0 y1 y2 y3 y4
      unfold laws_fair.l0
      repeat' first
      | (with_reducible exact ih0 _ _ _)
      | (with_reducible exact ih1 _ _ _ _ _)
      | (with_reducible exact ih2 _ _ _ _ _ _ _ _ _)
      | (with_reducible exact laws_clean.mono _ _ _)
      | (with_reducible exact LeO.refl _)
      | (with_reducible exact LeO.none _)
      | (with_reducible refine LeO.ite ?_ ?_)
      | (with_reducible refine LeO.bind ?_ (fun _ => ?_))
      | exact ih0 _ _ _
      | exact ih1 _ _ _ _ _
      | exact ih2 _ _ _ _ _ _ _ _ _
      | exact laws_clean.mono _ _ _
      | exact LeO.none _
      | refine LeO.ite ?_ ?_
      | refine LeO.bind ?_ (fun _ => ?_)
    · intro y0 y1 y2 y3 y4 y5 y6 y7 y8
      unfold laws_fair.l1
      repeat' first
      | (with_reducible exact ih0 _ _ _)
      | (with_reducible exact ih1 _ _ _ _ _)
      | (with_reducible exact ih2 _ _ _ _ _ _ _ _ _)
      | (with_reducible exact laws_clean.mono _ _ _)
      | (with_reducible exact LeO.refl _)
      | (with_reducible exact LeO.none _)
      | (with_reducible refine LeO.ite ?_ ?_)
      | (with_reducible refine LeO.bind ?_ (fun _ => ?_))
      | exact ih0 _ _ _
      | exact ih1 _ _ _ _ _
      | exact ih2 _ _ _ _ _ _ _ _ _
      | exact laws_clean.mono _ _ _
      | exact LeO.none _
      | refine LeO.ite ?_ ?_
      | refine LeO.bind ?_ (fun _ => ?_)
theorem laws_fair.mono : ∀ a0 a1 k, LeO (laws_fair.f k a0 a1) (laws_fair.f (k + 1) a0 a1) := by
  intro a0 a1 k
  obtain ⟨ih0, ih1, ih2⟩ := laws_fair.mono_l k
  unfold laws_fair.f
  repeat' first
      | (with_reducible exact ih0 _ _ _)
      | (with_reducible exact ih1 _ _ _ _ _)
      | (with_reducible exact ih2 _ _ _ _ _ _ _ _ _)
      | (with_reducible exact laws_clean.mono _ _ _)
      | (with_reducible exact LeO.refl _)
      | (with_reducible exact LeO.none _)
      | (with_reducible refine LeO.ite ?_ ?_)
      | (with_reducible refine LeO.bind ?_ (fun _ => ?_))
      | exact ih0 _ _ _
      | exact ih1 _ _ _ _ _
      | exact ih2 _ _ _ _ _ _ _ _ _
      | exact laws_clean.mono _ _ _
      | exact LeO.none _
      | refine LeO.ite ?_ ?_
      | refine LeO.bind ?_ (fun _ => ?_)
set_option maxHeartbeats 8000000 in
set_option maxRecDepth 100000 in
theorem laws_fair.calls (k : Nat) (A0 : Option Addr) (c0 : Nat) (l0 : List ByteArray) (A1 : Option Addr) (c1 : Nat) (l1 : List Int) (r : Bool) (w : World) (hr0 : Kd.C Kd.string w A0 l0.length l0) (hc0 : l0.length ≤ c0) (hr1 : Kd.C (Kd.int .i64) w A1 l1.length l1) (hc1 : l1.length ≤ c1) (h : laws_fair.f k l0 l1 = some r) :
    Calls Try.prog 9 #[.slice A0 l0.length c0, .slice A1 l1.length c1] w fun e w' => e = .returned (.bool r) ∧ Below w.heap.size w w' := by
  have HR0 := Aside0.mk hr0
  have HC0 := Aside0.mk hc0
  clear hr0 hc0
  have HR1 := Aside0.mk hr1
  have HC1 := Aside0.mk hc1
  clear hr1 hc1
  have HB := Aside0.mk (Below.refl w.heap.size w)
  have H : (if (l0.length : Int) = 0 then (laws_fair.j0 k l0 l1 true) else (if (l0.length : Int) > 30 then (laws_fair.j0 k l0 l1 true) else ((laws_clean.f k 40 l0).bind fun t266 => (if t266 = true then (if (l1.length : Int) = 0 then (laws_fair.j0 k l0 l1 false) else (laws_fair.j0 k l0 l1 ((l1.length : Int) != (l0.length : Int)))) else (laws_fair.j0 k l0 l1 true))))) = some r := h
  clear h
  have HC3 := Aside0.mk H
  clear H
  go_enter Try.func9, Try.ntmps9
  go_upto_region 1 with (fail)
  go_cut [32] (fun v32 wc => ∃ (kq : Nat) (x32_2 : Bool), v32 = .bool x32_2 ∧ Aside0 (laws_fair.j0 kq l0 l1 x32_2 = some r) ∧ Aside0 (kq ≤ k) ∧ Aside0 (Below w.heap.size w wc))
  case first =>
    have H := HC3.out
    clear HC3
    by_cases c4 : (l0.length : Int) = 0
    · rw [if_pos c4] at H
      have c4b0 : ((l0.length : Int) == 0) = true := beq_iff_eq.mpr c4
      have c4b1 : ((l0.length : Int) != 0) = false := bne_eq_false_iff_eq.mpr c4
      clear c4
      (first | rw [c4b0] | (simp only [i64_w, i32_w]; rw [c4b0]) | skip)
      have H' := Aside0.mk H
      clear H
      go_wp2
      go_meet
      case rel => exact ⟨_, (true), (by first | rfl | (simp; done) | (simp [*]; done)), H', ⟨by first | omega | exact Nat.le_refl _⟩, ⟨by repeat (first | (with_reducible first | exact HB.out | apply below_alloc | apply pw_below_drewN | apply below_drew1) | exact HB.out)⟩⟩
    · rw [if_neg c4] at H
      have c4b0 : ((l0.length : Int) == 0) = false := beq_eq_false_iff_ne.mpr c4
      have c4b1 : ((l0.length : Int) != 0) = true := bne_iff_ne.mpr c4
      have c4b2 : ¬ (l0 = []) := fun h_ => c4 (by rw [h_]; rfl)
      (first | rw [c4b0] | (simp only [i64_w, i32_w]; rw [c4b0]) | skip)
      by_cases c5 : (l0.length : Int) > 30
      · rw [if_pos c5] at H
        have c5b0 : decide (30 < (l0.length : Int)) = true := decide_eq_true c5
        have c5b1 : decide (30 < l0.length) = true := decide_eq_true (by omega)
        clear c5
        have H' := Aside0.mk H
        clear H
        go_wp2
        go_meet
        case rel => exact ⟨_, (true), (by first | rfl | (simp; done) | (simp [*]; done)), H', ⟨by first | omega | exact Nat.le_refl _⟩, ⟨by repeat (first | (with_reducible first | exact HB.out | apply below_alloc | apply pw_below_drewN | apply below_drew1) | exact HB.out)⟩⟩
      · rw [if_neg c5] at H
        have c5b0 : decide (30 < (l0.length : Int)) = false := decide_eq_false c5
        have c5b1 : decide (30 < l0.length) = false := decide_eq_false (by omega)
        clear c5
        replace H := Option.bind_eq_some_iff.mp H
        obtain ⟨t266, A60, H⟩ := H
        replace H : (if t266 = true then (if (l1.length : Int) = 0 then (laws_fair.j0 k l0 l1 false) else (laws_fair.j0 k l0 l1 ((l1.length : Int) != (l0.length : Int)))) else (laws_fair.j0 k l0 l1 true)) = some r := H
        have A6 := Aside0.mk A60
        clear A60
        by_cases c7 : t266 = true
        · subst c7
          have H1 : (if (l1.length : Int) = 0 then (laws_fair.j0 k l0 l1 false) else (laws_fair.j0 k l0 l1 ((l1.length : Int) != (l0.length : Int)))) = some r := by rw [if_pos rfl] at H; exact H
          clear H
          have H := H1
          clear H1
          by_cases c8 : (l1.length : Int) = 0
          · rw [if_pos c8] at H
            have c8b0 : ((l1.length : Int) == 0) = true := beq_iff_eq.mpr c8
            have c8b1 : ((l1.length : Int) != 0) = false := bne_eq_false_iff_eq.mpr c8
            clear c8
            have H' := Aside0.mk H
            clear H
            go_wp2_with (first | (go_at_call 6; (with_reducible refine (laws_clean.calls k 40 _ _ l0 true _ ?side1 ?side2 A6.out).mono ?_); (case side1 => repeat (first | exact (Kd.C_below HR0.out HB.out) | (with_reducible refine Kd.C_alloc ?_ _) | (with_reducible refine Kd.C_drewN ?_ _) | (with_reducible refine Kd.C_drew ?_))); (case side2 => exact HC0.out); rintro e w9 ⟨rfl, hb⟩; have n0_ := Aside0.mk (below_step (by repeat (first | (with_reducible first | exact HB.out | apply below_alloc | apply pw_below_drewN | apply below_drew1) | exact HB.out)) hb); clear HB; have HB := n0_; clear n0_; (try clear hb); (try clear hb2); (try clear hk); (try clear hi)))
            go_meet
            case rel => exact ⟨_, (false), (by first | rfl | (simp; done) | (simp [*]; done)), H', ⟨by first | omega | exact Nat.le_refl _⟩, ⟨by repeat (first | (with_reducible first | exact HB.out | apply below_alloc | apply pw_below_drewN | apply below_drew1) | exact HB.out)⟩⟩
          · rw [if_neg c8] at H
            have c8b0 : ((l1.length : Int) == 0) = false := beq_eq_false_iff_ne.mpr c8
            have c8b1 : ((l1.length : Int) != 0) = true := bne_iff_ne.mpr c8
            have c8b2 : ¬ (l1 = []) := fun h_ => c8 (by rw [h_]; rfl)
            have H' := Aside0.mk H
            clear H
            go_wp2_with (first | (go_at_call 6; (with_reducible refine (laws_clean.calls k 40 _ _ l0 true _ ?side1 ?side2 A6.out).mono ?_); (case side1 => repeat (first | exact (Kd.C_below HR0.out HB.out) | (with_reducible refine Kd.C_alloc ?_ _) | (with_reducible refine Kd.C_drewN ?_ _) | (with_reducible refine Kd.C_drew ?_))); (case side2 => exact HC0.out); rintro e w10 ⟨rfl, hb⟩; have n0_ := Aside0.mk (below_step (by repeat (first | (with_reducible first | exact HB.out | apply below_alloc | apply pw_below_drewN | apply below_drew1) | exact HB.out)) hb); clear HB; have HB := n0_; clear n0_; (try clear hb); (try clear hb2); (try clear hk); (try clear hi)))
            go_meet
            case rel => exact ⟨_, (((l1.length : Int) != (l0.length : Int))), (by first | rfl | (simp; done) | (simp [*]; done)), H', ⟨by first | omega | exact Nat.le_refl _⟩, ⟨by repeat (first | (with_reducible first | exact HB.out | apply below_alloc | apply pw_below_drewN | apply below_drew1) | exact HB.out)⟩⟩
        · replace c7 := Bool.eq_false_iff.mpr c7
          subst c7
          have H1 : (laws_fair.j0 k l0 l1 true) = some r := by rw [if_neg (show ¬ (false = true) by decide)] at H; exact H
          clear H
          have H := H1
          clear H1
          have H' := Aside0.mk H
          clear H
          go_wp2_with (first | (go_at_call 6; (with_reducible refine (laws_clean.calls k 40 _ _ l0 false _ ?side1 ?side2 A6.out).mono ?_); (case side1 => repeat (first | exact (Kd.C_below HR0.out HB.out) | (with_reducible refine Kd.C_alloc ?_ _) | (with_reducible refine Kd.C_drewN ?_ _) | (with_reducible refine Kd.C_drew ?_))); (case side2 => exact HC0.out); rintro e w11 ⟨rfl, hb⟩; have n0_ := Aside0.mk (below_step (by repeat (first | (with_reducible first | exact HB.out | apply below_alloc | apply pw_below_drewN | apply below_drew1) | exact HB.out)) hb); clear HB; have HB := n0_; clear n0_; (try clear hb); (try clear hb2); (try clear hk); (try clear hi)))
          go_meet
          case rel => exact ⟨_, (true), (by first | rfl | (simp; done) | (simp [*]; done)), H', ⟨by first | omega | exact Nat.le_refl _⟩, ⟨by repeat (first | (with_reducible first | exact HB.out | apply below_alloc | apply pw_below_drewN | apply below_drew1) | exact HB.out)⟩⟩
  case rest =>
    clear HC3
    try clear c1
    try clear p2
    try clear c4
    try clear c4b0
    try clear c4b1
    try clear c4b2
    try clear c5
    try clear c5b0
    try clear c5b1
    try clear c7
    try clear c8
    try clear c8b0
    try clear c8b1
    try clear c8b2
    try clear c9
    obtain ⟨kq, x32_2, rfl, HA, HJ2, HB⟩ := hcut
    cases kq with
    | zero => exact absurd HA.out (by simp [laws_fair.j0])
    | succ kj2 =>
      have H := HA.out
      clear HA
      simp only [laws_fair.j0] at H
      by_cases c12 : x32_2 = true
      · subst c12
        have H1 : (some false) = some r := by rw [if_pos rfl] at H; exact H
        clear H
        have H := H1
        clear H1
        obtain rfl := Option.some.inj H
        go_wp2
        go_ret
        exact ⟨by first | rfl | (simp [errW_none, errW_some] <;> rfl) | (simp [*, errW_none, errW_some] <;> rfl), by repeat (first | (with_reducible first | exact HB.out | apply below_alloc | apply pw_below_drewN | apply below_drew1) | exact HB.out)⟩
      · replace c12 := Bool.eq_false_iff.mpr c12
        subst c12
        have H1 : (laws_fair.l0 kj2 l0 l1 l0 (l0.length : Int) 0) = some r := by rw [if_neg (show ¬ (false = true) by decide)] at H; exact H
        clear H
        have H := H1
        clear H1
        have H' := Aside0.mk H
        clear H
        go_wp2
        go_loopg [35] kj2 (fun kq v35 w' => ∃ (x35_2 : Int), v35 = .int .i64 x35_2 ∧ Aside0 (laws_fair.l0 kq l0 l1 l0 (l0.length : Int) x35_2 = some r) ∧ Aside0 (kq ≤ kj2) ∧ Aside0 (Below w.heap.size w w'))
        case atStart => exact ⟨(0), (by first | rfl | (simp; done) | (simp [*]; done)), H', ⟨Nat.le_refl _⟩, ⟨by repeat (first | (with_reducible first | exact HB.out | apply below_alloc | apply pw_below_drewN | apply below_drew1) | exact HB.out)⟩⟩
        case round =>
          clear H'
          try clear c1
          try clear p2
          try clear c4
          try clear c4b0
          try clear c4b1
          try clear c4b2
          try clear c5
          try clear c5b0
          try clear c5b1
          try clear c7
          try clear c8
          try clear c8b0
          try clear c8b1
          try clear c8b2
          try clear c9
          try clear c12
          try clear p2
          obtain ⟨x35_2, rfl, HA, HK2, HB⟩ := hrel
          cases gk with
          | zero => exact absurd HA.out (by simp [laws_fair.l0])
          | succ k2 =>
            have H := HA.out
            clear HA
            simp only [laws_fair.l0] at H
            by_cases c13 : x35_2 < (l0.length : Int)
            · rw [if_pos c13] at H
              have c13b0 : decide (x35_2 < (l0.length : Int)) = true := decide_eq_true c13
              clear c13
              by_cases c14 : 0 ≤ x35_2
              · rw [if_pos c14] at H
                have c14b0 : decide (0 ≤ x35_2) = true := decide_eq_true c14
                clear c14
                by_cases c15 : x35_2 < (l0.length : Int)
                · rw [if_pos c15] at H
                  have c15b0 : decide (x35_2 < (l0.length : Int)) = true := decide_eq_true c15
                  clear c15
                  have H' := Aside0.mk H
                  clear H
                  have p267 : 0 ≤ (x35_2 : Int) := of_decide_eq_true (by first | (with_reducible assumption) | assumption)
                  have q267 : x35_2 < (l0.length : Int) := of_decide_eq_true (by first | (with_reducible assumption) | assumption)
                  obtain ⟨ad267, e267, hx267_0⟩ := Kd.at_string HR0.out x35_2 p267 q267
                  cases e267
                  first | (replace hx267_0 := (HB.out.cell (World.block_lt_of_cell? w _ hx267_0)).trans hx267_0) | skip
                  replace p267 := eq_true p267
                  replace q267 := eq_true q267
                  go_wp2
                  go_loopg [41] k2 (fun kq v41 w' => ∃ (x41_3 : Int), v41 = .int .i64 x41_3 ∧ Aside0 (laws_fair.l1 kq l0 l1 x35_2 (rdOf ByteArray.empty l0 x35_2) l0 (l0.length : Int) x35_2 x35_2 x41_3 = some r) ∧ Aside0 (kq ≤ k2) ∧ Aside0 (Below w.heap.size w w'))
                  case atStart => exact ⟨(0), (by first | rfl | (simp; done) | (simp [*]; done)), H', ⟨Nat.le_refl _⟩, ⟨by repeat (first | (with_reducible first | exact HB.out | apply below_alloc | apply pw_below_drewN | apply below_drew1) | exact HB.out)⟩⟩
                  case round =>
                    clear H'
                    try clear c1
                    try clear p2
                    try clear q2
                    try clear hx2
                    try clear c4
                    try clear c4b0
                    try clear c4b1
                    try clear c4b2
                    try clear c5
                    try clear c5b0
                    try clear c5b1
                    try clear c7
                    try clear c8
                    try clear c8b0
                    try clear c8b1
                    try clear c8b2
                    try clear c9
                    try clear c12
                    try clear c13
                    try clear c13b0
                    try clear c14
                    try clear c14b0
                    try clear c15
                    try clear c15b0
                    try clear hx267_0
                    try clear p2
                    try clear p267
                    try clear q267
                    obtain ⟨x41_3, rfl, HA, HK3, HB⟩ := hrel
                    cases gk with
                    | zero => exact absurd HA.out (by simp [laws_fair.l1])
                    | succ k3 =>
                      have H := HA.out
                      clear HA
                      simp only [laws_fair.l1] at H
                      by_cases c16 : x41_3 < x35_2
                      · rw [if_pos c16] at H
                        have c16b0 : decide (x41_3 < x35_2) = true := decide_eq_true c16
                        clear c16
                        by_cases c17 : 0 ≤ x41_3
                        · rw [if_pos c17] at H
                          have c17b0 : decide (0 ≤ x41_3) = true := decide_eq_true c17
                          clear c17
                          by_cases c18 : x41_3 < (l0.length : Int)
                          · rw [if_pos c18] at H
                            have c18b0 : decide (x41_3 < (l0.length : Int)) = true := decide_eq_true c18
                            clear c18
                            by_cases c19 : (rdOf ByteArray.empty l0 x41_3).toList = (rdOf ByteArray.empty l0 x35_2).toList
                            · rw [if_pos c19] at H
                              have c19b0 : ((rdOf ByteArray.empty l0 x41_3).toList == (rdOf ByteArray.empty l0 x35_2).toList) = true := beq_iff_eq.mpr c19
                              have c19b1 : ((rdOf ByteArray.empty l0 x41_3).toList != (rdOf ByteArray.empty l0 x35_2).toList) = false := bne_eq_false_iff_eq.mpr c19
                              clear c19
                              obtain rfl := Option.some.inj H
                              have p268 : 0 ≤ (x41_3 : Int) := of_decide_eq_true (by first | (with_reducible assumption) | assumption)
                              have q268 : x41_3 < (l0.length : Int) := of_decide_eq_true (by first | (with_reducible assumption) | assumption)
                              obtain ⟨ad268, e268, hx268_0⟩ := Kd.at_string HR0.out x41_3 p268 q268
                              obtain rfl : ad267 = ad268 := (by injection e268)
                              first | (replace hx268_0 := (HB.out.cell (World.block_lt_of_cell? w _ hx268_0)).trans hx268_0) | skip
                              replace p268 := eq_true p268
                              replace q268 := eq_true q268
                              go_wp2
                              go_ret
                              exact ⟨by first | rfl | (simp [errW_none, errW_some] <;> rfl) | (simp [*, errW_none, errW_some] <;> rfl), by repeat (first | (with_reducible first | exact HB.out | apply below_alloc | apply pw_below_drewN | apply below_drew1) | exact HB.out)⟩
                            · rw [if_neg c19] at H
                              have c19b0 : ((rdOf ByteArray.empty l0 x41_3).toList == (rdOf ByteArray.empty l0 x35_2).toList) = false := beq_eq_false_iff_ne.mpr c19
                              have c19b1 : ((rdOf ByteArray.empty l0 x41_3).toList != (rdOf ByteArray.empty l0 x35_2).toList) = true := bne_iff_ne.mpr c19
                              have H' := Aside0.mk H
                              clear H
                              have p268 : 0 ≤ (x41_3 : Int) := of_decide_eq_true (by first | (with_reducible assumption) | assumption)
                              have q268 : x41_3 < (l0.length : Int) := of_decide_eq_true (by first | (with_reducible assumption) | assumption)
                              obtain ⟨ad268, e268, hx268_0⟩ := Kd.at_string HR0.out x41_3 p268 q268
                              obtain rfl : ad267 = ad268 := (by injection e268)
                              first | (replace hx268_0 := (HB.out.cell (World.block_lt_of_cell? w _ hx268_0)).trans hx268_0) | skip
                              replace p268 := eq_true p268
                              replace q268 := eq_true q268
                              go_wp2
                              go_roundg k3
                              case measure => have := HJ2.out; have := HK2.out; have := HK3.out; omega
                              case rel => exact ⟨(wrap64 (x41_3 + 1)), (by first | rfl | (simp; done) | (simp [*]; done)), H', ⟨by have := HJ2.out; have := HK2.out; have := HK3.out; omega⟩, ⟨by repeat (first | (with_reducible first | exact HB.out | apply below_alloc | apply pw_below_drewN | apply below_drew1) | exact HB.out)⟩⟩
                          · rw [if_neg c18] at H
                            exact absurd H (by simp)
                        · rw [if_neg c17] at H
                          exact absurd H (by simp)
                      · rw [if_neg c16] at H
                        have c16b0 : decide (x41_3 < x35_2) = false := decide_eq_false c16
                        clear c16
                        by_cases c20 : (rdOf ByteArray.empty l0 x35_2).toList = ([] : List UInt8)
                        · rw [if_pos c20] at H
                          have c20b0 : ((rdOf ByteArray.empty l0 x35_2).toList == ([] : List UInt8)) = true := beq_iff_eq.mpr c20
                          have c20b1 : ((rdOf ByteArray.empty l0 x35_2).toList != ([] : List UInt8)) = false := bne_eq_false_iff_eq.mpr c20
                          clear c20
                          obtain rfl := Option.some.inj H
                          go_wp2
                          go_ret
                          exact ⟨by first | rfl | (simp [errW_none, errW_some] <;> rfl) | (simp [*, errW_none, errW_some] <;> rfl), by repeat (first | (with_reducible first | exact HB.out | apply below_alloc | apply pw_below_drewN | apply below_drew1) | exact HB.out)⟩
                        · rw [if_neg c20] at H
                          have c20b0 : ((rdOf ByteArray.empty l0 x35_2).toList == ([] : List UInt8)) = false := beq_eq_false_iff_ne.mpr c20
                          have c20b1 : ((rdOf ByteArray.empty l0 x35_2).toList != ([] : List UInt8)) = true := bne_iff_ne.mpr c20
                          by_cases c21 : (l1.length : Int) > 0
                          · rw [if_pos c21] at H
                            have c21b0 : decide (0 < (l1.length : Int)) = true := decide_eq_true c21
                            have c21b1 : decide (0 < l1.length) = true := decide_eq_true (by omega)
                            clear c21
                            by_cases c22 : 0 ≤ x35_2
                            · rw [if_pos c22] at H
                              have c22b0 : decide (0 ≤ x35_2) = true := decide_eq_true c22
                              clear c22
                              by_cases c23 : x35_2 < (l1.length : Int)
                              · rw [if_pos c23] at H
                                have c23b0 : decide (x35_2 < (l1.length : Int)) = true := decide_eq_true c23
                                clear c23
                                by_cases c24 : (rd l1 x35_2) < 1
                                · rw [if_pos c24] at H
                                  have c24b0 : decide ((rd l1 x35_2) < 1) = true := decide_eq_true c24
                                  clear c24
                                  obtain rfl := Option.some.inj H
                                  have p269 : 0 ≤ (x35_2 : Int) := of_decide_eq_true (by first | (with_reducible assumption) | assumption)
                                  have q269 : x35_2 < (l1.length : Int) := of_decide_eq_true (by first | (with_reducible assumption) | assumption)
                                  obtain ⟨ad269, e269, hx269_0⟩ := Kd.at_int HR1.out x35_2 p269 q269
                                  cases e269
                                  first | (replace hx269_0 := (HB.out.cell (World.block_lt_of_cell? w _ hx269_0)).trans hx269_0) | skip
                                  replace p269 := eq_true p269
                                  replace q269 := eq_true q269
                                  go_wp2
                                  go_ret
                                  exact ⟨by first | rfl | (simp [errW_none, errW_some] <;> rfl) | (simp [*, errW_none, errW_some] <;> rfl), by repeat (first | (with_reducible first | exact HB.out | apply below_alloc | apply pw_below_drewN | apply below_drew1) | exact HB.out)⟩
                                · rw [if_neg c24] at H
                                  have c24b0 : decide ((rd l1 x35_2) < 1) = false := decide_eq_false c24
                                  clear c24
                                  by_cases c25 : (rd l1 x35_2) > 1048576
                                  · rw [if_pos c25] at H
                                    have c25b0 : decide (1048576 < (rd l1 x35_2)) = true := decide_eq_true c25
                                    clear c25
                                    obtain rfl := Option.some.inj H
                                    have p269 : 0 ≤ (x35_2 : Int) := of_decide_eq_true (by first | (with_reducible assumption) | assumption)
                                    have q269 : x35_2 < (l1.length : Int) := of_decide_eq_true (by first | (with_reducible assumption) | assumption)
                                    obtain ⟨ad269, e269, hx269_0⟩ := Kd.at_int HR1.out x35_2 p269 q269
                                    cases e269
                                    first | (replace hx269_0 := (HB.out.cell (World.block_lt_of_cell? w _ hx269_0)).trans hx269_0) | skip
                                    replace p269 := eq_true p269
                                    replace q269 := eq_true q269
                                    have p270 : 0 ≤ (x35_2 : Int) := of_decide_eq_true (by first | (with_reducible assumption) | assumption)
                                    have q270 : x35_2 < (l1.length : Int) := of_decide_eq_true (by first | (with_reducible assumption) | assumption)
                                    obtain ⟨ad270, e270, hx270_0⟩ := Kd.at_int HR1.out x35_2 p270 q270
                                    obtain rfl : ad269 = ad270 := (by injection e270)
                                    first | (replace hx270_0 := (HB.out.cell (World.block_lt_of_cell? w _ hx270_0)).trans hx270_0) | skip
                                    replace p270 := eq_true p270
                                    replace q270 := eq_true q270
                                    go_wp2
                                    go_ret
                                    exact ⟨by first | rfl | (simp [errW_none, errW_some] <;> rfl) | (simp [*, errW_none, errW_some] <;> rfl), by repeat (first | (with_reducible first | exact HB.out | apply below_alloc | apply pw_below_drewN | apply below_drew1) | exact HB.out)⟩
                                  · rw [if_neg c25] at H
                                    have c25b0 : decide (1048576 < (rd l1 x35_2)) = false := decide_eq_false c25
                                    clear c25
                                    have H' := Aside0.mk H
                                    clear H
                                    have p269 : 0 ≤ (x35_2 : Int) := of_decide_eq_true (by first | (with_reducible assumption) | assumption)
                                    have q269 : x35_2 < (l1.length : Int) := of_decide_eq_true (by first | (with_reducible assumption) | assumption)
                                    obtain ⟨ad269, e269, hx269_0⟩ := Kd.at_int HR1.out x35_2 p269 q269
                                    cases e269
                                    first | (replace hx269_0 := (HB.out.cell (World.block_lt_of_cell? w _ hx269_0)).trans hx269_0) | skip
                                    replace p269 := eq_true p269
                                    replace q269 := eq_true q269
                                    have p270 : 0 ≤ (x35_2 : Int) := of_decide_eq_true (by first | (with_reducible assumption) | assumption)
                                    have q270 : x35_2 < (l1.length : Int) := of_decide_eq_true (by first | (with_reducible assumption) | assumption)
                                    obtain ⟨ad270, e270, hx270_0⟩ := Kd.at_int HR1.out x35_2 p270 q270
                                    obtain rfl : ad269 = ad270 := (by injection e270)
                                    first | (replace hx270_0 := (HB.out.cell (World.block_lt_of_cell? w _ hx270_0)).trans hx270_0) | skip
                                    replace p270 := eq_true p270
                                    replace q270 := eq_true q270
                                    go_wp2
                                    go_roundg k3
                                    case measure => have := HJ2.out; have := HK2.out; have := HK3.out; omega
                                    case rel => exact ⟨(wrap64 (x35_2 + 1)), (by first | rfl | (simp; done) | (simp [*]; done)), H', ⟨by have := HJ2.out; have := HK2.out; have := HK3.out; omega⟩, ⟨by repeat (first | (with_reducible first | exact HB.out | apply below_alloc | apply pw_below_drewN | apply below_drew1) | exact HB.out)⟩⟩
                              · rw [if_neg c23] at H
                                exact absurd H (by simp)
                            · rw [if_neg c22] at H
                              exact absurd H (by simp)
                          · rw [if_neg c21] at H
                            have c21b0 : decide (0 < (l1.length : Int)) = false := decide_eq_false c21
                            have c21b1 : decide (0 < l1.length) = false := decide_eq_false (by omega)
                            clear c21
                            have H' := Aside0.mk H
                            clear H
                            go_wp2
                            go_roundg k3
                            case measure => have := HJ2.out; have := HK2.out; have := HK3.out; omega
                            case rel => exact ⟨(wrap64 (x35_2 + 1)), (by first | rfl | (simp; done) | (simp [*]; done)), H', ⟨by have := HJ2.out; have := HK2.out; have := HK3.out; omega⟩, ⟨by repeat (first | (with_reducible first | exact HB.out | apply below_alloc | apply pw_below_drewN | apply below_drew1) | exact HB.out)⟩⟩
                · rw [if_neg c15] at H
                  exact absurd H (by simp)
              · rw [if_neg c14] at H
                exact absurd H (by simp)
            · rw [if_neg c13] at H
              have c13b0 : decide (x35_2 < (l0.length : Int)) = false := decide_eq_false c13
              clear c13
              obtain rfl := Option.some.inj H
              go_wp2
              go_ret
              exact ⟨by first | rfl | (simp [errW_none, errW_some] <;> rfl) | (simp [*, errW_none, errW_some] <;> rfl), by repeat (first | (with_reducible first | exact HB.out | apply below_alloc | apply pw_below_drewN | apply below_drew1) | exact HB.out)⟩

end Go.Proofs.Ytddcjmdcpkmnjab.P
