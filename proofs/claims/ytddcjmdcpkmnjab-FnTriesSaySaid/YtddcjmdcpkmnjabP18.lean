-- PRINTED by print.py (a twelfth state) out of the translation. Not trusted: Lean checks it.
import Derived.Test.YtddcjmdcpkmnjabP0
import Derived.Test.YtddcjmdcpkmnjabP6
namespace Go.Proofs.Ytddcjmdcpkmnjab.P
open Go.RowKit Go.Proofs.YtddcjmdcpkmnjabW.PrintWords Go.Proofs.YtddcjmdcpkmnjabW.PrintLast
set_option linter.unusedVariables false
set_option linter.unusedSimpArgs false

/-! ### laws_rising: function 18 -/
mutual
def laws_rising.j0 : Nat → List ByteArray → Bool → Option (Bool)
  | 0, _, _ => none
  | k + 1, x0, x17 => if x17 = true then (some false) else (laws_rising.l0 k x0 x0 (x0.length : Int) 0)
def laws_rising.l0 : Nat → List ByteArray → List ByteArray → Int → Int → Option (Bool)
  | 0, _, _, _, _ => none
  | k + 1, x0, x18, x19, x20 => if x20 < x19 then (if 0 ≤ x20 then (if x20 < (x18.length : Int) then (if (rdOf ByteArray.empty x18 x20).toList = ([] : List UInt8) then (some false) else (if x20 > 0 then (if 0 ≤ (wrap64 (x20 - 1)) then (if (wrap64 (x20 - 1)) < (x0.length : Int) then (if (Op.bytesLess ((rdOf ByteArray.empty x18 x20).toList) ((rdOf ByteArray.empty x0 (wrap64 (x20 - 1))).toList)) = true then (some false) else (laws_rising.l0 k x0 x18 x19 (wrap64 (x20 + 1)))) else (none)) else (none)) else (laws_rising.l0 k x0 x18 x19 (wrap64 (x20 + 1))))) else (none)) else (none)) else (some true)
end
def laws_rising.f (k : Nat) (l0 : List ByteArray) : Option (Bool) := if (l0.length : Int) = 0 then (laws_rising.j0 k l0 true) else (if (l0.length : Int) > 30 then (laws_rising.j0 k l0 true) else ((laws_clean.f k 40 l0).bind fun t311 => (laws_rising.j0 k l0 (!t311))))
theorem laws_rising.mono_l : ∀ k, (∀ y0 y1, LeO (laws_rising.j0 k y0 y1) (laws_rising.j0 (k + 1) y0 y1)) ∧ (∀ y0 y1 y2 y3, LeO (laws_rising.l0 k y0 y1 y2 y3) (laws_rising.l0 (k + 1) y0 y1 y2 y3))
  | 0 => ⟨fun _ _ r h => by simp [laws_rising.j0] at h, fun _ _ _ _ r h => by simp [laws_rising.l0] at h⟩
  | k + 1 => by
    obtain ⟨ih0, ih1⟩ := laws_rising.mono_l k
    refine ⟨?_, ?_⟩
    · intro y0 y1
      unfold laws_rising.j0
      repeat' first
      | (with_reducible exact ih0 _ _)
      | (with_reducible exact ih1 _ _ _ _)
      | (with_reducible exact laws_clean.mono _ _ _)
      | (with_reducible exact LeO.refl _)
      | (with_reducible exact LeO.none _)
      | (with_reducible refine LeO.ite ?_ ?_)
      | (with_reducible refine LeO.bind ?_ (fun _ => ?_))
      | exact ih0 _ _
      | exact ih1 _ _ _ _
      | exact laws_clean.mono _ _ _
      | exact LeO.none _
      | refine LeO.ite ?_ ?_
      | refine LeO.bind ?_ (fun _ => ?_)
    · intro y0 y1 y2 y3
      unfold laws_rising.l0
      repeat' first
      | (with_reducible exact ih0 _ _)
      | (with_reducible exact ih1 _ _ _ _)
      | (with_reducible exact laws_clean.mono _ _ _)
      | (with_reducible exact LeO.refl _)
      | (with_reducible exact LeO.none _)
      | (with_reducible refine LeO.ite ?_ ?_)
      | (with_reducible refine LeO.bind ?_ (fun _ => ?_))
      | exact ih0 _ _
      | exact ih1 _ _ _ _
      | exact laws_clean.mono _ _ _
      | exact LeO.none _
      | refine LeO.ite ?_ ?_
      | refine LeO.bind ?_ (fun _ => ?_)
theorem laws_rising.mono : ∀ a0 k, LeO (laws_rising.f k a0) (laws_rising.f (k + 1) a0) := by
  intro a0 k
  obtain ⟨ih0, ih1⟩ := laws_rising.mono_l k
  unfold laws_rising.f
  repeat' first
      | (with_reducible exact ih0 _ _)
      | (with_reducible exact ih1 _ _ _ _)
      | (with_reducible exact laws_clean.mono _ _ _)
      | (with_reducible exact LeO.refl _)
      | (with_reducible exact LeO.none _)
      | (with_reducible refine LeO.ite ?_ ?_)
      | (with_reducible refine LeO.bind ?_ (fun _ => ?_))
      | exact ih0 _ _
      | exact ih1 _ _ _ _
      | exact laws_clean.mono _ _ _
      | exact LeO.none _
      | refine LeO.ite ?_ ?_
      | refine LeO.bind ?_ (fun _ => ?_)
set_option maxHeartbeats 8000000 in
set_option maxRecDepth 100000 in
theorem laws_rising.calls (k : Nat) (A0 : Option Addr) (c0 : Nat) (l0 : List ByteArray) (r : Bool) (w : World) (hr0 : Kd.C Kd.string w A0 l0.length l0) (hc0 : l0.length ≤ c0) (h : laws_rising.f k l0 = some r) :
    Calls Try.prog 18 #[.slice A0 l0.length c0] w fun e w' => e = .returned (.bool r) ∧ Below w.heap.size w w' := by
  have HR0 := Aside0.mk hr0
  have HC0 := Aside0.mk hc0
  clear hr0 hc0
  have HB := Aside0.mk (Below.refl w.heap.size w)
  have H : (if (l0.length : Int) = 0 then (laws_rising.j0 k l0 true) else (if (l0.length : Int) > 30 then (laws_rising.j0 k l0 true) else ((laws_clean.f k 40 l0).bind fun t311 => (laws_rising.j0 k l0 (!t311))))) = some r := h
  clear h
  have HC2 := Aside0.mk H
  clear H
  go_enter Try.func18, Try.ntmps18
  go_upto_region 1 with (fail)
  go_cut [17] (fun v17 wc => ∃ (kq : Nat) (x17_1 : Bool), v17 = .bool x17_1 ∧ Aside0 (laws_rising.j0 kq l0 x17_1 = some r) ∧ Aside0 (kq ≤ k) ∧ Aside0 (Below w.heap.size w wc))
  case first =>
    have H := HC2.out
    clear HC2
    by_cases c3 : (l0.length : Int) = 0
    · rw [if_pos c3] at H
      have c3b0 : ((l0.length : Int) == 0) = true := beq_iff_eq.mpr c3
      have c3b1 : ((l0.length : Int) != 0) = false := bne_eq_false_iff_eq.mpr c3
      clear c3
      (first | rw [c3b0] | (simp only [i64_w, i32_w]; rw [c3b0]) | skip)
      have H' := Aside0.mk H
      clear H
      go_wp2
      go_meet
      case rel => exact ⟨_, (true), (by first | rfl | (simp; done) | (simp [*]; done)), H', ⟨by first | omega | exact Nat.le_refl _⟩, ⟨by repeat (first | (with_reducible first | exact HB.out | apply below_alloc | apply pw_below_drewN | apply below_drew1) | exact HB.out)⟩⟩
    · rw [if_neg c3] at H
      have c3b0 : ((l0.length : Int) == 0) = false := beq_eq_false_iff_ne.mpr c3
      have c3b1 : ((l0.length : Int) != 0) = true := bne_iff_ne.mpr c3
      have c3b2 : ¬ (l0 = []) := fun h_ => c3 (by rw [h_]; rfl)
      (first | rw [c3b0] | (simp only [i64_w, i32_w]; rw [c3b0]) | skip)
      by_cases c4 : (l0.length : Int) > 30
      · rw [if_pos c4] at H
        have c4b0 : decide (30 < (l0.length : Int)) = true := decide_eq_true c4
        have c4b1 : decide (30 < l0.length) = true := decide_eq_true (by omega)
        clear c4
        have H' := Aside0.mk H
        clear H
        go_wp2
        go_meet
        case rel => exact ⟨_, (true), (by first | rfl | (simp; done) | (simp [*]; done)), H', ⟨by first | omega | exact Nat.le_refl _⟩, ⟨by repeat (first | (with_reducible first | exact HB.out | apply below_alloc | apply pw_below_drewN | apply below_drew1) | exact HB.out)⟩⟩
      · rw [if_neg c4] at H
        have c4b0 : decide (30 < (l0.length : Int)) = false := decide_eq_false c4
        have c4b1 : decide (30 < l0.length) = false := decide_eq_false (by omega)
        clear c4
        replace H := Option.bind_eq_some_iff.mp H
        obtain ⟨t311, A50, H⟩ := H
        replace H : (laws_rising.j0 k l0 (!t311)) = some r := H
        have A5 := Aside0.mk A50
        clear A50
        have H' := Aside0.mk H
        clear H
        go_wp2_with (first | (go_at_call 6; (with_reducible refine (laws_clean.calls k 40 _ _ l0 t311 _ ?side1 ?side2 A5.out).mono ?_); (case side1 => repeat (first | exact (Kd.C_below HR0.out HB.out) | (with_reducible refine Kd.C_alloc ?_ _) | (with_reducible refine Kd.C_drewN ?_ _) | (with_reducible refine Kd.C_drew ?_))); (case side2 => exact HC0.out); rintro e w6 ⟨rfl, hb⟩; have n0_ := Aside0.mk (below_step (by repeat (first | (with_reducible first | exact HB.out | apply below_alloc | apply pw_below_drewN | apply below_drew1) | exact HB.out)) hb); clear HB; have HB := n0_; clear n0_; (try clear hb); (try clear hb2); (try clear hk); (try clear hi)))
        go_meet
        case rel => exact ⟨_, (!t311), (by first | rfl | (simp; done) | (simp [*]; done)), H', ⟨by first | omega | exact Nat.le_refl _⟩, ⟨by repeat (first | (with_reducible first | exact HB.out | apply below_alloc | apply pw_below_drewN | apply below_drew1) | exact HB.out)⟩⟩
  case rest =>
    clear HC2
    try clear c1
    try clear p2
    try clear c3
    try clear c3b0
    try clear c3b1
    try clear c3b2
    try clear c4
    try clear c4b0
    try clear c4b1
    obtain ⟨kq, x17_1, rfl, HA, HJ1, HB⟩ := hcut
    cases kq with
    | zero => exact absurd HA.out (by simp [laws_rising.j0])
    | succ kj1 =>
      have H := HA.out
      clear HA
      simp only [laws_rising.j0] at H
      by_cases c7 : x17_1 = true
      · subst c7
        have H1 : (some false) = some r := by rw [if_pos rfl] at H; exact H
        clear H
        have H := H1
        clear H1
        obtain rfl := Option.some.inj H
        go_wp2
        go_ret
        exact ⟨by first | rfl | (simp [errW_none, errW_some] <;> rfl) | (simp [*, errW_none, errW_some] <;> rfl), by repeat (first | (with_reducible first | exact HB.out | apply below_alloc | apply pw_below_drewN | apply below_drew1) | exact HB.out)⟩
      · replace c7 := Bool.eq_false_iff.mpr c7
        subst c7
        have H1 : (laws_rising.l0 kj1 l0 l0 (l0.length : Int) 0) = some r := by rw [if_neg (show ¬ (false = true) by decide)] at H; exact H
        clear H
        have H := H1
        clear H1
        have H' := Aside0.mk H
        clear H
        go_wp2
        go_loopg [20] kj1 (fun kq v20 w' => ∃ (x20_2 : Int), v20 = .int .i64 x20_2 ∧ Aside0 (laws_rising.l0 kq l0 l0 (l0.length : Int) x20_2 = some r) ∧ Aside0 (kq ≤ kj1) ∧ Aside0 (Below w.heap.size w w'))
        case atStart => exact ⟨(0), (by first | rfl | (simp; done) | (simp [*]; done)), H', ⟨Nat.le_refl _⟩, ⟨by repeat (first | (with_reducible first | exact HB.out | apply below_alloc | apply pw_below_drewN | apply below_drew1) | exact HB.out)⟩⟩
        case round =>
          clear H'
          try clear c1
          try clear p2
          try clear c3
          try clear c3b0
          try clear c3b1
          try clear c3b2
          try clear c4
          try clear c4b0
          try clear c4b1
          try clear c7
          try clear p2
          obtain ⟨x20_2, rfl, HA, HK2, HB⟩ := hrel
          cases gk with
          | zero => exact absurd HA.out (by simp [laws_rising.l0])
          | succ k2 =>
            have H := HA.out
            clear HA
            simp only [laws_rising.l0] at H
            by_cases c8 : x20_2 < (l0.length : Int)
            · rw [if_pos c8] at H
              have c8b0 : decide (x20_2 < (l0.length : Int)) = true := decide_eq_true c8
              clear c8
              by_cases c9 : 0 ≤ x20_2
              · rw [if_pos c9] at H
                have c9b0 : decide (0 ≤ x20_2) = true := decide_eq_true c9
                clear c9
                by_cases c10 : x20_2 < (l0.length : Int)
                · rw [if_pos c10] at H
                  have c10b0 : decide (x20_2 < (l0.length : Int)) = true := decide_eq_true c10
                  clear c10
                  by_cases c11 : (rdOf ByteArray.empty l0 x20_2).toList = ([] : List UInt8)
                  · rw [if_pos c11] at H
                    have c11b0 : ((rdOf ByteArray.empty l0 x20_2).toList == ([] : List UInt8)) = true := beq_iff_eq.mpr c11
                    have c11b1 : ((rdOf ByteArray.empty l0 x20_2).toList != ([] : List UInt8)) = false := bne_eq_false_iff_eq.mpr c11
                    clear c11
                    obtain rfl := Option.some.inj H
                    have p312 : 0 ≤ (x20_2 : Int) := of_decide_eq_true (by first | (with_reducible assumption) | assumption)
                    have q312 : x20_2 < (l0.length : Int) := of_decide_eq_true (by first | (with_reducible assumption) | assumption)
                    obtain ⟨ad312, e312, hx312_0⟩ := Kd.at_string HR0.out x20_2 p312 q312
                    cases e312
                    first | (replace hx312_0 := (HB.out.cell (World.block_lt_of_cell? w _ hx312_0)).trans hx312_0) | skip
                    replace p312 := eq_true p312
                    replace q312 := eq_true q312
                    go_wp2
                    go_ret
                    exact ⟨by first | rfl | (simp [errW_none, errW_some] <;> rfl) | (simp [*, errW_none, errW_some] <;> rfl), by repeat (first | (with_reducible first | exact HB.out | apply below_alloc | apply pw_below_drewN | apply below_drew1) | exact HB.out)⟩
                  · rw [if_neg c11] at H
                    have c11b0 : ((rdOf ByteArray.empty l0 x20_2).toList == ([] : List UInt8)) = false := beq_eq_false_iff_ne.mpr c11
                    have c11b1 : ((rdOf ByteArray.empty l0 x20_2).toList != ([] : List UInt8)) = true := bne_iff_ne.mpr c11
                    by_cases c12 : x20_2 > 0
                    · rw [if_pos c12] at H
                      have c12b0 : decide (0 < x20_2) = true := decide_eq_true c12
                      clear c12
                      obtain ⟨ji13, hji13⟩ : ∃ j_ : Int, (wrap64 (x20_2 - 1)) = j_ := ⟨_, rfl⟩
                      replace H : (if 0 ≤ (ji13) then (if (ji13) < (l0.length : Int) then (if (Op.bytesLess ((rdOf ByteArray.empty l0 x20_2).toList) ((rdOf ByteArray.empty l0 (ji13)).toList)) = true then (some false) else (laws_rising.l0 k2 l0 l0 (l0.length : Int) (wrap64 (x20_2 + 1)))) else (none)) else (none)) = some r := by first | (rw [hji13] at H; exact H) | (simp only [hji13] at H ⊢; exact H)
                      have hji13w : (IntKind.i64.wrap (x20_2 - 1)) = ji13 := (i64_w _).trans hji13
                      by_cases c14 : 0 ≤ (ji13)
                      · rw [if_pos c14] at H
                        have c14b0 : decide (0 ≤ (ji13)) = true := decide_eq_true c14
                        clear c14
                        by_cases c15 : (ji13) < (l0.length : Int)
                        · rw [if_pos c15] at H
                          have c15b0 : decide ((ji13) < (l0.length : Int)) = true := decide_eq_true c15
                          clear c15
                          by_cases c16 : (Op.bytesLess ((rdOf ByteArray.empty l0 x20_2).toList) ((rdOf ByteArray.empty l0 (ji13)).toList)) = true
                          · rw [if_pos c16] at H
                            have c16b0 : (Op.bytesLess ((rdOf ByteArray.empty l0 x20_2).toList) ((rdOf ByteArray.empty l0 (ji13)).toList)) = true := c16
                            clear c16
                            obtain rfl := Option.some.inj H
                            have p312 : 0 ≤ (x20_2 : Int) := of_decide_eq_true (by first | (with_reducible assumption) | assumption)
                            have q312 : x20_2 < (l0.length : Int) := of_decide_eq_true (by first | (with_reducible assumption) | assumption)
                            obtain ⟨ad312, e312, hx312_0⟩ := Kd.at_string HR0.out x20_2 p312 q312
                            cases e312
                            first | (replace hx312_0 := (HB.out.cell (World.block_lt_of_cell? w _ hx312_0)).trans hx312_0) | skip
                            replace p312 := eq_true p312
                            replace q312 := eq_true q312
                            have p313 : 0 ≤ ((ji13) : Int) := of_decide_eq_true (by first | (with_reducible assumption) | assumption)
                            have q313 : (ji13) < (l0.length : Int) := of_decide_eq_true (by first | (with_reducible assumption) | assumption)
                            obtain ⟨ad313, e313, hx313_0⟩ := Kd.at_string HR0.out (ji13) p313 q313
                            obtain rfl : ad312 = ad313 := (by injection e313)
                            first | (replace hx313_0 := (HB.out.cell (World.block_lt_of_cell? w _ hx313_0)).trans hx313_0) | skip
                            replace p313 := eq_true p313
                            replace q313 := eq_true q313
                            go_wp2
                            go_ret
                            exact ⟨by first | rfl | (simp [errW_none, errW_some] <;> rfl) | (simp only [← hji13]; first | rfl | (simp [errW_none, errW_some] <;> rfl)) | (simp [*, errW_none, errW_some] <;> rfl), by repeat (first | (with_reducible first | exact HB.out | apply below_alloc | apply pw_below_drewN | apply below_drew1) | exact HB.out)⟩
                          · rw [if_neg c16] at H
                            have c16b0 : (Op.bytesLess ((rdOf ByteArray.empty l0 x20_2).toList) ((rdOf ByteArray.empty l0 (ji13)).toList)) = false := by simpa using c16
                            clear c16
                            have H' := Aside0.mk H
                            clear H
                            have p312 : 0 ≤ (x20_2 : Int) := of_decide_eq_true (by first | (with_reducible assumption) | assumption)
                            have q312 : x20_2 < (l0.length : Int) := of_decide_eq_true (by first | (with_reducible assumption) | assumption)
                            obtain ⟨ad312, e312, hx312_0⟩ := Kd.at_string HR0.out x20_2 p312 q312
                            cases e312
                            first | (replace hx312_0 := (HB.out.cell (World.block_lt_of_cell? w _ hx312_0)).trans hx312_0) | skip
                            replace p312 := eq_true p312
                            replace q312 := eq_true q312
                            have p313 : 0 ≤ ((ji13) : Int) := of_decide_eq_true (by first | (with_reducible assumption) | assumption)
                            have q313 : (ji13) < (l0.length : Int) := of_decide_eq_true (by first | (with_reducible assumption) | assumption)
                            obtain ⟨ad313, e313, hx313_0⟩ := Kd.at_string HR0.out (ji13) p313 q313
                            obtain rfl : ad312 = ad313 := (by injection e313)
                            first | (replace hx313_0 := (HB.out.cell (World.block_lt_of_cell? w _ hx313_0)).trans hx313_0) | skip
                            replace p313 := eq_true p313
                            replace q313 := eq_true q313
                            go_wp2
                            go_roundg k2
                            case measure => have := HJ1.out; have := HK2.out; omega
                            case rel => exact ⟨(wrap64 (x20_2 + 1)), (by first | rfl | (simp; done) | (simp [*]; done)), H', ⟨by have := HJ1.out; have := HK2.out; omega⟩, ⟨by repeat (first | (with_reducible first | exact HB.out | apply below_alloc | apply pw_below_drewN | apply below_drew1) | exact HB.out)⟩⟩
                        · rw [if_neg c15] at H
                          exact absurd H (by simp)
                      · rw [if_neg c14] at H
                        exact absurd H (by simp)
                    · rw [if_neg c12] at H
                      have c12b0 : decide (0 < x20_2) = false := decide_eq_false c12
                      clear c12
                      have H' := Aside0.mk H
                      clear H
                      have p312 : 0 ≤ (x20_2 : Int) := of_decide_eq_true (by first | (with_reducible assumption) | assumption)
                      have q312 : x20_2 < (l0.length : Int) := of_decide_eq_true (by first | (with_reducible assumption) | assumption)
                      obtain ⟨ad312, e312, hx312_0⟩ := Kd.at_string HR0.out x20_2 p312 q312
                      cases e312
                      first | (replace hx312_0 := (HB.out.cell (World.block_lt_of_cell? w _ hx312_0)).trans hx312_0) | skip
                      replace p312 := eq_true p312
                      replace q312 := eq_true q312
                      go_wp2
                      go_roundg k2
                      case measure => have := HJ1.out; have := HK2.out; omega
                      case rel => exact ⟨(wrap64 (x20_2 + 1)), (by first | rfl | (simp; done) | (simp [*]; done)), H', ⟨by have := HJ1.out; have := HK2.out; omega⟩, ⟨by repeat (first | (with_reducible first | exact HB.out | apply below_alloc | apply pw_below_drewN | apply below_drew1) | exact HB.out)⟩⟩
                · rw [if_neg c10] at H
                  exact absurd H (by simp)
              · rw [if_neg c9] at H
                exact absurd H (by simp)
            · rw [if_neg c8] at H
              have c8b0 : decide (x20_2 < (l0.length : Int)) = false := decide_eq_false c8
              clear c8
              obtain rfl := Option.some.inj H
              go_wp2
              go_ret
              exact ⟨by first | rfl | (simp [errW_none, errW_some] <;> rfl) | (simp [*, errW_none, errW_some] <;> rfl), by repeat (first | (with_reducible first | exact HB.out | apply below_alloc | apply pw_below_drewN | apply below_drew1) | exact HB.out)⟩

end Go.Proofs.Ytddcjmdcpkmnjab.P
