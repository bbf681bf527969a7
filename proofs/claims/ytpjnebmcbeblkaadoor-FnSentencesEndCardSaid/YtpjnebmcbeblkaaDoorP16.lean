-- PRINTED by print.py (a twelfth state) out of the translation. Not trusted: Lean checks it.
import Derived.Test.YtpjnebmcbeblkaaDoorP0
import Derived.Test.YtpjnebmcbeblkaaDoorP11
namespace Go.Proofs.YtpjnebmcbeblkaaDoor.P
open Go.RowKit Go.Proofs.YtpjnebmcbeblkaaDoorW.PrintWords Go.Proofs.YtpjnebmcbeblkaaDoorW.PrintLast Go.Proofs.YtpjnebmcbeblkaaDoorW.PrintMore
attribute [local go_sem] max2_int min2_int max_two min_two max_three min_three max_four min_four   -- for this text's walks alone
set_option linter.unusedVariables false
set_option linter.unusedSimpArgs false

/-! ### laws_clean: function 16 -/
mutual
def laws_clean.l0 : Nat → Int → List ByteArray → Int → Int → Option (Bool)
  | 0, _, _, _, _ => none
  | k + 1, x0, x10, x11, x12 => if x12 < x11 then (if 0 ≤ x12 then (if x12 < (x10.length : Int) then ((laws_signs.f k (rdOf ByteArray.empty x10 x12)).bind fun bt120 => (if bt120.2 = true then (laws_clean.j1 k x0 (rdOf ByteArray.empty x10 x12) x10 x11 x12 (decide (((rdOf ByteArray.empty x10 x12).size : Int) > x0))) else (laws_clean.j1 k x0 (rdOf ByteArray.empty x10 x12) x10 x11 x12 true))) else (none)) else (none)) else (some true)
def laws_clean.j1 : Nat → Int → ByteArray → List ByteArray → Int → Int → Bool → Option (Bool)
  | 0, _, _, _, _, _, _ => none
  | k + 1, x0, x6, x10, x11, x12, x28 => if x28 = true then (some false) else (laws_clean.l1 k x0 x6 x10 x11 x12 (x6.size : Int) 0)
def laws_clean.l1 : Nat → Int → ByteArray → List ByteArray → Int → Int → Int → Int → Option (Bool)
  | 0, _, _, _, _, _, _, _ => none
  | k + 1, x0, x6, x10, x11, x12, x30, x31 => if x31 < x30 then (if 0 ≤ x31 then (if x31 < (x6.size : Int) then (if (bt x6 x31) = 0 then (some false) else (laws_clean.l1 k x0 x6 x10 x11 x12 x30 (wrap64 (x31 + 1)))) else (none)) else (none)) else (laws_clean.l0 k x0 x10 x11 (wrap64 (x12 + 1)))
end
def laws_clean.f (k : Nat) (a0 : Int) (l1 : List ByteArray) : Option (Bool) := laws_clean.l0 k a0 l1 (l1.length : Int) 0
theorem laws_clean.mono_l : ∀ k, (∀ y0 y1 y2 y3, LeO (laws_clean.l0 k y0 y1 y2 y3) (laws_clean.l0 (k + 1) y0 y1 y2 y3)) ∧ (∀ y0 y1 y2 y3 y4 y5, LeO (laws_clean.j1 k y0 y1 y2 y3 y4 y5) (laws_clean.j1 (k + 1) y0 y1 y2 y3 y4 y5)) ∧ (∀ y0 y1 y2 y3 y4 y5 y6, LeO (laws_clean.l1 k y0 y1 y2 y3 y4 y5 y6) (laws_clean.l1 (k + 1) y0 y1 y2 y3 y4 y5 y6))
  | 0 => ⟨fun _ _ _ _ r h => by simp [laws_clean.l0] at h, fun _ _ _ _ _ _ r h => by simp [laws_clean.j1] at h, fun _ _ _ _ _ _ _ r h => by simp [laws_clean.l1] at h⟩
  | k + 1 => by
    obtain ⟨ih0, ih1, ih2⟩ := laws_clean.mono_l k
    refine ⟨?_, ?_, ?_⟩
    · intro y0 y1 y2 y3
      unfold laws_clean.l0
      repeat' first
      | (with_reducible exact ih0 _ _ _ _)
      | (with_reducible exact ih1 _ _ _ _ _ _)
      | (with_reducible exact ih2 _ _ _ _ _ _ _)
      | (with_reducible exact laws_signs.mono _ _)
      | (with_reducible exact LeO.refl _)
      | (with_reducible exact LeO.none _)
      | (with_reducible refine LeO.ite ?_ ?_)
      | (with_reducible refine LeO.bind ?_ (fun _ => ?_))
      | exact ih0 _ _ _ _
      | exact ih1 _ _ _ _ _ _
      | exact ih2 _ _ _ _ _ _ _
      | exact laws_signs.mono _ _
      | exact LeO.none _
      | refine LeO.ite ?_ ?_
      | refine LeO.bind ?_ (fun _ => ?_)
    · intro y0 y1 y2 y3 y4 y5
      unfold laws_clean.j1
      repeat' first
      | (with_reducible exact ih0 _ _ _ _)
      | (with_reducible exact ih1 _ _ _ _ _ _)
      | (with_reducible exact ih2 _ _ _ _ _ _ _)
      | (with_reducible exact laws_signs.mono _ _)
      | (with_reducible exact LeO.refl _)
      | (with_reducible exact LeO.none _)
      | (with_reducible refine LeO.ite ?_ ?_)
      | (with_reducible refine LeO.bind ?_ (fun _ => ?_))
      | exact ih0 _ _ _ _
      | exact ih1 _ _ _ _ _ _
      | exact ih2 _ _ _ _ _ _ _
      | exact laws_signs.mono _ _
      | exact LeO.none _
      | refine LeO.ite ?_ ?_
      | refine LeO.bind ?_ (fun _ => ?_)
    · intro y0 y1 y2 y3 y4 y5 y6
      unfold laws_clean.l1
      repeat' first
      | (with_reducible exact ih0 _ _ _ _)
      | (with_reducible exact ih1 _ _ _ _ _ _)
      | (with_reducible exact ih2 _ _ _ _ _ _ _)
      | (with_reducible exact laws_signs.mono _ _)
      | (with_reducible exact LeO.refl _)
      | (with_reducible exact LeO.none _)
      | (with_reducible refine LeO.ite ?_ ?_)
      | (with_reducible refine LeO.bind ?_ (fun _ => ?_))
      | exact ih0 _ _ _ _
      | exact ih1 _ _ _ _ _ _
      | exact ih2 _ _ _ _ _ _ _
      | exact laws_signs.mono _ _
      | exact LeO.none _
      | refine LeO.ite ?_ ?_
      | refine LeO.bind ?_ (fun _ => ?_)
theorem laws_clean.mono : ∀ a0 a1 k, LeO (laws_clean.f k a0 a1) (laws_clean.f (k + 1) a0 a1) := by
  intro a0 a1 k
  obtain ⟨ih0, ih1, ih2⟩ := laws_clean.mono_l k
  unfold laws_clean.f
  repeat' first
      | (with_reducible exact ih0 _ _ _ _)
      | (with_reducible exact ih1 _ _ _ _ _ _)
      | (with_reducible exact ih2 _ _ _ _ _ _ _)
      | (with_reducible exact laws_signs.mono _ _)
      | (with_reducible exact LeO.refl _)
      | (with_reducible exact LeO.none _)
      | (with_reducible refine LeO.ite ?_ ?_)
      | (with_reducible refine LeO.bind ?_ (fun _ => ?_))
      | exact ih0 _ _ _ _
      | exact ih1 _ _ _ _ _ _
      | exact ih2 _ _ _ _ _ _ _
      | exact laws_signs.mono _ _
      | exact LeO.none _
      | refine LeO.ite ?_ ?_
      | refine LeO.bind ?_ (fun _ => ?_)
set_option maxHeartbeats 8000000 in
set_option maxRecDepth 100000 in
theorem laws_clean.calls (k : Nat) (a0 : Int) (A1 : Option Addr) (c1 : Nat) (l1 : List ByteArray) (r : Bool) (w : World) (hr1 : Kd.C Kd.string w A1 l1.length l1) (hc1 : l1.length ≤ c1) (h : laws_clean.f k a0 l1 = some r) :
    Calls Tryd.prog 16 #[.int .i64 a0, .slice A1 l1.length c1] w fun e w' => e = .returned (.bool r) ∧ Below w.heap.size w w' := by
  have HR1 := Aside0.mk hr1
  have HC1 := Aside0.mk hc1
  clear hr1 hc1
  have HB := Aside0.mk (Below.refl w.heap.size w)
  have H : (laws_clean.l0 k a0 l1 (l1.length : Int) 0) = some r := h
  clear h
  have H' := Aside0.mk H
  clear H
  go_enter Tryd.func16, Tryd.ntmps16
  go_wp2
  go_loopg [12] k (fun kq v12 w' => ∃ (x12_1 : Int), v12 = .int .i64 x12_1 ∧ Aside0 (laws_clean.l0 kq a0 l1 (l1.length : Int) x12_1 = some r) ∧ Aside0 (kq ≤ k) ∧ Aside0 (Below w.heap.size w w'))
  case atStart => exact ⟨(0), (by first | rfl | (simp; done) | (simp [*]; done)), H', ⟨Nat.le_refl _⟩, ⟨by repeat (first | (with_reducible first | exact HB.out | apply below_alloc | apply pw_below_drewN | apply below_drew1) | exact HB.out)⟩⟩
  case round =>
    clear H'
    try clear c1
    try clear p2
    obtain ⟨x12_1, rfl, HA, HK1, HB⟩ := hrel
    cases gk with
    | zero => exact absurd HA.out (by simp [laws_clean.l0])
    | succ k1 =>
      have H := HA.out
      clear HA
      simp only [laws_clean.l0] at H
      by_cases c3 : x12_1 < (l1.length : Int)
      · rw [if_pos c3] at H
        have c3b0 : decide (x12_1 < (l1.length : Int)) = true := decide_eq_true c3
        clear c3
        by_cases c4 : 0 ≤ x12_1
        · rw [if_pos c4] at H
          have c4b0 : decide (0 ≤ x12_1) = true := decide_eq_true c4
          clear c4
          by_cases c5 : x12_1 < (l1.length : Int)
          · rw [if_pos c5] at H
            have c5b0 : decide (x12_1 < (l1.length : Int)) = true := decide_eq_true c5
            clear c5
            replace H := Option.bind_eq_some_iff.mp H
            obtain ⟨⟨t120, t121⟩, A60, H⟩ := H
            replace H : (if t121 = true then (laws_clean.j1 k1 a0 (rdOf ByteArray.empty l1 x12_1) l1 (l1.length : Int) x12_1 (decide (((rdOf ByteArray.empty l1 x12_1).size : Int) > a0))) else (laws_clean.j1 k1 a0 (rdOf ByteArray.empty l1 x12_1) l1 (l1.length : Int) x12_1 true)) = some r := H
            have A6 := Aside0.mk A60
            clear A60
            have HC7 := Aside0.mk H
            clear H
            have p119 : 0 ≤ (x12_1 : Int) := of_decide_eq_true (by first | (with_reducible assumption) | assumption)
            have q119 : x12_1 < (l1.length : Int) := of_decide_eq_true (by first | (with_reducible assumption) | assumption)
            obtain ⟨ad119, e119, hx119_0⟩ := Kd.at_string HR1.out x12_1 p119 q119
            cases e119
            first | (replace hx119_0 := (HB.out.cell (World.block_lt_of_cell? w _ hx119_0)).trans hx119_0) | skip
            replace p119 := eq_true p119
            replace q119 := eq_true q119
            go_upto_region 5 with (first | ((with_reducible refine gate_callee (f := 11) rfl ?_); refine goesL_ (some 18) rfl rfl Tryd.func11 (by kernel_rfl) rfl #[.string (rdOf ByteArray.empty l1 x12_1)] rfl (by (try simp only [List.map_toArray, List.map_cons, List.map_nil]); first | done | rfl | (simp only [List.length_drop, List.length_take]; rfl)) ?_; (with_reducible refine (laws_signs.calls k1 (rdOf ByteArray.empty l1 x12_1) t120 t121 _ A6.out).mono ?_); rintro e w8 ⟨v122, rfl, ho0, hb⟩; refine ⟨_, rfl, ?_⟩; have n0_ := Aside0.mk (Kd.R_lower ho0 (below_size (by repeat (first | (with_reducible first | exact HB.out | apply below_alloc | apply pw_below_drewN | apply below_drew1) | exact HB.out)))); have n1_ := Aside0.mk (below_step (by repeat (first | (with_reducible first | exact HB.out | apply below_alloc | apply pw_below_drewN | apply below_drew1) | exact HB.out)) hb); clear HB; have HO123 := n0_; have HB := n1_; clear n0_ n1_; (try clear hb); (try clear hb2); (try clear hk); (try clear hi); (try clear ho0)))
            (try simp only [Act.put, List.setIfInBounds_toArray, List.set_cons_zero, List.set_cons_succ])
            go_cut [28] (fun v28 wc => ∃ (kq : Nat) (x28_6 : Bool), v28 = .bool x28_6 ∧ Aside0 (laws_clean.j1 kq a0 (rdOf ByteArray.empty l1 x12_1) l1 (l1.length : Int) x12_1 x28_6 = some r) ∧ Aside0 (kq ≤ k1) ∧ Aside0 (Below w.heap.size w wc))
            case first =>
              have H := HC7.out
              clear HC7
              by_cases c9 : t121 = true
              · subst c9
                have H1 : (laws_clean.j1 k1 a0 (rdOf ByteArray.empty l1 x12_1) l1 (l1.length : Int) x12_1 (decide (((rdOf ByteArray.empty l1 x12_1).size : Int) > a0))) = some r := by rw [if_pos rfl] at H; exact H
                clear H
                have H := H1
                clear H1
                have H' := Aside0.mk H
                clear H
                go_wp2
                go_meet
                case rel => exact ⟨_, (decide (((rdOf ByteArray.empty l1 x12_1).size : Int) > a0)), (by first | rfl | (simp; done) | (simp [*]; done)), H', ⟨by have := HK1.out; first | omega | exact Nat.le_refl _⟩, ⟨by repeat (first | (with_reducible first | exact HB.out | apply below_alloc | apply pw_below_drewN | apply below_drew1) | exact HB.out)⟩⟩
              · replace c9 := Bool.eq_false_iff.mpr c9
                subst c9
                have H1 : (laws_clean.j1 k1 a0 (rdOf ByteArray.empty l1 x12_1) l1 (l1.length : Int) x12_1 true) = some r := by rw [if_neg (show ¬ (false = true) by decide)] at H; exact H
                clear H
                have H := H1
                clear H1
                have H' := Aside0.mk H
                clear H
                go_wp2
                go_meet
                case rel => exact ⟨_, (true), (by first | rfl | (simp; done) | (simp [*]; done)), H', ⟨by have := HK1.out; first | omega | exact Nat.le_refl _⟩, ⟨by repeat (first | (with_reducible first | exact HB.out | apply below_alloc | apply pw_below_drewN | apply below_drew1) | exact HB.out)⟩⟩
            case rest =>
              clear HC7
              try clear c1
              try clear p1
              try clear q1
              try clear hx1
              try clear p2
              try clear c3
              try clear c3b0
              try clear c4
              try clear c4b0
              try clear c5
              try clear c5b0
              try clear c9
              try clear hx119_0
              try clear p119
              try clear p2
              try clear q119
              obtain ⟨kq, x28_6, rfl, HA, HJ6, HB⟩ := hcut
              cases kq with
              | zero => exact absurd HA.out (by simp [laws_clean.j1])
              | succ kj6 =>
                have H := HA.out
                clear HA
                simp only [laws_clean.j1] at H
                by_cases c10 : x28_6 = true
                · subst c10
                  have H1 : (some false) = some r := by rw [if_pos rfl] at H; exact H
                  clear H
                  have H := H1
                  clear H1
                  obtain rfl := Option.some.inj H
                  go_wp2
                  go_ret
                  exact ⟨by first | rfl | (simp [errW_none, errW_some] <;> rfl) | (simp [*, errW_none, errW_some] <;> rfl), by repeat (first | (with_reducible first | exact HB.out | apply below_alloc | apply pw_below_drewN | apply below_drew1) | exact HB.out)⟩
                · replace c10 := Bool.eq_false_iff.mpr c10
                  subst c10
                  have H1 : (laws_clean.l1 kj6 a0 (rdOf ByteArray.empty l1 x12_1) l1 (l1.length : Int) x12_1 ((rdOf ByteArray.empty l1 x12_1).size : Int) 0) = some r := by rw [if_neg (show ¬ (false = true) by decide)] at H; exact H
                  clear H
                  have H := H1
                  clear H1
                  have H' := Aside0.mk H
                  clear H
                  go_wp2
                  go_loopg [31] kj6 (fun kq v31 w' => ∃ (x31_3 : Int), v31 = .int .i64 x31_3 ∧ Aside0 (laws_clean.l1 kq a0 (rdOf ByteArray.empty l1 x12_1) l1 (l1.length : Int) x12_1 ((rdOf ByteArray.empty l1 x12_1).size : Int) x31_3 = some r) ∧ Aside0 (kq ≤ kj6) ∧ Aside0 (Below w.heap.size w w'))
                  case atStart => exact ⟨(0), (by first | rfl | (simp; done) | (simp [*]; done)), H', ⟨Nat.le_refl _⟩, ⟨by repeat (first | (with_reducible first | exact HB.out | apply below_alloc | apply pw_below_drewN | apply below_drew1) | exact HB.out)⟩⟩
                  case round =>
                    clear H'
                    try clear c1
                    try clear p1
                    try clear q1
                    try clear hx1
                    try clear p2
                    try clear c3
                    try clear c3b0
                    try clear c4
                    try clear c4b0
                    try clear c5
                    try clear c5b0
                    try clear c9
                    try clear c10
                    try clear hx119_0
                    try clear p1
                    try clear p119
                    try clear p2
                    try clear q1
                    try clear q119
                    obtain ⟨x31_3, rfl, HA, HK3, HB⟩ := hrel
                    cases gk with
                    | zero => exact absurd HA.out (by simp [laws_clean.l1])
                    | succ k3 =>
                      have H := HA.out
                      clear HA
                      simp only [laws_clean.l1] at H
                      by_cases c11 : x31_3 < ((rdOf ByteArray.empty l1 x12_1).size : Int)
                      · rw [if_pos c11] at H
                        have c11b0 : decide (x31_3 < ((rdOf ByteArray.empty l1 x12_1).size : Int)) = true := decide_eq_true c11
                        clear c11
                        by_cases c12 : 0 ≤ x31_3
                        · rw [if_pos c12] at H
                          have c12b0 : decide (0 ≤ x31_3) = true := decide_eq_true c12
                          clear c12
                          by_cases c13 : x31_3 < ((rdOf ByteArray.empty l1 x12_1).size : Int)
                          · rw [if_pos c13] at H
                            have c13b0 : decide (x31_3 < ((rdOf ByteArray.empty l1 x12_1).size : Int)) = true := decide_eq_true c13
                            clear c13
                            by_cases c15 : (bt (rdOf ByteArray.empty l1 x12_1) x31_3) = 0
                            · rw [if_pos c15] at H
                              have c15b0 : ((bt (rdOf ByteArray.empty l1 x12_1) x31_3) == 0) = true := beq_iff_eq.mpr c15
                              have c15b1 : ((bt (rdOf ByteArray.empty l1 x12_1) x31_3) != 0) = false := bne_eq_false_iff_eq.mpr c15
                              clear c15
                              obtain rfl := Option.some.inj H
                              have p14 : 0 ≤ (x31_3 : Int) := of_decide_eq_true (by first | (with_reducible assumption) | assumption)
                              have q14 : x31_3 < ((rdOf ByteArray.empty l1 x12_1).size : Int) := of_decide_eq_true (by first | (with_reducible assumption) | assumption)
                              have hx14 := bt_at (rdOf ByteArray.empty l1 x12_1) x31_3
                              replace p14 := eq_true p14
                              replace q14 := eq_true q14
                              go_wp2
                              go_ret
                              exact ⟨by first | rfl | (simp [errW_none, errW_some] <;> rfl) | (simp [*, errW_none, errW_some] <;> rfl), by repeat (first | (with_reducible first | exact HB.out | apply below_alloc | apply pw_below_drewN | apply below_drew1) | exact HB.out)⟩
                            · rw [if_neg c15] at H
                              have c15b0 : ((bt (rdOf ByteArray.empty l1 x12_1) x31_3) == 0) = false := beq_eq_false_iff_ne.mpr c15
                              have c15b1 : ((bt (rdOf ByteArray.empty l1 x12_1) x31_3) != 0) = true := bne_iff_ne.mpr c15
                              have H' := Aside0.mk H
                              clear H
                              have p14 : 0 ≤ (x31_3 : Int) := of_decide_eq_true (by first | (with_reducible assumption) | assumption)
                              have q14 : x31_3 < ((rdOf ByteArray.empty l1 x12_1).size : Int) := of_decide_eq_true (by first | (with_reducible assumption) | assumption)
                              have hx14 := bt_at (rdOf ByteArray.empty l1 x12_1) x31_3
                              replace p14 := eq_true p14
                              replace q14 := eq_true q14
                              go_wp2
                              go_roundg k3
                              case measure => have := HK1.out; have := HJ6.out; have := HK3.out; omega
                              case rel => exact ⟨(wrap64 (x31_3 + 1)), (by first | rfl | (simp; done) | (simp [*]; done)), H', ⟨by have := HK1.out; have := HJ6.out; have := HK3.out; omega⟩, ⟨by repeat (first | (with_reducible first | exact HB.out | apply below_alloc | apply pw_below_drewN | apply below_drew1) | exact HB.out)⟩⟩
                          · rw [if_neg c13] at H
                            exact absurd H (by simp)
                        · rw [if_neg c12] at H
                          exact absurd H (by simp)
                      · rw [if_neg c11] at H
                        have c11b0 : decide (x31_3 < ((rdOf ByteArray.empty l1 x12_1).size : Int)) = false := decide_eq_false c11
                        clear c11
                        have H' := Aside0.mk H
                        clear H
                        go_wp2
                        go_roundg k3
                        case measure => have := HK1.out; have := HJ6.out; have := HK3.out; omega
                        case rel => exact ⟨(wrap64 (x12_1 + 1)), (by first | rfl | (simp; done) | (simp [*]; done)), H', ⟨by have := HK1.out; have := HJ6.out; have := HK3.out; omega⟩, ⟨by repeat (first | (with_reducible first | exact HB.out | apply below_alloc | apply pw_below_drewN | apply below_drew1) | exact HB.out)⟩⟩
          · rw [if_neg c5] at H
            exact absurd H (by simp)
        · rw [if_neg c4] at H
          exact absurd H (by simp)
      · rw [if_neg c3] at H
        have c3b0 : decide (x12_1 < (l1.length : Int)) = false := decide_eq_false c3
        clear c3
        obtain rfl := Option.some.inj H
        go_wp2
        go_ret
        exact ⟨by first | rfl | (simp [errW_none, errW_some] <;> rfl) | (simp [*, errW_none, errW_some] <;> rfl), by repeat (first | (with_reducible first | exact HB.out | apply below_alloc | apply pw_below_drewN | apply below_drew1) | exact HB.out)⟩

end Go.Proofs.YtpjnebmcbeblkaaDoor.P
