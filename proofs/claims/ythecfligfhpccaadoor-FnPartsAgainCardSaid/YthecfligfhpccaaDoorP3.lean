-- PRINTED by print.py (a twelfth state) out of the translation. Not trusted: Lean checks it.
import Derived.Test.YthecfligfhpccaaDoorP0
import Derived.Test.YthecfligfhpccaaDoorP7
import Derived.Test.YthecfligfhpccaaDoorEPar
import Derived.Test.YthecfligfhpccaaDoorLaidB
namespace Go.Proofs.YthecfligfhpccaaDoor.P
open Go.RowKit Go.Proofs.YthecfligfhpccaaDoorW.PrintWords Go.Proofs.YthecfligfhpccaaDoorW.PrintLast Go.Proofs.YthecfligfhpccaaDoorW.PrintMore
attribute [local go_sem] max2_int min2_int max_two min_two max_three min_three max_four min_four   -- for this text's walks alone
set_option linter.unusedVariables false
set_option linter.unusedSimpArgs false

/-! ### laws_FnPartsAgain: function 3 -/
def laws_FnPartsAgain.l0 : Nat → Bool → Bool → List ByteArray → Int → Int → Option (Bool)
  | 0, _, _, _, _, _ => none
  | k + 1, x1, x2, x25, x26, x27 => if x27 < x26 then (if 0 ≤ x27 then (if x27 < (x25.length : Int) then ((impl_Parts.f (rdOf ByteArray.empty x25 x27) false x1 x2).bind fun t136 => (if (t136.length : Int) = 1 then (if 0 < (t136.length : Int) then (if (rdOf ByteArray.empty t136 0).toList = (rdOf ByteArray.empty x25 x27).toList then (laws_FnPartsAgain.l0 k x1 x2 x25 x26 (wrap64 (x27 + 1))) else (some false)) else (none)) else (some false))) else (none)) else (none)) else (some true)
def laws_FnPartsAgain.f (k : Nat) (a0 : ByteArray) (a1 : Bool) (a2 : Bool) : Option (Bool) := if (a0.size : Int) > 2147483647 then (some true) else ((impl_Parts.f (⟨#[97, 98, 32, 99]⟩ : ByteArray) false false false).bind fun t125 => (if (t125.length : Int) = 0 then (some false) else ((laws_clean.f k 200 (([a0] : List ByteArray))).bind fun t131 => (if t131 = true then ((impl_Parts.f a0 false a1 a2).bind fun t132 => (laws_FnPartsAgain.l0 k a1 a2 t132 (t132.length : Int) 0)) else (some true)))))
theorem laws_FnPartsAgain.mono_l : ∀ k, (∀ y0 y1 y2 y3 y4, LeO (laws_FnPartsAgain.l0 k y0 y1 y2 y3 y4) (laws_FnPartsAgain.l0 (k + 1) y0 y1 y2 y3 y4))
  | 0 => fun _ _ _ _ _ r h => by simp [laws_FnPartsAgain.l0] at h
  | k + 1 => by
    have ih0 := laws_FnPartsAgain.mono_l k
    · intro y0 y1 y2 y3 y4
      unfold laws_FnPartsAgain.l0
      repeat' first
      | (with_reducible exact ih0 _ _ _ _ _)
      | (with_reducible exact laws_clean.mono _ _ _)
      | (with_reducible exact LeO.refl _)
      | (with_reducible exact LeO.none _)
      | (with_reducible refine LeO.ite ?_ ?_)
      | (with_reducible refine LeO.bind ?_ (fun _ => ?_))
      | exact ih0 _ _ _ _ _
      | exact laws_clean.mono _ _ _
      | exact LeO.none _
      | refine LeO.ite ?_ ?_
      | refine LeO.bind ?_ (fun _ => ?_)
theorem laws_FnPartsAgain.mono : ∀ a0 a1 a2 k, LeO (laws_FnPartsAgain.f k a0 a1 a2) (laws_FnPartsAgain.f (k + 1) a0 a1 a2) := by
  intro a0 a1 a2 k
  have ih0 := laws_FnPartsAgain.mono_l k
  unfold laws_FnPartsAgain.f
  repeat' first
      | (with_reducible exact ih0 _ _ _ _ _)
      | (with_reducible exact laws_clean.mono _ _ _)
      | (with_reducible exact LeO.refl _)
      | (with_reducible exact LeO.none _)
      | (with_reducible refine LeO.ite ?_ ?_)
      | (with_reducible refine LeO.bind ?_ (fun _ => ?_))
      | exact ih0 _ _ _ _ _
      | exact laws_clean.mono _ _ _
      | exact LeO.none _
      | refine LeO.ite ?_ ?_
      | refine LeO.bind ?_ (fun _ => ?_)
set_option maxHeartbeats 8000000 in
set_option maxRecDepth 100000 in
theorem laws_FnPartsAgain.calls (k : Nat) (a0 : ByteArray) (a1 : Bool) (a2 : Bool) (r : Bool) (w : World) (ht_ : Go.Proofs.YthecfligfhpccaaDoor.X.Tabs w) (h : laws_FnPartsAgain.f k a0 a1 a2 = some r) :
    Calls Tryd.prog 3 #[.string a0, .bool a1, .bool a2] w fun e w' => e = .returned (.bool r) ∧ Below w.heap.size w w' := by
  have HT_ : Aside0 (∀ W_, Below w.heap.size w W_ → Go.Proofs.YthecfligfhpccaaDoor.X.Tabs W_) := ⟨fun W_ h_ => ht_.below h_⟩
  clear ht_
  have HB := Aside0.mk (Below.refl w.heap.size w)
  have H : (if (a0.size : Int) > 2147483647 then (some true) else ((impl_Parts.f (⟨#[97, 98, 32, 99]⟩ : ByteArray) false false false).bind fun t125 => (if (t125.length : Int) = 0 then (some false) else ((laws_clean.f k 200 (([a0] : List ByteArray))).bind fun t131 => (if t131 = true then ((impl_Parts.f a0 false a1 a2).bind fun t132 => (laws_FnPartsAgain.l0 k a1 a2 t132 (t132.length : Int) 0)) else (some true)))))) = some r := h
  clear h
  by_cases c4 : (a0.size : Int) > 2147483647
  · rw [if_pos c4] at H
    have c4b0 : decide (2147483647 < (a0.size : Int)) = true := decide_eq_true c4
    have c4b1 : decide (2147483647 < a0.size) = true := decide_eq_true (by omega)
    clear c4
    obtain rfl := Option.some.inj H
    go_enter Tryd.func3, Tryd.ntmps3
    go_wp2
    go_ret
    exact ⟨by first | rfl | (simp [errW_none, errW_some] <;> rfl) | (simp [*, errW_none, errW_some] <;> rfl), by repeat (first | (with_reducible first | exact HB.out | apply below_alloc | apply pw_below_drewN | apply below_drew1) | exact HB.out)⟩
  · rw [if_neg c4] at H
    have c4b0 : decide (2147483647 < (a0.size : Int)) = false := decide_eq_false c4
    have c4b1 : decide (2147483647 < a0.size) = false := decide_eq_false (by omega)
    clear c4
    replace H := Option.bind_eq_some_iff.mp H
    obtain ⟨t125, A50, H⟩ := H
    replace H : (if (t125.length : Int) = 0 then (some false) else ((laws_clean.f k 200 (([a0] : List ByteArray))).bind fun t131 => (if t131 = true then ((impl_Parts.f a0 false a1 a2).bind fun t132 => (laws_FnPartsAgain.l0 k a1 a2 t132 (t132.length : Int) 0)) else (some true)))) = some r := H
    have A5 := Aside0.mk A50
    clear A50
    by_cases c6 : (t125.length : Int) = 0
    · rw [if_pos c6] at H
      have c6b0 : ((t125.length : Int) == 0) = true := beq_iff_eq.mpr c6
      have c6b1 : ((t125.length : Int) != 0) = false := bne_eq_false_iff_eq.mpr c6
      clear c6
      obtain rfl := Option.some.inj H
      go_enter Tryd.func3, Tryd.ntmps3
      go_wp2_with (first | ((with_reducible refine gate_callee (f := 6) rfl ?_); refine goesL_ (some 14) rfl rfl Tryd.func6 (by kernel_rfl) rfl #[.string (⟨#[97, 98, 32, 99]⟩ : ByteArray), .bool false, .bool false, .bool false] rfl (by (try simp only [List.map_toArray, List.map_cons, List.map_nil]); first | done | rfl | (simp only [List.length_drop, List.length_take]; rfl)) ?_; (with_reducible refine (impl_Parts.calls (⟨#[97, 98, 32, 99]⟩ : ByteArray) false false false t125 _ (HT_.out _ (by repeat (first | (with_reducible first | exact HB.out | apply below_alloc | apply pw_below_drewN | apply below_drew1) | exact HB.out))) A5.out).mono ?_); rintro e w7 ⟨v126, rfl, ho0, hb⟩; refine ⟨_, rfl, ?_⟩; have n0_ := Aside0.mk (Kd.R_lower ho0 (below_size (by repeat (first | (with_reducible first | exact HB.out | apply below_alloc | apply pw_below_drewN | apply below_drew1) | exact HB.out)))); have n1_ := Aside0.mk (below_step (by repeat (first | (with_reducible first | exact HB.out | apply below_alloc | apply pw_below_drewN | apply below_drew1) | exact HB.out)) hb); clear HB; have HO127 := n0_; have HB := n1_; clear n0_ n1_; (try clear hb); (try clear hb2); (try clear hk); (try clear hi); (try clear ho0); obtain ⟨Ao8, co8, eo8⟩ := Kd.R_slice HO127.out; subst eo8))
      go_ret
      exact ⟨by first | rfl | (simp [errW_none, errW_some] <;> rfl) | (simp [*, errW_none, errW_some] <;> rfl), by repeat (first | (with_reducible first | exact HB.out | apply below_alloc | apply pw_below_drewN | apply below_drew1) | exact HB.out)⟩
    · rw [if_neg c6] at H
      have c6b0 : ((t125.length : Int) == 0) = false := beq_eq_false_iff_ne.mpr c6
      have c6b1 : ((t125.length : Int) != 0) = true := bne_iff_ne.mpr c6
      have c6b2 : ¬ (t125 = []) := fun h_ => c6 (by rw [h_]; rfl)
      obtain ⟨y128, hy128⟩ : ∃ y_ : List ByteArray, y_ = (([a0] : List ByteArray)) := ⟨_, rfl⟩
      replace H : ((laws_clean.f k 200 y128).bind fun t131 => (if t131 = true then ((impl_Parts.f a0 false a1 a2).bind fun t132 => (laws_FnPartsAgain.l0 k a1 a2 t132 (t132.length : Int) 0)) else (some true))) = some r := by first | (rw [hy128]; with_reducible exact H) | (have H2_ := (Option.bind_some _ _).symm.trans H; rw [hy128]; with_reducible exact H2_) | (have H2_ := (Option.bind_some _ _).symm.trans H; with_reducible exact H2_) | with_reducible exact H | (rw [hy128]; exact H) | exact H
      have Ny128 := Aside0.mk hy128
      clear hy128
      replace H := Option.bind_eq_some_iff.mp H
      obtain ⟨t131, A90, H⟩ := H
      replace H : (if t131 = true then ((impl_Parts.f a0 false a1 a2).bind fun t132 => (laws_FnPartsAgain.l0 k a1 a2 t132 (t132.length : Int) 0)) else (some true)) = some r := H
      have A9 := Aside0.mk A90
      clear A90
      by_cases c10 : t131 = true
      · subst c10
        have H1 : ((impl_Parts.f a0 false a1 a2).bind fun t132 => (laws_FnPartsAgain.l0 k a1 a2 t132 (t132.length : Int) 0)) = some r := by rw [if_pos rfl] at H; exact H
        clear H
        have H := H1
        clear H1
        replace H := Option.bind_eq_some_iff.mp H
        obtain ⟨t132, A110, H⟩ := H
        replace H : (laws_FnPartsAgain.l0 k a1 a2 t132 (t132.length : Int) 0) = some r := H
        have A11 := Aside0.mk A110
        clear A110
        have H' := Aside0.mk H
        clear H
        go_enter Tryd.func3, Tryd.ntmps3
        go_wp2_with (first | ((with_reducible refine gate_callee (f := 6) rfl ?_); refine goesL_ (some 14) rfl rfl Tryd.func6 (by kernel_rfl) rfl #[.string (⟨#[97, 98, 32, 99]⟩ : ByteArray), .bool false, .bool false, .bool false] rfl (by (try simp only [List.map_toArray, List.map_cons, List.map_nil]); first | done | rfl | (simp only [List.length_drop, List.length_take]; rfl)) ?_; (with_reducible refine (impl_Parts.calls (⟨#[97, 98, 32, 99]⟩ : ByteArray) false false false t125 _ (HT_.out _ (by repeat (first | (with_reducible first | exact HB.out | apply below_alloc | apply pw_below_drewN | apply below_drew1) | exact HB.out))) A5.out).mono ?_); rintro e w12 ⟨v126, rfl, ho0, hb⟩; refine ⟨_, rfl, ?_⟩; have n0_ := Aside0.mk (Kd.R_lower ho0 (below_size (by repeat (first | (with_reducible first | exact HB.out | apply below_alloc | apply pw_below_drewN | apply below_drew1) | exact HB.out)))); have n1_ := Aside0.mk (below_step (by repeat (first | (with_reducible first | exact HB.out | apply below_alloc | apply pw_below_drewN | apply below_drew1) | exact HB.out)) hb); clear HB; have HO127 := n0_; have HB := n1_; clear n0_ n1_; (try clear hb); (try clear hb2); (try clear hk); (try clear hi); (try clear ho0); obtain ⟨Ao13, co13, eo13⟩ := Kd.R_slice HO127.out; subst eo13) | ((with_reducible refine gate_dst (N := 19) rfl ?_); refine Kd.R_lit Kd.string _ 9 ?hg (N := 19) ?hd (xs := ([a0] : List ByteArray)) (inner := [.string a0]) (ok := fun _ => True) (okp := fun _ => True) ?hr ?hp (fun _ hk => hk) trivial (Below.refl _ _) (Nat.le_refl _) (by simp) ?_; (case hd => rfl); (case hg => rfl); (case hr => first | (go_simp; done) | (go_simp; rfl)); (case hp => exact (Reps.one (show Kd.M Kd.string _ _ _ a0 [.string a0] from rfl) (Reps.none _ _))); intro v129 w14 ho15 hb hg_ hnew_; clear hg_ hnew_; (first | rw [← Ny128.out] at ho15 | (simp only [Int.reduceToNat] at ho15; rw [← Ny128.out] at ho15)); have n0_ := Aside0.mk (Kd.R_elder' (by (with_reducible repeat (first | apply Kd.R_alloc | apply Kd.R_drewN | apply Kd.R_drew)); exact HO127.out) (by first | exact Kd.N_base ho15 | exact Kd.S_base ho15 | exact Kd.R_base ho15) hb); have n1_ := Aside0.mk (Kd.R_lower (Kd.R_new' ho15 (Kd.R_lt (by (with_reducible repeat (first | apply Kd.R_alloc | apply Kd.R_drewN | apply Kd.R_drew)); exact HO127.out))) (below_size (by repeat (first | (with_reducible first | exact HB.out | apply below_alloc | apply pw_below_drewN | apply below_drew1) | exact HB.out)))); have n2_ := Aside0.mk (below_step (by repeat (first | (with_reducible first | exact HB.out | apply below_alloc | apply pw_below_drewN | apply below_drew1) | exact HB.out)) hb); clear HO127; clear HB; have HO127 := n0_; have HO130 := n1_; have HB := n2_; clear n0_ n1_ n2_; clear hb ho15; obtain ⟨Ao16, co16, eo16⟩ := Kd.R_slice HO130.out; subst eo16) | ((with_reducible refine gate_callee (f := 7) rfl ?_); refine goesL_ (some 20) rfl rfl Tryd.func7 (by kernel_rfl) rfl #[.int .i64 200, .slice Ao16 y128.length co16] rfl (by (try simp only [List.map_toArray, List.map_cons, List.map_nil]); first | done | rfl | (simp only [List.length_drop, List.length_take]; rfl)) ?_; (with_reducible refine (laws_clean.calls k 200 _ _ y128 true _ ?side1 ?side2 A9.out).mono ?_); (case side1 => repeat (first | exact (Kd.R_reads' HO130.out).2.2 | (with_reducible refine Kd.C_alloc ?_ _) | (with_reducible refine Kd.C_drewN ?_ _) | (with_reducible refine Kd.C_drew ?_))); (case side2 => exact (Kd.R_reads' HO130.out).2.1); rintro e w17 ⟨rfl, hb⟩; refine ⟨_, rfl, ?_⟩; have n0_ := Aside0.mk (Kd.R_below (by (with_reducible repeat (first | apply Kd.R_alloc | apply Kd.R_drewN | apply Kd.R_drew)); exact HO127.out) hb); have n1_ := Aside0.mk (Kd.R_below (by (with_reducible repeat (first | apply Kd.R_alloc | apply Kd.R_drewN | apply Kd.R_drew)); exact HO130.out) hb); have n2_ := Aside0.mk (below_step (by repeat (first | (with_reducible first | exact HB.out | apply below_alloc | apply pw_below_drewN | apply below_drew1) | exact HB.out)) hb); clear HO127; clear HO130; clear HB; have HO127 := n0_; have HO130 := n1_; have HB := n2_; clear n0_ n1_ n2_; (try clear hb); (try clear hb2); (try clear hk); (try clear hi)) | ((with_reducible refine gate_callee (f := 6) rfl ?_); refine goesL_ (some 25) rfl rfl Tryd.func6 (by kernel_rfl) rfl #[.string a0, .bool false, .bool a1, .bool a2] rfl (by (try simp only [List.map_toArray, List.map_cons, List.map_nil]); first | done | rfl | (simp only [List.length_drop, List.length_take]; rfl)) ?_; (with_reducible refine (impl_Parts.calls a0 false a1 a2 t132 _ (HT_.out _ (by repeat (first | (with_reducible first | exact HB.out | apply below_alloc | apply pw_below_drewN | apply below_drew1) | exact HB.out))) A11.out).mono ?_); rintro e w18 ⟨v133, rfl, ho0, hb⟩; refine ⟨_, rfl, ?_⟩; have n0_ := Aside0.mk (Kd.R_elder' (by (with_reducible repeat (first | apply Kd.R_alloc | apply Kd.R_drewN | apply Kd.R_drew)); exact HO127.out) (by first | exact Kd.N_base ho0 | exact Kd.S_base ho0 | exact Kd.R_base ho0) hb); have n1_ := Aside0.mk (Kd.R_elder' (by (with_reducible repeat (first | apply Kd.R_alloc | apply Kd.R_drewN | apply Kd.R_drew)); exact HO130.out) (by first | exact Kd.N_base ho0 | exact Kd.S_base ho0 | exact Kd.R_base ho0) hb); have n2_ := Aside0.mk (Kd.R_lower (Kd.R_new' (Kd.R_new' ho0 (Kd.R_lt (by (with_reducible repeat (first | apply Kd.R_alloc | apply Kd.R_drewN | apply Kd.R_drew)); exact HO127.out))) (Kd.R_lt (by (with_reducible repeat (first | apply Kd.R_alloc | apply Kd.R_drewN | apply Kd.R_drew)); exact HO130.out))) (below_size (by repeat (first | (with_reducible first | exact HB.out | apply below_alloc | apply pw_below_drewN | apply below_drew1) | exact HB.out)))); have n3_ := Aside0.mk (below_step (by repeat (first | (with_reducible first | exact HB.out | apply below_alloc | apply pw_below_drewN | apply below_drew1) | exact HB.out)) hb); clear HO127; clear HO130; clear HB; have HO127 := n0_; have HO130 := n1_; have HO134 := n2_; have HB := n3_; clear n0_ n1_ n2_ n3_; (try clear hb); (try clear hb2); (try clear hk); (try clear hi); (try clear ho0); obtain ⟨Ao19, co19, eo19⟩ := Kd.R_slice HO134.out; subst eo19))
        go_loopg [27] k (fun kq v27 w' => ∃ (x27_1 : Int), v27 = .int .i64 x27_1 ∧ Aside0 (laws_FnPartsAgain.l0 kq a1 a2 t132 (t132.length : Int) x27_1 = some r) ∧ Aside0 (kq ≤ k) ∧ Aside0 (Kd.R Kd.string 9 w' w.heap.size (fun _ => True) (.slice Ao19 t132.length co19) t132) ∧ Aside0 (Below w.heap.size w w'))
        case atStart => exact ⟨(0), (by first | rfl | (simp; done) | (simp [*]; done)), H', ⟨Nat.le_refl _⟩, ⟨by (with_reducible repeat (first | apply Kd.R_alloc | apply Kd.R_drewN | apply Kd.R_drew)); exact Kd.R_mono HO134.out (fun _ hk => trivial)⟩, ⟨by repeat (first | (with_reducible first | exact HB.out | apply below_alloc | apply pw_below_drewN | apply below_drew1) | exact HB.out)⟩⟩
        case round =>
          clear H'
          try clear c1
          try clear p2
          try clear c3
          try clear c4
          try clear c4b0
          try clear c4b1
          try clear c6
          try clear c6b0
          try clear c6b1
          try clear c6b2
          try clear c7
          try clear c10
          obtain ⟨x27_1, rfl, HA, HK1, HO_25, HB⟩ := hrel
          cases gk with
          | zero => exact absurd HA.out (by simp [laws_FnPartsAgain.l0])
          | succ k1 =>
            have H := HA.out
            clear HA
            simp only [laws_FnPartsAgain.l0] at H
            by_cases c20 : x27_1 < (t132.length : Int)
            · rw [if_pos c20] at H
              have c20b0 : decide (x27_1 < (t132.length : Int)) = true := decide_eq_true c20
              clear c20
              by_cases c21 : 0 ≤ x27_1
              · rw [if_pos c21] at H
                have c21b0 : decide (0 ≤ x27_1) = true := decide_eq_true c21
                clear c21
                by_cases c22 : x27_1 < (t132.length : Int)
                · rw [if_pos c22] at H
                  have c22b0 : decide (x27_1 < (t132.length : Int)) = true := decide_eq_true c22
                  clear c22
                  replace H := Option.bind_eq_some_iff.mp H
                  obtain ⟨t136, A230, H⟩ := H
                  replace H : (if (t136.length : Int) = 1 then (if 0 < (t136.length : Int) then (if (rdOf ByteArray.empty t136 0).toList = (rdOf ByteArray.empty t132 x27_1).toList then (laws_FnPartsAgain.l0 k1 a1 a2 t132 (t132.length : Int) (wrap64 (x27_1 + 1))) else (some false)) else (none)) else (some false)) = some r := H
                  have A23 := Aside0.mk A230
                  clear A230
                  by_cases c24 : (t136.length : Int) = 1
                  · rw [if_pos c24] at H
                    have c24b0 : ((t136.length : Int) == 1) = true := beq_iff_eq.mpr c24
                    have c24b1 : ((t136.length : Int) != 1) = false := bne_eq_false_iff_eq.mpr c24
                    clear c24
                    by_cases c25 : 0 < (t136.length : Int)
                    · rw [if_pos c25] at H
                      have c25b0 : decide (0 < (t136.length : Int)) = true := decide_eq_true c25
                      have c25b1 : decide (0 < t136.length) = true := decide_eq_true (by omega)
                      clear c25
                      by_cases c26 : (rdOf ByteArray.empty t136 0).toList = (rdOf ByteArray.empty t132 x27_1).toList
                      · rw [if_pos c26] at H
                        have c26b0 : ((rdOf ByteArray.empty t136 0).toList == (rdOf ByteArray.empty t132 x27_1).toList) = true := beq_iff_eq.mpr c26
                        have c26b1 : ((rdOf ByteArray.empty t136 0).toList != (rdOf ByteArray.empty t132 x27_1).toList) = false := bne_eq_false_iff_eq.mpr c26
                        clear c26
                        have H' := Aside0.mk H
                        clear H
                        have p135 : 0 ≤ (x27_1 : Int) := of_decide_eq_true (by first | (with_reducible assumption) | assumption)
                        have q135 : x27_1 < (t132.length : Int) := of_decide_eq_true (by first | (with_reducible assumption) | assumption)
                        obtain ⟨ad135, e135, hx135_0⟩ := Kd.at_string (Kd.R_reads' HO_25.out).2.2 x27_1 p135 q135
                        cases e135
                        replace p135 := eq_true p135
                        replace q135 := eq_true q135
                        go_wp2_with (first | ((with_reducible refine gate_callee (f := 6) rfl ?_); refine goesL_ (some 34) rfl rfl Tryd.func6 (by kernel_rfl) rfl #[.string (rdOf ByteArray.empty t132 x27_1), .bool false, .bool a1, .bool a2] rfl (by (try simp only [List.map_toArray, List.map_cons, List.map_nil]); first | done | rfl | (simp only [List.length_drop, List.length_take]; rfl)) ?_; (with_reducible refine (impl_Parts.calls (rdOf ByteArray.empty t132 x27_1) false a1 a2 t136 _ (HT_.out _ (by repeat (first | (with_reducible first | exact HB.out | apply below_alloc | apply pw_below_drewN | apply below_drew1) | exact HB.out))) A23.out).mono ?_); rintro e w27 ⟨v137, rfl, ho0, hb⟩; refine ⟨_, rfl, ?_⟩; have n0_ := Aside0.mk (Kd.R_elder' (by (with_reducible repeat (first | apply Kd.R_alloc | apply Kd.R_drewN | apply Kd.R_drew)); exact HO_25.out) (by first | exact Kd.N_base ho0 | exact Kd.S_base ho0 | exact Kd.R_base ho0) hb); have n1_ := Aside0.mk (Kd.R_lower (Kd.R_new' ho0 (Kd.R_lt (by (with_reducible repeat (first | apply Kd.R_alloc | apply Kd.R_drewN | apply Kd.R_drew)); exact HO_25.out))) (below_size (by repeat (first | (with_reducible first | exact HB.out | apply below_alloc | apply pw_below_drewN | apply below_drew1) | exact HB.out)))); have n2_ := Aside0.mk (below_step (by repeat (first | (with_reducible first | exact HB.out | apply below_alloc | apply pw_below_drewN | apply below_drew1) | exact HB.out)) hb); clear HO_25; clear HB; have HO_25 := n0_; have HO138 := n1_; have HB := n2_; clear n0_ n1_ n2_; (try clear hb); (try clear hb2); (try clear hk); (try clear hi); (try clear ho0); obtain ⟨Ao28, co28, eo28⟩ := Kd.R_slice HO138.out; subst eo28; have p139 : 0 ≤ (0 : Int) := (by omega); have q139 : 0 < (t136.length : Int) := of_decide_eq_true (by first | (with_reducible assumption) | assumption); obtain ⟨ad139, e139, hx139_0⟩ := Kd.at_string (Kd.R_reads' HO138.out).2.2 0 p139 q139; cases e139; have qi139 : (0 < t136.length) = True := eq_true (by omega); (try rw [show ((0 : Int)).toNat = 0 from rfl] at hx139_0); (try rw [Addr.add_zero'] at hx139_0); replace p139 := eq_true p139; replace q139 := eq_true q139))
                        go_roundg k1
                        case measure => have := HK1.out; omega
                        case rel => exact ⟨(wrap64 (x27_1 + 1)), (by first | rfl | (simp; done) | (simp [*]; done)), H', ⟨by have := HK1.out; omega⟩, ⟨by (with_reducible repeat (first | apply Kd.R_alloc | apply Kd.R_drewN | apply Kd.R_drew)); exact Kd.R_mono HO_25.out (fun _ hk => trivial)⟩, ⟨by repeat (first | (with_reducible first | exact HB.out | apply below_alloc | apply pw_below_drewN | apply below_drew1) | exact HB.out)⟩⟩
                      · rw [if_neg c26] at H
                        have c26b0 : ((rdOf ByteArray.empty t136 0).toList == (rdOf ByteArray.empty t132 x27_1).toList) = false := beq_eq_false_iff_ne.mpr c26
                        have c26b1 : ((rdOf ByteArray.empty t136 0).toList != (rdOf ByteArray.empty t132 x27_1).toList) = true := bne_iff_ne.mpr c26
                        obtain rfl := Option.some.inj H
                        have p135 : 0 ≤ (x27_1 : Int) := of_decide_eq_true (by first | (with_reducible assumption) | assumption)
                        have q135 : x27_1 < (t132.length : Int) := of_decide_eq_true (by first | (with_reducible assumption) | assumption)
                        obtain ⟨ad135, e135, hx135_0⟩ := Kd.at_string (Kd.R_reads' HO_25.out).2.2 x27_1 p135 q135
                        cases e135
                        replace p135 := eq_true p135
                        replace q135 := eq_true q135
                        go_wp2_with (first | ((with_reducible refine gate_callee (f := 6) rfl ?_); refine goesL_ (some 34) rfl rfl Tryd.func6 (by kernel_rfl) rfl #[.string (rdOf ByteArray.empty t132 x27_1), .bool false, .bool a1, .bool a2] rfl (by (try simp only [List.map_toArray, List.map_cons, List.map_nil]); first | done | rfl | (simp only [List.length_drop, List.length_take]; rfl)) ?_; (with_reducible refine (impl_Parts.calls (rdOf ByteArray.empty t132 x27_1) false a1 a2 t136 _ (HT_.out _ (by repeat (first | (with_reducible first | exact HB.out | apply below_alloc | apply pw_below_drewN | apply below_drew1) | exact HB.out))) A23.out).mono ?_); rintro e w29 ⟨v137, rfl, ho0, hb⟩; refine ⟨_, rfl, ?_⟩; have n0_ := Aside0.mk (Kd.R_elder' (by (with_reducible repeat (first | apply Kd.R_alloc | apply Kd.R_drewN | apply Kd.R_drew)); exact HO_25.out) (by first | exact Kd.N_base ho0 | exact Kd.S_base ho0 | exact Kd.R_base ho0) hb); have n1_ := Aside0.mk (Kd.R_lower (Kd.R_new' ho0 (Kd.R_lt (by (with_reducible repeat (first | apply Kd.R_alloc | apply Kd.R_drewN | apply Kd.R_drew)); exact HO_25.out))) (below_size (by repeat (first | (with_reducible first | exact HB.out | apply below_alloc | apply pw_below_drewN | apply below_drew1) | exact HB.out)))); have n2_ := Aside0.mk (below_step (by repeat (first | (with_reducible first | exact HB.out | apply below_alloc | apply pw_below_drewN | apply below_drew1) | exact HB.out)) hb); clear HO_25; clear HB; have HO_25 := n0_; have HO138 := n1_; have HB := n2_; clear n0_ n1_ n2_; (try clear hb); (try clear hb2); (try clear hk); (try clear hi); (try clear ho0); obtain ⟨Ao30, co30, eo30⟩ := Kd.R_slice HO138.out; subst eo30; have p139 : 0 ≤ (0 : Int) := (by omega); have q139 : 0 < (t136.length : Int) := of_decide_eq_true (by first | (with_reducible assumption) | assumption); obtain ⟨ad139, e139, hx139_0⟩ := Kd.at_string (Kd.R_reads' HO138.out).2.2 0 p139 q139; cases e139; have qi139 : (0 < t136.length) = True := eq_true (by omega); (try rw [show ((0 : Int)).toNat = 0 from rfl] at hx139_0); (try rw [Addr.add_zero'] at hx139_0); replace p139 := eq_true p139; replace q139 := eq_true q139))
                        go_ret
                        exact ⟨by first | rfl | (simp [errW_none, errW_some] <;> rfl) | (simp [*, errW_none, errW_some] <;> rfl), by repeat (first | (with_reducible first | exact HB.out | apply below_alloc | apply pw_below_drewN | apply below_drew1) | exact HB.out)⟩
                    · rw [if_neg c25] at H
                      exact absurd H (by simp)
                  · rw [if_neg c24] at H
                    have c24b0 : ((t136.length : Int) == 1) = false := beq_eq_false_iff_ne.mpr c24
                    have c24b1 : ((t136.length : Int) != 1) = true := bne_iff_ne.mpr c24
                    obtain rfl := Option.some.inj H
                    have p135 : 0 ≤ (x27_1 : Int) := of_decide_eq_true (by first | (with_reducible assumption) | assumption)
                    have q135 : x27_1 < (t132.length : Int) := of_decide_eq_true (by first | (with_reducible assumption) | assumption)
                    obtain ⟨ad135, e135, hx135_0⟩ := Kd.at_string (Kd.R_reads' HO_25.out).2.2 x27_1 p135 q135
                    cases e135
                    replace p135 := eq_true p135
                    replace q135 := eq_true q135
                    go_wp2_with (first | ((with_reducible refine gate_callee (f := 6) rfl ?_); refine goesL_ (some 34) rfl rfl Tryd.func6 (by kernel_rfl) rfl #[.string (rdOf ByteArray.empty t132 x27_1), .bool false, .bool a1, .bool a2] rfl (by (try simp only [List.map_toArray, List.map_cons, List.map_nil]); first | done | rfl | (simp only [List.length_drop, List.length_take]; rfl)) ?_; (with_reducible refine (impl_Parts.calls (rdOf ByteArray.empty t132 x27_1) false a1 a2 t136 _ (HT_.out _ (by repeat (first | (with_reducible first | exact HB.out | apply below_alloc | apply pw_below_drewN | apply below_drew1) | exact HB.out))) A23.out).mono ?_); rintro e w31 ⟨v137, rfl, ho0, hb⟩; refine ⟨_, rfl, ?_⟩; have n0_ := Aside0.mk (Kd.R_elder' (by (with_reducible repeat (first | apply Kd.R_alloc | apply Kd.R_drewN | apply Kd.R_drew)); exact HO_25.out) (by first | exact Kd.N_base ho0 | exact Kd.S_base ho0 | exact Kd.R_base ho0) hb); have n1_ := Aside0.mk (Kd.R_lower (Kd.R_new' ho0 (Kd.R_lt (by (with_reducible repeat (first | apply Kd.R_alloc | apply Kd.R_drewN | apply Kd.R_drew)); exact HO_25.out))) (below_size (by repeat (first | (with_reducible first | exact HB.out | apply below_alloc | apply pw_below_drewN | apply below_drew1) | exact HB.out)))); have n2_ := Aside0.mk (below_step (by repeat (first | (with_reducible first | exact HB.out | apply below_alloc | apply pw_below_drewN | apply below_drew1) | exact HB.out)) hb); clear HO_25; clear HB; have HO_25 := n0_; have HO138 := n1_; have HB := n2_; clear n0_ n1_ n2_; (try clear hb); (try clear hb2); (try clear hk); (try clear hi); (try clear ho0); obtain ⟨Ao32, co32, eo32⟩ := Kd.R_slice HO138.out; subst eo32))
                    go_ret
                    exact ⟨by first | rfl | (simp [errW_none, errW_some] <;> rfl) | (simp [*, errW_none, errW_some] <;> rfl), by repeat (first | (with_reducible first | exact HB.out | apply below_alloc | apply pw_below_drewN | apply below_drew1) | exact HB.out)⟩
                · rw [if_neg c22] at H
                  exact absurd H (by simp)
              · rw [if_neg c21] at H
                exact absurd H (by simp)
            · rw [if_neg c20] at H
              have c20b0 : decide (x27_1 < (t132.length : Int)) = false := decide_eq_false c20
              clear c20
              obtain rfl := Option.some.inj H
              go_wp2
              go_ret
              exact ⟨by first | rfl | (simp [errW_none, errW_some] <;> rfl) | (simp [*, errW_none, errW_some] <;> rfl), by repeat (first | (with_reducible first | exact HB.out | apply below_alloc | apply pw_below_drewN | apply below_drew1) | exact HB.out)⟩
      · replace c10 := Bool.eq_false_iff.mpr c10
        subst c10
        have H1 : (some true) = some r := by rw [if_neg (show ¬ (false = true) by decide)] at H; exact H
        clear H
        have H := H1
        clear H1
        obtain rfl := Option.some.inj H
        go_enter Tryd.func3, Tryd.ntmps3
        go_wp2_with (first | ((with_reducible refine gate_callee (f := 6) rfl ?_); refine goesL_ (some 14) rfl rfl Tryd.func6 (by kernel_rfl) rfl #[.string (⟨#[97, 98, 32, 99]⟩ : ByteArray), .bool false, .bool false, .bool false] rfl (by (try simp only [List.map_toArray, List.map_cons, List.map_nil]); first | done | rfl | (simp only [List.length_drop, List.length_take]; rfl)) ?_; (with_reducible refine (impl_Parts.calls (⟨#[97, 98, 32, 99]⟩ : ByteArray) false false false t125 _ (HT_.out _ (by repeat (first | (with_reducible first | exact HB.out | apply below_alloc | apply pw_below_drewN | apply below_drew1) | exact HB.out))) A5.out).mono ?_); rintro e w33 ⟨v126, rfl, ho0, hb⟩; refine ⟨_, rfl, ?_⟩; have n0_ := Aside0.mk (Kd.R_lower ho0 (below_size (by repeat (first | (with_reducible first | exact HB.out | apply below_alloc | apply pw_below_drewN | apply below_drew1) | exact HB.out)))); have n1_ := Aside0.mk (below_step (by repeat (first | (with_reducible first | exact HB.out | apply below_alloc | apply pw_below_drewN | apply below_drew1) | exact HB.out)) hb); clear HB; have HO127 := n0_; have HB := n1_; clear n0_ n1_; (try clear hb); (try clear hb2); (try clear hk); (try clear hi); (try clear ho0); obtain ⟨Ao34, co34, eo34⟩ := Kd.R_slice HO127.out; subst eo34) | ((with_reducible refine gate_dst (N := 19) rfl ?_); refine Kd.R_lit Kd.string _ 9 ?hg (N := 19) ?hd (xs := ([a0] : List ByteArray)) (inner := [.string a0]) (ok := fun _ => True) (okp := fun _ => True) ?hr ?hp (fun _ hk => hk) trivial (Below.refl _ _) (Nat.le_refl _) (by simp) ?_; (case hd => rfl); (case hg => rfl); (case hr => first | (go_simp; done) | (go_simp; rfl)); (case hp => exact (Reps.one (show Kd.M Kd.string _ _ _ a0 [.string a0] from rfl) (Reps.none _ _))); intro v129 w35 ho36 hb hg_ hnew_; clear hg_ hnew_; (first | rw [← Ny128.out] at ho36 | (simp only [Int.reduceToNat] at ho36; rw [← Ny128.out] at ho36)); have n0_ := Aside0.mk (Kd.R_elder' (by (with_reducible repeat (first | apply Kd.R_alloc | apply Kd.R_drewN | apply Kd.R_drew)); exact HO127.out) (by first | exact Kd.N_base ho36 | exact Kd.S_base ho36 | exact Kd.R_base ho36) hb); have n1_ := Aside0.mk (Kd.R_lower (Kd.R_new' ho36 (Kd.R_lt (by (with_reducible repeat (first | apply Kd.R_alloc | apply Kd.R_drewN | apply Kd.R_drew)); exact HO127.out))) (below_size (by repeat (first | (with_reducible first | exact HB.out | apply below_alloc | apply pw_below_drewN | apply below_drew1) | exact HB.out)))); have n2_ := Aside0.mk (below_step (by repeat (first | (with_reducible first | exact HB.out | apply below_alloc | apply pw_below_drewN | apply below_drew1) | exact HB.out)) hb); clear HO127; clear HB; have HO127 := n0_; have HO130 := n1_; have HB := n2_; clear n0_ n1_ n2_; clear hb ho36; obtain ⟨Ao37, co37, eo37⟩ := Kd.R_slice HO130.out; subst eo37) | ((with_reducible refine gate_callee (f := 7) rfl ?_); refine goesL_ (some 20) rfl rfl Tryd.func7 (by kernel_rfl) rfl #[.int .i64 200, .slice Ao37 y128.length co37] rfl (by (try simp only [List.map_toArray, List.map_cons, List.map_nil]); first | done | rfl | (simp only [List.length_drop, List.length_take]; rfl)) ?_; (with_reducible refine (laws_clean.calls k 200 _ _ y128 false _ ?side1 ?side2 A9.out).mono ?_); (case side1 => repeat (first | exact (Kd.R_reads' HO130.out).2.2 | (with_reducible refine Kd.C_alloc ?_ _) | (with_reducible refine Kd.C_drewN ?_ _) | (with_reducible refine Kd.C_drew ?_))); (case side2 => exact (Kd.R_reads' HO130.out).2.1); rintro e w38 ⟨rfl, hb⟩; refine ⟨_, rfl, ?_⟩; have n0_ := Aside0.mk (Kd.R_below (by (with_reducible repeat (first | apply Kd.R_alloc | apply Kd.R_drewN | apply Kd.R_drew)); exact HO127.out) hb); have n1_ := Aside0.mk (Kd.R_below (by (with_reducible repeat (first | apply Kd.R_alloc | apply Kd.R_drewN | apply Kd.R_drew)); exact HO130.out) hb); have n2_ := Aside0.mk (below_step (by repeat (first | (with_reducible first | exact HB.out | apply below_alloc | apply pw_below_drewN | apply below_drew1) | exact HB.out)) hb); clear HO127; clear HO130; clear HB; have HO127 := n0_; have HO130 := n1_; have HB := n2_; clear n0_ n1_ n2_; (try clear hb); (try clear hb2); (try clear hk); (try clear hi)))
        go_ret
        exact ⟨by first | rfl | (simp [errW_none, errW_some] <;> rfl) | (simp [*, errW_none, errW_some] <;> rfl), by repeat (first | (with_reducible first | exact HB.out | apply below_alloc | apply pw_below_drewN | apply below_drew1) | exact HB.out)⟩

/-- THE ONE PURE STATEMENT of laws_FnPartsAgain: yours. -/
def laws_FnPartsAgain.Pure : Prop := ∀ (a0 : ByteArray) (a1 : Bool) (a2 : Bool), a0.size ≤ 140737488351232 → ∃ k, laws_FnPartsAgain.f k a0 a1 a2 = some true

end Go.Proofs.YthecfligfhpccaaDoor.P
