-- PRINTED by print.py (a twelfth state) out of the translation. Not trusted: Lean checks it.
import Derived.Test.YtpjnebmcbeblkaaDoorP0
import Derived.Test.YtpjnebmcbeblkaaDoorP8
import Derived.Test.YtpjnebmcbeblkaaDoorP10
import Derived.Test.YtpjnebmcbeblkaaDoorP18
import Derived.Test.YtpjnebmcbeblkaaDoorP19
import Derived.Test.YtpjnebmcbeblkaaDoorP22
import Derived.Test.YtpjnebmcbeblkaaDoorQSd
import Derived.Test.YtpjnebmcbeblkaaDoorQSb
namespace Go.Proofs.YtpjnebmcbeblkaaDoor.P
open Go.RowKit Go.Proofs.YtpjnebmcbeblkaaDoorW.PrintWords Go.Proofs.YtpjnebmcbeblkaaDoorW.PrintLast Go.Proofs.YtpjnebmcbeblkaaDoorW.PrintMore
attribute [local go_sem] max2_int min2_int max_two min_two max_three min_three max_four min_four   -- for this text's walks alone
set_option linter.unusedVariables false
set_option linter.unusedSimpArgs false

/-! ### laws_FnSentencesJoin: function 6 -/
mutual
def laws_FnSentencesJoin.j0 : Nat → ByteArray → Bool → ByteArray → ByteArray → Bool → Bool → Int → Option (Bool)
  | 0, _, _, _, _, _, _, _ => none
  | k + 1, x0, x16, x247000, x247001, x247002, x247003, x247004 => if x16 = true then (some true) else ((laws_splits.f k).bind fun t248 => (if t248 = true then ((laws_calm.f k x0 x247000 x247001 false false x247004).bind fun t249 => (if t249 = true then ((impl_Sentences.f x0 x247000 x247001 false false x247004 ([] : List Int)).bind fun bt250 => (laws_FnSentencesJoin.l0 k x0 bt250.1 bt250.2 bt250.1 (bt250.1.length : Int) 0 x247000 x247001 false false x247004)) else (some true))) else (some false)))
def laws_FnSentencesJoin.l0 : Nat → ByteArray → List ByteArray → Bool → List ByteArray → Int → Int → ByteArray → ByteArray → Bool → Bool → Int → Option (Bool)
  | 0, _, _, _, _, _, _, _, _, _, _, _ => none
  | k + 1, x0, x5, x6, x31, x32, x33, x247000, x247001, x247002, x247003, x247004 => if x33 < x32 then (if 0 ≤ x33 then (if x33 < (x31.length : Int) then (if (rdOf ByteArray.empty x31 x33).toList = ([] : List UInt8) then (some false) else ((laws_body.f k (rdOf ByteArray.empty x31 x33) x247000 x247001 x247002 x247003 x247004).bind fun t255 => (if t255 > x247004 then (some false) else (laws_FnSentencesJoin.l0 k x0 x5 x6 x31 x32 (wrap64 (x33 + 1)) x247000 x247001 x247002 x247003 x247004)))) else (none)) else (none)) else (if x6 = true then ((laws_joined.f k x5).bind fun t256 => (some (t256.toList == x0.toList))) else (some false))
end
def laws_FnSentencesJoin.f (k : Nat) (a0 : ByteArray) (a1_0 : ByteArray) (a1_1 : ByteArray) (a1_2 : Bool) (a1_3 : Bool) (a1_4 : Int) : Option (Bool) := if (a0.size : Int) > 2147483647 then (laws_FnSentencesJoin.j0 k a0 true a1_0 a1_1 a1_2 a1_3 a1_4) else ((laws_zzFits10.f a1_0 a1_1 a1_2 a1_3 a1_4).bind fun t247 => (laws_FnSentencesJoin.j0 k a0 (!t247) a1_0 a1_1 a1_2 a1_3 a1_4))
theorem laws_FnSentencesJoin.mono_l : ∀ k, (∀ y0 y1 y2 y3 y4 y5 y6, LeO (laws_FnSentencesJoin.j0 k y0 y1 y2 y3 y4 y5 y6) (laws_FnSentencesJoin.j0 (k + 1) y0 y1 y2 y3 y4 y5 y6)) ∧ (∀ y0 y1 y2 y3 y4 y5 y6 y7 y8 y9 y10, LeO (laws_FnSentencesJoin.l0 k y0 y1 y2 y3 y4 y5 y6 y7 y8 y9 y10) (laws_FnSentencesJoin.l0 (k + 1) y0 y1 y2 y3 y4 y5 y6 y7 y8 y9 y10))
  | 0 => ⟨fun _ _ _ _ _ _ _ r h => by simp [laws_FnSentencesJoin.j0] at h, fun _ _ _ _ _ _ _ _ _ _ _ r h => by simp [laws_FnSentencesJoin.l0] at h⟩
  | k + 1 => by
    obtain ⟨ih0, ih1⟩ := laws_FnSentencesJoin.mono_l k
    refine ⟨?_, ?_⟩
    · intro y0 y1 y2 y3 y4 y5 y6
      unfold laws_FnSentencesJoin.j0
      repeat' first
      | (with_reducible exact ih0 _ _ _ _ _ _ _)
      | (with_reducible exact ih1 _ _ _ _ _ _ _ _ _ _ _)
      | (with_reducible exact laws_body.mono _ _ _ _ _ _ _)
      | (with_reducible exact laws_calm.mono _ _ _ _ _ _ _)
      | (with_reducible exact laws_joined.mono _ _)
      | (with_reducible exact laws_splits.mono _)
      | (with_reducible exact LeO.refl _)
      | (with_reducible exact LeO.none _)
      | (with_reducible refine LeO.ite ?_ ?_)
      | (with_reducible refine LeO.bind ?_ (fun _ => ?_))
      | exact ih0 _ _ _ _ _ _ _
      | exact ih1 _ _ _ _ _ _ _ _ _ _ _
      | exact laws_body.mono _ _ _ _ _ _ _
      | exact laws_calm.mono _ _ _ _ _ _ _
      | exact laws_joined.mono _ _
      | exact laws_splits.mono _
      | exact LeO.none _
      | refine LeO.ite ?_ ?_
      | refine LeO.bind ?_ (fun _ => ?_)
    · intro y0 y1 y2 y3 y4 y5 y6 y7 y8 y9 y10
      unfold laws_FnSentencesJoin.l0
      repeat' first
      | (with_reducible exact ih0 _ _ _ _ _ _ _)
      | (with_reducible exact ih1 _ _ _ _ _ _ _ _ _ _ _)
      | (with_reducible exact laws_body.mono _ _ _ _ _ _ _)
      | (with_reducible exact laws_calm.mono _ _ _ _ _ _ _)
      | (with_reducible exact laws_joined.mono _ _)
      | (with_reducible exact laws_splits.mono _)
      | (with_reducible exact LeO.refl _)
      | (with_reducible exact LeO.none _)
      | (with_reducible refine LeO.ite ?_ ?_)
      | (with_reducible refine LeO.bind ?_ (fun _ => ?_))
      | exact ih0 _ _ _ _ _ _ _
      | exact ih1 _ _ _ _ _ _ _ _ _ _ _
      | exact laws_body.mono _ _ _ _ _ _ _
      | exact laws_calm.mono _ _ _ _ _ _ _
      | exact laws_joined.mono _ _
      | exact laws_splits.mono _
      | exact LeO.none _
      | refine LeO.ite ?_ ?_
      | refine LeO.bind ?_ (fun _ => ?_)
theorem laws_FnSentencesJoin.mono : ∀ a0 a1 a2 a3 a4 a5 k, LeO (laws_FnSentencesJoin.f k a0 a1 a2 a3 a4 a5) (laws_FnSentencesJoin.f (k + 1) a0 a1 a2 a3 a4 a5) := by
  intro a0 a1 a2 a3 a4 a5 k
  obtain ⟨ih0, ih1⟩ := laws_FnSentencesJoin.mono_l k
  unfold laws_FnSentencesJoin.f
  repeat' first
      | (with_reducible exact ih0 _ _ _ _ _ _ _)
      | (with_reducible exact ih1 _ _ _ _ _ _ _ _ _ _ _)
      | (with_reducible exact laws_body.mono _ _ _ _ _ _ _)
      | (with_reducible exact laws_calm.mono _ _ _ _ _ _ _)
      | (with_reducible exact laws_joined.mono _ _)
      | (with_reducible exact laws_splits.mono _)
      | (with_reducible exact LeO.refl _)
      | (with_reducible exact LeO.none _)
      | (with_reducible refine LeO.ite ?_ ?_)
      | (with_reducible refine LeO.bind ?_ (fun _ => ?_))
      | exact ih0 _ _ _ _ _ _ _
      | exact ih1 _ _ _ _ _ _ _ _ _ _ _
      | exact laws_body.mono _ _ _ _ _ _ _
      | exact laws_calm.mono _ _ _ _ _ _ _
      | exact laws_joined.mono _ _
      | exact laws_splits.mono _
      | exact LeO.none _
      | refine LeO.ite ?_ ?_
      | refine LeO.bind ?_ (fun _ => ?_)
def laws_FnSentencesJoin.T12 : Bool × List (List Nat × List Nat) := (true, [([], []), ([0], [0]), ([1], [1]), ([2], [2]), ([2], [2]), ([3, 4, 2, 2], [2, 3, 4]), ([2], [2]), ([6, 2], [2, 6]), ([5, 7, 2], [2, 5, 7]), ([2, 8], [2, 8])])
def laws_FnSentencesJoin.B12 : List Nat := [0, 1, 3, 7, 7, 31, 7, 71, 255, 511]
theorem laws_FnSentencesJoin.tab12 : rtab .any (opsOf Tryd.f6 12) = laws_FnSentencesJoin.T12 := by kernel_rfl
theorem laws_FnSentencesJoin.bits12 : waitsOk laws_FnSentencesJoin.T12.2 laws_FnSentencesJoin.B12 = true := by kernel_rfl
set_option maxHeartbeats 8000000 in
set_option maxRecDepth 100000 in
theorem laws_FnSentencesJoin.calls (k : Nat) (a0 : ByteArray) (a1_0 : ByteArray) (a1_1 : ByteArray) (a1_2 : Bool) (a1_3 : Bool) (a1_4 : Int) (r : Bool) (w : World) (ht_ : Go.Proofs.YtpjnebmcbeblkaaDoor.X2.Tabs w) (h : laws_FnSentencesJoin.f k a0 a1_0 a1_1 a1_2 a1_3 a1_4 = some r) :
    Calls Tryd.prog 6 #[.string a0, .agg #[.string a1_0, .string a1_1, .bool a1_2, .bool a1_3, .int .i64 a1_4]] w fun e w' => e = .returned (.bool r) ∧ Below w.heap.size w w' := by
  have HT_ : Aside0 (∀ W_, Below w.heap.size w W_ → Go.Proofs.YtpjnebmcbeblkaaDoor.X2.Tabs W_) := ⟨fun W_ h_ => ht_.below h_⟩
  clear ht_
  have hu23 := Tryd.underlying23
  have HB := Aside0.mk (Below.refl w.heap.size w)
  have H : (if (a0.size : Int) > 2147483647 then (laws_FnSentencesJoin.j0 k a0 true a1_0 a1_1 a1_2 a1_3 a1_4) else ((laws_zzFits10.f a1_0 a1_1 a1_2 a1_3 a1_4).bind fun t247 => (laws_FnSentencesJoin.j0 k a0 (!t247) a1_0 a1_1 a1_2 a1_3 a1_4))) = some r := h
  clear h
  have HC3 := Aside0.mk H
  clear H
  go_enter Tryd.func6, Tryd.ntmps6
  go_upto_region 1 with (first | ((with_reducible refine gate_dst (N := 3) rfl ?_); refine box_event ?hg (N := 3) ?hd (cs := #[.string a1_0, .string a1_1, .bool a1_2, .bool a1_3, .int .i64 a1_4]) (t := 23) ?hr ?_; (case hd => rfl); (case hg => rfl); (case hr => first | (go_simp; done) | (go_simp; rfl)); intro gb246 hg w4 hbox hb; have n0_ := Aside0.mk (below_step (by repeat (first | (with_reducible first | exact HB.out | apply below_alloc | apply pw_below_drewN | apply below_drew1) | exact HB.out)) hb); have n1_ := Aside0.mk (hbox); have n2_ := Aside0.mk ((by rw [hg]; exact (below_size (by repeat (first | (with_reducible first | exact HB.out | apply below_alloc | apply pw_below_drewN | apply below_drew1) | exact HB.out))) : w.heap.size ≤ gb246)); have n3_ := Aside0.mk ((by rw [hg]; exact (below_size (by repeat (first | (with_reducible first | exact HB.out | apply below_alloc | apply pw_below_drewN | apply below_drew1) | exact HB.out))) : w.heap.size ≤ gb246)); clear HB; have HB := n0_; have BK246 := n1_; have GW246 := n2_; have GE246 := n3_; clear n0_ n1_ n2_ n3_; clear hb hbox hg))
  (try simp only [Act.put, List.setIfInBounds_toArray, List.set_cons_zero, List.set_cons_succ])
  go_cut [16] (fun v16 wc => ∃ (kq : Nat) (x16_2 : Bool), v16 = .bool x16_2 ∧ Aside0 (laws_FnSentencesJoin.j0 kq a0 x16_2 a1_0 a1_1 a1_2 a1_3 a1_4 = some r) ∧ Aside0 (kq ≤ k) ∧ Aside0 (wc.heap[gb246]? = some (.cells #[.string a1_0, .string a1_1, .bool a1_2, .bool a1_3, .int .i64 a1_4] 23 (0, 0))) ∧ Aside0 (Below w.heap.size w wc))
  case first =>
    have H := HC3.out
    clear HC3
    by_cases c5 : (a0.size : Int) > 2147483647
    · rw [if_pos c5] at H
      have c5b0 : decide (2147483647 < (a0.size : Int)) = true := decide_eq_true c5
      have c5b1 : decide (2147483647 < a0.size) = true := decide_eq_true (by omega)
      clear c5
      (first | rw [c5b0] | (simp only [i64_w, i32_w]; rw [c5b0]) | skip)
      have H' := Aside0.mk H
      clear H
      go_wp2
      go_meet
      case rel => exact ⟨_, (true), (by first | rfl | (simp; done) | (simp [*]; done)), H', ⟨by first | omega | exact Nat.le_refl _⟩, ⟨by (with_reducible repeat (first | refine blk_drewN ?_ _ | refine blk_drew ?_ | refine blk_alloc ?_ _)); exact BK246.out⟩, ⟨by repeat (first | (with_reducible first | exact HB.out | apply below_alloc | apply pw_below_drewN | apply below_drew1 | refine below_set ?_ GE246.out) | exact HB.out)⟩⟩
    · rw [if_neg c5] at H
      have c5b0 : decide (2147483647 < (a0.size : Int)) = false := decide_eq_false c5
      have c5b1 : decide (2147483647 < a0.size) = false := decide_eq_false (by omega)
      clear c5
      (first | rw [c5b0] | (simp only [i64_w, i32_w]; rw [c5b0]) | skip)
      replace H := Option.bind_eq_some_iff.mp H
      obtain ⟨t247, A60, H⟩ := H
      replace H : (laws_FnSentencesJoin.j0 k a0 (!t247) a1_0 a1_1 a1_2 a1_3 a1_4) = some r := H
      have A6 := Aside0.mk A60
      clear A60
      have H' := Aside0.mk H
      clear H
      have hcz7_0 : w4.cell? ⟨gb246, 0, none⟩ = some (.string a1_0) := (blk_cell BK246.out 0).trans rfl
      have hcz7_1 : w4.cell? ⟨gb246, 1, none⟩ = some (.string a1_1) := (blk_cell BK246.out 1).trans rfl
      have hcz7_2 : w4.cell? ⟨gb246, 2, none⟩ = some (.bool a1_2) := (blk_cell BK246.out 2).trans rfl
      have hcz7_3 : w4.cell? ⟨gb246, 3, none⟩ = some (.bool a1_3) := (blk_cell BK246.out 3).trans rfl
      have hcz7_4 : w4.cell? ⟨gb246, 4, none⟩ = some (.int .i64 a1_4) := (blk_cell BK246.out 4).trans rfl
      have hfz7_0 := blk_frozen BK246.out 0
      have hfz7_1 := blk_frozen BK246.out 1
      have hfz7_2 := blk_frozen BK246.out 2
      have hfz7_3 := blk_frozen BK246.out 3
      have hfz7_4 := blk_frozen BK246.out 4
      go_wp2_with (first | (go_at_call 8; (with_reducible refine (laws_zzFits10.calls a1_0 a1_1 a1_2 a1_3 a1_4 t247 _ A6.out).mono ?_); rintro e w8 ⟨rfl, hb⟩; have n0_ := Aside0.mk (blk_below (g := gb246) (o := .cells #[.string a1_0, .string a1_1, .bool a1_2, .bool a1_3, .int .i64 a1_4] 23 (0, 0)) (by (with_reducible repeat (first | refine blk_drewN ?_ _ | refine blk_drew ?_ | refine blk_alloc ?_ _)); exact BK246.out) hb); have n1_ := Aside0.mk (below_step (by repeat (first | (with_reducible first | exact HB.out | apply below_alloc | apply pw_below_drewN | apply below_drew1 | refine below_set ?_ GE246.out) | exact HB.out)) hb); clear BK246; clear HB; have BK246 := n0_; have HB := n1_; clear n0_ n1_; (try clear hb); (try clear hb2); (try clear hk); (try clear hi)))
      go_meet
      case rel => exact ⟨_, (!t247), (by first | rfl | (simp; done) | (simp [*]; done)), H', ⟨by first | omega | exact Nat.le_refl _⟩, ⟨by (with_reducible repeat (first | refine blk_drewN ?_ _ | refine blk_drew ?_ | refine blk_alloc ?_ _)); exact BK246.out⟩, ⟨by repeat (first | (with_reducible first | exact HB.out | apply below_alloc | apply pw_below_drewN | apply below_drew1 | refine below_set ?_ GE246.out) | exact HB.out)⟩⟩
  case rest =>
    clear HC3
    try clear p2
    try clear c5
    try clear c5b0
    try clear c5b1
    try clear c6
    try clear hcz7_0
    try clear hcz7_1
    try clear hcz7_2
    try clear hcz7_3
    try clear hcz7_4
    try clear hfz7_0
    try clear hfz7_1
    try clear hfz7_2
    try clear hfz7_3
    try clear hfz7_4
    obtain ⟨kq, x16_2, rfl, HA, HJ2, BK246, HB⟩ := hcut
    cases kq with
    | zero => exact absurd HA.out (by simp [laws_FnSentencesJoin.j0])
    | succ kj2 =>
      have H := HA.out
      clear HA
      simp only [laws_FnSentencesJoin.j0] at H
      by_cases c9 : x16_2 = true
      · subst c9
        have H1 : (some true) = some r := by rw [if_pos rfl] at H; exact H
        clear H
        have H := H1
        clear H1
        obtain rfl := Option.some.inj H
        go_wp2
        go_ret
        exact ⟨by first | rfl | (simp [errW_none, errW_some] <;> rfl) | (simp [*, errW_none, errW_some] <;> rfl), by repeat (first | (with_reducible first | exact HB.out | apply below_alloc | apply pw_below_drewN | apply below_drew1 | refine below_set ?_ GE246.out) | exact HB.out)⟩
      · replace c9 := Bool.eq_false_iff.mpr c9
        subst c9
        have H1 : ((laws_splits.f kj2).bind fun t248 => (if t248 = true then ((laws_calm.f kj2 a0 a1_0 a1_1 false false a1_4).bind fun t249 => (if t249 = true then ((impl_Sentences.f a0 a1_0 a1_1 false false a1_4 ([] : List Int)).bind fun bt250 => (laws_FnSentencesJoin.l0 kj2 a0 bt250.1 bt250.2 bt250.1 (bt250.1.length : Int) 0 a1_0 a1_1 false false a1_4)) else (some true))) else (some false))) = some r := by rw [if_neg (show ¬ (false = true) by decide)] at H; exact H
        clear H
        have H := H1
        clear H1
        replace H := Option.bind_eq_some_iff.mp H
        obtain ⟨t248, A100, H⟩ := H
        replace H : (if t248 = true then ((laws_calm.f kj2 a0 a1_0 a1_1 false false a1_4).bind fun t249 => (if t249 = true then ((impl_Sentences.f a0 a1_0 a1_1 false false a1_4 ([] : List Int)).bind fun bt250 => (laws_FnSentencesJoin.l0 kj2 a0 bt250.1 bt250.2 bt250.1 (bt250.1.length : Int) 0 a1_0 a1_1 false false a1_4)) else (some true))) else (some false)) = some r := H
        have A10 := Aside0.mk A100
        clear A100
        by_cases c11 : t248 = true
        · subst c11
          have H1 : ((laws_calm.f kj2 a0 a1_0 a1_1 false false a1_4).bind fun t249 => (if t249 = true then ((impl_Sentences.f a0 a1_0 a1_1 false false a1_4 ([] : List Int)).bind fun bt250 => (laws_FnSentencesJoin.l0 kj2 a0 bt250.1 bt250.2 bt250.1 (bt250.1.length : Int) 0 a1_0 a1_1 false false a1_4)) else (some true))) = some r := by rw [if_pos rfl] at H; exact H
          clear H
          have H := H1
          clear H1
          replace H := Option.bind_eq_some_iff.mp H
          obtain ⟨t249, A120, H⟩ := H
          replace H : (if t249 = true then ((impl_Sentences.f a0 a1_0 a1_1 false false a1_4 ([] : List Int)).bind fun bt250 => (laws_FnSentencesJoin.l0 kj2 a0 bt250.1 bt250.2 bt250.1 (bt250.1.length : Int) 0 a1_0 a1_1 false false a1_4)) else (some true)) = some r := H
          have A12 := Aside0.mk A120
          clear A120
          by_cases c13 : t249 = true
          · subst c13
            have H1 : ((impl_Sentences.f a0 a1_0 a1_1 false false a1_4 ([] : List Int)).bind fun bt250 => (laws_FnSentencesJoin.l0 kj2 a0 bt250.1 bt250.2 bt250.1 (bt250.1.length : Int) 0 a1_0 a1_1 false false a1_4)) = some r := by rw [if_pos rfl] at H; exact H
            clear H
            have H := H1
            clear H1
            replace H := Option.bind_eq_some_iff.mp H
            obtain ⟨⟨t250, t253⟩, A140, H⟩ := H
            replace H : (laws_FnSentencesJoin.l0 kj2 a0 t250 t253 t250 (t250.length : Int) 0 a1_0 a1_1 false false a1_4) = some r := H
            have A14 := Aside0.mk A140
            clear A140
            have H' := Aside0.mk H
            clear H
            go_wp2_with (first | ((with_reducible refine gate_callee (f := 19) rfl ?_); refine goesL_ (some 17) rfl rfl Tryd.func19 (by kernel_rfl) rfl #[] rfl (by (try simp only [List.map_toArray, List.map_cons, List.map_nil]); first | done | rfl | (simp only [List.length_drop, List.length_take]; rfl)) ?_; (with_reducible refine (laws_splits.calls kj2  true _ (HT_.out _ (by repeat (first | (with_reducible first | exact HB.out | apply below_alloc | apply pw_below_drewN | apply below_drew1) | exact HB.out))) A10.out).mono ?_); rintro e w15 ⟨rfl, hb⟩; refine ⟨_, rfl, ?_⟩; have n0_ := Aside0.mk (blk_below (g := gb246) (o := .cells #[.string a1_0, .string a1_1, .bool a1_2, .bool a1_3, .int .i64 a1_4] 23 (0, 0)) (by (with_reducible repeat (first | refine blk_drewN ?_ _ | refine blk_drew ?_ | refine blk_alloc ?_ _)); exact BK246.out) hb); have n1_ := Aside0.mk (below_step (by repeat (first | (with_reducible first | exact HB.out | apply below_alloc | apply pw_below_drewN | apply below_drew1 | refine below_set ?_ GE246.out) | exact HB.out)) hb); clear BK246; clear HB; have BK246 := n0_; have HB := n1_; clear n0_ n1_; (try clear hb); (try clear hb2); (try clear hk); (try clear hi); have hcz16_0 : w15.cell? ⟨gb246, 0, none⟩ = some (.string a1_0) := (blk_cell BK246.out 0).trans rfl; have hcz16_1 : w15.cell? ⟨gb246, 1, none⟩ = some (.string a1_1) := (blk_cell BK246.out 1).trans rfl; have hcz16_2 : w15.cell? ⟨gb246, 2, none⟩ = some (.bool a1_2) := (blk_cell BK246.out 2).trans rfl; have hcz16_3 : w15.cell? ⟨gb246, 3, none⟩ = some (.bool a1_3) := (blk_cell BK246.out 3).trans rfl; have hcz16_4 : w15.cell? ⟨gb246, 4, none⟩ = some (.int .i64 a1_4) := (blk_cell BK246.out 4).trans rfl; have hfz16_0 := blk_frozen BK246.out 0; have hfz16_1 := blk_frozen BK246.out 1; have hfz16_2 := blk_frozen BK246.out 2; have hfz16_3 := blk_frozen BK246.out 3; have hfz16_4 := blk_frozen BK246.out 4) | ((with_reducible refine gate_callee (f := 10) rfl ?_); refine goesL_ (some 23) rfl rfl Tryd.func10 (by kernel_rfl) rfl #[.string a0, .agg #[.string a1_0, .string a1_1, .bool false, .bool false, .int .i64 a1_4]] rfl (by (try simp only [List.map_toArray, List.map_cons, List.map_nil]); first | done | rfl | (simp only [List.length_drop, List.length_take]; rfl)) ?_; (with_reducible refine (laws_calm.calls kj2 a0 a1_0 a1_1 false false a1_4 true _ A12.out).mono ?_); rintro e w17 ⟨rfl, hb⟩; refine ⟨_, rfl, ?_⟩; have n0_ := Aside0.mk (blk_below (g := gb246) (o := .cells #[.string a1_0, .string a1_1, .bool false, .bool false, .int .i64 a1_4] 23 (0, 0)) (by (with_reducible repeat (first | refine blk_drewN ?_ _ | refine blk_drew ?_ | refine blk_alloc ?_ _)); refine blk_put (cs := #[.string a1_0, .string a1_1, .bool false, .bool a1_3, .int .i64 a1_4]) ?_ 3 _ rfl; (with_reducible repeat (first | refine blk_drewN ?_ _ | refine blk_drew ?_ | refine blk_alloc ?_ _)); refine blk_put (cs := #[.string a1_0, .string a1_1, .bool a1_2, .bool a1_3, .int .i64 a1_4]) ?_ 2 _ rfl; (with_reducible repeat (first | refine blk_drewN ?_ _ | refine blk_drew ?_ | refine blk_alloc ?_ _)); exact BK246.out) hb); have n1_ := Aside0.mk (below_step (by repeat (first | (with_reducible first | exact HB.out | apply below_alloc | apply pw_below_drewN | apply below_drew1 | refine below_set ?_ GE246.out) | exact HB.out)) hb); clear BK246; clear HB; have BK246 := n0_; have HB := n1_; clear n0_ n1_; (try clear hb); (try clear hb2); (try clear hk); (try clear hi); have hcz18_0 : w17.cell? ⟨gb246, 0, none⟩ = some (.string a1_0) := (blk_cell BK246.out 0).trans rfl; have hcz18_1 : w17.cell? ⟨gb246, 1, none⟩ = some (.string a1_1) := (blk_cell BK246.out 1).trans rfl; have hcz18_2 : w17.cell? ⟨gb246, 2, none⟩ = some (.bool false) := (blk_cell BK246.out 2).trans rfl; have hcz18_3 : w17.cell? ⟨gb246, 3, none⟩ = some (.bool false) := (blk_cell BK246.out 3).trans rfl; have hcz18_4 : w17.cell? ⟨gb246, 4, none⟩ = some (.int .i64 a1_4) := (blk_cell BK246.out 4).trans rfl; have hfz18_0 := blk_frozen BK246.out 0; have hfz18_1 := blk_frozen BK246.out 1; have hfz18_2 := blk_frozen BK246.out 2; have hfz18_3 := blk_frozen BK246.out 3; have hfz18_4 := blk_frozen BK246.out 4) | ((with_reducible refine gate_callee (f := 20) rfl ?_); refine goesL_ (some 28) rfl rfl Tryd.func20 (by kernel_rfl) rfl #[.string a0, .agg #[.string a1_0, .string a1_1, .bool false, .bool false, .int .i64 a1_4], .slice none 0 0] rfl (by (try simp only [List.map_toArray, List.map_cons, List.map_nil]); first | done | rfl | (simp only [List.length_drop, List.length_take]; rfl)) ?_; (refine (impl_Sentences.calls a0 a1_0 a1_1 false false a1_4 none 0 ([] : List Int) t250 t253 _ ?side1 ?side2 (HT_.out _ (by repeat (first | (with_reducible first | exact HB.out | apply below_alloc | apply pw_below_drewN | apply below_drew1) | exact HB.out))) A14.out).mono ?_); (case side1 => exact Kd.C_nil _ _); (case side2 => exact Nat.le_refl _); rintro e w19 ⟨v251, rfl, ho0, hb⟩; refine ⟨_, rfl, ?_⟩; have n0_ := Aside0.mk (Kd.R_lower ho0 (below_size (by repeat (first | (with_reducible first | exact HB.out | apply below_alloc | apply pw_below_drewN | apply below_drew1 | refine below_set ?_ GE246.out) | exact HB.out)))); have n1_ := Aside0.mk (blk_below (g := gb246) (o := .cells #[.string a1_0, .string a1_1, .bool false, .bool false, .int .i64 a1_4] 23 (0, 0)) (by (with_reducible repeat (first | refine blk_drewN ?_ _ | refine blk_drew ?_ | refine blk_alloc ?_ _)); exact BK246.out) hb); have n2_ := Aside0.mk (below_step (by repeat (first | (with_reducible first | exact HB.out | apply below_alloc | apply pw_below_drewN | apply below_drew1 | refine below_set ?_ GE246.out) | exact HB.out)) hb); clear BK246; clear HB; have HO252 := n0_; have BK246 := n1_; have HB := n2_; clear n0_ n1_ n2_; (try clear hb); (try clear hb2); (try clear hk); (try clear hi); (try clear ho0); obtain ⟨Ao20, co20, eo20⟩ := Kd.R_slice HO252.out; subst eo20))
            go_loopg [33] kj2 (fun kq v33 w' => ∃ (x33_2 : Int), v33 = .int .i64 x33_2 ∧ Aside0 (laws_FnSentencesJoin.l0 kq a0 t250 t253 t250 (t250.length : Int) x33_2 a1_0 a1_1 false false a1_4 = some r) ∧ Aside0 (kq ≤ kj2) ∧ Aside0 (Kd.R Kd.string 9 w' w.heap.size (fun _ => True) (.slice Ao20 t250.length co20) t250) ∧ Aside0 (Kd.R Kd.string 9 w' w.heap.size (fun _ => True) (.slice Ao20 t250.length co20) t250) ∧ Aside0 (w'.heap[gb246]? = some (.cells #[.string a1_0, .string a1_1, .bool false, .bool false, .int .i64 a1_4] 23 (0, 0))) ∧ Aside0 (Below w.heap.size w w'))
            case atStart => exact ⟨(0), (by first | rfl | (simp; done) | (simp [*]; done)), H', ⟨Nat.le_refl _⟩, ⟨by (with_reducible repeat (first | apply Kd.R_alloc | apply Kd.R_drewN | apply Kd.R_drew)); exact HO252.out⟩, ⟨by (with_reducible repeat (first | apply Kd.R_alloc | apply Kd.R_drewN | apply Kd.R_drew)); exact HO252.out⟩, ⟨by (with_reducible repeat (first | refine blk_drewN ?_ _ | refine blk_drew ?_ | refine blk_alloc ?_ _)); exact BK246.out⟩, ⟨by repeat (first | (with_reducible first | exact HB.out | apply below_alloc | apply pw_below_drewN | apply below_drew1 | refine below_set ?_ GE246.out) | exact HB.out)⟩⟩
            case round =>
              clear H'
              try clear c1
              try clear c2
              try clear p2
              try clear c5
              try clear c5b0
              try clear c5b1
              try clear c6
              try clear c9
              try clear c10
              try clear c11
              try clear c13
              try clear c19
              try clear c20
              try clear hcz16_0
              try clear hcz16_1
              try clear hcz16_2
              try clear hcz16_3
              try clear hcz16_4
              try clear hcz18_0
              try clear hcz18_1
              try clear hcz18_2
              try clear hcz18_3
              try clear hcz18_4
              try clear hcz7_0
              try clear hcz7_1
              try clear hcz7_2
              try clear hcz7_3
              try clear hcz7_4
              try clear hfz16_0
              try clear hfz16_1
              try clear hfz16_2
              try clear hfz16_3
              try clear hfz16_4
              try clear hfz18_0
              try clear hfz18_1
              try clear hfz18_2
              try clear hfz18_3
              try clear hfz18_4
              try clear hfz7_0
              try clear hfz7_1
              try clear hfz7_2
              try clear hfz7_3
              try clear hfz7_4
              try clear p2
              obtain ⟨x33_2, rfl, HA, HK2, HO_5, HO_31, BK246, HB⟩ := hrel
              cases gk with
              | zero => exact absurd HA.out (by simp [laws_FnSentencesJoin.l0])
              | succ k2 =>
                have H := HA.out
                clear HA
                simp only [laws_FnSentencesJoin.l0] at H
                by_cases c21 : x33_2 < (t250.length : Int)
                · rw [if_pos c21] at H
                  have c21b0 : decide (x33_2 < (t250.length : Int)) = true := decide_eq_true c21
                  clear c21
                  by_cases c22 : 0 ≤ x33_2
                  · rw [if_pos c22] at H
                    have c22b0 : decide (0 ≤ x33_2) = true := decide_eq_true c22
                    clear c22
                    by_cases c23 : x33_2 < (t250.length : Int)
                    · rw [if_pos c23] at H
                      have c23b0 : decide (x33_2 < (t250.length : Int)) = true := decide_eq_true c23
                      clear c23
                      by_cases c24 : (rdOf ByteArray.empty t250 x33_2).toList = ([] : List UInt8)
                      · rw [if_pos c24] at H
                        have c24b0 : ((rdOf ByteArray.empty t250 x33_2).toList == ([] : List UInt8)) = true := beq_iff_eq.mpr c24
                        have c24b1 : ((rdOf ByteArray.empty t250 x33_2).toList != ([] : List UInt8)) = false := bne_eq_false_iff_eq.mpr c24
                        clear c24
                        obtain rfl := Option.some.inj H
                        have p254 : 0 ≤ (x33_2 : Int) := of_decide_eq_true (by first | (with_reducible assumption) | assumption)
                        have q254 : x33_2 < (t250.length : Int) := of_decide_eq_true (by first | (with_reducible assumption) | assumption)
                        obtain ⟨ad254, e254, hx254_0⟩ := Kd.at_string (Kd.R_reads' HO_31.out).2.2 x33_2 p254 q254
                        cases e254
                        replace p254 := eq_true p254
                        replace q254 := eq_true q254
                        try go_wp2
                        have n0_ := Aside0.mk (Kd.R_drew HO_5.out)
                        have n1_ := Aside0.mk (Kd.R_drew HO_31.out)
                        have n2_ := Aside0.mk (blk_drew BK246.out)
                        have n3_ := Aside0.mk (below_drew1 HB.out)
                        clear HO_5
                        clear HO_31
                        clear BK246
                        clear HB
                        have HO_5 := n0_
                        have HO_31 := n1_
                        have BK246 := n2_
                        have HB := n3_
                        clear n0_ n1_ n2_ n3_
                        refine start_ (n := 10) (S := fun w' => True) (ds := []) #[false, false, false, false, false, false, false, false, false, false] (by kernel_rfl) rfl rfl trivial (fun hHeld => ?_); refine with_tabW laws_FnSentencesJoin.tab12 laws_FnSentencesJoin.bits12 (fun HT_ HW_ => ?_)
                        generalize wr.drew = w25 at HO_5 HO_31 BK246 HB hHeld ⊢
                        refine pure_ (i := 0) (N := some 37) (v := ?_) (a' := ?_) #[true, false, false, false, false, false, false, false, false, false] rfl rfl (any_of HT_.out (by kernel_rfl)) (fun _ _ _ h => h) (Or.inl ⟨by rfl, ?_⟩) ?_ ?_
                        rotate_left
                        · intro w'
                          go_simp
                          with_reducible rfl
                        rotate_left
                        · simp only [Act.put, List.setIfInBounds_toArray, List.set_cons_zero, List.set_cons_succ, i64_w, i32_w]
                          rfl
                        refine pure_ (i := 1) (N := some 38) (v := ?_) (a' := ?_) #[true, true, false, false, false, false, false, false, false, false] rfl rfl (any_of HT_.out (by kernel_rfl)) (fun _ _ _ h => h) (Or.inl ⟨by rfl, ?_⟩) ?_ ?_
                        rotate_left
                        · intro w'
                          go_simp
                          with_reducible rfl
                        rotate_left
                        · simp only [Act.put, List.setIfInBounds_toArray, List.set_cons_zero, List.set_cons_succ, i64_w, i32_w]
                          rfl
                        refine pure_ (i := 2) (N := some 39) (v := ?_) (a' := ?_) #[true, true, true, false, false, false, false, false, false, false] rfl rfl (any_of HT_.out (by kernel_rfl)) (fun _ _ _ h => h) (Or.inl ⟨by rfl, ?_⟩) ?_ ?_
                        rotate_left
                        · intro w'
                          go_simp
                          with_reducible rfl
                        rotate_left
                        · simp only [Act.put, List.setIfInBounds_toArray, List.set_cons_zero, List.set_cons_succ, i64_w, i32_w]
                          rfl
                        refine pure_ (i := 3) (N := some 40) (v := undef) (a' := ?_) #[true, true, true, true, false, false, false, false, false, false] rfl rfl (any_of HT_.out (by kernel_rfl)) (fun _ _ _ h => h) (Or.inr ⟨by rfl, rfl⟩) ?_ ?_
                        rotate_left
                        · simp only [Act.put, List.setIfInBounds_toArray, List.set_cons_zero, List.set_cons_succ, i64_w, i32_w]
                          rfl
                        refine pure_ (i := 4) (N := some 41) (v := undef) (a' := ?_) #[true, true, true, true, true, false, false, false, false, false] rfl rfl (any_of HT_.out (by kernel_rfl)) (fun _ _ _ h => h) (Or.inr ⟨by rfl, rfl⟩) ?_ ?_
                        rotate_left
                        · simp only [Act.put, List.setIfInBounds_toArray, List.set_cons_zero, List.set_cons_succ, i64_w, i32_w]
                          rfl
                        refine pure_ (i := 5) (N := some 42) (v := undef) (a' := ?_) #[true, true, true, true, true, true, false, false, false, false] rfl rfl (any_of HT_.out (by kernel_rfl)) (fun _ _ _ h => h) (Or.inr ⟨by rfl, rfl⟩) ?_ ?_
                        rotate_left
                        · simp only [Act.put, List.setIfInBounds_toArray, List.set_cons_zero, List.set_cons_succ, i64_w, i32_w]
                          rfl
                        refine pure_ (i := 6) (N := some 43) (v := undef) (a' := ?_) #[true, true, true, true, true, true, true, false, false, false] rfl rfl (any_of HT_.out (by kernel_rfl)) (fun _ _ _ h => h) (Or.inr ⟨by rfl, rfl⟩) ?_ ?_
                        rotate_left
                        · simp only [Act.put, List.setIfInBounds_toArray, List.set_cons_zero, List.set_cons_succ, i64_w, i32_w]
                          rfl
                        refine pure_ (i := 7) (N := some 44) (v := undef) (a' := ?_) #[true, true, true, true, true, true, true, true, false, false] rfl rfl (any_of HT_.out (by kernel_rfl)) (fun _ _ _ h => h) (Or.inr ⟨by rfl, rfl⟩) ?_ ?_
                        rotate_left
                        · simp only [Act.put, List.setIfInBounds_toArray, List.set_cons_zero, List.set_cons_succ, i64_w, i32_w]
                          rfl
                        refine pure_ (i := 8) (N := some 45) (v := undef) (a' := ?_) #[true, true, true, true, true, true, true, true, true, false] rfl rfl (any_of HT_.out (by kernel_rfl)) (fun _ _ _ h => h) (Or.inr ⟨by rfl, rfl⟩) ?_ ?_
                        rotate_left
                        · simp only [Act.put, List.setIfInBounds_toArray, List.set_cons_zero, List.set_cons_succ, i64_w, i32_w]
                          rfl
                        refine pure_ (i := 9) (N := some 46) (v := ?_) (a' := ?_) #[true, true, true, true, true, true, true, true, true, true] rfl rfl (any_of HT_.out (by kernel_rfl)) (fun _ _ _ h => h) (Or.inl ⟨by rfl, ?_⟩) ?_ ?_
                        rotate_left
                        · intro w'
                          go_simp
                          with_reducible rfl
                        rotate_left
                        · simp only [Act.put, List.setIfInBounds_toArray, List.set_cons_zero, List.set_cons_succ, i64_w, i32_w]
                          rfl
                        refine done_ (done_of HT_.out (by kernel_rfl)) ?_
                        try go_wp2
                        go_ret
                        exact ⟨by first | rfl | (simp [errW_none, errW_some] <;> rfl) | (simp [*, errW_none, errW_some] <;> rfl), by repeat (first | (with_reducible first | exact HB.out | apply below_alloc | apply pw_below_drewN | apply below_drew1 | refine below_set ?_ GE246.out) | exact HB.out)⟩
                      · rw [if_neg c24] at H
                        have c24b0 : ((rdOf ByteArray.empty t250 x33_2).toList == ([] : List UInt8)) = false := beq_eq_false_iff_ne.mpr c24
                        have c24b1 : ((rdOf ByteArray.empty t250 x33_2).toList != ([] : List UInt8)) = true := bne_iff_ne.mpr c24
                        replace H := Option.bind_eq_some_iff.mp H
                        obtain ⟨t255, A260, H⟩ := H
                        replace H : (if t255 > a1_4 then (some false) else (laws_FnSentencesJoin.l0 k2 a0 t250 t253 t250 (t250.length : Int) (wrap64 (x33_2 + 1)) a1_0 a1_1 false false a1_4)) = some r := H
                        have A26 := Aside0.mk A260
                        clear A260
                        by_cases c27 : t255 > a1_4
                        · rw [if_pos c27] at H
                          have c27b0 : decide (a1_4 < t255) = true := decide_eq_true c27
                          clear c27
                          obtain rfl := Option.some.inj H
                          have p254 : 0 ≤ (x33_2 : Int) := of_decide_eq_true (by first | (with_reducible assumption) | assumption)
                          have q254 : x33_2 < (t250.length : Int) := of_decide_eq_true (by first | (with_reducible assumption) | assumption)
                          obtain ⟨ad254, e254, hx254_0⟩ := Kd.at_string (Kd.R_reads' HO_31.out).2.2 x33_2 p254 q254
                          cases e254
                          replace p254 := eq_true p254
                          replace q254 := eq_true q254
                          try go_wp2
                          have n0_ := Aside0.mk (Kd.R_drew HO_5.out)
                          have n1_ := Aside0.mk (Kd.R_drew HO_31.out)
                          have n2_ := Aside0.mk (blk_drew BK246.out)
                          have n3_ := Aside0.mk (below_drew1 HB.out)
                          clear HO_5
                          clear HO_31
                          clear BK246
                          clear HB
                          have HO_5 := n0_
                          have HO_31 := n1_
                          have BK246 := n2_
                          have HB := n3_
                          clear n0_ n1_ n2_ n3_
                          refine start_ (n := 10) (S := fun w' => w'.cell? ⟨gb246, 0, none⟩ = some (.string a1_0) ∧ w'.cell? ⟨gb246, 1, none⟩ = some (.string a1_1) ∧ w'.cell? ⟨gb246, 2, none⟩ = some (.bool false) ∧ w'.cell? ⟨gb246, 3, none⟩ = some (.bool false) ∧ w'.cell? ⟨gb246, 4, none⟩ = some (.int .i64 a1_4)) (ds := []) #[false, false, false, false, false, false, false, false, false, false] (by kernel_rfl) rfl rfl ⟨(blk_cell BK246.out 0).trans rfl, (blk_cell BK246.out 1).trans rfl, (blk_cell BK246.out 2).trans rfl, (blk_cell BK246.out 3).trans rfl, (blk_cell BK246.out 4).trans rfl⟩ (fun hHeld => ?_); refine with_tabW laws_FnSentencesJoin.tab12 laws_FnSentencesJoin.bits12 (fun HT_ HW_ => ?_)
                          generalize wr.drew = w28 at HO_5 HO_31 BK246 HB hHeld ⊢
                          refine pure_ (i := 0) (N := some 37) (v := ?_) (a' := ?_) #[true, false, false, false, false, false, false, false, false, false] rfl rfl (any_of HT_.out (by kernel_rfl)) (fun _ _ _ h => h) (Or.inl ⟨by rfl, ?_⟩) ?_ ?_
                          rotate_left
                          · intro w'
                            go_simp
                            with_reducible rfl
                          rotate_left
                          · simp only [Act.put, List.setIfInBounds_toArray, List.set_cons_zero, List.set_cons_succ, i64_w, i32_w]
                            rfl
                          refine pure_ (i := 1) (N := some 38) (v := ?_) (a' := ?_) #[true, true, false, false, false, false, false, false, false, false] rfl rfl (any_of HT_.out (by kernel_rfl)) (fun _ _ _ h => h) (Or.inl ⟨by rfl, ?_⟩) ?_ ?_
                          rotate_left
                          · intro w'
                            go_simp
                            with_reducible rfl
                          rotate_left
                          · simp only [Act.put, List.setIfInBounds_toArray, List.set_cons_zero, List.set_cons_succ, i64_w, i32_w]
                            rfl
                          refine pure_ (i := 2) (N := some 39) (v := ?_) (a' := ?_) #[true, true, true, false, false, false, false, false, false, false] rfl rfl (any_of HT_.out (by kernel_rfl)) (fun _ _ _ h => h) (Or.inl ⟨by rfl, ?_⟩) ?_ ?_
                          rotate_left
                          · intro w'
                            go_simp
                            with_reducible rfl
                          rotate_left
                          · simp only [Act.put, List.setIfInBounds_toArray, List.set_cons_zero, List.set_cons_succ, i64_w, i32_w]
                            rfl
                          refine pure_ (i := 3) (N := some 40) (v := ?_) (a' := ?_) #[true, true, true, true, false, false, false, false, false, false] rfl rfl (any_of HT_.out (by kernel_rfl)) (fun _ _ _ h => h) (Or.inl ⟨by rfl, ?_⟩) ?_ ?_
                          rotate_left
                          · intro w'
                            go_simp
                            with_reducible rfl
                          rotate_left
                          · simp only [Act.put, List.setIfInBounds_toArray, List.set_cons_zero, List.set_cons_succ, i64_w, i32_w]
                            rfl
                          refine pure_ (i := 6) (N := some 43) (v := ?_) (a' := ?_) #[true, true, true, true, false, false, true, false, false, false] rfl rfl (any_of HT_.out (by kernel_rfl)) (fun _ _ _ h => h) (Or.inl ⟨by rfl, ?_⟩) ?_ ?_
                          rotate_left
                          · intro w'
                            go_simp
                            with_reducible rfl
                          rotate_left
                          · simp only [Act.put, List.setIfInBounds_toArray, List.set_cons_zero, List.set_cons_succ, i64_w, i32_w]
                            rfl
                          refine take_ (i := 4) (N := some 41) (v := ?_) (a' := ?_) #[true, true, true, true, true, false, true, false, false, false] rfl rfl (take_ofW HT_.out HW_.out (by kernel_rfl)) (fun _ _ _ h => h) (Or.inl ⟨by rfl, ?_⟩) hHeld ?_ ?_
                          rotate_left
                          · rintro w' ⟨s0, s1, s2, s3, s4⟩
                            go_simp
                            with_reducible rfl
                          rotate_left
                          · simp only [Act.put, List.setIfInBounds_toArray, List.set_cons_zero, List.set_cons_succ, i64_w, i32_w]
                            rfl
                          refine take_ (i := 7) (N := some 44) (v := ?_) (a' := ?_) #[true, true, true, true, true, false, true, true, false, false] rfl rfl (take_ofW HT_.out HW_.out (by kernel_rfl)) (fun _ _ _ h => h) (Or.inl ⟨by rfl, ?_⟩) hHeld ?_ ?_
                          rotate_left
                          · rintro w' ⟨s0, s1, s2, s3, s4⟩
                            go_simp
                            with_reducible rfl
                          rotate_left
                          · simp only [Act.put, List.setIfInBounds_toArray, List.set_cons_zero, List.set_cons_succ, i64_w, i32_w]
                            rfl
                          refine one_ (i := 5) (N := some 42) #[true, true, true, true, true, true, true, true, false, false] rfl rfl (one_of HT_.out (by kernel_rfl)) (by decide) (fun K hK => ?_)
                          refine goes_ Tryd.func22 (by kernel_rfl) rfl #[.string (rdOf ByteArray.empty t250 x33_2), .agg #[.string a1_0, .string a1_1, .bool false, .bool false, .int .i64 a1_4]] (by rfl) rfl rfl (by (try simp only [List.map_toArray, List.map_cons, List.map_nil]); first | done | rfl | (simp only [List.length_drop, List.length_take]; rfl)) ?_
                          with_reducible refine (laws_body.calls k2 (rdOf ByteArray.empty t250 x33_2) a1_0 a1_1 false false a1_4 t255 _ A26.out).mono ?_
                          rintro e w29 ⟨rfl, hb⟩
                          refine ⟨_, rfl, ?_⟩
                          have n0_ := Aside0.mk (Kd.R_below (by (with_reducible repeat (first | apply Kd.R_alloc | apply Kd.R_drewN | apply Kd.R_drew)); exact HO_5.out) hb)
                          have n1_ := Aside0.mk (Kd.R_below (by (with_reducible repeat (first | apply Kd.R_alloc | apply Kd.R_drewN | apply Kd.R_drew)); exact HO_31.out) hb)
                          have n2_ := Aside0.mk (blk_below (g := gb246) (o := .cells #[.string a1_0, .string a1_1, .bool false, .bool false, .int .i64 a1_4] 23 (0, 0)) (by (with_reducible repeat (first | refine blk_drewN ?_ _ | refine blk_drew ?_ | refine blk_alloc ?_ _)); exact BK246.out) hb)
                          have n3_ := Aside0.mk (below_step (by repeat (first | (with_reducible first | exact HB.out | apply below_alloc | apply pw_below_drewN | apply below_drew1 | refine below_set ?_ GE246.out) | exact HB.out)) hb)
                          clear HO_5
                          clear HO_31
                          clear BK246
                          clear HB
                          have HO_5 := n0_
                          have HO_31 := n1_
                          have BK246 := n2_
                          have HB := n3_
                          clear n0_ n1_ n2_ n3_
                          (try clear hb)
                          (try clear hb2)
                          (try clear hk)
                          (try clear hi)
                          refine hK.out _ _ ⟨(blk_cell BK246.out 0).trans rfl, (blk_cell BK246.out 1).trans rfl, (blk_cell BK246.out 2).trans rfl, (blk_cell BK246.out 3).trans rfl, (blk_cell BK246.out 4).trans rfl⟩ (fun hHeld => ?_)
                          clear hK K
                          refine norm_ (a' := ?_) ?_ ?_
                          rotate_left
                          · show Act.put _ (some 42) _ = _
                            simp only [Act.put, List.setIfInBounds_toArray, List.set_cons_zero, List.set_cons_succ, i64_w, i32_w]
                            rfl
                          refine pure_ (i := 8) (N := some 45) (v := ?_) (a' := ?_) #[true, true, true, true, true, true, true, true, true, false] rfl rfl (any_of HT_.out (by kernel_rfl)) (fun _ _ _ h => h) (Or.inl ⟨by rfl, ?_⟩) ?_ ?_
                          rotate_left
                          · intro w'
                            go_simp
                            with_reducible rfl
                          rotate_left
                          · simp only [Act.put, List.setIfInBounds_toArray, List.set_cons_zero, List.set_cons_succ, i64_w, i32_w]
                            rfl
                          refine pure_ (i := 9) (N := some 46) (v := ?_) (a' := ?_) #[true, true, true, true, true, true, true, true, true, true] rfl rfl (any_of HT_.out (by kernel_rfl)) (fun _ _ _ h => h) (Or.inl ⟨by rfl, ?_⟩) ?_ ?_
                          rotate_left
                          · intro w'
                            go_simp
                            with_reducible rfl
                          rotate_left
                          · simp only [Act.put, List.setIfInBounds_toArray, List.set_cons_zero, List.set_cons_succ, i64_w, i32_w]
                            rfl
                          refine done_ (done_of HT_.out (by kernel_rfl)) ?_
                          try go_wp2
                          go_ret
                          exact ⟨by first | rfl | (simp [errW_none, errW_some] <;> rfl) | (simp [*, errW_none, errW_some] <;> rfl), by repeat (first | (with_reducible first | exact HB.out | apply below_alloc | apply pw_below_drewN | apply below_drew1 | refine below_set ?_ GE246.out) | exact HB.out)⟩
                        · rw [if_neg c27] at H
                          have c27b0 : decide (a1_4 < t255) = false := decide_eq_false c27
                          clear c27
                          have H' := Aside0.mk H
                          clear H
                          have p254 : 0 ≤ (x33_2 : Int) := of_decide_eq_true (by first | (with_reducible assumption) | assumption)
                          have q254 : x33_2 < (t250.length : Int) := of_decide_eq_true (by first | (with_reducible assumption) | assumption)
                          obtain ⟨ad254, e254, hx254_0⟩ := Kd.at_string (Kd.R_reads' HO_31.out).2.2 x33_2 p254 q254
                          cases e254
                          replace p254 := eq_true p254
                          replace q254 := eq_true q254
                          try go_wp2
                          have n0_ := Aside0.mk (Kd.R_drew HO_5.out)
                          have n1_ := Aside0.mk (Kd.R_drew HO_31.out)
                          have n2_ := Aside0.mk (blk_drew BK246.out)
                          have n3_ := Aside0.mk (below_drew1 HB.out)
                          clear HO_5
                          clear HO_31
                          clear BK246
                          clear HB
                          have HO_5 := n0_
                          have HO_31 := n1_
                          have BK246 := n2_
                          have HB := n3_
                          clear n0_ n1_ n2_ n3_
                          refine start_ (n := 10) (S := fun w' => w'.cell? ⟨gb246, 0, none⟩ = some (.string a1_0) ∧ w'.cell? ⟨gb246, 1, none⟩ = some (.string a1_1) ∧ w'.cell? ⟨gb246, 2, none⟩ = some (.bool false) ∧ w'.cell? ⟨gb246, 3, none⟩ = some (.bool false) ∧ w'.cell? ⟨gb246, 4, none⟩ = some (.int .i64 a1_4)) (ds := []) #[false, false, false, false, false, false, false, false, false, false] (by kernel_rfl) rfl rfl ⟨(blk_cell BK246.out 0).trans rfl, (blk_cell BK246.out 1).trans rfl, (blk_cell BK246.out 2).trans rfl, (blk_cell BK246.out 3).trans rfl, (blk_cell BK246.out 4).trans rfl⟩ (fun hHeld => ?_); refine with_tabW laws_FnSentencesJoin.tab12 laws_FnSentencesJoin.bits12 (fun HT_ HW_ => ?_)
                          generalize wr.drew = w30 at HO_5 HO_31 BK246 HB hHeld ⊢
                          refine pure_ (i := 0) (N := some 37) (v := ?_) (a' := ?_) #[true, false, false, false, false, false, false, false, false, false] rfl rfl (any_of HT_.out (by kernel_rfl)) (fun _ _ _ h => h) (Or.inl ⟨by rfl, ?_⟩) ?_ ?_
                          rotate_left
                          · intro w'
                            go_simp
                            with_reducible rfl
                          rotate_left
                          · simp only [Act.put, List.setIfInBounds_toArray, List.set_cons_zero, List.set_cons_succ, i64_w, i32_w]
                            rfl
                          refine pure_ (i := 1) (N := some 38) (v := ?_) (a' := ?_) #[true, true, false, false, false, false, false, false, false, false] rfl rfl (any_of HT_.out (by kernel_rfl)) (fun _ _ _ h => h) (Or.inl ⟨by rfl, ?_⟩) ?_ ?_
                          rotate_left
                          · intro w'
                            go_simp
                            with_reducible rfl
                          rotate_left
                          · simp only [Act.put, List.setIfInBounds_toArray, List.set_cons_zero, List.set_cons_succ, i64_w, i32_w]
                            rfl
                          refine pure_ (i := 2) (N := some 39) (v := ?_) (a' := ?_) #[true, true, true, false, false, false, false, false, false, false] rfl rfl (any_of HT_.out (by kernel_rfl)) (fun _ _ _ h => h) (Or.inl ⟨by rfl, ?_⟩) ?_ ?_
                          rotate_left
                          · intro w'
                            go_simp
                            with_reducible rfl
                          rotate_left
                          · simp only [Act.put, List.setIfInBounds_toArray, List.set_cons_zero, List.set_cons_succ, i64_w, i32_w]
                            rfl
                          refine pure_ (i := 3) (N := some 40) (v := ?_) (a' := ?_) #[true, true, true, true, false, false, false, false, false, false] rfl rfl (any_of HT_.out (by kernel_rfl)) (fun _ _ _ h => h) (Or.inl ⟨by rfl, ?_⟩) ?_ ?_
                          rotate_left
                          · intro w'
                            go_simp
                            with_reducible rfl
                          rotate_left
                          · simp only [Act.put, List.setIfInBounds_toArray, List.set_cons_zero, List.set_cons_succ, i64_w, i32_w]
                            rfl
                          refine pure_ (i := 6) (N := some 43) (v := ?_) (a' := ?_) #[true, true, true, true, false, false, true, false, false, false] rfl rfl (any_of HT_.out (by kernel_rfl)) (fun _ _ _ h => h) (Or.inl ⟨by rfl, ?_⟩) ?_ ?_
                          rotate_left
                          · intro w'
                            go_simp
                            with_reducible rfl
                          rotate_left
                          · simp only [Act.put, List.setIfInBounds_toArray, List.set_cons_zero, List.set_cons_succ, i64_w, i32_w]
                            rfl
                          refine take_ (i := 4) (N := some 41) (v := ?_) (a' := ?_) #[true, true, true, true, true, false, true, false, false, false] rfl rfl (take_ofW HT_.out HW_.out (by kernel_rfl)) (fun _ _ _ h => h) (Or.inl ⟨by rfl, ?_⟩) hHeld ?_ ?_
                          rotate_left
                          · rintro w' ⟨s0, s1, s2, s3, s4⟩
                            go_simp
                            with_reducible rfl
                          rotate_left
                          · simp only [Act.put, List.setIfInBounds_toArray, List.set_cons_zero, List.set_cons_succ, i64_w, i32_w]
                            rfl
                          refine take_ (i := 7) (N := some 44) (v := ?_) (a' := ?_) #[true, true, true, true, true, false, true, true, false, false] rfl rfl (take_ofW HT_.out HW_.out (by kernel_rfl)) (fun _ _ _ h => h) (Or.inl ⟨by rfl, ?_⟩) hHeld ?_ ?_
                          rotate_left
                          · rintro w' ⟨s0, s1, s2, s3, s4⟩
                            go_simp
                            with_reducible rfl
                          rotate_left
                          · simp only [Act.put, List.setIfInBounds_toArray, List.set_cons_zero, List.set_cons_succ, i64_w, i32_w]
                            rfl
                          refine one_ (i := 5) (N := some 42) #[true, true, true, true, true, true, true, true, false, false] rfl rfl (one_of HT_.out (by kernel_rfl)) (by decide) (fun K hK => ?_)
                          refine goes_ Tryd.func22 (by kernel_rfl) rfl #[.string (rdOf ByteArray.empty t250 x33_2), .agg #[.string a1_0, .string a1_1, .bool false, .bool false, .int .i64 a1_4]] (by rfl) rfl rfl (by (try simp only [List.map_toArray, List.map_cons, List.map_nil]); first | done | rfl | (simp only [List.length_drop, List.length_take]; rfl)) ?_
                          with_reducible refine (laws_body.calls k2 (rdOf ByteArray.empty t250 x33_2) a1_0 a1_1 false false a1_4 t255 _ A26.out).mono ?_
                          rintro e w31 ⟨rfl, hb⟩
                          refine ⟨_, rfl, ?_⟩
                          have n0_ := Aside0.mk (Kd.R_below (by (with_reducible repeat (first | apply Kd.R_alloc | apply Kd.R_drewN | apply Kd.R_drew)); exact HO_5.out) hb)
                          have n1_ := Aside0.mk (Kd.R_below (by (with_reducible repeat (first | apply Kd.R_alloc | apply Kd.R_drewN | apply Kd.R_drew)); exact HO_31.out) hb)
                          have n2_ := Aside0.mk (blk_below (g := gb246) (o := .cells #[.string a1_0, .string a1_1, .bool false, .bool false, .int .i64 a1_4] 23 (0, 0)) (by (with_reducible repeat (first | refine blk_drewN ?_ _ | refine blk_drew ?_ | refine blk_alloc ?_ _)); exact BK246.out) hb)
                          have n3_ := Aside0.mk (below_step (by repeat (first | (with_reducible first | exact HB.out | apply below_alloc | apply pw_below_drewN | apply below_drew1 | refine below_set ?_ GE246.out) | exact HB.out)) hb)
                          clear HO_5
                          clear HO_31
                          clear BK246
                          clear HB
                          have HO_5 := n0_
                          have HO_31 := n1_
                          have BK246 := n2_
                          have HB := n3_
                          clear n0_ n1_ n2_ n3_
                          (try clear hb)
                          (try clear hb2)
                          (try clear hk)
                          (try clear hi)
                          refine hK.out _ _ ⟨(blk_cell BK246.out 0).trans rfl, (blk_cell BK246.out 1).trans rfl, (blk_cell BK246.out 2).trans rfl, (blk_cell BK246.out 3).trans rfl, (blk_cell BK246.out 4).trans rfl⟩ (fun hHeld => ?_)
                          clear hK K
                          refine norm_ (a' := ?_) ?_ ?_
                          rotate_left
                          · show Act.put _ (some 42) _ = _
                            simp only [Act.put, List.setIfInBounds_toArray, List.set_cons_zero, List.set_cons_succ, i64_w, i32_w]
                            rfl
                          refine pure_ (i := 8) (N := some 45) (v := ?_) (a' := ?_) #[true, true, true, true, true, true, true, true, true, false] rfl rfl (any_of HT_.out (by kernel_rfl)) (fun _ _ _ h => h) (Or.inl ⟨by rfl, ?_⟩) ?_ ?_
                          rotate_left
                          · intro w'
                            go_simp
                            with_reducible rfl
                          rotate_left
                          · simp only [Act.put, List.setIfInBounds_toArray, List.set_cons_zero, List.set_cons_succ, i64_w, i32_w]
                            rfl
                          refine pure_ (i := 9) (N := some 46) (v := ?_) (a' := ?_) #[true, true, true, true, true, true, true, true, true, true] rfl rfl (any_of HT_.out (by kernel_rfl)) (fun _ _ _ h => h) (Or.inl ⟨by rfl, ?_⟩) ?_ ?_
                          rotate_left
                          · intro w'
                            go_simp
                            with_reducible rfl
                          rotate_left
                          · simp only [Act.put, List.setIfInBounds_toArray, List.set_cons_zero, List.set_cons_succ, i64_w, i32_w]
                            rfl
                          refine done_ (done_of HT_.out (by kernel_rfl)) ?_
                          try go_wp2
                          go_roundg k2
                          case measure => have := HJ2.out; have := HK2.out; omega
                          case rel => exact ⟨(wrap64 (x33_2 + 1)), (by first | rfl | (simp; done) | (simp [*]; done)), H', ⟨by have := HJ2.out; have := HK2.out; omega⟩, ⟨by (with_reducible repeat (first | apply Kd.R_alloc | apply Kd.R_drewN | apply Kd.R_drew)); exact HO_5.out⟩, ⟨by (with_reducible repeat (first | apply Kd.R_alloc | apply Kd.R_drewN | apply Kd.R_drew)); exact HO_31.out⟩, ⟨by (with_reducible repeat (first | refine blk_drewN ?_ _ | refine blk_drew ?_ | refine blk_alloc ?_ _)); exact BK246.out⟩, ⟨by repeat (first | (with_reducible first | exact HB.out | apply below_alloc | apply pw_below_drewN | apply below_drew1 | refine below_set ?_ GE246.out) | exact HB.out)⟩⟩
                    · rw [if_neg c23] at H
                      exact absurd H (by simp)
                  · rw [if_neg c22] at H
                    exact absurd H (by simp)
                · rw [if_neg c21] at H
                  have c21b0 : decide (x33_2 < (t250.length : Int)) = false := decide_eq_false c21
                  clear c21
                  by_cases c32 : t253 = true
                  · subst c32
                    have H1 : ((laws_joined.f k2 t250).bind fun t256 => (some (t256.toList == a0.toList))) = some r := by rw [if_pos rfl] at H; exact H
                    clear H
                    have H := H1
                    clear H1
                    replace H := Option.bind_eq_some_iff.mp H
                    obtain ⟨t256, A330, H⟩ := H
                    replace H : (some (t256.toList == a0.toList)) = some r := H
                    have A33 := Aside0.mk A330
                    clear A330
                    obtain rfl := Option.some.inj H
                    go_wp2_with (first | (go_at_call 18; (with_reducible refine (laws_joined.calls k2 _ _ t250 t256 _ ?side1 ?side2 A33.out).mono ?_); (case side1 => repeat (first | exact (Kd.R_reads' HO_5.out).2.2 | (with_reducible refine Kd.C_alloc ?_ _) | (with_reducible refine Kd.C_drewN ?_ _) | (with_reducible refine Kd.C_drew ?_))); (case side2 => exact (Kd.R_reads' HO_5.out).2.1); rintro e w' ⟨rfl, ⟨nd, rfl⟩⟩))
                    go_ret
                    exact ⟨by first | rfl | (simp [errW_none, errW_some] <;> rfl) | (simp [*, errW_none, errW_some] <;> rfl), by repeat (first | (with_reducible first | exact HB.out | apply below_alloc | apply pw_below_drewN | apply below_drew1 | refine below_set ?_ GE246.out) | exact HB.out)⟩
                  · replace c32 := Bool.eq_false_iff.mpr c32
                    subst c32
                    have H1 : (some false) = some r := by rw [if_neg (show ¬ (false = true) by decide)] at H; exact H
                    clear H
                    have H := H1
                    clear H1
                    obtain rfl := Option.some.inj H
                    go_wp2
                    go_ret
                    exact ⟨by first | rfl | (simp [errW_none, errW_some] <;> rfl) | (simp [*, errW_none, errW_some] <;> rfl), by repeat (first | (with_reducible first | exact HB.out | apply below_alloc | apply pw_below_drewN | apply below_drew1 | refine below_set ?_ GE246.out) | exact HB.out)⟩
          · replace c13 := Bool.eq_false_iff.mpr c13
            subst c13
            have H1 : (some true) = some r := by rw [if_neg (show ¬ (false = true) by decide)] at H; exact H
            clear H
            have H := H1
            clear H1
            obtain rfl := Option.some.inj H
            go_wp2_with (first | ((with_reducible refine gate_callee (f := 19) rfl ?_); refine goesL_ (some 17) rfl rfl Tryd.func19 (by kernel_rfl) rfl #[] rfl (by (try simp only [List.map_toArray, List.map_cons, List.map_nil]); first | done | rfl | (simp only [List.length_drop, List.length_take]; rfl)) ?_; (with_reducible refine (laws_splits.calls kj2  true _ (HT_.out _ (by repeat (first | (with_reducible first | exact HB.out | apply below_alloc | apply pw_below_drewN | apply below_drew1) | exact HB.out))) A10.out).mono ?_); rintro e w34 ⟨rfl, hb⟩; refine ⟨_, rfl, ?_⟩; have n0_ := Aside0.mk (blk_below (g := gb246) (o := .cells #[.string a1_0, .string a1_1, .bool a1_2, .bool a1_3, .int .i64 a1_4] 23 (0, 0)) (by (with_reducible repeat (first | refine blk_drewN ?_ _ | refine blk_drew ?_ | refine blk_alloc ?_ _)); exact BK246.out) hb); have n1_ := Aside0.mk (below_step (by repeat (first | (with_reducible first | exact HB.out | apply below_alloc | apply pw_below_drewN | apply below_drew1 | refine below_set ?_ GE246.out) | exact HB.out)) hb); clear BK246; clear HB; have BK246 := n0_; have HB := n1_; clear n0_ n1_; (try clear hb); (try clear hb2); (try clear hk); (try clear hi); have hcz35_0 : w34.cell? ⟨gb246, 0, none⟩ = some (.string a1_0) := (blk_cell BK246.out 0).trans rfl; have hcz35_1 : w34.cell? ⟨gb246, 1, none⟩ = some (.string a1_1) := (blk_cell BK246.out 1).trans rfl; have hcz35_2 : w34.cell? ⟨gb246, 2, none⟩ = some (.bool a1_2) := (blk_cell BK246.out 2).trans rfl; have hcz35_3 : w34.cell? ⟨gb246, 3, none⟩ = some (.bool a1_3) := (blk_cell BK246.out 3).trans rfl; have hcz35_4 : w34.cell? ⟨gb246, 4, none⟩ = some (.int .i64 a1_4) := (blk_cell BK246.out 4).trans rfl; have hfz35_0 := blk_frozen BK246.out 0; have hfz35_1 := blk_frozen BK246.out 1; have hfz35_2 := blk_frozen BK246.out 2; have hfz35_3 := blk_frozen BK246.out 3; have hfz35_4 := blk_frozen BK246.out 4) | ((with_reducible refine gate_callee (f := 10) rfl ?_); refine goesL_ (some 23) rfl rfl Tryd.func10 (by kernel_rfl) rfl #[.string a0, .agg #[.string a1_0, .string a1_1, .bool false, .bool false, .int .i64 a1_4]] rfl (by (try simp only [List.map_toArray, List.map_cons, List.map_nil]); first | done | rfl | (simp only [List.length_drop, List.length_take]; rfl)) ?_; (with_reducible refine (laws_calm.calls kj2 a0 a1_0 a1_1 false false a1_4 false _ A12.out).mono ?_); rintro e w36 ⟨rfl, hb⟩; refine ⟨_, rfl, ?_⟩; have n0_ := Aside0.mk (blk_below (g := gb246) (o := .cells #[.string a1_0, .string a1_1, .bool false, .bool false, .int .i64 a1_4] 23 (0, 0)) (by (with_reducible repeat (first | refine blk_drewN ?_ _ | refine blk_drew ?_ | refine blk_alloc ?_ _)); refine blk_put (cs := #[.string a1_0, .string a1_1, .bool false, .bool a1_3, .int .i64 a1_4]) ?_ 3 _ rfl; (with_reducible repeat (first | refine blk_drewN ?_ _ | refine blk_drew ?_ | refine blk_alloc ?_ _)); refine blk_put (cs := #[.string a1_0, .string a1_1, .bool a1_2, .bool a1_3, .int .i64 a1_4]) ?_ 2 _ rfl; (with_reducible repeat (first | refine blk_drewN ?_ _ | refine blk_drew ?_ | refine blk_alloc ?_ _)); exact BK246.out) hb); have n1_ := Aside0.mk (below_step (by repeat (first | (with_reducible first | exact HB.out | apply below_alloc | apply pw_below_drewN | apply below_drew1 | refine below_set ?_ GE246.out) | exact HB.out)) hb); clear BK246; clear HB; have BK246 := n0_; have HB := n1_; clear n0_ n1_; (try clear hb); (try clear hb2); (try clear hk); (try clear hi)))
            go_ret
            exact ⟨by first | rfl | (simp [errW_none, errW_some] <;> rfl) | (simp [*, errW_none, errW_some] <;> rfl), by repeat (first | (with_reducible first | exact HB.out | apply below_alloc | apply pw_below_drewN | apply below_drew1 | refine below_set ?_ GE246.out) | exact HB.out)⟩
        · replace c11 := Bool.eq_false_iff.mpr c11
          subst c11
          have H1 : (some false) = some r := by rw [if_neg (show ¬ (false = true) by decide)] at H; exact H
          clear H
          have H := H1
          clear H1
          obtain rfl := Option.some.inj H
          go_wp2_with (first | ((with_reducible refine gate_callee (f := 19) rfl ?_); refine goesL_ (some 17) rfl rfl Tryd.func19 (by kernel_rfl) rfl #[] rfl (by (try simp only [List.map_toArray, List.map_cons, List.map_nil]); first | done | rfl | (simp only [List.length_drop, List.length_take]; rfl)) ?_; (with_reducible refine (laws_splits.calls kj2  false _ (HT_.out _ (by repeat (first | (with_reducible first | exact HB.out | apply below_alloc | apply pw_below_drewN | apply below_drew1) | exact HB.out))) A10.out).mono ?_); rintro e w37 ⟨rfl, hb⟩; refine ⟨_, rfl, ?_⟩; have n0_ := Aside0.mk (blk_below (g := gb246) (o := .cells #[.string a1_0, .string a1_1, .bool a1_2, .bool a1_3, .int .i64 a1_4] 23 (0, 0)) (by (with_reducible repeat (first | refine blk_drewN ?_ _ | refine blk_drew ?_ | refine blk_alloc ?_ _)); exact BK246.out) hb); have n1_ := Aside0.mk (below_step (by repeat (first | (with_reducible first | exact HB.out | apply below_alloc | apply pw_below_drewN | apply below_drew1 | refine below_set ?_ GE246.out) | exact HB.out)) hb); clear BK246; clear HB; have BK246 := n0_; have HB := n1_; clear n0_ n1_; (try clear hb); (try clear hb2); (try clear hk); (try clear hi)))
          go_ret
          exact ⟨by first | rfl | (simp [errW_none, errW_some] <;> rfl) | (simp [*, errW_none, errW_some] <;> rfl), by repeat (first | (with_reducible first | exact HB.out | apply below_alloc | apply pw_below_drewN | apply below_drew1 | refine below_set ?_ GE246.out) | exact HB.out)⟩

end Go.Proofs.YtpjnebmcbeblkaaDoor.P
