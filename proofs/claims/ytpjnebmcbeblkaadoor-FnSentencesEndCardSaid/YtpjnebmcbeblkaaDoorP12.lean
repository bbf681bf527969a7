-- PRINTED by print.py (a twelfth state) out of the translation. Not trusted: Lean checks it.
import Derived.Test.YtpjnebmcbeblkaaDoorP0
import Derived.Test.YtpjnebmcbeblkaaDoorP21
namespace Go.Proofs.YtpjnebmcbeblkaaDoor.P
open Go.RowKit Go.Proofs.YtpjnebmcbeblkaaDoorW.PrintWords Go.Proofs.YtpjnebmcbeblkaaDoorW.PrintLast Go.Proofs.YtpjnebmcbeblkaaDoorW.PrintMore
attribute [local go_sem] max2_int min2_int max_two min_two max_three min_three max_four min_four   -- for this text's walks alone
set_option linter.unusedVariables false
set_option linter.unusedSimpArgs false

/-! ### laws_hasOf: function 12 -/
def laws_hasOf.l0 : Nat → List ByteArray → Int → Int → ByteArray → ByteArray → Bool → Bool → Int → Option (Bool)
  | 0, _, _, _, _, _, _, _, _ => none
  | k + 1, x7, x8, x9, x139000, x139001, x139002, x139003, x139004 => if x9 < x8 then (if 0 ≤ x9 then (if x9 < (x7.length : Int) then ((laws_has.f k x139000 (rdOf ByteArray.empty x7 x9)).bind fun t140 => (if t140 = true then (some true) else ((laws_has.f k x139001 (rdOf ByteArray.empty x7 x9)).bind fun t141 => (if t141 = true then (some true) else (laws_hasOf.l0 k x7 x8 (wrap64 (x9 + 1)) x139000 x139001 x139002 x139003 x139004))))) else (none)) else (none)) else (some false)
def laws_hasOf.f (k : Nat) (l0 : List ByteArray) (a1_0 : ByteArray) (a1_1 : ByteArray) (a1_2 : Bool) (a1_3 : Bool) (a1_4 : Int) : Option (Bool) := laws_hasOf.l0 k l0 (l0.length : Int) 0 a1_0 a1_1 a1_2 a1_3 a1_4
theorem laws_hasOf.mono_l : ∀ k, (∀ y0 y1 y2 y3 y4 y5 y6 y7, LeO (laws_hasOf.l0 k y0 y1 y2 y3 y4 y5 y6 y7) (laws_hasOf.l0 (k + 1) y0 y1 y2 y3 y4 y5 y6 y7))
  | 0 => fun _ _ _ _ _ _ _ _ r h => by simp [laws_hasOf.l0] at h
  | k + 1 => by
    have ih0 := laws_hasOf.mono_l k
    · intro y0 y1 y2 y3 y4 y5 y6 y7
      unfold laws_hasOf.l0
      repeat' first
      | (with_reducible exact ih0 _ _ _ _ _ _ _ _)
      | (with_reducible exact laws_has.mono _ _ _)
      | (with_reducible exact LeO.refl _)
      | (with_reducible exact LeO.none _)
      | (with_reducible refine LeO.ite ?_ ?_)
      | (with_reducible refine LeO.bind ?_ (fun _ => ?_))
      | exact ih0 _ _ _ _ _ _ _ _
      | exact laws_has.mono _ _ _
      | exact LeO.none _
      | refine LeO.ite ?_ ?_
      | refine LeO.bind ?_ (fun _ => ?_)
theorem laws_hasOf.mono : ∀ a0 a1 a2 a3 a4 a5 k, LeO (laws_hasOf.f k a0 a1 a2 a3 a4 a5) (laws_hasOf.f (k + 1) a0 a1 a2 a3 a4 a5) := by
  intro a0 a1 a2 a3 a4 a5 k
  have ih0 := laws_hasOf.mono_l k
  unfold laws_hasOf.f
  repeat' first
      | (with_reducible exact ih0 _ _ _ _ _ _ _ _)
      | (with_reducible exact laws_has.mono _ _ _)
      | (with_reducible exact LeO.refl _)
      | (with_reducible exact LeO.none _)
      | (with_reducible refine LeO.ite ?_ ?_)
      | (with_reducible refine LeO.bind ?_ (fun _ => ?_))
      | exact ih0 _ _ _ _ _ _ _ _
      | exact laws_has.mono _ _ _
      | exact LeO.none _
      | refine LeO.ite ?_ ?_
      | refine LeO.bind ?_ (fun _ => ?_)
set_option maxHeartbeats 8000000 in
set_option maxRecDepth 100000 in
theorem laws_hasOf.calls (k : Nat) (A0 : Option Addr) (c0 : Nat) (l0 : List ByteArray) (a1_0 : ByteArray) (a1_1 : ByteArray) (a1_2 : Bool) (a1_3 : Bool) (a1_4 : Int) (r : Bool) (w : World) (hr0 : Kd.C Kd.string w A0 l0.length l0) (hc0 : l0.length ≤ c0) (h : laws_hasOf.f k l0 a1_0 a1_1 a1_2 a1_3 a1_4 = some r) :
    Calls Tryd.prog 12 #[.slice A0 l0.length c0, .agg #[.string a1_0, .string a1_1, .bool a1_2, .bool a1_3, .int .i64 a1_4]] w fun e w' => e = .returned (.bool r) ∧ Below w.heap.size w w' := by
  have hu23 := Tryd.underlying23
  have HR0 := Aside0.mk hr0
  have HC0 := Aside0.mk hc0
  clear hr0 hc0
  have HB := Aside0.mk (Below.refl w.heap.size w)
  have H : (laws_hasOf.l0 k l0 (l0.length : Int) 0 a1_0 a1_1 a1_2 a1_3 a1_4) = some r := h
  clear h
  have H' := Aside0.mk H
  clear H
  go_enter Tryd.func12, Tryd.ntmps12
  go_wp2_with (first | ((with_reducible refine gate_dst (N := 3) rfl ?_); refine box_event ?hg (N := 3) ?hd (cs := #[.string a1_0, .string a1_1, .bool a1_2, .bool a1_3, .int .i64 a1_4]) (t := 23) ?hr ?_; (case hd => rfl); (case hg => rfl); (case hr => first | (go_simp; done) | (go_simp; rfl)); intro gb138 hg w3 hbox hb; have n0_ := Aside0.mk (below_step (by repeat (first | (with_reducible first | exact HB.out | apply below_alloc | apply pw_below_drewN | apply below_drew1) | exact HB.out)) hb); have n1_ := Aside0.mk (hbox); have n2_ := Aside0.mk ((by rw [hg]; exact (below_size (by repeat (first | (with_reducible first | exact HB.out | apply below_alloc | apply pw_below_drewN | apply below_drew1) | exact HB.out))) : w.heap.size ≤ gb138)); have n3_ := Aside0.mk ((by rw [hg]; exact (below_size (by repeat (first | (with_reducible first | exact HB.out | apply below_alloc | apply pw_below_drewN | apply below_drew1) | exact HB.out))) : w.heap.size ≤ gb138)); clear HB; have HB := n0_; have BK138 := n1_; have GW138 := n2_; have GE138 := n3_; clear n0_ n1_ n2_ n3_; clear hb hbox hg))
  go_loopg [9] k (fun kq v9 w' => ∃ (x9_1 : Int), v9 = .int .i64 x9_1 ∧ Aside0 (laws_hasOf.l0 kq l0 (l0.length : Int) x9_1 a1_0 a1_1 a1_2 a1_3 a1_4 = some r) ∧ Aside0 (kq ≤ k) ∧ Aside0 (w'.heap[gb138]? = some (.cells #[.string a1_0, .string a1_1, .bool a1_2, .bool a1_3, .int .i64 a1_4] 23 (0, 0))) ∧ Aside0 (Below w.heap.size w w'))
  case atStart => exact ⟨(0), (by first | rfl | (simp; done) | (simp [*]; done)), H', ⟨Nat.le_refl _⟩, ⟨by (with_reducible repeat (first | refine blk_drewN ?_ _ | refine blk_drew ?_ | refine blk_alloc ?_ _)); exact BK138.out⟩, ⟨by repeat (first | (with_reducible first | exact HB.out | apply below_alloc | apply pw_below_drewN | apply below_drew1 | refine below_set ?_ GE138.out) | exact HB.out)⟩⟩
  case round =>
    clear H'
    try clear c1
    try clear p2
    obtain ⟨x9_1, rfl, HA, HK1, BK138, HB⟩ := hrel
    cases gk with
    | zero => exact absurd HA.out (by simp [laws_hasOf.l0])
    | succ k1 =>
      have H := HA.out
      clear HA
      simp only [laws_hasOf.l0] at H
      by_cases c4 : x9_1 < (l0.length : Int)
      · rw [if_pos c4] at H
        have c4b0 : decide (x9_1 < (l0.length : Int)) = true := decide_eq_true c4
        clear c4
        by_cases c5 : 0 ≤ x9_1
        · rw [if_pos c5] at H
          have c5b0 : decide (0 ≤ x9_1) = true := decide_eq_true c5
          clear c5
          by_cases c6 : x9_1 < (l0.length : Int)
          · rw [if_pos c6] at H
            have c6b0 : decide (x9_1 < (l0.length : Int)) = true := decide_eq_true c6
            clear c6
            replace H := Option.bind_eq_some_iff.mp H
            obtain ⟨t140, A70, H⟩ := H
            replace H : (if t140 = true then (some true) else ((laws_has.f k1 a1_1 (rdOf ByteArray.empty l0 x9_1)).bind fun t141 => (if t141 = true then (some true) else (laws_hasOf.l0 k1 l0 (l0.length : Int) (wrap64 (x9_1 + 1)) a1_0 a1_1 a1_2 a1_3 a1_4)))) = some r := H
            have A7 := Aside0.mk A70
            clear A70
            by_cases c8 : t140 = true
            · subst c8
              have H1 : (some true) = some r := by rw [if_pos rfl] at H; exact H
              clear H
              have H := H1
              clear H1
              obtain rfl := Option.some.inj H
              have p139 : 0 ≤ (x9_1 : Int) := of_decide_eq_true (by first | (with_reducible assumption) | assumption)
              have q139 : x9_1 < (l0.length : Int) := of_decide_eq_true (by first | (with_reducible assumption) | assumption)
              obtain ⟨ad139, e139, hx139_0⟩ := Kd.at_string HR0.out x9_1 p139 q139
              cases e139
              first | (replace hx139_0 := (HB.out.cell (World.block_lt_of_cell? w _ hx139_0)).trans hx139_0) | skip
              replace p139 := eq_true p139
              replace q139 := eq_true q139
              have hcz9_0 : wr.cell? ⟨gb138, 0, none⟩ = some (.string a1_0) := (blk_cell BK138.out 0).trans rfl
              have hcz9_1 : wr.cell? ⟨gb138, 1, none⟩ = some (.string a1_1) := (blk_cell BK138.out 1).trans rfl
              have hcz9_2 : wr.cell? ⟨gb138, 2, none⟩ = some (.bool a1_2) := (blk_cell BK138.out 2).trans rfl
              have hcz9_3 : wr.cell? ⟨gb138, 3, none⟩ = some (.bool a1_3) := (blk_cell BK138.out 3).trans rfl
              have hcz9_4 : wr.cell? ⟨gb138, 4, none⟩ = some (.int .i64 a1_4) := (blk_cell BK138.out 4).trans rfl
              have hfz9_0 := blk_frozen BK138.out 0
              have hfz9_1 := blk_frozen BK138.out 1
              have hfz9_2 := blk_frozen BK138.out 2
              have hfz9_3 := blk_frozen BK138.out 3
              have hfz9_4 := blk_frozen BK138.out 4
              go_wp2_with (first | ((with_reducible refine gate_callee (f := 21) rfl ?_); refine goesL_ (some 16) rfl rfl Tryd.func21 (by kernel_rfl) rfl #[.string a1_0, .string (rdOf ByteArray.empty l0 x9_1)] rfl (by (try simp only [List.map_toArray, List.map_cons, List.map_nil]); first | done | rfl | (simp only [List.length_drop, List.length_take]; rfl)) ?_; (with_reducible refine (laws_has.calls k1 a1_0 (rdOf ByteArray.empty l0 x9_1) true _ A7.out).mono ?_); rintro e w10 ⟨rfl, hb⟩; refine ⟨_, rfl, ?_⟩; have n0_ := Aside0.mk (blk_below (g := gb138) (o := .cells #[.string a1_0, .string a1_1, .bool a1_2, .bool a1_3, .int .i64 a1_4] 23 (0, 0)) (by (with_reducible repeat (first | refine blk_drewN ?_ _ | refine blk_drew ?_ | refine blk_alloc ?_ _)); exact BK138.out) hb); have n1_ := Aside0.mk (below_step (by repeat (first | (with_reducible first | exact HB.out | apply below_alloc | apply pw_below_drewN | apply below_drew1 | refine below_set ?_ GE138.out) | exact HB.out)) hb); clear BK138; clear HB; have BK138 := n0_; have HB := n1_; clear n0_ n1_; (try clear hb); (try clear hb2); (try clear hk); (try clear hi)))
              go_ret
              exact ⟨by first | rfl | (simp [errW_none, errW_some] <;> rfl) | (simp [*, errW_none, errW_some] <;> rfl), by repeat (first | (with_reducible first | exact HB.out | apply below_alloc | apply pw_below_drewN | apply below_drew1 | refine below_set ?_ GE138.out) | exact HB.out)⟩
            · replace c8 := Bool.eq_false_iff.mpr c8
              subst c8
              have H1 : ((laws_has.f k1 a1_1 (rdOf ByteArray.empty l0 x9_1)).bind fun t141 => (if t141 = true then (some true) else (laws_hasOf.l0 k1 l0 (l0.length : Int) (wrap64 (x9_1 + 1)) a1_0 a1_1 a1_2 a1_3 a1_4))) = some r := by rw [if_neg (show ¬ (false = true) by decide)] at H; exact H
              clear H
              have H := H1
              clear H1
              replace H := Option.bind_eq_some_iff.mp H
              obtain ⟨t141, A110, H⟩ := H
              replace H : (if t141 = true then (some true) else (laws_hasOf.l0 k1 l0 (l0.length : Int) (wrap64 (x9_1 + 1)) a1_0 a1_1 a1_2 a1_3 a1_4)) = some r := H
              have A11 := Aside0.mk A110
              clear A110
              by_cases c12 : t141 = true
              · subst c12
                have H1 : (some true) = some r := by rw [if_pos rfl] at H; exact H
                clear H
                have H := H1
                clear H1
                obtain rfl := Option.some.inj H
                have p139 : 0 ≤ (x9_1 : Int) := of_decide_eq_true (by first | (with_reducible assumption) | assumption)
                have q139 : x9_1 < (l0.length : Int) := of_decide_eq_true (by first | (with_reducible assumption) | assumption)
                obtain ⟨ad139, e139, hx139_0⟩ := Kd.at_string HR0.out x9_1 p139 q139
                cases e139
                first | (replace hx139_0 := (HB.out.cell (World.block_lt_of_cell? w _ hx139_0)).trans hx139_0) | skip
                replace p139 := eq_true p139
                replace q139 := eq_true q139
                have hcz13_0 : wr.cell? ⟨gb138, 0, none⟩ = some (.string a1_0) := (blk_cell BK138.out 0).trans rfl
                have hcz13_1 : wr.cell? ⟨gb138, 1, none⟩ = some (.string a1_1) := (blk_cell BK138.out 1).trans rfl
                have hcz13_2 : wr.cell? ⟨gb138, 2, none⟩ = some (.bool a1_2) := (blk_cell BK138.out 2).trans rfl
                have hcz13_3 : wr.cell? ⟨gb138, 3, none⟩ = some (.bool a1_3) := (blk_cell BK138.out 3).trans rfl
                have hcz13_4 : wr.cell? ⟨gb138, 4, none⟩ = some (.int .i64 a1_4) := (blk_cell BK138.out 4).trans rfl
                have hfz13_0 := blk_frozen BK138.out 0
                have hfz13_1 := blk_frozen BK138.out 1
                have hfz13_2 := blk_frozen BK138.out 2
                have hfz13_3 := blk_frozen BK138.out 3
                have hfz13_4 := blk_frozen BK138.out 4
                go_wp2_with (first | ((with_reducible refine gate_callee (f := 21) rfl ?_); refine goesL_ (some 16) rfl rfl Tryd.func21 (by kernel_rfl) rfl #[.string a1_0, .string (rdOf ByteArray.empty l0 x9_1)] rfl (by (try simp only [List.map_toArray, List.map_cons, List.map_nil]); first | done | rfl | (simp only [List.length_drop, List.length_take]; rfl)) ?_; (with_reducible refine (laws_has.calls k1 a1_0 (rdOf ByteArray.empty l0 x9_1) false _ A7.out).mono ?_); rintro e w14 ⟨rfl, hb⟩; refine ⟨_, rfl, ?_⟩; have n0_ := Aside0.mk (blk_below (g := gb138) (o := .cells #[.string a1_0, .string a1_1, .bool a1_2, .bool a1_3, .int .i64 a1_4] 23 (0, 0)) (by (with_reducible repeat (first | refine blk_drewN ?_ _ | refine blk_drew ?_ | refine blk_alloc ?_ _)); exact BK138.out) hb); have n1_ := Aside0.mk (below_step (by repeat (first | (with_reducible first | exact HB.out | apply below_alloc | apply pw_below_drewN | apply below_drew1 | refine below_set ?_ GE138.out) | exact HB.out)) hb); clear BK138; clear HB; have BK138 := n0_; have HB := n1_; clear n0_ n1_; (try clear hb); (try clear hb2); (try clear hk); (try clear hi); have hcz15_0 : w14.cell? ⟨gb138, 0, none⟩ = some (.string a1_0) := (blk_cell BK138.out 0).trans rfl; have hcz15_1 : w14.cell? ⟨gb138, 1, none⟩ = some (.string a1_1) := (blk_cell BK138.out 1).trans rfl; have hcz15_2 : w14.cell? ⟨gb138, 2, none⟩ = some (.bool a1_2) := (blk_cell BK138.out 2).trans rfl; have hcz15_3 : w14.cell? ⟨gb138, 3, none⟩ = some (.bool a1_3) := (blk_cell BK138.out 3).trans rfl; have hcz15_4 : w14.cell? ⟨gb138, 4, none⟩ = some (.int .i64 a1_4) := (blk_cell BK138.out 4).trans rfl; have hfz15_0 := blk_frozen BK138.out 0; have hfz15_1 := blk_frozen BK138.out 1; have hfz15_2 := blk_frozen BK138.out 2; have hfz15_3 := blk_frozen BK138.out 3; have hfz15_4 := blk_frozen BK138.out 4) | (go_at_call 21; (with_reducible refine (laws_has.calls k1 a1_1 (rdOf ByteArray.empty l0 x9_1) true _ A11.out).mono ?_); rintro e w16 ⟨rfl, hb⟩; have n0_ := Aside0.mk (blk_below (g := gb138) (o := .cells #[.string a1_0, .string a1_1, .bool a1_2, .bool a1_3, .int .i64 a1_4] 23 (0, 0)) (by (with_reducible repeat (first | refine blk_drewN ?_ _ | refine blk_drew ?_ | refine blk_alloc ?_ _)); exact BK138.out) hb); have n1_ := Aside0.mk (below_step (by repeat (first | (with_reducible first | exact HB.out | apply below_alloc | apply pw_below_drewN | apply below_drew1 | refine below_set ?_ GE138.out) | exact HB.out)) hb); clear BK138; clear HB; have BK138 := n0_; have HB := n1_; clear n0_ n1_; (try clear hb); (try clear hb2); (try clear hk); (try clear hi)))
                go_ret
                exact ⟨by first | rfl | (simp [errW_none, errW_some] <;> rfl) | (simp [*, errW_none, errW_some] <;> rfl), by repeat (first | (with_reducible first | exact HB.out | apply below_alloc | apply pw_below_drewN | apply below_drew1 | refine below_set ?_ GE138.out) | exact HB.out)⟩
              · replace c12 := Bool.eq_false_iff.mpr c12
                subst c12
                have H1 : (laws_hasOf.l0 k1 l0 (l0.length : Int) (wrap64 (x9_1 + 1)) a1_0 a1_1 a1_2 a1_3 a1_4) = some r := by rw [if_neg (show ¬ (false = true) by decide)] at H; exact H
                clear H
                have H := H1
                clear H1
                have H' := Aside0.mk H
                clear H
                have p139 : 0 ≤ (x9_1 : Int) := of_decide_eq_true (by first | (with_reducible assumption) | assumption)
                have q139 : x9_1 < (l0.length : Int) := of_decide_eq_true (by first | (with_reducible assumption) | assumption)
                obtain ⟨ad139, e139, hx139_0⟩ := Kd.at_string HR0.out x9_1 p139 q139
                cases e139
                first | (replace hx139_0 := (HB.out.cell (World.block_lt_of_cell? w _ hx139_0)).trans hx139_0) | skip
                replace p139 := eq_true p139
                replace q139 := eq_true q139
                have hcz17_0 : wr.cell? ⟨gb138, 0, none⟩ = some (.string a1_0) := (blk_cell BK138.out 0).trans rfl
                have hcz17_1 : wr.cell? ⟨gb138, 1, none⟩ = some (.string a1_1) := (blk_cell BK138.out 1).trans rfl
                have hcz17_2 : wr.cell? ⟨gb138, 2, none⟩ = some (.bool a1_2) := (blk_cell BK138.out 2).trans rfl
                have hcz17_3 : wr.cell? ⟨gb138, 3, none⟩ = some (.bool a1_3) := (blk_cell BK138.out 3).trans rfl
                have hcz17_4 : wr.cell? ⟨gb138, 4, none⟩ = some (.int .i64 a1_4) := (blk_cell BK138.out 4).trans rfl
                have hfz17_0 := blk_frozen BK138.out 0
                have hfz17_1 := blk_frozen BK138.out 1
                have hfz17_2 := blk_frozen BK138.out 2
                have hfz17_3 := blk_frozen BK138.out 3
                have hfz17_4 := blk_frozen BK138.out 4
                go_wp2_with (first | ((with_reducible refine gate_callee (f := 21) rfl ?_); refine goesL_ (some 16) rfl rfl Tryd.func21 (by kernel_rfl) rfl #[.string a1_0, .string (rdOf ByteArray.empty l0 x9_1)] rfl (by (try simp only [List.map_toArray, List.map_cons, List.map_nil]); first | done | rfl | (simp only [List.length_drop, List.length_take]; rfl)) ?_; (with_reducible refine (laws_has.calls k1 a1_0 (rdOf ByteArray.empty l0 x9_1) false _ A7.out).mono ?_); rintro e w18 ⟨rfl, hb⟩; refine ⟨_, rfl, ?_⟩; have n0_ := Aside0.mk (blk_below (g := gb138) (o := .cells #[.string a1_0, .string a1_1, .bool a1_2, .bool a1_3, .int .i64 a1_4] 23 (0, 0)) (by (with_reducible repeat (first | refine blk_drewN ?_ _ | refine blk_drew ?_ | refine blk_alloc ?_ _)); exact BK138.out) hb); have n1_ := Aside0.mk (below_step (by repeat (first | (with_reducible first | exact HB.out | apply below_alloc | apply pw_below_drewN | apply below_drew1 | refine below_set ?_ GE138.out) | exact HB.out)) hb); clear BK138; clear HB; have BK138 := n0_; have HB := n1_; clear n0_ n1_; (try clear hb); (try clear hb2); (try clear hk); (try clear hi); have hcz19_0 : w18.cell? ⟨gb138, 0, none⟩ = some (.string a1_0) := (blk_cell BK138.out 0).trans rfl; have hcz19_1 : w18.cell? ⟨gb138, 1, none⟩ = some (.string a1_1) := (blk_cell BK138.out 1).trans rfl; have hcz19_2 : w18.cell? ⟨gb138, 2, none⟩ = some (.bool a1_2) := (blk_cell BK138.out 2).trans rfl; have hcz19_3 : w18.cell? ⟨gb138, 3, none⟩ = some (.bool a1_3) := (blk_cell BK138.out 3).trans rfl; have hcz19_4 : w18.cell? ⟨gb138, 4, none⟩ = some (.int .i64 a1_4) := (blk_cell BK138.out 4).trans rfl; have hfz19_0 := blk_frozen BK138.out 0; have hfz19_1 := blk_frozen BK138.out 1; have hfz19_2 := blk_frozen BK138.out 2; have hfz19_3 := blk_frozen BK138.out 3; have hfz19_4 := blk_frozen BK138.out 4) | (go_at_call 21; (with_reducible refine (laws_has.calls k1 a1_1 (rdOf ByteArray.empty l0 x9_1) false _ A11.out).mono ?_); rintro e w20 ⟨rfl, hb⟩; have n0_ := Aside0.mk (blk_below (g := gb138) (o := .cells #[.string a1_0, .string a1_1, .bool a1_2, .bool a1_3, .int .i64 a1_4] 23 (0, 0)) (by (with_reducible repeat (first | refine blk_drewN ?_ _ | refine blk_drew ?_ | refine blk_alloc ?_ _)); exact BK138.out) hb); have n1_ := Aside0.mk (below_step (by repeat (first | (with_reducible first | exact HB.out | apply below_alloc | apply pw_below_drewN | apply below_drew1 | refine below_set ?_ GE138.out) | exact HB.out)) hb); clear BK138; clear HB; have BK138 := n0_; have HB := n1_; clear n0_ n1_; (try clear hb); (try clear hb2); (try clear hk); (try clear hi)))
                go_roundg k1
                case measure => have := HK1.out; omega
                case rel => exact ⟨(wrap64 (x9_1 + 1)), (by first | rfl | (simp; done) | (simp [*]; done)), H', ⟨by have := HK1.out; omega⟩, ⟨by (with_reducible repeat (first | refine blk_drewN ?_ _ | refine blk_drew ?_ | refine blk_alloc ?_ _)); exact BK138.out⟩, ⟨by repeat (first | (with_reducible first | exact HB.out | apply below_alloc | apply pw_below_drewN | apply below_drew1 | refine below_set ?_ GE138.out) | exact HB.out)⟩⟩
          · rw [if_neg c6] at H
            exact absurd H (by simp)
        · rw [if_neg c5] at H
          exact absurd H (by simp)
      · rw [if_neg c4] at H
        have c4b0 : decide (x9_1 < (l0.length : Int)) = false := decide_eq_false c4
        clear c4
        obtain rfl := Option.some.inj H
        go_wp2
        go_ret
        exact ⟨by first | rfl | (simp [errW_none, errW_some] <;> rfl) | (simp [*, errW_none, errW_some] <;> rfl), by repeat (first | (with_reducible first | exact HB.out | apply below_alloc | apply pw_below_drewN | apply below_drew1 | refine below_set ?_ GE138.out) | exact HB.out)⟩

end Go.Proofs.YtpjnebmcbeblkaaDoor.P
