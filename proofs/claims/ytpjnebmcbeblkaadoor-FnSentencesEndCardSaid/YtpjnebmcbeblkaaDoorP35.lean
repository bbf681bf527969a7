-- PRINTED by print.py (a twelfth state) out of the translation. Not trusted: Lean checks it.
import Derived.Test.YtpjnebmcbeblkaaDoorP0
namespace Go.Proofs.YtpjnebmcbeblkaaDoor.P
open Go.RowKit Go.Proofs.YtpjnebmcbeblkaaDoorW.PrintWords Go.Proofs.YtpjnebmcbeblkaaDoorW.PrintLast Go.Proofs.YtpjnebmcbeblkaaDoorW.PrintMore
attribute [local go_sem] max2_int min2_int max_two min_two max_three min_three max_four min_four   -- for this text's walks alone
set_option linter.unusedVariables false
set_option linter.unusedSimpArgs false

/-! ### filter_SentenceSplitter_isDelim: function 35 -/
def filter_SentenceSplitter_isDelim.l0 : Nat → Int → List Int → Int → Int → Option (Bool)
  | 0, _, _, _, _ => none
  | k + 1, x1, x8, x9, x10 => if x10 < x9 then (if 0 ≤ x10 then (if x10 < (x8.length : Int) then (if x1 = (rd x8 x10) then (some true) else (filter_SentenceSplitter_isDelim.l0 k x1 x8 x9 (wrap64 (x10 + 1)))) else (none)) else (none)) else (some false)
def filter_SentenceSplitter_isDelim.f (k : Nat) (l0_0 : List Int) (l0_1 : List Int) (a0_2 : Bool) (a0_3 : Bool) (a0_4 : Int) (a1 : Int) : Option (Bool) := filter_SentenceSplitter_isDelim.l0 k a1 l0_0 (l0_0.length : Int) 0
theorem filter_SentenceSplitter_isDelim.mono_l : ∀ k, (∀ y0 y1 y2 y3, LeO (filter_SentenceSplitter_isDelim.l0 k y0 y1 y2 y3) (filter_SentenceSplitter_isDelim.l0 (k + 1) y0 y1 y2 y3))
  | 0 => fun _ _ _ _ r h => by simp [filter_SentenceSplitter_isDelim.l0] at h
  | k + 1 => by
    have ih0 := filter_SentenceSplitter_isDelim.mono_l k
    · intro y0 y1 y2 y3
      unfold filter_SentenceSplitter_isDelim.l0
      repeat' first
      | (with_reducible exact ih0 _ _ _ _)
      | (with_reducible exact LeO.refl _)
      | (with_reducible exact LeO.none _)
      | (with_reducible refine LeO.ite ?_ ?_)
      | (with_reducible refine LeO.bind ?_ (fun _ => ?_))
      | exact ih0 _ _ _ _
      | exact LeO.none _
      | refine LeO.ite ?_ ?_
      | refine LeO.bind ?_ (fun _ => ?_)
theorem filter_SentenceSplitter_isDelim.mono : ∀ a0 a1 a2 a3 a4 a5 k, LeO (filter_SentenceSplitter_isDelim.f k a0 a1 a2 a3 a4 a5) (filter_SentenceSplitter_isDelim.f (k + 1) a0 a1 a2 a3 a4 a5) := by
  intro a0 a1 a2 a3 a4 a5 k
  have ih0 := filter_SentenceSplitter_isDelim.mono_l k
  unfold filter_SentenceSplitter_isDelim.f
  repeat' first
      | (with_reducible exact ih0 _ _ _ _)
      | (with_reducible exact LeO.refl _)
      | (with_reducible exact LeO.none _)
      | (with_reducible refine LeO.ite ?_ ?_)
      | (with_reducible refine LeO.bind ?_ (fun _ => ?_))
      | exact ih0 _ _ _ _
      | exact LeO.none _
      | refine LeO.ite ?_ ?_
      | refine LeO.bind ?_ (fun _ => ?_)
set_option maxHeartbeats 8000000 in
set_option maxRecDepth 100000 in
theorem filter_SentenceSplitter_isDelim.calls (k : Nat) (A0_0 : Option Addr) (c0_0 : Nat) (l0_0 : List Int) (A0_1 : Option Addr) (c0_1 : Nat) (l0_1 : List Int) (a0_2 : Bool) (a0_3 : Bool) (a0_4 : Int) (a1 : Int) (r : Bool) (w : World) (hr0_0 : Kd.C (Kd.int .i32) w A0_0 l0_0.length l0_0) (hc0_0 : l0_0.length ≤ c0_0) (hr0_1 : Kd.C (Kd.int .i32) w A0_1 l0_1.length l0_1) (hc0_1 : l0_1.length ≤ c0_1) (h : filter_SentenceSplitter_isDelim.f k l0_0 l0_1 a0_2 a0_3 a0_4 a1 = some r) :
    Calls Tryd.prog 35 #[.agg #[.slice A0_0 l0_0.length c0_0, .slice A0_1 l0_1.length c0_1, .bool a0_2, .bool a0_3, .int .i64 a0_4], .int .i32 a1] w fun e w' => e = .returned (.bool r) ∧ Below w.heap.size w w' := by
  have hu52 := Tryd.underlying52
  have HR0_0 := Aside0.mk hr0_0
  have HC0_0 := Aside0.mk hc0_0
  clear hr0_0 hc0_0
  have HR0_1 := Aside0.mk hr0_1
  have HC0_1 := Aside0.mk hc0_1
  clear hr0_1 hc0_1
  have HB := Aside0.mk (Below.refl w.heap.size w)
  have H : (filter_SentenceSplitter_isDelim.l0 k a1 l0_0 (l0_0.length : Int) 0) = some r := h
  clear h
  have H' := Aside0.mk H
  clear H
  go_enter Tryd.func35, Tryd.ntmps35
  go_wp2_with (first | ((with_reducible refine gate_dst (N := 2) rfl ?_); refine box_event ?hg (N := 2) ?hd (cs := #[.slice A0_0 l0_0.length c0_0, .slice A0_1 l0_1.length c0_1, .bool a0_2, .bool a0_3, .int .i64 a0_4]) (t := 52) ?hr ?_; (case hd => rfl); (case hg => rfl); (case hr => first | (go_simp; done) | (go_simp; rfl)); intro gb109 hg w3 hbox hb; have n0_ := Aside0.mk (below_step (by repeat (first | (with_reducible first | exact HB.out | apply below_alloc | apply pw_below_drewN | apply below_drew1) | exact HB.out)) hb); have n1_ := Aside0.mk (hbox); have n2_ := Aside0.mk ((by rw [hg]; exact (below_size (by repeat (first | (with_reducible first | exact HB.out | apply below_alloc | apply pw_below_drewN | apply below_drew1) | exact HB.out))) : w.heap.size ≤ gb109)); have n3_ := Aside0.mk ((by rw [hg]; exact (below_size (by repeat (first | (with_reducible first | exact HB.out | apply below_alloc | apply pw_below_drewN | apply below_drew1) | exact HB.out))) : w.heap.size ≤ gb109)); clear HB; have HB := n0_; have BK109 := n1_; have GW109 := n2_; have GE109 := n3_; clear n0_ n1_ n2_ n3_; clear hb hbox hg; have hcz4_0 : w3.cell? ⟨gb109, 0, none⟩ = some (.slice A0_0 l0_0.length c0_0) := (blk_cell BK109.out 0).trans rfl; have hcz4_1 : w3.cell? ⟨gb109, 1, none⟩ = some (.slice A0_1 l0_1.length c0_1) := (blk_cell BK109.out 1).trans rfl; have hcz4_2 : w3.cell? ⟨gb109, 2, none⟩ = some (.bool a0_2) := (blk_cell BK109.out 2).trans rfl; have hcz4_3 : w3.cell? ⟨gb109, 3, none⟩ = some (.bool a0_3) := (blk_cell BK109.out 3).trans rfl; have hcz4_4 : w3.cell? ⟨gb109, 4, none⟩ = some (.int .i64 a0_4) := (blk_cell BK109.out 4).trans rfl; have hfz4_0 := blk_frozen BK109.out 0; have hfz4_1 := blk_frozen BK109.out 1; have hfz4_2 := blk_frozen BK109.out 2; have hfz4_3 := blk_frozen BK109.out 3; have hfz4_4 := blk_frozen BK109.out 4))
  go_loopg [10] k (fun kq v10 w' => ∃ (x10_1 : Int), v10 = .int .i64 x10_1 ∧ Aside0 (filter_SentenceSplitter_isDelim.l0 kq a1 l0_0 (l0_0.length : Int) x10_1 = some r) ∧ Aside0 (kq ≤ k) ∧ Aside0 (w'.heap[gb109]? = some (.cells #[(.slice A0_0 l0_0.length c0_0), (.slice A0_1 l0_1.length c0_1), .bool a0_2, .bool a0_3, .int .i64 a0_4] 52 (0, 0))) ∧ Aside0 (Below w.heap.size w w'))
  case atStart => exact ⟨(0), (by first | rfl | (simp; done) | (simp [*]; done)), H', ⟨Nat.le_refl _⟩, ⟨by (with_reducible repeat (first | refine blk_drewN ?_ _ | refine blk_drew ?_ | refine blk_alloc ?_ _)); exact BK109.out⟩, ⟨by repeat (first | (with_reducible first | exact HB.out | apply below_alloc | apply pw_below_drewN | apply below_drew1 | refine below_set ?_ GE109.out) | exact HB.out)⟩⟩
  case round =>
    clear H'
    try clear p2
    try clear c3
    try clear hcz4_0
    try clear hcz4_1
    try clear hcz4_2
    try clear hcz4_3
    try clear hcz4_4
    try clear hfz4_0
    try clear hfz4_1
    try clear hfz4_2
    try clear hfz4_3
    try clear hfz4_4
    obtain ⟨x10_1, rfl, HA, HK1, BK109, HB⟩ := hrel
    cases gk with
    | zero => exact absurd HA.out (by simp [filter_SentenceSplitter_isDelim.l0])
    | succ k1 =>
      have H := HA.out
      clear HA
      simp only [filter_SentenceSplitter_isDelim.l0] at H
      by_cases c5 : x10_1 < (l0_0.length : Int)
      · rw [if_pos c5] at H
        have c5b0 : decide (x10_1 < (l0_0.length : Int)) = true := decide_eq_true c5
        clear c5
        by_cases c6 : 0 ≤ x10_1
        · rw [if_pos c6] at H
          have c6b0 : decide (0 ≤ x10_1) = true := decide_eq_true c6
          clear c6
          by_cases c7 : x10_1 < (l0_0.length : Int)
          · rw [if_pos c7] at H
            have c7b0 : decide (x10_1 < (l0_0.length : Int)) = true := decide_eq_true c7
            clear c7
            by_cases c8 : a1 = (rd l0_0 x10_1)
            · rw [if_pos c8] at H
              have c8b0 : (a1 == (rd l0_0 x10_1)) = true := beq_iff_eq.mpr c8
              have c8b1 : (a1 != (rd l0_0 x10_1)) = false := bne_eq_false_iff_eq.mpr c8
              clear c8
              obtain rfl := Option.some.inj H
              have p110 : 0 ≤ (x10_1 : Int) := of_decide_eq_true (by first | (with_reducible assumption) | assumption)
              have q110 : x10_1 < (l0_0.length : Int) := of_decide_eq_true (by first | (with_reducible assumption) | assumption)
              obtain ⟨ad110, e110, hx110_0⟩ := Kd.at_int HR0_0.out x10_1 p110 q110
              cases e110
              first | (replace hx110_0 := (HB.out.cell (World.block_lt_of_cell? w _ hx110_0)).trans hx110_0) | skip
              replace p110 := eq_true p110
              replace q110 := eq_true q110
              go_wp2
              go_ret
              exact ⟨by first | rfl | (simp [errW_none, errW_some] <;> rfl) | (simp [*, errW_none, errW_some] <;> rfl), by repeat (first | (with_reducible first | exact HB.out | apply below_alloc | apply pw_below_drewN | apply below_drew1 | refine below_set ?_ GE109.out) | exact HB.out)⟩
            · rw [if_neg c8] at H
              have c8b0 : (a1 == (rd l0_0 x10_1)) = false := beq_eq_false_iff_ne.mpr c8
              have c8b1 : (a1 != (rd l0_0 x10_1)) = true := bne_iff_ne.mpr c8
              have H' := Aside0.mk H
              clear H
              have p110 : 0 ≤ (x10_1 : Int) := of_decide_eq_true (by first | (with_reducible assumption) | assumption)
              have q110 : x10_1 < (l0_0.length : Int) := of_decide_eq_true (by first | (with_reducible assumption) | assumption)
              obtain ⟨ad110, e110, hx110_0⟩ := Kd.at_int HR0_0.out x10_1 p110 q110
              cases e110
              first | (replace hx110_0 := (HB.out.cell (World.block_lt_of_cell? w _ hx110_0)).trans hx110_0) | skip
              replace p110 := eq_true p110
              replace q110 := eq_true q110
              go_wp2
              go_roundg k1
              case measure => have := HK1.out; omega
              case rel => exact ⟨(wrap64 (x10_1 + 1)), (by first | rfl | (simp; done) | (simp [*]; done)), H', ⟨by have := HK1.out; omega⟩, ⟨by (with_reducible repeat (first | refine blk_drewN ?_ _ | refine blk_drew ?_ | refine blk_alloc ?_ _)); exact BK109.out⟩, ⟨by repeat (first | (with_reducible first | exact HB.out | apply below_alloc | apply pw_below_drewN | apply below_drew1 | refine below_set ?_ GE109.out) | exact HB.out)⟩⟩
          · rw [if_neg c7] at H
            exact absurd H (by simp)
        · rw [if_neg c6] at H
          exact absurd H (by simp)
      · rw [if_neg c5] at H
        have c5b0 : decide (x10_1 < (l0_0.length : Int)) = false := decide_eq_false c5
        clear c5
        obtain rfl := Option.some.inj H
        go_wp2
        go_ret
        exact ⟨by first | rfl | (simp [errW_none, errW_some] <;> rfl) | (simp [*, errW_none, errW_some] <;> rfl), by repeat (first | (with_reducible first | exact HB.out | apply below_alloc | apply pw_below_drewN | apply below_drew1 | refine below_set ?_ GE109.out) | exact HB.out)⟩

end Go.Proofs.YtpjnebmcbeblkaaDoor.P
