-- PRINTED by print.py (a twelfth state) out of the translation. Not trusted: Lean checks it.
import Derived.Test.YtlhljldlbcgnoaaP0
namespace Go.Proofs.Ytlhljldlbcgnoaa.P
open Go.RowKit Go.Proofs.YtlhljldlbcgnoaaW.PrintWords Go.Proofs.YtlhljldlbcgnoaaW.PrintLast Go.Proofs.YtlhljldlbcgnoaaW.PrintMore
attribute [local go_sem] max2_int min2_int max_two min_two max_three min_three max_four min_four   -- for this text's walks alone
set_option linter.unusedVariables false
set_option linter.unusedSimpArgs false

/-! ### spec_POSIDs: function 12 -/
mutual
def spec_POSIDs.l0 : Nat → List (List Int) → List ByteArray → List (List ByteArray) → Int → Int → Option ((List (List Int)) × List ByteArray)
  | 0, _, _, _, _, _ => none
  | k + 1, x4, x5, x13, x14, x15 => if x15 < x14 then (if 0 ≤ x15 then (if x15 < (x13.length : Int) then (spec_POSIDs.l1 k x4 x5 (([] : List Int)) x13 x14 x15 (rd_L1 x13 x15) ((rd_L1 x13 x15).length : Int) 0) else (none)) else (none)) else (some (x4, x5))
def spec_POSIDs.l1 : Nat → List (List Int) → List ByteArray → List Int → List (List ByteArray) → Int → Int → List ByteArray → Int → Int → Option ((List (List Int)) × List ByteArray)
  | 0, _, _, _, _, _, _, _, _, _ => none
  | k + 1, x4, x5, x8, x13, x14, x15, x20, x21, x22 => if x22 < x21 then (if 0 ≤ x22 then (if x22 < (x20.length : Int) then (spec_POSIDs.l2 k x4 x5 x8 (rdOf ByteArray.empty x20 x22) 1 x13 x14 x15 x20 x21 x22) else (none)) else (none)) else (if x4.length < 5864062014805 then (spec_POSIDs.l0 k (x4 ++ [x8]) x5 x13 x14 (wrap64 (x15 + 1))) else (none))
def spec_POSIDs.l2 : Nat → List (List Int) → List ByteArray → List Int → ByteArray → Int → List (List ByteArray) → Int → Int → List ByteArray → Int → Int → Option ((List (List Int)) × List ByteArray)
  | 0, _, _, _, _, _, _, _, _, _, _, _ => none
  | k + 1, x4, x5, x8, x10, x11, x13, x14, x15, x20, x21, x22 => if x11 < (x5.length : Int) then (if 0 ≤ x11 then (if (rdOf ByteArray.empty x5 x11).toList = x10.toList then (if x11 = (x5.length : Int) then (if x5.length < 8796093022208 then (if x8.length < 17592186044416 then (spec_POSIDs.l1 k x4 (x5 ++ [x10]) (x8 ++ [x11]) x13 x14 x15 x20 x21 (wrap64 (x22 + 1))) else (none)) else (none)) else (if x8.length < 17592186044416 then (spec_POSIDs.l1 k x4 x5 (x8 ++ [x11]) x13 x14 x15 x20 x21 (wrap64 (x22 + 1))) else (none))) else (spec_POSIDs.l2 k x4 x5 x8 x10 (wrap64 (x11 + 1)) x13 x14 x15 x20 x21 x22)) else (none)) else (if x11 = (x5.length : Int) then (if x5.length < 8796093022208 then (if x8.length < 17592186044416 then (spec_POSIDs.l1 k x4 (x5 ++ [x10]) (x8 ++ [x11]) x13 x14 x15 x20 x21 (wrap64 (x22 + 1))) else (none)) else (none)) else (if x8.length < 17592186044416 then (spec_POSIDs.l1 k x4 x5 (x8 ++ [x11]) x13 x14 x15 x20 x21 (wrap64 (x22 + 1))) else (none)))
end
def spec_POSIDs.f (k : Nat) (l0 : List (List ByteArray)) : Option ((List (List Int)) × List ByteArray) := spec_POSIDs.l0 k ([] : List (List Int)) (([(⟨#[]⟩ : ByteArray)] : List ByteArray)) l0 (l0.length : Int) 0
theorem spec_POSIDs.mono_l : ∀ k, (∀ y0 y1 y2 y3 y4, LeO (spec_POSIDs.l0 k y0 y1 y2 y3 y4) (spec_POSIDs.l0 (k + 1) y0 y1 y2 y3 y4)) ∧ (∀ y0 y1 y2 y3 y4 y5 y6 y7 y8, LeO (spec_POSIDs.l1 k y0 y1 y2 y3 y4 y5 y6 y7 y8) (spec_POSIDs.l1 (k + 1) y0 y1 y2 y3 y4 y5 y6 y7 y8)) ∧ (∀ y0 y1 y2 y3 y4 y5 y6 y7 y8 y9 y10, LeO (spec_POSIDs.l2 k y0 y1 y2 y3 y4 y5 y6 y7 y8 y9 y10) (spec_POSIDs.l2 (k + 1) y0 y1 y2 y3 y4 y5 y6 y7 y8 y9 y10))
  | 0 => ⟨fun _ _ _ _ _ r h => by simp [spec_POSIDs.l0] at h, fun _ _ _ _ _ _ _ _ _ r h => by simp [spec_POSIDs.l1] at h, fun _ _ _ _ _ _ _ _ _ _ _ r h => by simp [spec_POSIDs.l2] at h⟩
  | k + 1 => by
    obtain ⟨ih0, ih1, ih2⟩ := spec_POSIDs.mono_l k
    refine ⟨?_, ?_, ?_⟩
    · intro y0 y1 y2 y3 y4
      unfold spec_POSIDs.l0
      repeat' first
      | (with_reducible exact ih0 _ _ _ _ _)
      | (with_reducible exact ih1 _ _ _ _ _ _ _ _ _)
      | (with_reducible exact ih2 _ _ _ _ _ _ _ _ _ _ _)
      | (with_reducible exact LeO.refl _)
      | (with_reducible exact LeO.none _)
      | (with_reducible refine LeO.ite ?_ ?_)
      | (with_reducible refine LeO.bind ?_ (fun _ => ?_))
      | exact ih0 _ _ _ _ _
      | exact ih1 _ _ _ _ _ _ _ _ _
      | exact ih2 _ _ _ _ _ _ _ _ _ _ _
      | exact LeO.none _
      | refine LeO.ite ?_ ?_
      | refine LeO.bind ?_ (fun _ => ?_)
    · intro y0 y1 y2 y3 y4 y5 y6 y7 y8
      unfold spec_POSIDs.l1
      repeat' first
      | (with_reducible exact ih0 _ _ _ _ _)
      | (with_reducible exact ih1 _ _ _ _ _ _ _ _ _)
      | (with_reducible exact ih2 _ _ _ _ _ _ _ _ _ _ _)
      | (with_reducible exact LeO.refl _)
      | (with_reducible exact LeO.none _)
      | (with_reducible refine LeO.ite ?_ ?_)
      | (with_reducible refine LeO.bind ?_ (fun _ => ?_))
      | exact ih0 _ _ _ _ _
      | exact ih1 _ _ _ _ _ _ _ _ _
      | exact ih2 _ _ _ _ _ _ _ _ _ _ _
      | exact LeO.none _
      | refine LeO.ite ?_ ?_
      | refine LeO.bind ?_ (fun _ => ?_)
    · intro y0 y1 y2 y3 y4 y5 y6 y7 y8 y9 y10
      unfold spec_POSIDs.l2
      repeat' first
      | (with_reducible exact ih0 _ _ _ _ _)
      | (with_reducible exact ih1 _ _ _ _ _ _ _ _ _)
      | (with_reducible exact ih2 _ _ _ _ _ _ _ _ _ _ _)
      | (with_reducible exact LeO.refl _)
      | (with_reducible exact LeO.none _)
      | (with_reducible refine LeO.ite ?_ ?_)
      | (with_reducible refine LeO.bind ?_ (fun _ => ?_))
      | exact ih0 _ _ _ _ _
      | exact ih1 _ _ _ _ _ _ _ _ _
      | exact ih2 _ _ _ _ _ _ _ _ _ _ _
      | exact LeO.none _
      | refine LeO.ite ?_ ?_
      | refine LeO.bind ?_ (fun _ => ?_)
theorem spec_POSIDs.mono : ∀ a0 k, LeO (spec_POSIDs.f k a0) (spec_POSIDs.f (k + 1) a0) := by
  intro a0 k
  obtain ⟨ih0, ih1, ih2⟩ := spec_POSIDs.mono_l k
  unfold spec_POSIDs.f
  repeat' first
      | (with_reducible exact ih0 _ _ _ _ _)
      | (with_reducible exact ih1 _ _ _ _ _ _ _ _ _)
      | (with_reducible exact ih2 _ _ _ _ _ _ _ _ _ _ _)
      | (with_reducible exact LeO.refl _)
      | (with_reducible exact LeO.none _)
      | (with_reducible refine LeO.ite ?_ ?_)
      | (with_reducible refine LeO.bind ?_ (fun _ => ?_))
      | exact ih0 _ _ _ _ _
      | exact ih1 _ _ _ _ _ _ _ _ _
      | exact ih2 _ _ _ _ _ _ _ _ _ _ _
      | exact LeO.none _
      | refine LeO.ite ?_ ?_
      | refine LeO.bind ?_ (fun _ => ?_)
set_option maxHeartbeats 8000000 in
set_option maxRecDepth 100000 in
theorem spec_POSIDs.calls (k : Nat) (A0 : Option Addr) (c0 : Nat) (l0 : List (List ByteArray)) (r1 : List (List Int)) (r2 : List ByteArray) (w : World) (hr0 : Kd.C (Kd.slice 9 Kd.string) w A0 l0.length l0) (hc0 : l0.length ≤ c0) (h : spec_POSIDs.f k l0 = some (r1, r2)) :
    Calls Try.prog 12 #[.slice A0 l0.length c0] w fun e w' => ∃ v0_ v1_ : Value, e = .returned (.tuple #[v0_, v1_]) ∧ Kd.S (Kd.slice 3 (Kd.int .i64)) 28 w' w.heap.size (fun _ => True) v0_ r1 ∧ Kd.R Kd.string 9 w' w.heap.size (fun _ => True) v1_ r2 ∧ Below w.heap.size w w' := by
  have HR0 := Aside0.mk hr0
  have HC0 := Aside0.mk hc0
  clear hr0 hc0
  have HB := Aside0.mk (Below.refl w.heap.size w)
  have H : (spec_POSIDs.l0 k ([] : List (List Int)) (([(⟨#[]⟩ : ByteArray)] : List ByteArray)) l0 (l0.length : Int) 0) = some (r1, r2) := h
  clear h
  obtain ⟨y152, hy152⟩ : ∃ y_ : List ByteArray, y_ = (([(⟨#[]⟩ : ByteArray)] : List ByteArray)) := ⟨_, rfl⟩
  replace H : (spec_POSIDs.l0 k ([] : List (List Int)) y152 l0 (l0.length : Int) 0) = some (r1, r2) := by first | (rw [hy152]; with_reducible exact H) | (have H2_ := (Option.bind_some _ _).symm.trans H; rw [hy152]; with_reducible exact H2_) | (have H2_ := (Option.bind_some _ _).symm.trans H; with_reducible exact H2_) | with_reducible exact H | (rw [hy152]; exact H) | exact H
  have Ny152 := Aside0.mk hy152
  clear hy152
  have H' := Aside0.mk H
  clear H
  go_enter Try.func12, Try.ntmps12
  go_wp2_with (first | ((with_reducible refine gate_dst (N := 12) rfl ?_); refine Kd.R_lit Kd.string _ 9 ?hg (N := 12) ?hd (xs := ([(⟨#[]⟩ : ByteArray)] : List ByteArray)) (inner := [.string (⟨#[]⟩ : ByteArray)]) (ok := fun _ => True) (okp := fun _ => True) ?hr ?hp (fun _ hk => hk) trivial (Below.refl _ _) (Nat.le_refl _) (by simp) ?_; (case hd => rfl); (case hg => rfl); (case hr => first | (go_simp; done) | (go_simp; rfl)); (case hp => exact (Reps.one (show Kd.M Kd.string _ _ _ (⟨#[]⟩ : ByteArray) [.string (⟨#[]⟩ : ByteArray)] from rfl) (Reps.none _ _))); intro v153 w2 ho3 hb hg_ hnew_; clear hg_ hnew_; (first | rw [← Ny152.out] at ho3 | (simp only [Int.reduceToNat] at ho3; rw [← Ny152.out] at ho3)); have n0_ := Aside0.mk (Kd.R_lower ho3 (below_size (by repeat (first | (with_reducible first | exact HB.out | apply below_alloc | apply pw_below_drewN | apply below_drew1) | exact HB.out)))); have n1_ := Aside0.mk (below_step (by repeat (first | (with_reducible first | exact HB.out | apply below_alloc | apply pw_below_drewN | apply below_drew1) | exact HB.out)) hb); clear HB; have HO154 := n0_; have HB := n1_; clear n0_ n1_; clear hb ho3))
  go_loopg [4, 5, 15] k (fun kq v4 v5 v15 w' => ∃ (x4_1 : List (List Int)) (x5_1 : List ByteArray) (x15_1 : Int), v15 = .int .i64 x15_1 ∧ Aside0 (spec_POSIDs.l0 kq x4_1 x5_1 l0 (l0.length : Int) x15_1 = some (r1, r2)) ∧ Aside0 (kq ≤ k) ∧ Aside0 (Kd.S (Kd.slice 3 (Kd.int .i64)) 28 w' w.heap.size (fun _ => True) v4 x4_1) ∧ Aside0 (Kd.R Kd.string 9 w' w.heap.size (fun _ => True) v5 x5_1) ∧ Aside0 (Below w.heap.size w w'))
  case atStart => exact ⟨(([] : List (List Int))), (y152), (0), (by first | rfl | (simp; done) | (simp [*]; done)), H', ⟨Nat.le_refl _⟩, ⟨by first | exact Kd.S_nil _ _ _ _ _ | exact Kd.N_nil _ _ _ _ _ | exact Kd.V_nil _ _ _ _ _ | exact Kd.Q_nil _ _ _ _ _ | exact Kd.R_nil _ _ _ _ _⟩, ⟨by (with_reducible repeat (first | apply Kd.R_alloc | apply Kd.R_drewN | apply Kd.R_drew)); exact HO154.out⟩, ⟨by repeat (first | (with_reducible first | exact HB.out | apply below_alloc | apply pw_below_drewN | apply below_drew1) | exact HB.out)⟩⟩
  case round =>
    clear H'
    try clear c1
    try clear p2
    obtain ⟨x4_1, x5_1, x15_1, rfl, HA, HK1, HO_4, HO_5, HB⟩ := hrel
    cases gk with
    | zero => exact absurd HA.out (by simp [spec_POSIDs.l0])
    | succ k1 =>
      have H := HA.out
      clear HA
      simp only [spec_POSIDs.l0] at H
      by_cases c4 : x15_1 < (l0.length : Int)
      · rw [if_pos c4] at H
        have c4b0 : decide (x15_1 < (l0.length : Int)) = true := decide_eq_true c4
        clear c4
        by_cases c5 : 0 ≤ x15_1
        · rw [if_pos c5] at H
          have c5b0 : decide (0 ≤ x15_1) = true := decide_eq_true c5
          clear c5
          by_cases c6 : x15_1 < (l0.length : Int)
          · rw [if_pos c6] at H
            have c6b0 : decide (x15_1 < (l0.length : Int)) = true := decide_eq_true c6
            clear c6
            obtain ⟨y156, hy156⟩ : ∃ y_ : List Int, y_ = (([] : List Int)) := ⟨_, rfl⟩
            replace H : (spec_POSIDs.l1 k1 x4_1 x5_1 y156 l0 (l0.length : Int) x15_1 (rd_L1 l0 x15_1) ((rd_L1 l0 x15_1).length : Int) 0) = some (r1, r2) := by first | (rw [hy156]; with_reducible exact H) | (have H2_ := (Option.bind_some _ _).symm.trans H; rw [hy156]; with_reducible exact H2_) | (have H2_ := (Option.bind_some _ _).symm.trans H; with_reducible exact H2_) | with_reducible exact H | (rw [hy156]; exact H) | exact H
            have Ny156 := Aside0.mk hy156
            clear hy156
            have H' := Aside0.mk H
            clear H
            have p155 : 0 ≤ (x15_1 : Int) := of_decide_eq_true (by first | (with_reducible assumption) | assumption)
            have q155 : x15_1 < (l0.length : Int) := of_decide_eq_true (by first | (with_reducible assumption) | assumption)
            obtain ⟨ad155, A155_0, c155_0, e155, hx155_0, hl155_0, hi155_0⟩ := at_L1 HR0.out x15_1 p155 q155
            cases e155
            first | (replace hx155_0 := (HB.out.cell (World.block_lt_of_cell? w _ hx155_0)).trans hx155_0) | skip
            have HR155_0 := Aside0.mk hi155_0
            have HC155_0 := Aside0.mk hl155_0
            clear hi155_0 hl155_0
            replace p155 := eq_true p155
            replace q155 := eq_true q155
            go_wp2_with (first | ((with_reducible refine gate_dst (N := 19) rfl ?_); refine Kd.R_lit (Kd.int .i64) _ 3 ?hg (N := 19) ?hd (xs := ([] : List Int)) (inner := []) (ok := fun _ => True) (okp := fun _ => True) ?hr ?hp (fun _ hk => hk) trivial (Below.refl _ _) (Nat.le_refl _) (by simp) ?_; (case hd => rfl); (case hg => rfl); (case hr => first | (go_simp; done) | (go_simp; rfl)); (case hp => exact (Reps.none _ _)); intro v157 w7 ho8 hb hg_ hnew_; clear hg_ hnew_; (first | rw [← Ny156.out] at ho8 | (simp only [Int.reduceToNat] at ho8; rw [← Ny156.out] at ho8)); have n0_ := Aside0.mk (Kd.S_elder' (by (with_reducible repeat (first | apply Kd.S_alloc | apply Kd.S_drewN | apply Kd.S_drew)); exact HO_4.out) (by first | exact Kd.N_base ho8 | exact Kd.S_base ho8 | exact Kd.R_base ho8) hb); have n1_ := Aside0.mk (Kd.R_below (by (with_reducible repeat (first | apply Kd.R_alloc | apply Kd.R_drewN | apply Kd.R_drew)); exact HO_5.out) hb); have n2_ := Aside0.mk (Kd.R_lower ho8 (below_size (by repeat (first | (with_reducible first | exact HB.out | apply below_alloc | apply pw_below_drewN | apply below_drew1) | exact HB.out)))); have n3_ := Aside0.mk (below_step (by repeat (first | (with_reducible first | exact HB.out | apply below_alloc | apply pw_below_drewN | apply below_drew1) | exact HB.out)) hb); clear HO_4; clear HO_5; clear HB; have HO_4 := n0_; have HO_5 := n1_; have HO158 := n2_; have HB := n3_; clear n0_ n1_ n2_ n3_; clear hb ho8))
            go_loopg [5, 8, 22] k1 (fun kq v5 v8 v22 w' => ∃ (x5_2 : List ByteArray) (x8_2 : List Int) (x22_2 : Int), v22 = .int .i64 x22_2 ∧ Aside0 (spec_POSIDs.l1 kq x4_1 x5_2 x8_2 l0 (l0.length : Int) x15_1 (rd_L1 l0 x15_1) ((rd_L1 l0 x15_1).length : Int) x22_2 = some (r1, r2)) ∧ Aside0 (kq ≤ k1) ∧ Aside0 (Kd.S (Kd.slice 3 (Kd.int .i64)) 28 w' w.heap.size (fun k_ => some k_ ≠ (v8 : Value).ownBlock) u4 x4_1) ∧ Aside0 (Kd.R Kd.string 9 w' w.heap.size (fun _ => True) v5 x5_2) ∧ Aside0 (Kd.R (Kd.int .i64) 3 w' w.heap.size (fun _ => True) v8 x8_2) ∧ Aside0 (Below w.heap.size w w'))
            case atStart => exact ⟨(x5_1), (y156), (0), (by first | rfl | (simp; done) | (simp [*]; done)), H', ⟨Nat.le_refl _⟩, ⟨by (with_reducible repeat (first | apply Kd.S_alloc | apply Kd.S_drewN | apply Kd.S_drew)); exact Kd.S_mono HO_4.out (fun _ hk => hk.2)⟩, ⟨by (with_reducible repeat (first | apply Kd.R_alloc | apply Kd.R_drewN | apply Kd.R_drew)); exact HO_5.out⟩, ⟨by (with_reducible repeat (first | apply Kd.R_alloc | apply Kd.R_drewN | apply Kd.R_drew)); exact HO158.out⟩, ⟨by repeat (first | (with_reducible first | exact HB.out | apply below_alloc | apply pw_below_drewN | apply below_drew1) | exact HB.out)⟩⟩
            case round =>
              clear H'
              try clear c1
              try clear p1
              try clear q1
              try clear hx1
              try clear p2
              try clear c4
              try clear c4b0
              try clear c5
              try clear c5b0
              try clear c6
              try clear c6b0
              try clear hx155_0
              try clear p155
              try clear p2
              try clear q155
              obtain ⟨x5_2, x8_2, x22_2, rfl, HA, HK2, HO_4, HO_5, HO_8, HB⟩ := hrel
              cases gk with
              | zero => exact absurd HA.out (by simp [spec_POSIDs.l1])
              | succ k2 =>
                have H := HA.out
                clear HA
                simp only [spec_POSIDs.l1] at H
                by_cases c9 : x22_2 < ((rd_L1 l0 x15_1).length : Int)
                · rw [if_pos c9] at H
                  have c9b0 : decide (x22_2 < ((rd_L1 l0 x15_1).length : Int)) = true := decide_eq_true c9
                  clear c9
                  by_cases c10 : 0 ≤ x22_2
                  · rw [if_pos c10] at H
                    have c10b0 : decide (0 ≤ x22_2) = true := decide_eq_true c10
                    clear c10
                    by_cases c11 : x22_2 < ((rd_L1 l0 x15_1).length : Int)
                    · rw [if_pos c11] at H
                      have c11b0 : decide (x22_2 < ((rd_L1 l0 x15_1).length : Int)) = true := decide_eq_true c11
                      clear c11
                      have H' := Aside0.mk H
                      clear H
                      have p162 : 0 ≤ (x22_2 : Int) := of_decide_eq_true (by first | (with_reducible assumption) | assumption)
                      have q162 : x22_2 < ((rd_L1 l0 x15_1).length : Int) := of_decide_eq_true (by first | (with_reducible assumption) | assumption)
                      obtain ⟨ad162, e162, hx162_0⟩ := Kd.at_string HR155_0.out x22_2 p162 q162
                      cases e162
                      first | (replace hx162_0 := (HB.out.cell (World.block_lt_of_cell? w _ hx162_0)).trans hx162_0) | skip
                      replace p162 := eq_true p162
                      replace q162 := eq_true q162
                      go_wp2
                      go_loopg [11] k2 (fun kq v11 w' => ∃ (x11_3 : Int), v11 = .int .i64 x11_3 ∧ Aside0 (spec_POSIDs.l2 kq x4_1 x5_2 x8_2 (rdOf ByteArray.empty (rd_L1 l0 x15_1) x22_2) x11_3 l0 (l0.length : Int) x15_1 (rd_L1 l0 x15_1) ((rd_L1 l0 x15_1).length : Int) x22_2 = some (r1, r2)) ∧ Aside0 (kq ≤ k2) ∧ Aside0 (Kd.S (Kd.slice 3 (Kd.int .i64)) 28 w' w.heap.size (fun k_ => some k_ ≠ (u8 : Value).ownBlock) u4 x4_1) ∧ Aside0 (Kd.R Kd.string 9 w' w.heap.size (fun _ => True) u5 x5_2) ∧ Aside0 (Kd.R (Kd.int .i64) 3 w' w.heap.size (fun _ => True) u8 x8_2) ∧ Aside0 (Below w.heap.size w w'))
                      case atStart => exact ⟨(1), (by first | rfl | (simp; done) | (simp [*]; done)), H', ⟨Nat.le_refl _⟩, ⟨by (with_reducible repeat (first | apply Kd.S_alloc | apply Kd.S_drewN | apply Kd.S_drew)); exact HO_4.out⟩, ⟨by (with_reducible repeat (first | apply Kd.R_alloc | apply Kd.R_drewN | apply Kd.R_drew)); exact HO_5.out⟩, ⟨by (with_reducible repeat (first | apply Kd.R_alloc | apply Kd.R_drewN | apply Kd.R_drew)); exact HO_8.out⟩, ⟨by repeat (first | (with_reducible first | exact HB.out | apply below_alloc | apply pw_below_drewN | apply below_drew1) | exact HB.out)⟩⟩
                      case round =>
                        clear H'
                        try clear c1
                        try clear p1
                        try clear q1
                        try clear hx1
                        try clear p2
                        try clear c4
                        try clear c4b0
                        try clear c5
                        try clear c5b0
                        try clear c6
                        try clear c6b0
                        try clear c9
                        try clear c9b0
                        try clear c10
                        try clear c10b0
                        try clear c11
                        try clear c11b0
                        try clear hx155_0
                        try clear hx162_0
                        try clear p1
                        try clear p155
                        try clear p162
                        try clear p2
                        try clear q1
                        try clear q155
                        try clear q162
                        obtain ⟨x11_3, rfl, HA, HK3, HO_4, HO_5, HO_8, HB⟩ := hrel
                        cases gk with
                        | zero => exact absurd HA.out (by simp [spec_POSIDs.l2])
                        | succ k3 =>
                          have H := HA.out
                          clear HA
                          simp only [spec_POSIDs.l2] at H
                          by_cases c12 : x11_3 < (x5_2.length : Int)
                          · rw [if_pos c12] at H
                            have c12b0 : decide (x11_3 < (x5_2.length : Int)) = true := decide_eq_true c12
                            clear c12
                            by_cases c13 : 0 ≤ x11_3
                            · rw [if_pos c13] at H
                              have c13b0 : decide (0 ≤ x11_3) = true := decide_eq_true c13
                              clear c13
                              by_cases c14 : (rdOf ByteArray.empty x5_2 x11_3).toList = (rdOf ByteArray.empty (rd_L1 l0 x15_1) x22_2).toList
                              · rw [if_pos c14] at H
                                have c14b0 : ((rdOf ByteArray.empty x5_2 x11_3).toList == (rdOf ByteArray.empty (rd_L1 l0 x15_1) x22_2).toList) = true := beq_iff_eq.mpr c14
                                have c14b1 : ((rdOf ByteArray.empty x5_2 x11_3).toList != (rdOf ByteArray.empty (rd_L1 l0 x15_1) x22_2).toList) = false := bne_eq_false_iff_eq.mpr c14
                                clear c14
                                by_cases c15 : x11_3 = (x5_2.length : Int)
                                · rw [if_pos c15] at H
                                  have c15b0 : (x11_3 == (x5_2.length : Int)) = true := beq_iff_eq.mpr c15
                                  have c15b1 : (x11_3 != (x5_2.length : Int)) = false := bne_eq_false_iff_eq.mpr c15
                                  clear c15
                                  by_cases c16 : x5_2.length < 8796093022208
                                  · rw [if_pos c16] at H
                                    have LMc16 := Aside0.mk c16
                                    clear c16
                                    obtain ⟨y164, hy164⟩ : ∃ y_ : List ByteArray, y_ = (x5_2 ++ [(rdOf ByteArray.empty (rd_L1 l0 x15_1) x22_2)]) := ⟨_, rfl⟩
                                    replace H : (if x8_2.length < 17592186044416 then (spec_POSIDs.l1 k3 x4_1 y164 (x8_2 ++ [x11_3]) l0 (l0.length : Int) x15_1 (rd_L1 l0 x15_1) ((rd_L1 l0 x15_1).length : Int) (wrap64 (x22_2 + 1))) else (none)) = some (r1, r2) := by first | (rw [hy164]; with_reducible exact H) | (have H2_ := (Option.bind_some _ _).symm.trans H; rw [hy164]; with_reducible exact H2_) | (have H2_ := (Option.bind_some _ _).symm.trans H; with_reducible exact H2_) | with_reducible exact H | (rw [hy164]; exact H) | exact H
                                    have Ny164 := Aside0.mk hy164
                                    clear hy164
                                    by_cases c17 : x8_2.length < 17592186044416
                                    · rw [if_pos c17] at H
                                      have LMc17 := Aside0.mk c17
                                      clear c17
                                      obtain ⟨y167, hy167⟩ : ∃ y_ : List Int, y_ = (x8_2 ++ [x11_3]) := ⟨_, rfl⟩
                                      replace H : (spec_POSIDs.l1 k3 x4_1 y164 y167 l0 (l0.length : Int) x15_1 (rd_L1 l0 x15_1) ((rd_L1 l0 x15_1).length : Int) (wrap64 (x22_2 + 1))) = some (r1, r2) := by first | (rw [hy167]; with_reducible exact H) | (have H2_ := (Option.bind_some _ _).symm.trans H; rw [hy167]; with_reducible exact H2_) | (have H2_ := (Option.bind_some _ _).symm.trans H; with_reducible exact H2_) | with_reducible exact H | (rw [hy167]; exact H) | exact H
                                      have Ny167 := Aside0.mk hy167
                                      clear hy167
                                      have H' := Aside0.mk H
                                      clear H
                                      obtain ⟨Ao18, co18, eo18⟩ := Kd.R_slice HO_5.out
                                      subst eo18
                                      have p163 : 0 ≤ (x11_3 : Int) := of_decide_eq_true (by first | (with_reducible assumption) | assumption)
                                      have q163 : x11_3 < (x5_2.length : Int) := of_decide_eq_true (by first | (with_reducible assumption) | assumption)
                                      obtain ⟨ad163, e163, hx163_0⟩ := Kd.at_string (Kd.R_reads' HO_5.out).2.2 x11_3 p163 q163
                                      cases e163
                                      replace p163 := eq_true p163
                                      replace q163 := eq_true q163
                                      go_wp2_with (first | ((with_reducible refine gate_builtin (b := .append) (xs := #[.tmp 44, .tmp 46]) rfl ?_); at_builtin; refine Kd.R_append Kd.string (w0 := w) w.heap.size rfl (.tmp 44) (.tmp 46) 25 9 (.string ⟨#[]⟩) 16 rfl Try.underlying25 info9 rfl (by decide) (by omega) (.slice (some ad163) x5_2.length co18) x5_2 (rdOf ByteArray.empty (rd_L1 l0 x15_1) x22_2) [.string (rdOf ByteArray.empty (rd_L1 l0 x15_1) x22_2)] (fun _ => True) (fun _ => False) rfl rfl ?aP (fun _ hk => hk.elim) ?aF ?aO ?aB ?aS ?aL ?_; (case aP => exact rfl); (case aB => exact (by repeat (first | (with_reducible first | exact HB.out | apply below_alloc | apply pw_below_drewN | apply below_drew1) | exact HB.out))); (case aF => exact (fun _ _ => trivial)); (case aO => exact (by (with_reducible repeat (first | apply Kd.R_alloc | apply Kd.R_drewN | apply Kd.R_drew)); exact HO_5.out)); (case aS => exact (below_size (by repeat (first | (with_reducible first | exact HB.out | apply below_alloc | apply pw_below_drewN | apply below_drew1) | exact HB.out)))); (case aL => have := LMc16.out; omega); intro v165 w19 ho hb hg hat; rw [← Ny164.out] at ho; have n0_ := Aside0.mk (Kd.S_over' (by (with_reducible repeat (first | apply Kd.S_alloc | apply Kd.S_drewN | apply Kd.S_drew)); exact HO_4.out) (Kd.R_typed (by (with_reducible repeat (first | apply Kd.R_alloc | apply Kd.R_drewN | apply Kd.R_drew)); exact HO_5.out)) (by decide) hg); have n1_ := Aside0.mk (Kd.R_over' (by (with_reducible repeat (first | apply Kd.R_alloc | apply Kd.R_drewN | apply Kd.R_drew)); exact HO_8.out) (Kd.R_typed (by (with_reducible repeat (first | apply Kd.R_alloc | apply Kd.R_drewN | apply Kd.R_drew)); exact HO_5.out)) (by decide) hg); have n2_ := Aside0.mk (hb); have n3_ := Aside0.mk (ho); clear HO_4; clear HO_8; clear HB; clear HO_5; have HO_4 := n0_; have HO_8 := n1_; have HB := n2_; have HO166 := n3_; clear n0_ n1_ n2_ n3_; clear ho hb hg hat) | ((with_reducible refine gate_builtin (b := .append) (xs := #[.tmp 48, .tmp 50]) rfl ?_); at_builtin; refine Kd.R_append (Kd.int .i64) (w0 := w) w.heap.size rfl (.tmp 48) (.tmp 50) 28 3 (.int .i64 0) 8 rfl Try.underlying28 info3 rfl (by decide) (by omega) u8 x8_2 x11_3 [.int .i64 x11_3] (fun _ => True) (fun _ => False) rfl rfl ?aP (fun _ hk => hk.elim) ?aF ?aO ?aB ?aS ?aL ?_; (case aP => exact rfl); (case aB => exact (by repeat (first | (with_reducible first | exact HB.out | apply below_alloc | apply pw_below_drewN | apply below_drew1) | exact HB.out))); (case aF => exact (fun _ _ => trivial)); (case aO => exact (by (with_reducible repeat (first | apply Kd.R_alloc | apply Kd.R_drewN | apply Kd.R_drew)); exact HO_8.out)); (case aS => exact (below_size (by repeat (first | (with_reducible first | exact HB.out | apply below_alloc | apply pw_below_drewN | apply below_drew1) | exact HB.out)))); (case aL => have := LMc17.out; omega); intro v168 w20 ho hb hg hat; rw [← Ny167.out] at ho; have n0_ := Aside0.mk (Kd.S_after (ok := (fun _ => True)) (by (with_reducible repeat (first | apply Kd.S_alloc | apply Kd.S_drewN | apply Kd.S_drew)); exact Kd.S_mono HO_4.out (fun _ hk => ⟨trivial, hk⟩)) hg hat); have n1_ := Aside0.mk (Kd.R_over' (by (with_reducible repeat (first | apply Kd.R_alloc | apply Kd.R_drewN | apply Kd.R_drew)); exact HO166.out) (Kd.R_typed (by (with_reducible repeat (first | apply Kd.R_alloc | apply Kd.R_drewN | apply Kd.R_drew)); exact HO_8.out)) (by decide) hg); have n2_ := Aside0.mk (hb); have n3_ := Aside0.mk (ho); clear HO_4; clear HO166; clear HB; clear HO_8; have HO_4 := n0_; have HO166 := n1_; have HB := n2_; have HO169 := n3_; clear n0_ n1_ n2_ n3_; clear ho hb hg hat))
                                      go_roundg k3
                                      case measure => have := HK1.out; have := HK2.out; have := HK3.out; omega
                                      case rel => exact ⟨(y164), (y167), (wrap64 (x22_2 + 1)), (by first | rfl | (simp; done) | (simp [*]; done)), H', ⟨by have := HK1.out; have := HK2.out; have := HK3.out; omega⟩, ⟨by (with_reducible repeat (first | apply Kd.S_alloc | apply Kd.S_drewN | apply Kd.S_drew)); exact Kd.S_mono HO_4.out (fun _ hk => hk.2)⟩, ⟨by (with_reducible repeat (first | apply Kd.R_alloc | apply Kd.R_drewN | apply Kd.R_drew)); exact HO166.out⟩, ⟨by (with_reducible repeat (first | apply Kd.R_alloc | apply Kd.R_drewN | apply Kd.R_drew)); exact HO169.out⟩, ⟨by repeat (first | (with_reducible first | exact HB.out | apply below_alloc | apply pw_below_drewN | apply below_drew1) | exact HB.out)⟩⟩
                                    · rw [if_neg c17] at H
                                      exact absurd H (by simp)
                                  · rw [if_neg c16] at H
                                    exact absurd H (by simp)
                                · rw [if_neg c15] at H
                                  have c15b0 : (x11_3 == (x5_2.length : Int)) = false := beq_eq_false_iff_ne.mpr c15
                                  have c15b1 : (x11_3 != (x5_2.length : Int)) = true := bne_iff_ne.mpr c15
                                  by_cases c21 : x8_2.length < 17592186044416
                                  · rw [if_pos c21] at H
                                    have LMc21 := Aside0.mk c21
                                    clear c21
                                    obtain ⟨y170, hy170⟩ : ∃ y_ : List Int, y_ = (x8_2 ++ [x11_3]) := ⟨_, rfl⟩
                                    replace H : (spec_POSIDs.l1 k3 x4_1 x5_2 y170 l0 (l0.length : Int) x15_1 (rd_L1 l0 x15_1) ((rd_L1 l0 x15_1).length : Int) (wrap64 (x22_2 + 1))) = some (r1, r2) := by first | (rw [hy170]; with_reducible exact H) | (have H2_ := (Option.bind_some _ _).symm.trans H; rw [hy170]; with_reducible exact H2_) | (have H2_ := (Option.bind_some _ _).symm.trans H; with_reducible exact H2_) | with_reducible exact H | (rw [hy170]; exact H) | exact H
                                    have Ny170 := Aside0.mk hy170
                                    clear hy170
                                    have H' := Aside0.mk H
                                    clear H
                                    obtain ⟨Ao22, co22, eo22⟩ := Kd.R_slice HO_5.out
                                    subst eo22
                                    have p163 : 0 ≤ (x11_3 : Int) := of_decide_eq_true (by first | (with_reducible assumption) | assumption)
                                    have q163 : x11_3 < (x5_2.length : Int) := of_decide_eq_true (by first | (with_reducible assumption) | assumption)
                                    obtain ⟨ad163, e163, hx163_0⟩ := Kd.at_string (Kd.R_reads' HO_5.out).2.2 x11_3 p163 q163
                                    cases e163
                                    replace p163 := eq_true p163
                                    replace q163 := eq_true q163
                                    go_wp2_with (first | ((with_reducible refine gate_builtin (b := .append) (xs := #[.tmp 48, .tmp 50]) rfl ?_); at_builtin; refine Kd.R_append (Kd.int .i64) (w0 := w) w.heap.size rfl (.tmp 48) (.tmp 50) 28 3 (.int .i64 0) 8 rfl Try.underlying28 info3 rfl (by decide) (by omega) u8 x8_2 x11_3 [.int .i64 x11_3] (fun _ => True) (fun _ => False) rfl rfl ?aP (fun _ hk => hk.elim) ?aF ?aO ?aB ?aS ?aL ?_; (case aP => exact rfl); (case aB => exact (by repeat (first | (with_reducible first | exact HB.out | apply below_alloc | apply pw_below_drewN | apply below_drew1) | exact HB.out))); (case aF => exact (fun _ _ => trivial)); (case aO => exact (by (with_reducible repeat (first | apply Kd.R_alloc | apply Kd.R_drewN | apply Kd.R_drew)); exact HO_8.out)); (case aS => exact (below_size (by repeat (first | (with_reducible first | exact HB.out | apply below_alloc | apply pw_below_drewN | apply below_drew1) | exact HB.out)))); (case aL => have := LMc21.out; omega); intro v171 w23 ho hb hg hat; rw [← Ny170.out] at ho; have n0_ := Aside0.mk (Kd.S_after (ok := (fun _ => True)) (by (with_reducible repeat (first | apply Kd.S_alloc | apply Kd.S_drewN | apply Kd.S_drew)); exact Kd.S_mono HO_4.out (fun _ hk => ⟨trivial, hk⟩)) hg hat); have n1_ := Aside0.mk (Kd.R_over' (by (with_reducible repeat (first | apply Kd.R_alloc | apply Kd.R_drewN | apply Kd.R_drew)); exact HO_5.out) (Kd.R_typed (by (with_reducible repeat (first | apply Kd.R_alloc | apply Kd.R_drewN | apply Kd.R_drew)); exact HO_8.out)) (by decide) hg); have n2_ := Aside0.mk (hb); have n3_ := Aside0.mk (ho); clear HO_4; clear HO_5; clear HB; clear HO_8; have HO_4 := n0_; have HO_5 := n1_; have HB := n2_; have HO172 := n3_; clear n0_ n1_ n2_ n3_; clear ho hb hg hat))
                                    go_roundg k3
                                    case measure => have := HK1.out; have := HK2.out; have := HK3.out; omega
                                    case rel => exact ⟨(x5_2), (y170), (wrap64 (x22_2 + 1)), (by first | rfl | (simp; done) | (simp [*]; done)), H', ⟨by have := HK1.out; have := HK2.out; have := HK3.out; omega⟩, ⟨by (with_reducible repeat (first | apply Kd.S_alloc | apply Kd.S_drewN | apply Kd.S_drew)); exact Kd.S_mono HO_4.out (fun _ hk => hk.2)⟩, ⟨by (with_reducible repeat (first | apply Kd.R_alloc | apply Kd.R_drewN | apply Kd.R_drew)); exact HO_5.out⟩, ⟨by (with_reducible repeat (first | apply Kd.R_alloc | apply Kd.R_drewN | apply Kd.R_drew)); exact HO172.out⟩, ⟨by repeat (first | (with_reducible first | exact HB.out | apply below_alloc | apply pw_below_drewN | apply below_drew1) | exact HB.out)⟩⟩
                                  · rw [if_neg c21] at H
                                    exact absurd H (by simp)
                              · rw [if_neg c14] at H
                                have c14b0 : ((rdOf ByteArray.empty x5_2 x11_3).toList == (rdOf ByteArray.empty (rd_L1 l0 x15_1) x22_2).toList) = false := beq_eq_false_iff_ne.mpr c14
                                have c14b1 : ((rdOf ByteArray.empty x5_2 x11_3).toList != (rdOf ByteArray.empty (rd_L1 l0 x15_1) x22_2).toList) = true := bne_iff_ne.mpr c14
                                have H' := Aside0.mk H
                                clear H
                                obtain ⟨Ao24, co24, eo24⟩ := Kd.R_slice HO_5.out
                                subst eo24
                                have p163 : 0 ≤ (x11_3 : Int) := of_decide_eq_true (by first | (with_reducible assumption) | assumption)
                                have q163 : x11_3 < (x5_2.length : Int) := of_decide_eq_true (by first | (with_reducible assumption) | assumption)
                                obtain ⟨ad163, e163, hx163_0⟩ := Kd.at_string (Kd.R_reads' HO_5.out).2.2 x11_3 p163 q163
                                cases e163
                                replace p163 := eq_true p163
                                replace q163 := eq_true q163
                                go_wp2
                                go_roundg k3
                                case measure => have := HK1.out; have := HK2.out; have := HK3.out; omega
                                case rel => exact ⟨(wrap64 (x11_3 + 1)), (by first | rfl | (simp; done) | (simp [*]; done)), H', ⟨by have := HK1.out; have := HK2.out; have := HK3.out; omega⟩, ⟨by (with_reducible repeat (first | apply Kd.S_alloc | apply Kd.S_drewN | apply Kd.S_drew)); exact HO_4.out⟩, ⟨by (with_reducible repeat (first | apply Kd.R_alloc | apply Kd.R_drewN | apply Kd.R_drew)); exact HO_5.out⟩, ⟨by (with_reducible repeat (first | apply Kd.R_alloc | apply Kd.R_drewN | apply Kd.R_drew)); exact HO_8.out⟩, ⟨by repeat (first | (with_reducible first | exact HB.out | apply below_alloc | apply pw_below_drewN | apply below_drew1) | exact HB.out)⟩⟩
                            · rw [if_neg c13] at H
                              exact absurd H (by simp)
                          · rw [if_neg c12] at H
                            have c12b0 : decide (x11_3 < (x5_2.length : Int)) = false := decide_eq_false c12
                            clear c12
                            by_cases c25 : x11_3 = (x5_2.length : Int)
                            · rw [if_pos c25] at H
                              have c25b0 : (x11_3 == (x5_2.length : Int)) = true := beq_iff_eq.mpr c25
                              have c25b1 : (x11_3 != (x5_2.length : Int)) = false := bne_eq_false_iff_eq.mpr c25
                              clear c25
                              by_cases c26 : x5_2.length < 8796093022208
                              · rw [if_pos c26] at H
                                have LMc26 := Aside0.mk c26
                                clear c26
                                obtain ⟨y173, hy173⟩ : ∃ y_ : List ByteArray, y_ = (x5_2 ++ [(rdOf ByteArray.empty (rd_L1 l0 x15_1) x22_2)]) := ⟨_, rfl⟩
                                replace H : (if x8_2.length < 17592186044416 then (spec_POSIDs.l1 k3 x4_1 y173 (x8_2 ++ [x11_3]) l0 (l0.length : Int) x15_1 (rd_L1 l0 x15_1) ((rd_L1 l0 x15_1).length : Int) (wrap64 (x22_2 + 1))) else (none)) = some (r1, r2) := by first | (rw [hy173]; with_reducible exact H) | (have H2_ := (Option.bind_some _ _).symm.trans H; rw [hy173]; with_reducible exact H2_) | (have H2_ := (Option.bind_some _ _).symm.trans H; with_reducible exact H2_) | with_reducible exact H | (rw [hy173]; exact H) | exact H
                                have Ny173 := Aside0.mk hy173
                                clear hy173
                                by_cases c27 : x8_2.length < 17592186044416
                                · rw [if_pos c27] at H
                                  have LMc27 := Aside0.mk c27
                                  clear c27
                                  obtain ⟨y176, hy176⟩ : ∃ y_ : List Int, y_ = (x8_2 ++ [x11_3]) := ⟨_, rfl⟩
                                  replace H : (spec_POSIDs.l1 k3 x4_1 y173 y176 l0 (l0.length : Int) x15_1 (rd_L1 l0 x15_1) ((rd_L1 l0 x15_1).length : Int) (wrap64 (x22_2 + 1))) = some (r1, r2) := by first | (rw [hy176]; with_reducible exact H) | (have H2_ := (Option.bind_some _ _).symm.trans H; rw [hy176]; with_reducible exact H2_) | (have H2_ := (Option.bind_some _ _).symm.trans H; with_reducible exact H2_) | with_reducible exact H | (rw [hy176]; exact H) | exact H
                                  have Ny176 := Aside0.mk hy176
                                  clear hy176
                                  have H' := Aside0.mk H
                                  clear H
                                  obtain ⟨Ao28, co28, eo28⟩ := Kd.R_slice HO_5.out
                                  subst eo28
                                  go_wp2_with (first | ((with_reducible refine gate_builtin (b := .append) (xs := #[.tmp 44, .tmp 46]) rfl ?_); at_builtin; refine Kd.R_append Kd.string (w0 := w) w.heap.size rfl (.tmp 44) (.tmp 46) 25 9 (.string ⟨#[]⟩) 16 rfl Try.underlying25 info9 rfl (by decide) (by omega) (.slice Ao28 x5_2.length co28) x5_2 (rdOf ByteArray.empty (rd_L1 l0 x15_1) x22_2) [.string (rdOf ByteArray.empty (rd_L1 l0 x15_1) x22_2)] (fun _ => True) (fun _ => False) rfl rfl ?aP (fun _ hk => hk.elim) ?aF ?aO ?aB ?aS ?aL ?_; (case aP => exact rfl); (case aB => exact (by repeat (first | (with_reducible first | exact HB.out | apply below_alloc | apply pw_below_drewN | apply below_drew1) | exact HB.out))); (case aF => exact (fun _ _ => trivial)); (case aO => exact (by (with_reducible repeat (first | apply Kd.R_alloc | apply Kd.R_drewN | apply Kd.R_drew)); exact HO_5.out)); (case aS => exact (below_size (by repeat (first | (with_reducible first | exact HB.out | apply below_alloc | apply pw_below_drewN | apply below_drew1) | exact HB.out)))); (case aL => have := LMc26.out; omega); intro v174 w29 ho hb hg hat; rw [← Ny173.out] at ho; have n0_ := Aside0.mk (Kd.S_over' (by (with_reducible repeat (first | apply Kd.S_alloc | apply Kd.S_drewN | apply Kd.S_drew)); exact HO_4.out) (Kd.R_typed (by (with_reducible repeat (first | apply Kd.R_alloc | apply Kd.R_drewN | apply Kd.R_drew)); exact HO_5.out)) (by decide) hg); have n1_ := Aside0.mk (Kd.R_over' (by (with_reducible repeat (first | apply Kd.R_alloc | apply Kd.R_drewN | apply Kd.R_drew)); exact HO_8.out) (Kd.R_typed (by (with_reducible repeat (first | apply Kd.R_alloc | apply Kd.R_drewN | apply Kd.R_drew)); exact HO_5.out)) (by decide) hg); have n2_ := Aside0.mk (hb); have n3_ := Aside0.mk (ho); clear HO_4; clear HO_8; clear HB; clear HO_5; have HO_4 := n0_; have HO_8 := n1_; have HB := n2_; have HO175 := n3_; clear n0_ n1_ n2_ n3_; clear ho hb hg hat) | ((with_reducible refine gate_builtin (b := .append) (xs := #[.tmp 48, .tmp 50]) rfl ?_); at_builtin; refine Kd.R_append (Kd.int .i64) (w0 := w) w.heap.size rfl (.tmp 48) (.tmp 50) 28 3 (.int .i64 0) 8 rfl Try.underlying28 info3 rfl (by decide) (by omega) u8 x8_2 x11_3 [.int .i64 x11_3] (fun _ => True) (fun _ => False) rfl rfl ?aP (fun _ hk => hk.elim) ?aF ?aO ?aB ?aS ?aL ?_; (case aP => exact rfl); (case aB => exact (by repeat (first | (with_reducible first | exact HB.out | apply below_alloc | apply pw_below_drewN | apply below_drew1) | exact HB.out))); (case aF => exact (fun _ _ => trivial)); (case aO => exact (by (with_reducible repeat (first | apply Kd.R_alloc | apply Kd.R_drewN | apply Kd.R_drew)); exact HO_8.out)); (case aS => exact (below_size (by repeat (first | (with_reducible first | exact HB.out | apply below_alloc | apply pw_below_drewN | apply below_drew1) | exact HB.out)))); (case aL => have := LMc27.out; omega); intro v177 w30 ho hb hg hat; rw [← Ny176.out] at ho; have n0_ := Aside0.mk (Kd.S_after (ok := (fun _ => True)) (by (with_reducible repeat (first | apply Kd.S_alloc | apply Kd.S_drewN | apply Kd.S_drew)); exact Kd.S_mono HO_4.out (fun _ hk => ⟨trivial, hk⟩)) hg hat); have n1_ := Aside0.mk (Kd.R_over' (by (with_reducible repeat (first | apply Kd.R_alloc | apply Kd.R_drewN | apply Kd.R_drew)); exact HO175.out) (Kd.R_typed (by (with_reducible repeat (first | apply Kd.R_alloc | apply Kd.R_drewN | apply Kd.R_drew)); exact HO_8.out)) (by decide) hg); have n2_ := Aside0.mk (hb); have n3_ := Aside0.mk (ho); clear HO_4; clear HO175; clear HB; clear HO_8; have HO_4 := n0_; have HO175 := n1_; have HB := n2_; have HO178 := n3_; clear n0_ n1_ n2_ n3_; clear ho hb hg hat))
                                  go_roundg k3
                                  case measure => have := HK1.out; have := HK2.out; have := HK3.out; omega
                                  case rel => exact ⟨(y173), (y176), (wrap64 (x22_2 + 1)), (by first | rfl | (simp; done) | (simp [*]; done)), H', ⟨by have := HK1.out; have := HK2.out; have := HK3.out; omega⟩, ⟨by (with_reducible repeat (first | apply Kd.S_alloc | apply Kd.S_drewN | apply Kd.S_drew)); exact Kd.S_mono HO_4.out (fun _ hk => hk.2)⟩, ⟨by (with_reducible repeat (first | apply Kd.R_alloc | apply Kd.R_drewN | apply Kd.R_drew)); exact HO175.out⟩, ⟨by (with_reducible repeat (first | apply Kd.R_alloc | apply Kd.R_drewN | apply Kd.R_drew)); exact HO178.out⟩, ⟨by repeat (first | (with_reducible first | exact HB.out | apply below_alloc | apply pw_below_drewN | apply below_drew1) | exact HB.out)⟩⟩
                                · rw [if_neg c27] at H
                                  exact absurd H (by simp)
                              · rw [if_neg c26] at H
                                exact absurd H (by simp)
                            · rw [if_neg c25] at H
                              have c25b0 : (x11_3 == (x5_2.length : Int)) = false := beq_eq_false_iff_ne.mpr c25
                              have c25b1 : (x11_3 != (x5_2.length : Int)) = true := bne_iff_ne.mpr c25
                              by_cases c31 : x8_2.length < 17592186044416
                              · rw [if_pos c31] at H
                                have LMc31 := Aside0.mk c31
                                clear c31
                                obtain ⟨y179, hy179⟩ : ∃ y_ : List Int, y_ = (x8_2 ++ [x11_3]) := ⟨_, rfl⟩
                                replace H : (spec_POSIDs.l1 k3 x4_1 x5_2 y179 l0 (l0.length : Int) x15_1 (rd_L1 l0 x15_1) ((rd_L1 l0 x15_1).length : Int) (wrap64 (x22_2 + 1))) = some (r1, r2) := by first | (rw [hy179]; with_reducible exact H) | (have H2_ := (Option.bind_some _ _).symm.trans H; rw [hy179]; with_reducible exact H2_) | (have H2_ := (Option.bind_some _ _).symm.trans H; with_reducible exact H2_) | with_reducible exact H | (rw [hy179]; exact H) | exact H
                                have Ny179 := Aside0.mk hy179
                                clear hy179
                                have H' := Aside0.mk H
                                clear H
                                obtain ⟨Ao32, co32, eo32⟩ := Kd.R_slice HO_5.out
                                subst eo32
                                go_wp2_with (first | ((with_reducible refine gate_builtin (b := .append) (xs := #[.tmp 48, .tmp 50]) rfl ?_); at_builtin; refine Kd.R_append (Kd.int .i64) (w0 := w) w.heap.size rfl (.tmp 48) (.tmp 50) 28 3 (.int .i64 0) 8 rfl Try.underlying28 info3 rfl (by decide) (by omega) u8 x8_2 x11_3 [.int .i64 x11_3] (fun _ => True) (fun _ => False) rfl rfl ?aP (fun _ hk => hk.elim) ?aF ?aO ?aB ?aS ?aL ?_; (case aP => exact rfl); (case aB => exact (by repeat (first | (with_reducible first | exact HB.out | apply below_alloc | apply pw_below_drewN | apply below_drew1) | exact HB.out))); (case aF => exact (fun _ _ => trivial)); (case aO => exact (by (with_reducible repeat (first | apply Kd.R_alloc | apply Kd.R_drewN | apply Kd.R_drew)); exact HO_8.out)); (case aS => exact (below_size (by repeat (first | (with_reducible first | exact HB.out | apply below_alloc | apply pw_below_drewN | apply below_drew1) | exact HB.out)))); (case aL => have := LMc31.out; omega); intro v180 w33 ho hb hg hat; rw [← Ny179.out] at ho; have n0_ := Aside0.mk (Kd.S_after (ok := (fun _ => True)) (by (with_reducible repeat (first | apply Kd.S_alloc | apply Kd.S_drewN | apply Kd.S_drew)); exact Kd.S_mono HO_4.out (fun _ hk => ⟨trivial, hk⟩)) hg hat); have n1_ := Aside0.mk (Kd.R_over' (by (with_reducible repeat (first | apply Kd.R_alloc | apply Kd.R_drewN | apply Kd.R_drew)); exact HO_5.out) (Kd.R_typed (by (with_reducible repeat (first | apply Kd.R_alloc | apply Kd.R_drewN | apply Kd.R_drew)); exact HO_8.out)) (by decide) hg); have n2_ := Aside0.mk (hb); have n3_ := Aside0.mk (ho); clear HO_4; clear HO_5; clear HB; clear HO_8; have HO_4 := n0_; have HO_5 := n1_; have HB := n2_; have HO181 := n3_; clear n0_ n1_ n2_ n3_; clear ho hb hg hat))
                                go_roundg k3
                                case measure => have := HK1.out; have := HK2.out; have := HK3.out; omega
                                case rel => exact ⟨(x5_2), (y179), (wrap64 (x22_2 + 1)), (by first | rfl | (simp; done) | (simp [*]; done)), H', ⟨by have := HK1.out; have := HK2.out; have := HK3.out; omega⟩, ⟨by (with_reducible repeat (first | apply Kd.S_alloc | apply Kd.S_drewN | apply Kd.S_drew)); exact Kd.S_mono HO_4.out (fun _ hk => hk.2)⟩, ⟨by (with_reducible repeat (first | apply Kd.R_alloc | apply Kd.R_drewN | apply Kd.R_drew)); exact HO_5.out⟩, ⟨by (with_reducible repeat (first | apply Kd.R_alloc | apply Kd.R_drewN | apply Kd.R_drew)); exact HO181.out⟩, ⟨by repeat (first | (with_reducible first | exact HB.out | apply below_alloc | apply pw_below_drewN | apply below_drew1) | exact HB.out)⟩⟩
                              · rw [if_neg c31] at H
                                exact absurd H (by simp)
                    · rw [if_neg c11] at H
                      exact absurd H (by simp)
                  · rw [if_neg c10] at H
                    exact absurd H (by simp)
                · rw [if_neg c9] at H
                  have c9b0 : decide (x22_2 < ((rd_L1 l0 x15_1).length : Int)) = false := decide_eq_false c9
                  clear c9
                  by_cases c34 : x4_1.length < 5864062014805
                  · rw [if_pos c34] at H
                    have LMc34 := Aside0.mk c34
                    clear c34
                    obtain ⟨y159, hy159⟩ : ∃ y_ : List (List Int), y_ = (x4_1 ++ [x8_2]) := ⟨_, rfl⟩
                    replace H : (spec_POSIDs.l0 k2 y159 x5_2 l0 (l0.length : Int) (wrap64 (x15_1 + 1))) = some (r1, r2) := by first | (rw [hy159]; with_reducible exact H) | (have H2_ := (Option.bind_some _ _).symm.trans H; rw [hy159]; with_reducible exact H2_) | (have H2_ := (Option.bind_some _ _).symm.trans H; with_reducible exact H2_) | with_reducible exact H | (rw [hy159]; exact H) | exact H
                    have Ny159 := Aside0.mk hy159
                    clear hy159
                    have H' := Aside0.mk H
                    clear H
                    obtain ⟨Ao36, co36, eo36⟩ := Kd.R_slice HO_8.out
                    subst eo36
                    go_wp2_with (first | ((with_reducible refine gate_builtin (b := .append) (xs := #[.tmp 53, .tmp 55]) rfl ?_); at_builtin; refine Kd.S_append (Kd.slice 3 (Kd.int .i64)) (w0 := w) w.heap.size rfl (.tmp 53) (.tmp 55) 24 28 (.slice none 0 0) 24 rfl Try.underlying24 info28 rfl (by decide) (by omega) u4 x4_1 x8_2 [.slice Ao36 x8_2.length co36] (fun _ => True) (fun k_ => some k_ = (.slice Ao36 x8_2.length co36 : Value).ownBlock) rfl rfl ?aP (fun k_ hk_ => ((Kd.R_mono (ok' := fun k_ => ((fun _ => True)) k_ ∧ some k_ ≠ (u4 : Value).ownBlock) (Kd.R_apart' (HO_8.out) (Kd.S_typed HO_4.out) (by decide)) (fun k_ hk => ⟨trivial, hk.2⟩))).1 k_ hk_.symm) ?aF ?aO ?aB ?aS ?aL ?_; (case aP => exact Kd.M_row (Kd.R_mono (Kd.R_tight rfl (Kd.R_mono (ok' := fun k_ => ((fun _ => True)) k_ ∧ some k_ ≠ (u4 : Value).ownBlock) (Kd.R_apart' (HO_8.out) (Kd.S_typed HO_4.out) (by decide)) (fun k_ hk => ⟨trivial, hk.2⟩))) (fun _ h_ => h_))); (case aB => exact (by repeat (first | (with_reducible first | exact HB.out | apply below_alloc | apply pw_below_drewN | apply below_drew1) | exact HB.out))); (case aF => exact (fun _ _ => trivial)); (case aO => exact (by (with_reducible repeat (first | apply Kd.S_alloc | apply Kd.S_drewN | apply Kd.S_drew)); exact Kd.S_mono HO_4.out (fun k_ hk => ⟨trivial, fun e_ => hk e_⟩))); (case aS => exact (below_size (by repeat (first | (with_reducible first | exact HB.out | apply below_alloc | apply pw_below_drewN | apply below_drew1) | exact HB.out)))); (case aL => have := LMc34.out; omega); intro v160 w35 ho hb hg hat; rw [← Ny159.out] at ho; have n0_ := Aside0.mk (Kd.R_over' (by (with_reducible repeat (first | apply Kd.R_alloc | apply Kd.R_drewN | apply Kd.R_drew)); exact HO_5.out) (Kd.S_typed (by (with_reducible repeat (first | apply Kd.S_alloc | apply Kd.S_drewN | apply Kd.S_drew)); exact HO_4.out)) (by decide) hg); have n1_ := Aside0.mk (hb); have n2_ := Aside0.mk (ho); clear HO_5; clear HB; clear HO_4; clear HO_8; have HO_5 := n0_; have HB := n1_; have HO161 := n2_; clear n0_ n1_ n2_; clear ho hb hg hat))
                    go_roundg k2
                    case measure => have := HK1.out; have := HK2.out; omega
                    case rel => exact ⟨(y159), (x5_2), (wrap64 (x15_1 + 1)), (by first | rfl | (simp; done) | (simp [*]; done)), H', ⟨by have := HK1.out; have := HK2.out; omega⟩, ⟨by (with_reducible repeat (first | apply Kd.S_alloc | apply Kd.S_drewN | apply Kd.S_drew)); exact HO161.out⟩, ⟨by (with_reducible repeat (first | apply Kd.R_alloc | apply Kd.R_drewN | apply Kd.R_drew)); exact HO_5.out⟩, ⟨by repeat (first | (with_reducible first | exact HB.out | apply below_alloc | apply pw_below_drewN | apply below_drew1) | exact HB.out)⟩⟩
                  · rw [if_neg c34] at H
                    exact absurd H (by simp)
          · rw [if_neg c6] at H
            exact absurd H (by simp)
        · rw [if_neg c5] at H
          exact absurd H (by simp)
      · rw [if_neg c4] at H
        have c4b0 : decide (x15_1 < (l0.length : Int)) = false := decide_eq_false c4
        clear c4
        simp only [Option.some.injEq, Prod.mk.injEq] at H
        obtain ⟨rfl, rfl⟩ := H
        go_wp2
        go_ret2
        exact ⟨_, _, by first | rfl | (simp [errW_none, errW_some] <;> rfl) | (simp [*, errW_none, errW_some] <;> rfl), by (with_reducible repeat (first | apply Kd.S_alloc | apply Kd.S_drewN | apply Kd.S_drew)); exact HO_4.out, by (with_reducible repeat (first | apply Kd.R_alloc | apply Kd.R_drewN | apply Kd.R_drew)); exact HO_5.out, by repeat (first | (with_reducible first | exact HB.out | apply below_alloc | apply pw_below_drewN | apply below_drew1) | exact HB.out)⟩

end Go.Proofs.Ytlhljldlbcgnoaa.P
