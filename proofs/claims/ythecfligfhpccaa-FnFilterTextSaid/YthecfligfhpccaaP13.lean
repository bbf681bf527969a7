-- PRINTED by print.py (a twelfth state) out of the translation. Not trusted: Lean checks it.
import Derived.Test.YthecfligfhpccaaP0
import Derived.Test.YthecfligfhpccaaP12
namespace Go.Proofs.Ythecfligfhpccaa.P
open Go.RowKit Go.Proofs.YthecfligfhpccaaW.PrintWords Go.Proofs.YthecfligfhpccaaW.PrintLast Go.Proofs.YthecfligfhpccaaW.PrintMore
attribute [local go_sem] max2_int min2_int max_two min_two max_three min_three max_four min_four   -- for this text's walks alone
set_option linter.unusedVariables false
set_option linter.unusedSimpArgs false

/-! ### laws_plainOwn: function 13 -/
mutual
def laws_plainOwn.l0 : Nat → List ByteArray → Int → Int → Option (Bool)
  | 0, _, _, _ => none
  | k + 1, x19, x20, x21 => if x21 < x20 then (if 0 ≤ x21 then (if x21 < (x19.length : Int) then (laws_plainOwn.l1 k (rdOf ByteArray.empty x19 x21) x19 x20 x21 ((rdOf ByteArray.empty x19 x21).size : Int) 0) else (none)) else (none)) else (some true)
def laws_plainOwn.l1 : Nat → ByteArray → List ByteArray → Int → Int → Int → Int → Option (Bool)
  | 0, _, _, _, _, _, _ => none
  | k + 1, x4, x19, x20, x21, x26, x27 => if x27 < x26 then (if 0 ≤ x27 then (if x27 < (x4.size : Int) then (if (bt x4 x27) < 128 then (if (Go.bits .or .u8 (bt x4 x27) 32) < 97 then (if (bt x4 x27) < 48 then (some false) else (if (bt x4 x27) > 57 then (some false) else (laws_plainOwn.l1 k x4 x19 x20 x21 x26 (wrap64 (x27 + 1))))) else (if (Go.bits .or .u8 (bt x4 x27) 32) > 122 then (if (bt x4 x27) < 48 then (some false) else (if (bt x4 x27) > 57 then (some false) else (laws_plainOwn.l1 k x4 x19 x20 x21 x26 (wrap64 (x27 + 1))))) else (laws_plainOwn.l1 k x4 x19 x20 x21 x26 (wrap64 (x27 + 1))))) else (laws_plainOwn.l1 k x4 x19 x20 x21 x26 (wrap64 (x27 + 1)))) else (none)) else (none)) else ((laws_signs.f k x4).bind fun bt172 => (if (bt172.1.length : Int) = 0 then (some false) else (if 0 < (bt172.1.length : Int) then (if (rdOf ByteArray.empty bt172.1 0).toList = ([227, 128, 128] : List UInt8) then (some false) else (if 0 ≤ (wrap64 ((bt172.1.length : Int) - 1)) then (if (wrap64 ((bt172.1.length : Int) - 1)) < (bt172.1.length : Int) then (if (rdOf ByteArray.empty bt172.1 (wrap64 ((bt172.1.length : Int) - 1))).toList = ([227, 128, 128] : List UInt8) then (some false) else (laws_plainOwn.l0 k x19 x20 (wrap64 (x21 + 1)))) else (none)) else (none))) else (none))))
end
def laws_plainOwn.f (k : Nat) (a0_0 : ByteArray) (l0_1 : List ByteArray) (l0_2 : List ByteArray) (a0_3 : ByteArray) : Option (Bool) := (some (([a0_0, a0_3] : List ByteArray) : List ByteArray)).bind fun y162 => (if y162.length + l0_1.length < 8796093022208 then ((some (y162 ++ l0_1 : List ByteArray)).bind fun y165 => (if y165.length + l0_2.length < 8796093022208 then ((some (y165 ++ l0_2 : List ByteArray)).bind fun y168 => (laws_plainOwn.l0 k y168 (y168.length : Int) 0)) else (none))) else (none))
theorem laws_plainOwn.mono_l : ∀ k, (∀ y0 y1 y2, LeO (laws_plainOwn.l0 k y0 y1 y2) (laws_plainOwn.l0 (k + 1) y0 y1 y2)) ∧ (∀ y0 y1 y2 y3 y4 y5, LeO (laws_plainOwn.l1 k y0 y1 y2 y3 y4 y5) (laws_plainOwn.l1 (k + 1) y0 y1 y2 y3 y4 y5))
  | 0 => ⟨fun _ _ _ r h => by simp [laws_plainOwn.l0] at h, fun _ _ _ _ _ _ r h => by simp [laws_plainOwn.l1] at h⟩
  | k + 1 => by
    obtain ⟨ih0, ih1⟩ := laws_plainOwn.mono_l k
    refine ⟨?_, ?_⟩
    · intro y0 y1 y2
      unfold laws_plainOwn.l0
      repeat' first
      | (with_reducible exact ih0 _ _ _)
      | (with_reducible exact ih1 _ _ _ _ _ _)
      | (with_reducible exact laws_signs.mono _ _)
      | (with_reducible exact LeO.refl _)
      | (with_reducible exact LeO.none _)
      | (with_reducible refine LeO.ite ?_ ?_)
      | (with_reducible refine LeO.bind ?_ (fun _ => ?_))
      | exact ih0 _ _ _
      | exact ih1 _ _ _ _ _ _
      | exact laws_signs.mono _ _
      | exact LeO.none _
      | refine LeO.ite ?_ ?_
      | refine LeO.bind ?_ (fun _ => ?_)
    · intro y0 y1 y2 y3 y4 y5
      unfold laws_plainOwn.l1
      repeat' first
      | (with_reducible exact ih0 _ _ _)
      | (with_reducible exact ih1 _ _ _ _ _ _)
      | (with_reducible exact laws_signs.mono _ _)
      | (with_reducible exact LeO.refl _)
      | (with_reducible exact LeO.none _)
      | (with_reducible refine LeO.ite ?_ ?_)
      | (with_reducible refine LeO.bind ?_ (fun _ => ?_))
      | exact ih0 _ _ _
      | exact ih1 _ _ _ _ _ _
      | exact laws_signs.mono _ _
      | exact LeO.none _
      | refine LeO.ite ?_ ?_
      | refine LeO.bind ?_ (fun _ => ?_)
theorem laws_plainOwn.mono : ∀ a0 a1 a2 a3 k, LeO (laws_plainOwn.f k a0 a1 a2 a3) (laws_plainOwn.f (k + 1) a0 a1 a2 a3) := by
  intro a0 a1 a2 a3 k
  obtain ⟨ih0, ih1⟩ := laws_plainOwn.mono_l k
  unfold laws_plainOwn.f
  repeat' first
      | (with_reducible exact ih0 _ _ _)
      | (with_reducible exact ih1 _ _ _ _ _ _)
      | (with_reducible exact laws_signs.mono _ _)
      | (with_reducible exact LeO.refl _)
      | (with_reducible exact LeO.none _)
      | (with_reducible refine LeO.ite ?_ ?_)
      | (with_reducible refine LeO.bind ?_ (fun _ => ?_))
      | exact ih0 _ _ _
      | exact ih1 _ _ _ _ _ _
      | exact laws_signs.mono _ _
      | exact LeO.none _
      | refine LeO.ite ?_ ?_
      | refine LeO.bind ?_ (fun _ => ?_)
def laws_plainOwn.T1 : Bool × List (List Nat × List Nat) := (true, [([], []), ([0], [0]), ([], []), ([2], [2]), ([1, 3], [1, 3]), ([], []), ([5], [5]), ([4, 6], [4, 6]), ([], []), ([8], [8]), ([7, 9, 7], [7, 9]), ([10], [10]), ([], [])])
def laws_plainOwn.B1 : List Nat := [0, 1, 0, 4, 15, 0, 32, 127, 0, 256, 1023, 2047, 0]
theorem laws_plainOwn.tab1 : rtab .any (opsOf Try.f13 1) = laws_plainOwn.T1 := by kernel_rfl
theorem laws_plainOwn.bits1 : waitsOk laws_plainOwn.T1.2 laws_plainOwn.B1 = true := by kernel_rfl
set_option maxHeartbeats 8000000 in
set_option maxRecDepth 100000 in
theorem laws_plainOwn.calls (k : Nat) (a0_0 : ByteArray) (A0_1 : Option Addr) (c0_1 : Nat) (l0_1 : List ByteArray) (A0_2 : Option Addr) (c0_2 : Nat) (l0_2 : List ByteArray) (a0_3 : ByteArray) (r : Bool) (w : World) (hr0_1 : Kd.C Kd.string w A0_1 l0_1.length l0_1) (hc0_1 : l0_1.length ≤ c0_1) (hr0_2 : Kd.C Kd.string w A0_2 l0_2.length l0_2) (hc0_2 : l0_2.length ≤ c0_2) (h : laws_plainOwn.f k a0_0 l0_1 l0_2 a0_3 = some r) :
    Calls Try.prog 13 #[.agg #[.string a0_0, .slice A0_1 l0_1.length c0_1, .slice A0_2 l0_2.length c0_2, .string a0_3]] w fun e w' => e = .returned (.bool r) ∧ Below w.heap.size w w' := by
  have hu35 := Try.underlying35
  have HR0_1 := Aside0.mk hr0_1
  have HC0_1 := Aside0.mk hc0_1
  clear hr0_1 hc0_1
  have HR0_2 := Aside0.mk hr0_2
  have HC0_2 := Aside0.mk hc0_2
  clear hr0_2 hc0_2
  have HB := Aside0.mk (Below.refl w.heap.size w)
  have H : ((some (([a0_0, a0_3] : List ByteArray) : List ByteArray)).bind fun y162 => (if y162.length + l0_1.length < 8796093022208 then ((some (y162 ++ l0_1 : List ByteArray)).bind fun y165 => (if y165.length + l0_2.length < 8796093022208 then ((some (y165 ++ l0_2 : List ByteArray)).bind fun y168 => (laws_plainOwn.l0 k y168 (y168.length : Int) 0)) else (none))) else (none))) = some r := h
  clear h
  obtain ⟨y162, hy162⟩ : ∃ y_ : List ByteArray, y_ = (([a0_0, a0_3] : List ByteArray)) := ⟨_, rfl⟩
  replace H : (if y162.length + l0_1.length < 8796093022208 then ((some (y162 ++ l0_1 : List ByteArray)).bind fun y165 => (if y165.length + l0_2.length < 8796093022208 then ((some (y165 ++ l0_2 : List ByteArray)).bind fun y168 => (laws_plainOwn.l0 k y168 (y168.length : Int) 0)) else (none))) else (none)) = some r := by first | (rw [hy162]; with_reducible exact H) | (have H2_ := (Option.bind_some _ _).symm.trans H; rw [hy162]; with_reducible exact H2_) | (have H2_ := (Option.bind_some _ _).symm.trans H; with_reducible exact H2_) | with_reducible exact H | (rw [hy162]; exact H) | exact H
  have Ny162 := Aside0.mk hy162
  clear hy162
  by_cases c2 : y162.length + l0_1.length < 8796093022208
  · rw [if_pos c2] at H
    have LMc2 := Aside0.mk c2
    clear c2
    obtain ⟨y165, hy165⟩ : ∃ y_ : List ByteArray, y_ = (y162 ++ l0_1) := ⟨_, rfl⟩
    replace H : (if y165.length + l0_2.length < 8796093022208 then ((some (y165 ++ l0_2 : List ByteArray)).bind fun y168 => (laws_plainOwn.l0 k y168 (y168.length : Int) 0)) else (none)) = some r := by first | (rw [hy165]; with_reducible exact H) | (have H2_ := (Option.bind_some _ _).symm.trans H; rw [hy165]; with_reducible exact H2_) | (have H2_ := (Option.bind_some _ _).symm.trans H; with_reducible exact H2_) | with_reducible exact H | (rw [hy165]; exact H) | exact H
    have Ny165 := Aside0.mk hy165
    clear hy165
    by_cases c3 : y165.length + l0_2.length < 8796093022208
    · rw [if_pos c3] at H
      have LMc3 := Aside0.mk c3
      clear c3
      obtain ⟨y168, hy168⟩ : ∃ y_ : List ByteArray, y_ = (y165 ++ l0_2) := ⟨_, rfl⟩
      replace H : (laws_plainOwn.l0 k y168 (y168.length : Int) 0) = some r := by first | (rw [hy168]; with_reducible exact H) | (have H2_ := (Option.bind_some _ _).symm.trans H; rw [hy168]; with_reducible exact H2_) | (have H2_ := (Option.bind_some _ _).symm.trans H; with_reducible exact H2_) | with_reducible exact H | (rw [hy168]; exact H) | exact H
      have Ny168 := Aside0.mk hy168
      clear hy168
      have H' := Aside0.mk H
      clear H
      go_enter Try.func13, Try.ntmps13
      try go_wp2_with (first | ((with_reducible refine gate_dst (N := 1) rfl ?_); (try (refine gate_guard (by rfl) ?_; dsimp only)); refine box_event ?hg (N := 1) ?hd (cs := #[.string a0_0, .slice A0_1 l0_1.length c0_1, .slice A0_2 l0_2.length c0_2, .string a0_3]) (t := 35) ?hr ?_; (case hd => rfl); (case hg => rfl); (case hr => first | (go_simp; done) | (go_simp; rfl)); intro gb161 hg w4 hbox hb; have n0_ := Aside0.mk (below_step (by repeat (first | (with_reducible first | exact HB.out | apply below_alloc | apply pw_below_drewN | apply below_drew1) | exact HB.out)) hb); have n1_ := Aside0.mk (hbox); have n2_ := Aside0.mk ((by rw [hg]; exact (below_size (by repeat (first | (with_reducible first | exact HB.out | apply below_alloc | apply pw_below_drewN | apply below_drew1) | exact HB.out))) : w.heap.size ≤ gb161)); have n3_ := Aside0.mk ((by rw [hg]; exact (below_size (by repeat (first | (with_reducible first | exact HB.out | apply below_alloc | apply pw_below_drewN | apply below_drew1) | exact HB.out))) : w.heap.size ≤ gb161)); clear HB; have HB := n0_; have BK161 := n1_; have GW161 := n2_; have GE161 := n3_; clear n0_ n1_ n2_ n3_; clear hb hbox hg))
      have n0_ := Aside0.mk (blk_drew BK161.out)
      have n1_ := Aside0.mk (below_drew1 HB.out)
      clear BK161
      clear HB
      have BK161 := n0_
      have HB := n1_
      clear n0_ n1_
      refine start_ (n := 13) (S := fun w' => w'.cell? ⟨gb161, 0, none⟩ = some (.string a0_0) ∧ w'.cell? ⟨gb161, 1, none⟩ = some (.slice A0_1 l0_1.length c0_1) ∧ w'.cell? ⟨gb161, 2, none⟩ = some (.slice A0_2 l0_2.length c0_2) ∧ w'.cell? ⟨gb161, 3, none⟩ = some (.string a0_3)) (ds := []) #[false, false, false, false, false, false, false, false, false, false, false, false, false] (by kernel_rfl) rfl rfl ⟨(blk_cell BK161.out 0).trans rfl, (blk_cell BK161.out 1).trans rfl, (blk_cell BK161.out 2).trans rfl, (blk_cell BK161.out 3).trans rfl⟩ (fun hHeld => ?_); refine with_tabW laws_plainOwn.tab1 laws_plainOwn.bits1 (fun HT_ HW_ => ?_)
      generalize w4.drew = w5 at BK161 HB hHeld ⊢
      refine pure_ (i := 0) (N := some 9) (v := ?_) (a' := ?_) #[true, false, false, false, false, false, false, false, false, false, false, false, false] rfl rfl (any_of HT_.out (by kernel_rfl)) (fun _ _ _ h => h) (Or.inl ⟨by rfl, ?_⟩) ?_ ?_
      rotate_left
      · intro w'
        go_simp
        with_reducible rfl
      rotate_left
      · simp only [Act.put, List.setIfInBounds_toArray, List.set_cons_zero, List.set_cons_succ, i64_w, i32_w]
        rfl
      refine pure_ (i := 2) (N := some 11) (v := ?_) (a' := ?_) #[true, false, true, false, false, false, false, false, false, false, false, false, false] rfl rfl (any_of HT_.out (by kernel_rfl)) (fun _ _ _ h => h) (Or.inl ⟨by rfl, ?_⟩) ?_ ?_
      rotate_left
      · intro w'
        go_simp
        with_reducible rfl
      rotate_left
      · simp only [Act.put, List.setIfInBounds_toArray, List.set_cons_zero, List.set_cons_succ, i64_w, i32_w]
        rfl
      refine pure_ (i := 5) (N := some 14) (v := ?_) (a' := ?_) #[true, false, true, false, false, true, false, false, false, false, false, false, false] rfl rfl (any_of HT_.out (by kernel_rfl)) (fun _ _ _ h => h) (Or.inl ⟨by rfl, ?_⟩) ?_ ?_
      rotate_left
      · intro w'
        go_simp
        with_reducible rfl
      rotate_left
      · simp only [Act.put, List.setIfInBounds_toArray, List.set_cons_zero, List.set_cons_succ, i64_w, i32_w]
        rfl
      refine pure_ (i := 8) (N := some 17) (v := ?_) (a' := ?_) #[true, false, true, false, false, true, false, false, true, false, false, false, false] rfl rfl (any_of HT_.out (by kernel_rfl)) (fun _ _ _ h => h) (Or.inl ⟨by rfl, ?_⟩) ?_ ?_
      rotate_left
      · intro w'
        go_simp
        with_reducible rfl
      rotate_left
      · simp only [Act.put, List.setIfInBounds_toArray, List.set_cons_zero, List.set_cons_succ, i64_w, i32_w]
        rfl
      refine pure_ (i := 12) (N := some 21) (v := ?_) (a' := ?_) #[true, false, true, false, false, true, false, false, true, false, false, false, true] rfl rfl (any_of HT_.out (by kernel_rfl)) (fun _ _ _ h => h) (Or.inl ⟨by rfl, ?_⟩) ?_ ?_
      rotate_left
      · intro w'
        go_simp
        with_reducible rfl
      rotate_left
      · simp only [Act.put, List.setIfInBounds_toArray, List.set_cons_zero, List.set_cons_succ, i64_w, i32_w]
        rfl
      refine take_ (i := 1) (N := some 10) (v := ?_) (a' := ?_) #[true, true, true, false, false, true, false, false, true, false, false, false, true] rfl rfl (take_ofW HT_.out HW_.out (by kernel_rfl)) (fun _ _ _ h => h) (Or.inl ⟨by rfl, ?_⟩) hHeld ?_ ?_
      rotate_left
      · rintro w' ⟨s0, s1, s2, s3⟩
        go_simp
        with_reducible rfl
      rotate_left
      · simp only [Act.put, List.setIfInBounds_toArray, List.set_cons_zero, List.set_cons_succ, i64_w, i32_w]
        rfl
      refine take_ (i := 3) (N := some 12) (v := ?_) (a' := ?_) #[true, true, true, true, false, true, false, false, true, false, false, false, true] rfl rfl (take_ofW HT_.out HW_.out (by kernel_rfl)) (fun _ _ _ h => h) (Or.inl ⟨by rfl, ?_⟩) hHeld ?_ ?_
      rotate_left
      · rintro w' ⟨s0, s1, s2, s3⟩
        go_simp
        with_reducible rfl
      rotate_left
      · simp only [Act.put, List.setIfInBounds_toArray, List.set_cons_zero, List.set_cons_succ, i64_w, i32_w]
        rfl
      refine take_ (i := 6) (N := some 15) (v := ?_) (a' := ?_) #[true, true, true, true, false, true, true, false, true, false, false, false, true] rfl rfl (take_ofW HT_.out HW_.out (by kernel_rfl)) (fun _ _ _ h => h) (Or.inl ⟨by rfl, ?_⟩) hHeld ?_ ?_
      rotate_left
      · rintro w' ⟨s0, s1, s2, s3⟩
        go_simp
        with_reducible rfl
      rotate_left
      · simp only [Act.put, List.setIfInBounds_toArray, List.set_cons_zero, List.set_cons_succ, i64_w, i32_w]
        rfl
      refine take_ (i := 9) (N := some 18) (v := ?_) (a' := ?_) #[true, true, true, true, false, true, true, false, true, true, false, false, true] rfl rfl (take_ofW HT_.out HW_.out (by kernel_rfl)) (fun _ _ _ h => h) (Or.inl ⟨by rfl, ?_⟩) hHeld ?_ ?_
      rotate_left
      · rintro w' ⟨s0, s1, s2, s3⟩
        go_simp
        with_reducible rfl
      rotate_left
      · simp only [Act.put, List.setIfInBounds_toArray, List.set_cons_zero, List.set_cons_succ, i64_w, i32_w]
        rfl
      refine one_ (i := 4) (N := some 13) #[true, true, true, true, true, true, true, false, true, true, false, false, true] rfl rfl (one_of HT_.out (by kernel_rfl)) (by decide) (fun K hK => ?_)
      refine Kd.R_lit_step Kd.string _ 9 ?hg (N := 13) ?hd (xs := ([a0_0, a0_3] : List ByteArray)) (inner := [.string a0_0, .string a0_3]) (ok := fun _ => True) (okp := fun _ => True) ?hr ?hp (fun _ hk => hk) trivial (Below.refl _ _) (Nat.le_refl _) (by simp) ?_; (case hd => rfl); (case hg => rfl); (case hr => first | (go_simp; done) | (go_simp; rfl)); (case hp => exact (Reps.one (show Kd.M Kd.string _ _ _ a0_0 [.string a0_0] from rfl) (Reps.one (show Kd.M Kd.string _ _ _ a0_3 [.string a0_3] from rfl) (Reps.none _ _))))
      intro v163 w6 ho7 hb hg_ hnew_
      clear hg_ hnew_
      (first | rw [← Ny162.out] at ho7 | (simp only [Int.reduceToNat] at ho7; rw [← Ny162.out] at ho7))
      have n0_ := Aside0.mk (Kd.R_lower ho7 (below_size (by repeat (first | (with_reducible first | exact HB.out | apply below_alloc | apply pw_below_drewN | apply below_drew1 | refine below_set ?_ GE161.out) | exact HB.out))))
      have n1_ := Aside0.mk (blk_below (g := gb161) (o := .cells #[.string a0_0, .slice A0_1 l0_1.length c0_1, .slice A0_2 l0_2.length c0_2, .string a0_3] 35 (0, 0)) (by (with_reducible repeat (first | refine blk_drewN ?_ _ | refine blk_drew ?_ | refine blk_alloc ?_ _)); exact BK161.out) hb)
      have n2_ := Aside0.mk (below_step (by repeat (first | (with_reducible first | exact HB.out | apply below_alloc | apply pw_below_drewN | apply below_drew1 | refine below_set ?_ GE161.out) | exact HB.out)) hb)
      clear BK161
      clear HB
      have HO164 := n0_
      have BK161 := n1_
      have HB := n2_
      clear n0_ n1_ n2_
      clear hb ho7
      refine hK.out _ _ ⟨(blk_cell BK161.out 0).trans rfl, (blk_cell BK161.out 1).trans rfl, (blk_cell BK161.out 2).trans rfl, (blk_cell BK161.out 3).trans rfl⟩ (fun hHeld => ?_)
      clear hK K
      refine norm_ (a' := ?_) ?_ ?_
      rotate_left
      · show Act.put _ (some 13) _ = _
        simp only [Act.put, List.setIfInBounds_toArray, List.set_cons_zero, List.set_cons_succ, i64_w, i32_w]
        rfl
      refine one_ (i := 7) (N := some 16) #[true, true, true, true, true, true, true, true, true, true, false, false, true] rfl rfl (one_of HT_.out (by kernel_rfl)) (by decide) (fun K hK => ?_)
      refine Kd.R_append_rows_step Kd.string (w0 := w) w.heap.size (by rfl) (.tmp 13) (.tmp 15) 26 9 (.string ⟨#[]⟩) 16 rfl Try.underlying26 info9 rfl (by decide) (by omega) v163 y162 l0_1 _ _ _ (fun _ => True) (fun _ => False) rfl rfl ?aO ?aR (fun _ _ h => h) (fun _ h => h.elim) ?aF ?aB ?aS ?aL ?_
      (case aR => repeat (first | exact (Kd.C_below HR0_1.out HB.out) | (with_reducible refine Kd.C_alloc ?_ _) | (with_reducible refine Kd.C_drewN ?_ _) | (with_reducible refine Kd.C_drew ?_)))
      (case aB => exact (by repeat (first | (with_reducible first | exact HB.out | apply below_alloc | apply pw_below_drewN | apply below_drew1 | refine below_set ?_ GE161.out) | exact HB.out)))
      (case aF => exact (fun _ _ => trivial))
      (case aO => exact (by (with_reducible repeat (first | apply Kd.R_alloc | apply Kd.R_drewN | apply Kd.R_drew)); exact HO164.out))
      (case aS => exact (below_size (by repeat (first | (with_reducible first | exact HB.out | apply below_alloc | apply pw_below_drewN | apply below_drew1 | refine below_set ?_ GE161.out) | exact HB.out))))
      (case aL => have := LMc2.out; omega)
      intro v166 w8 ho hb hg hat
      rw [← Ny165.out] at ho
      have n0_ := Aside0.mk (blk_grown (g := gb161) (o := .cells #[.string a0_0, .slice A0_1 l0_1.length c0_1, .slice A0_2 l0_2.length c0_2, .string a0_3] 35 (0, 0)) (by (with_reducible repeat (first | refine blk_drewN ?_ _ | refine blk_drew ?_ | refine blk_alloc ?_ _)); exact BK161.out) hg (Kd.R_ne HO164.out BK161.out (by decide)))
      have n1_ := Aside0.mk (hb)
      have n2_ := Aside0.mk (ho)
      clear BK161
      clear HB
      clear HO164
      have BK161 := n0_
      have HB := n1_
      have HO167 := n2_
      clear n0_ n1_ n2_
      clear ho hb hg hat
      refine hK.out _ _ ⟨(blk_cell BK161.out 0).trans rfl, (blk_cell BK161.out 1).trans rfl, (blk_cell BK161.out 2).trans rfl, (blk_cell BK161.out 3).trans rfl⟩ (fun hHeld => ?_)
      clear hK K
      refine norm_ (a' := ?_) ?_ ?_
      rotate_left
      · show Act.put _ (some 16) _ = _
        simp only [Act.put, List.setIfInBounds_toArray, List.set_cons_zero, List.set_cons_succ, i64_w, i32_w]
        rfl
      refine one_ (i := 10) (N := some 19) #[true, true, true, true, true, true, true, true, true, true, true, false, true] rfl rfl (one_of HT_.out (by kernel_rfl)) (by decide) (fun K hK => ?_)
      refine Kd.R_append_rows_step Kd.string (w0 := w) w.heap.size (by rfl) (.tmp 16) (.tmp 18) 26 9 (.string ⟨#[]⟩) 16 rfl Try.underlying26 info9 rfl (by decide) (by omega) v166 y165 l0_2 _ _ _ (fun _ => True) (fun _ => False) rfl rfl ?aO ?aR (fun _ _ h => h) (fun _ h => h.elim) ?aF ?aB ?aS ?aL ?_
      (case aR => repeat (first | exact (Kd.C_below HR0_2.out HB.out) | (with_reducible refine Kd.C_alloc ?_ _) | (with_reducible refine Kd.C_drewN ?_ _) | (with_reducible refine Kd.C_drew ?_)))
      (case aB => exact (by repeat (first | (with_reducible first | exact HB.out | apply below_alloc | apply pw_below_drewN | apply below_drew1 | refine below_set ?_ GE161.out) | exact HB.out)))
      (case aF => exact (fun _ _ => trivial))
      (case aO => exact (by (with_reducible repeat (first | apply Kd.R_alloc | apply Kd.R_drewN | apply Kd.R_drew)); exact HO167.out))
      (case aS => exact (below_size (by repeat (first | (with_reducible first | exact HB.out | apply below_alloc | apply pw_below_drewN | apply below_drew1 | refine below_set ?_ GE161.out) | exact HB.out))))
      (case aL => have := LMc3.out; omega)
      intro v169 w9 ho hb hg hat
      rw [← Ny168.out] at ho
      have n0_ := Aside0.mk (blk_grown (g := gb161) (o := .cells #[.string a0_0, .slice A0_1 l0_1.length c0_1, .slice A0_2 l0_2.length c0_2, .string a0_3] 35 (0, 0)) (by (with_reducible repeat (first | refine blk_drewN ?_ _ | refine blk_drew ?_ | refine blk_alloc ?_ _)); exact BK161.out) hg (Kd.R_ne HO167.out BK161.out (by decide)))
      have n1_ := Aside0.mk (hb)
      have n2_ := Aside0.mk (ho)
      clear BK161
      clear HB
      clear HO167
      have BK161 := n0_
      have HB := n1_
      have HO170 := n2_
      clear n0_ n1_ n2_
      clear ho hb hg hat
      obtain ⟨Ao10, co10, eo10⟩ := Kd.R_slice HO170.out
      (first | subst eo10 | (injection eo10 with f1_ f2_ f3_; have f4_ := f1_.symm; have f5_ := f3_.symm; clear f1_ f2_ f3_; subst f4_; subst f5_))
      refine hK.out _ _ ⟨(blk_cell BK161.out 0).trans rfl, (blk_cell BK161.out 1).trans rfl, (blk_cell BK161.out 2).trans rfl, (blk_cell BK161.out 3).trans rfl⟩ (fun hHeld => ?_)
      clear hK K
      refine norm_ (a' := ?_) ?_ ?_
      rotate_left
      · show Act.put _ (some 19) _ = _
        simp only [Act.put, List.setIfInBounds_toArray, List.set_cons_zero, List.set_cons_succ, i64_w, i32_w]
        rfl
      refine pure_ (i := 11) (N := some 20) (v := ?_) (a' := ?_) #[true, true, true, true, true, true, true, true, true, true, true, true, true] rfl rfl (any_of HT_.out (by kernel_rfl)) (fun _ _ _ h => h) (Or.inl ⟨by rfl, ?_⟩) ?_ ?_
      rotate_left
      · intro w'
        go_simp
        with_reducible rfl
      rotate_left
      · simp only [Act.put, List.setIfInBounds_toArray, List.set_cons_zero, List.set_cons_succ, i64_w, i32_w]
        rfl
      refine done_ (done_of HT_.out (by kernel_rfl)) ?_
      try go_wp2
      go_loopg [21] k (fun kq v21 w' => ∃ (x21_1 : Int), v21 = .int .i64 x21_1 ∧ Aside0 (laws_plainOwn.l0 kq y168 (y168.length : Int) x21_1 = some r) ∧ Aside0 (kq ≤ k) ∧ Aside0 (Kd.R Kd.string 9 w' w.heap.size (fun _ => True) (.slice Ao10 y168.length co10) y168) ∧ Aside0 (w'.heap[gb161]? = some (.cells #[.string a0_0, (.slice A0_1 l0_1.length c0_1), (.slice A0_2 l0_2.length c0_2), .string a0_3] 35 (0, 0))) ∧ Aside0 (Below w.heap.size w w'))
      case atStart => exact ⟨(0), (by first | rfl | (simp; done) | (simp [*]; done)), H', ⟨Nat.le_refl _⟩, ⟨by (with_reducible repeat (first | apply Kd.R_alloc | apply Kd.R_drewN | apply Kd.R_drew)); exact HO170.out⟩, ⟨by (with_reducible repeat (first | refine blk_drewN ?_ _ | refine blk_drew ?_ | refine blk_alloc ?_ _)); exact BK161.out⟩, ⟨by repeat (first | (with_reducible first | exact HB.out | apply below_alloc | apply pw_below_drewN | apply below_drew1 | refine below_set ?_ GE161.out) | exact HB.out)⟩⟩
      case round =>
        clear H'
        try clear c1
        try clear c2
        try clear p2
        try clear c3
        obtain ⟨x21_1, rfl, HA, HK1, HO_19, BK161, HB⟩ := hrel
        cases gk with
        | zero => exact absurd HA.out (by simp [laws_plainOwn.l0])
        | succ k1 =>
          have H := HA.out
          clear HA
          simp only [laws_plainOwn.l0] at H
          by_cases c11 : x21_1 < (y168.length : Int)
          · rw [if_pos c11] at H
            have c11b0 : decide (x21_1 < (y168.length : Int)) = true := decide_eq_true c11
            clear c11
            by_cases c12 : 0 ≤ x21_1
            · rw [if_pos c12] at H
              have c12b0 : decide (0 ≤ x21_1) = true := decide_eq_true c12
              clear c12
              by_cases c13 : x21_1 < (y168.length : Int)
              · rw [if_pos c13] at H
                have c13b0 : decide (x21_1 < (y168.length : Int)) = true := decide_eq_true c13
                clear c13
                have H' := Aside0.mk H
                clear H
                have p171 : 0 ≤ (x21_1 : Int) := of_decide_eq_true (by first | (with_reducible assumption) | assumption)
                have q171 : x21_1 < (y168.length : Int) := of_decide_eq_true (by first | (with_reducible assumption) | assumption)
                obtain ⟨ad171, e171, hx171_0⟩ := Kd.at_string (Kd.R_reads' HO_19.out).2.2 x21_1 p171 q171
                cases e171
                replace p171 := eq_true p171
                replace q171 := eq_true q171
                go_wp2
                go_loopg [27] k1 (fun kq v27 w' => ∃ (x27_2 : Int), v27 = .int .i64 x27_2 ∧ Aside0 (laws_plainOwn.l1 kq (rdOf ByteArray.empty y168 x21_1) y168 (y168.length : Int) x21_1 ((rdOf ByteArray.empty y168 x21_1).size : Int) x27_2 = some r) ∧ Aside0 (kq ≤ k1) ∧ Aside0 (Kd.R Kd.string 9 w' w.heap.size (fun _ => True) (.slice (some ad171) y168.length co10) y168) ∧ Aside0 (w'.heap[gb161]? = some (.cells #[.string a0_0, (.slice A0_1 l0_1.length c0_1), (.slice A0_2 l0_2.length c0_2), .string a0_3] 35 (0, 0))) ∧ Aside0 (Below w.heap.size w w'))
                case atStart => exact ⟨(0), (by first | rfl | (simp; done) | (simp [*]; done)), H', ⟨Nat.le_refl _⟩, ⟨by (with_reducible repeat (first | apply Kd.R_alloc | apply Kd.R_drewN | apply Kd.R_drew)); exact HO_19.out⟩, ⟨by (with_reducible repeat (first | refine blk_drewN ?_ _ | refine blk_drew ?_ | refine blk_alloc ?_ _)); exact BK161.out⟩, ⟨by repeat (first | (with_reducible first | exact HB.out | apply below_alloc | apply pw_below_drewN | apply below_drew1 | refine below_set ?_ GE161.out) | exact HB.out)⟩⟩
                case round =>
                  clear H'
                  try clear c1
                  try clear p1
                  try clear q1
                  try clear hx1
                  try clear c2
                  try clear p2
                  try clear c3
                  try clear c11
                  try clear c11b0
                  try clear c12
                  try clear c12b0
                  try clear c13
                  try clear c13b0
                  try clear hx171_0
                  try clear p171
                  try clear p2
                  try clear q171
                  obtain ⟨x27_2, rfl, HA, HK2, HO_19, BK161, HB⟩ := hrel
                  cases gk with
                  | zero => exact absurd HA.out (by simp [laws_plainOwn.l1])
                  | succ k2 =>
                    have H := HA.out
                    clear HA
                    simp only [laws_plainOwn.l1] at H
                    by_cases c14 : x27_2 < ((rdOf ByteArray.empty y168 x21_1).size : Int)
                    · rw [if_pos c14] at H
                      have c14b0 : decide (x27_2 < ((rdOf ByteArray.empty y168 x21_1).size : Int)) = true := decide_eq_true c14
                      clear c14
                      by_cases c15 : 0 ≤ x27_2
                      · rw [if_pos c15] at H
                        have c15b0 : decide (0 ≤ x27_2) = true := decide_eq_true c15
                        clear c15
                        by_cases c16 : x27_2 < ((rdOf ByteArray.empty y168 x21_1).size : Int)
                        · rw [if_pos c16] at H
                          have c16b0 : decide (x27_2 < ((rdOf ByteArray.empty y168 x21_1).size : Int)) = true := decide_eq_true c16
                          clear c16
                          by_cases c19 : (bt (rdOf ByteArray.empty y168 x21_1) x27_2) < 128
                          · rw [if_pos c19] at H
                            have c19b0 : decide ((bt (rdOf ByteArray.empty y168 x21_1) x27_2) < 128) = true := decide_eq_true c19
                            clear c19
                            by_cases c20 : (Go.bits .or .u8 (bt (rdOf ByteArray.empty y168 x21_1) x27_2) 32) < 97
                            · rw [if_pos c20] at H
                              have c20b0 : decide ((Go.bits .or .u8 (bt (rdOf ByteArray.empty y168 x21_1) x27_2) 32) < 97) = true := decide_eq_true c20
                              clear c20
                              by_cases c22 : (bt (rdOf ByteArray.empty y168 x21_1) x27_2) < 48
                              · rw [if_pos c22] at H
                                have c22b0 : decide ((bt (rdOf ByteArray.empty y168 x21_1) x27_2) < 48) = true := decide_eq_true c22
                                clear c22
                                obtain rfl := Option.some.inj H
                                have p17 : 0 ≤ (x27_2 : Int) := of_decide_eq_true (by first | (with_reducible assumption) | assumption)
                                have q17 : x27_2 < ((rdOf ByteArray.empty y168 x21_1).size : Int) := of_decide_eq_true (by first | (with_reducible assumption) | assumption)
                                have hx17 := bt_at (rdOf ByteArray.empty y168 x21_1) x27_2
                                replace p17 := eq_true p17
                                replace q17 := eq_true q17
                                have p18 : 0 ≤ (x27_2 : Int) := of_decide_eq_true (by first | (with_reducible assumption) | assumption)
                                have q18 : x27_2 < ((rdOf ByteArray.empty y168 x21_1).size : Int) := of_decide_eq_true (by first | (with_reducible assumption) | assumption)
                                have hx18 := bt_at (rdOf ByteArray.empty y168 x21_1) x27_2
                                replace p18 := eq_true p18
                                replace q18 := eq_true q18
                                have p21 : 0 ≤ (x27_2 : Int) := of_decide_eq_true (by first | (with_reducible assumption) | assumption)
                                have q21 : x27_2 < ((rdOf ByteArray.empty y168 x21_1).size : Int) := of_decide_eq_true (by first | (with_reducible assumption) | assumption)
                                have hx21 := bt_at (rdOf ByteArray.empty y168 x21_1) x27_2
                                replace p21 := eq_true p21
                                replace q21 := eq_true q21
                                go_wp2
                                go_ret
                                exact ⟨by first | rfl | (simp [errW_none, errW_some] <;> rfl) | (simp [*, errW_none, errW_some] <;> rfl), by repeat (first | (with_reducible first | exact HB.out | apply below_alloc | apply pw_below_drewN | apply below_drew1 | refine below_set ?_ GE161.out) | exact HB.out)⟩
                              · rw [if_neg c22] at H
                                have c22b0 : decide ((bt (rdOf ByteArray.empty y168 x21_1) x27_2) < 48) = false := decide_eq_false c22
                                clear c22
                                by_cases c24 : (bt (rdOf ByteArray.empty y168 x21_1) x27_2) > 57
                                · rw [if_pos c24] at H
                                  have c24b0 : decide (57 < (bt (rdOf ByteArray.empty y168 x21_1) x27_2)) = true := decide_eq_true c24
                                  clear c24
                                  obtain rfl := Option.some.inj H
                                  have p17 : 0 ≤ (x27_2 : Int) := of_decide_eq_true (by first | (with_reducible assumption) | assumption)
                                  have q17 : x27_2 < ((rdOf ByteArray.empty y168 x21_1).size : Int) := of_decide_eq_true (by first | (with_reducible assumption) | assumption)
                                  have hx17 := bt_at (rdOf ByteArray.empty y168 x21_1) x27_2
                                  replace p17 := eq_true p17
                                  replace q17 := eq_true q17
                                  have p18 : 0 ≤ (x27_2 : Int) := of_decide_eq_true (by first | (with_reducible assumption) | assumption)
                                  have q18 : x27_2 < ((rdOf ByteArray.empty y168 x21_1).size : Int) := of_decide_eq_true (by first | (with_reducible assumption) | assumption)
                                  have hx18 := bt_at (rdOf ByteArray.empty y168 x21_1) x27_2
                                  replace p18 := eq_true p18
                                  replace q18 := eq_true q18
                                  have p21 : 0 ≤ (x27_2 : Int) := of_decide_eq_true (by first | (with_reducible assumption) | assumption)
                                  have q21 : x27_2 < ((rdOf ByteArray.empty y168 x21_1).size : Int) := of_decide_eq_true (by first | (with_reducible assumption) | assumption)
                                  have hx21 := bt_at (rdOf ByteArray.empty y168 x21_1) x27_2
                                  replace p21 := eq_true p21
                                  replace q21 := eq_true q21
                                  have p23 : 0 ≤ (x27_2 : Int) := of_decide_eq_true (by first | (with_reducible assumption) | assumption)
                                  have q23 : x27_2 < ((rdOf ByteArray.empty y168 x21_1).size : Int) := of_decide_eq_true (by first | (with_reducible assumption) | assumption)
                                  have hx23 := bt_at (rdOf ByteArray.empty y168 x21_1) x27_2
                                  replace p23 := eq_true p23
                                  replace q23 := eq_true q23
                                  go_wp2
                                  go_ret
                                  exact ⟨by first | rfl | (simp [errW_none, errW_some] <;> rfl) | (simp [*, errW_none, errW_some] <;> rfl), by repeat (first | (with_reducible first | exact HB.out | apply below_alloc | apply pw_below_drewN | apply below_drew1 | refine below_set ?_ GE161.out) | exact HB.out)⟩
                                · rw [if_neg c24] at H
                                  have c24b0 : decide (57 < (bt (rdOf ByteArray.empty y168 x21_1) x27_2)) = false := decide_eq_false c24
                                  clear c24
                                  have H' := Aside0.mk H
                                  clear H
                                  have p17 : 0 ≤ (x27_2 : Int) := of_decide_eq_true (by first | (with_reducible assumption) | assumption)
                                  have q17 : x27_2 < ((rdOf ByteArray.empty y168 x21_1).size : Int) := of_decide_eq_true (by first | (with_reducible assumption) | assumption)
                                  have hx17 := bt_at (rdOf ByteArray.empty y168 x21_1) x27_2
                                  replace p17 := eq_true p17
                                  replace q17 := eq_true q17
                                  have p18 : 0 ≤ (x27_2 : Int) := of_decide_eq_true (by first | (with_reducible assumption) | assumption)
                                  have q18 : x27_2 < ((rdOf ByteArray.empty y168 x21_1).size : Int) := of_decide_eq_true (by first | (with_reducible assumption) | assumption)
                                  have hx18 := bt_at (rdOf ByteArray.empty y168 x21_1) x27_2
                                  replace p18 := eq_true p18
                                  replace q18 := eq_true q18
                                  have p21 : 0 ≤ (x27_2 : Int) := of_decide_eq_true (by first | (with_reducible assumption) | assumption)
                                  have q21 : x27_2 < ((rdOf ByteArray.empty y168 x21_1).size : Int) := of_decide_eq_true (by first | (with_reducible assumption) | assumption)
                                  have hx21 := bt_at (rdOf ByteArray.empty y168 x21_1) x27_2
                                  replace p21 := eq_true p21
                                  replace q21 := eq_true q21
                                  have p23 : 0 ≤ (x27_2 : Int) := of_decide_eq_true (by first | (with_reducible assumption) | assumption)
                                  have q23 : x27_2 < ((rdOf ByteArray.empty y168 x21_1).size : Int) := of_decide_eq_true (by first | (with_reducible assumption) | assumption)
                                  have hx23 := bt_at (rdOf ByteArray.empty y168 x21_1) x27_2
                                  replace p23 := eq_true p23
                                  replace q23 := eq_true q23
                                  go_wp2
                                  go_roundg k2
                                  case measure => have := HK1.out; have := HK2.out; omega
                                  case rel => exact ⟨(wrap64 (x27_2 + 1)), (by first | rfl | (simp; done) | (simp [*]; done)), H', ⟨by have := HK1.out; have := HK2.out; omega⟩, ⟨by (with_reducible repeat (first | apply Kd.R_alloc | apply Kd.R_drewN | apply Kd.R_drew)); exact HO_19.out⟩, ⟨by (with_reducible repeat (first | refine blk_drewN ?_ _ | refine blk_drew ?_ | refine blk_alloc ?_ _)); exact BK161.out⟩, ⟨by repeat (first | (with_reducible first | exact HB.out | apply below_alloc | apply pw_below_drewN | apply below_drew1 | refine below_set ?_ GE161.out) | exact HB.out)⟩⟩
                            · rw [if_neg c20] at H
                              have c20b0 : decide ((Go.bits .or .u8 (bt (rdOf ByteArray.empty y168 x21_1) x27_2) 32) < 97) = false := decide_eq_false c20
                              clear c20
                              by_cases c25 : (Go.bits .or .u8 (bt (rdOf ByteArray.empty y168 x21_1) x27_2) 32) > 122
                              · rw [if_pos c25] at H
                                have c25b0 : decide (122 < (Go.bits .or .u8 (bt (rdOf ByteArray.empty y168 x21_1) x27_2) 32)) = true := decide_eq_true c25
                                clear c25
                                by_cases c27 : (bt (rdOf ByteArray.empty y168 x21_1) x27_2) < 48
                                · rw [if_pos c27] at H
                                  have c27b0 : decide ((bt (rdOf ByteArray.empty y168 x21_1) x27_2) < 48) = true := decide_eq_true c27
                                  clear c27
                                  obtain rfl := Option.some.inj H
                                  have p17 : 0 ≤ (x27_2 : Int) := of_decide_eq_true (by first | (with_reducible assumption) | assumption)
                                  have q17 : x27_2 < ((rdOf ByteArray.empty y168 x21_1).size : Int) := of_decide_eq_true (by first | (with_reducible assumption) | assumption)
                                  have hx17 := bt_at (rdOf ByteArray.empty y168 x21_1) x27_2
                                  replace p17 := eq_true p17
                                  replace q17 := eq_true q17
                                  have p18 : 0 ≤ (x27_2 : Int) := of_decide_eq_true (by first | (with_reducible assumption) | assumption)
                                  have q18 : x27_2 < ((rdOf ByteArray.empty y168 x21_1).size : Int) := of_decide_eq_true (by first | (with_reducible assumption) | assumption)
                                  have hx18 := bt_at (rdOf ByteArray.empty y168 x21_1) x27_2
                                  replace p18 := eq_true p18
                                  replace q18 := eq_true q18
                                  have p26 : 0 ≤ (x27_2 : Int) := of_decide_eq_true (by first | (with_reducible assumption) | assumption)
                                  have q26 : x27_2 < ((rdOf ByteArray.empty y168 x21_1).size : Int) := of_decide_eq_true (by first | (with_reducible assumption) | assumption)
                                  have hx26 := bt_at (rdOf ByteArray.empty y168 x21_1) x27_2
                                  replace p26 := eq_true p26
                                  replace q26 := eq_true q26
                                  go_wp2
                                  go_ret
                                  exact ⟨by first | rfl | (simp [errW_none, errW_some] <;> rfl) | (simp [*, errW_none, errW_some] <;> rfl), by repeat (first | (with_reducible first | exact HB.out | apply below_alloc | apply pw_below_drewN | apply below_drew1 | refine below_set ?_ GE161.out) | exact HB.out)⟩
                                · rw [if_neg c27] at H
                                  have c27b0 : decide ((bt (rdOf ByteArray.empty y168 x21_1) x27_2) < 48) = false := decide_eq_false c27
                                  clear c27
                                  by_cases c29 : (bt (rdOf ByteArray.empty y168 x21_1) x27_2) > 57
                                  · rw [if_pos c29] at H
                                    have c29b0 : decide (57 < (bt (rdOf ByteArray.empty y168 x21_1) x27_2)) = true := decide_eq_true c29
                                    clear c29
                                    obtain rfl := Option.some.inj H
                                    have p17 : 0 ≤ (x27_2 : Int) := of_decide_eq_true (by first | (with_reducible assumption) | assumption)
                                    have q17 : x27_2 < ((rdOf ByteArray.empty y168 x21_1).size : Int) := of_decide_eq_true (by first | (with_reducible assumption) | assumption)
                                    have hx17 := bt_at (rdOf ByteArray.empty y168 x21_1) x27_2
                                    replace p17 := eq_true p17
                                    replace q17 := eq_true q17
                                    have p18 : 0 ≤ (x27_2 : Int) := of_decide_eq_true (by first | (with_reducible assumption) | assumption)
                                    have q18 : x27_2 < ((rdOf ByteArray.empty y168 x21_1).size : Int) := of_decide_eq_true (by first | (with_reducible assumption) | assumption)
                                    have hx18 := bt_at (rdOf ByteArray.empty y168 x21_1) x27_2
                                    replace p18 := eq_true p18
                                    replace q18 := eq_true q18
                                    have p26 : 0 ≤ (x27_2 : Int) := of_decide_eq_true (by first | (with_reducible assumption) | assumption)
                                    have q26 : x27_2 < ((rdOf ByteArray.empty y168 x21_1).size : Int) := of_decide_eq_true (by first | (with_reducible assumption) | assumption)
                                    have hx26 := bt_at (rdOf ByteArray.empty y168 x21_1) x27_2
                                    replace p26 := eq_true p26
                                    replace q26 := eq_true q26
                                    have p28 : 0 ≤ (x27_2 : Int) := of_decide_eq_true (by first | (with_reducible assumption) | assumption)
                                    have q28 : x27_2 < ((rdOf ByteArray.empty y168 x21_1).size : Int) := of_decide_eq_true (by first | (with_reducible assumption) | assumption)
                                    have hx28 := bt_at (rdOf ByteArray.empty y168 x21_1) x27_2
                                    replace p28 := eq_true p28
                                    replace q28 := eq_true q28
                                    go_wp2
                                    go_ret
                                    exact ⟨by first | rfl | (simp [errW_none, errW_some] <;> rfl) | (simp [*, errW_none, errW_some] <;> rfl), by repeat (first | (with_reducible first | exact HB.out | apply below_alloc | apply pw_below_drewN | apply below_drew1 | refine below_set ?_ GE161.out) | exact HB.out)⟩
                                  · rw [if_neg c29] at H
                                    have c29b0 : decide (57 < (bt (rdOf ByteArray.empty y168 x21_1) x27_2)) = false := decide_eq_false c29
                                    clear c29
                                    have H' := Aside0.mk H
                                    clear H
                                    have p17 : 0 ≤ (x27_2 : Int) := of_decide_eq_true (by first | (with_reducible assumption) | assumption)
                                    have q17 : x27_2 < ((rdOf ByteArray.empty y168 x21_1).size : Int) := of_decide_eq_true (by first | (with_reducible assumption) | assumption)
                                    have hx17 := bt_at (rdOf ByteArray.empty y168 x21_1) x27_2
                                    replace p17 := eq_true p17
                                    replace q17 := eq_true q17
                                    have p18 : 0 ≤ (x27_2 : Int) := of_decide_eq_true (by first | (with_reducible assumption) | assumption)
                                    have q18 : x27_2 < ((rdOf ByteArray.empty y168 x21_1).size : Int) := of_decide_eq_true (by first | (with_reducible assumption) | assumption)
                                    have hx18 := bt_at (rdOf ByteArray.empty y168 x21_1) x27_2
                                    replace p18 := eq_true p18
                                    replace q18 := eq_true q18
                                    have p26 : 0 ≤ (x27_2 : Int) := of_decide_eq_true (by first | (with_reducible assumption) | assumption)
                                    have q26 : x27_2 < ((rdOf ByteArray.empty y168 x21_1).size : Int) := of_decide_eq_true (by first | (with_reducible assumption) | assumption)
                                    have hx26 := bt_at (rdOf ByteArray.empty y168 x21_1) x27_2
                                    replace p26 := eq_true p26
                                    replace q26 := eq_true q26
                                    have p28 : 0 ≤ (x27_2 : Int) := of_decide_eq_true (by first | (with_reducible assumption) | assumption)
                                    have q28 : x27_2 < ((rdOf ByteArray.empty y168 x21_1).size : Int) := of_decide_eq_true (by first | (with_reducible assumption) | assumption)
                                    have hx28 := bt_at (rdOf ByteArray.empty y168 x21_1) x27_2
                                    replace p28 := eq_true p28
                                    replace q28 := eq_true q28
                                    go_wp2
                                    go_roundg k2
                                    case measure => have := HK1.out; have := HK2.out; omega
                                    case rel => exact ⟨(wrap64 (x27_2 + 1)), (by first | rfl | (simp; done) | (simp [*]; done)), H', ⟨by have := HK1.out; have := HK2.out; omega⟩, ⟨by (with_reducible repeat (first | apply Kd.R_alloc | apply Kd.R_drewN | apply Kd.R_drew)); exact HO_19.out⟩, ⟨by (with_reducible repeat (first | refine blk_drewN ?_ _ | refine blk_drew ?_ | refine blk_alloc ?_ _)); exact BK161.out⟩, ⟨by repeat (first | (with_reducible first | exact HB.out | apply below_alloc | apply pw_below_drewN | apply below_drew1 | refine below_set ?_ GE161.out) | exact HB.out)⟩⟩
                              · rw [if_neg c25] at H
                                have c25b0 : decide (122 < (Go.bits .or .u8 (bt (rdOf ByteArray.empty y168 x21_1) x27_2) 32)) = false := decide_eq_false c25
                                clear c25
                                have H' := Aside0.mk H
                                clear H
                                have p17 : 0 ≤ (x27_2 : Int) := of_decide_eq_true (by first | (with_reducible assumption) | assumption)
                                have q17 : x27_2 < ((rdOf ByteArray.empty y168 x21_1).size : Int) := of_decide_eq_true (by first | (with_reducible assumption) | assumption)
                                have hx17 := bt_at (rdOf ByteArray.empty y168 x21_1) x27_2
                                replace p17 := eq_true p17
                                replace q17 := eq_true q17
                                have p18 : 0 ≤ (x27_2 : Int) := of_decide_eq_true (by first | (with_reducible assumption) | assumption)
                                have q18 : x27_2 < ((rdOf ByteArray.empty y168 x21_1).size : Int) := of_decide_eq_true (by first | (with_reducible assumption) | assumption)
                                have hx18 := bt_at (rdOf ByteArray.empty y168 x21_1) x27_2
                                replace p18 := eq_true p18
                                replace q18 := eq_true q18
                                go_wp2
                                go_roundg k2
                                case measure => have := HK1.out; have := HK2.out; omega
                                case rel => exact ⟨(wrap64 (x27_2 + 1)), (by first | rfl | (simp; done) | (simp [*]; done)), H', ⟨by have := HK1.out; have := HK2.out; omega⟩, ⟨by (with_reducible repeat (first | apply Kd.R_alloc | apply Kd.R_drewN | apply Kd.R_drew)); exact HO_19.out⟩, ⟨by (with_reducible repeat (first | refine blk_drewN ?_ _ | refine blk_drew ?_ | refine blk_alloc ?_ _)); exact BK161.out⟩, ⟨by repeat (first | (with_reducible first | exact HB.out | apply below_alloc | apply pw_below_drewN | apply below_drew1 | refine below_set ?_ GE161.out) | exact HB.out)⟩⟩
                          · rw [if_neg c19] at H
                            have c19b0 : decide ((bt (rdOf ByteArray.empty y168 x21_1) x27_2) < 128) = false := decide_eq_false c19
                            clear c19
                            have H' := Aside0.mk H
                            clear H
                            have p17 : 0 ≤ (x27_2 : Int) := of_decide_eq_true (by first | (with_reducible assumption) | assumption)
                            have q17 : x27_2 < ((rdOf ByteArray.empty y168 x21_1).size : Int) := of_decide_eq_true (by first | (with_reducible assumption) | assumption)
                            have hx17 := bt_at (rdOf ByteArray.empty y168 x21_1) x27_2
                            replace p17 := eq_true p17
                            replace q17 := eq_true q17
                            have p18 : 0 ≤ (x27_2 : Int) := of_decide_eq_true (by first | (with_reducible assumption) | assumption)
                            have q18 : x27_2 < ((rdOf ByteArray.empty y168 x21_1).size : Int) := of_decide_eq_true (by first | (with_reducible assumption) | assumption)
                            have hx18 := bt_at (rdOf ByteArray.empty y168 x21_1) x27_2
                            replace p18 := eq_true p18
                            replace q18 := eq_true q18
                            go_wp2
                            go_roundg k2
                            case measure => have := HK1.out; have := HK2.out; omega
                            case rel => exact ⟨(wrap64 (x27_2 + 1)), (by first | rfl | (simp; done) | (simp [*]; done)), H', ⟨by have := HK1.out; have := HK2.out; omega⟩, ⟨by (with_reducible repeat (first | apply Kd.R_alloc | apply Kd.R_drewN | apply Kd.R_drew)); exact HO_19.out⟩, ⟨by (with_reducible repeat (first | refine blk_drewN ?_ _ | refine blk_drew ?_ | refine blk_alloc ?_ _)); exact BK161.out⟩, ⟨by repeat (first | (with_reducible first | exact HB.out | apply below_alloc | apply pw_below_drewN | apply below_drew1 | refine below_set ?_ GE161.out) | exact HB.out)⟩⟩
                        · rw [if_neg c16] at H
                          exact absurd H (by simp)
                      · rw [if_neg c15] at H
                        exact absurd H (by simp)
                    · rw [if_neg c14] at H
                      have c14b0 : decide (x27_2 < ((rdOf ByteArray.empty y168 x21_1).size : Int)) = false := decide_eq_false c14
                      clear c14
                      replace H := Option.bind_eq_some_iff.mp H
                      obtain ⟨⟨t172, t173⟩, A300, H⟩ := H
                      replace H : (if (t172.length : Int) = 0 then (some false) else (if 0 < (t172.length : Int) then (if (rdOf ByteArray.empty t172 0).toList = ([227, 128, 128] : List UInt8) then (some false) else (if 0 ≤ (wrap64 ((t172.length : Int) - 1)) then (if (wrap64 ((t172.length : Int) - 1)) < (t172.length : Int) then (if (rdOf ByteArray.empty t172 (wrap64 ((t172.length : Int) - 1))).toList = ([227, 128, 128] : List UInt8) then (some false) else (laws_plainOwn.l0 k2 y168 (y168.length : Int) (wrap64 (x21_1 + 1)))) else (none)) else (none))) else (none))) = some r := H
                      have A30 := Aside0.mk A300
                      clear A300
                      by_cases c31 : (t172.length : Int) = 0
                      · rw [if_pos c31] at H
                        have c31b0 : ((t172.length : Int) == 0) = true := beq_iff_eq.mpr c31
                        have c31b1 : ((t172.length : Int) != 0) = false := bne_eq_false_iff_eq.mpr c31
                        clear c31
                        obtain rfl := Option.some.inj H
                        go_wp2_with (first | ((with_reducible refine gate_callee (f := 12) rfl ?_); refine goesL_ (some 61) rfl rfl Try.func12 (by kernel_rfl) rfl #[.string (rdOf ByteArray.empty y168 x21_1)] rfl (by (try simp only [List.map_toArray, List.map_cons, List.map_nil]); first | done | rfl | (simp only [List.length_drop, List.length_take]; rfl)) ?_; (with_reducible refine (laws_signs.calls k2 (rdOf ByteArray.empty y168 x21_1) t172 t173 _ A30.out).mono ?_); rintro e w32 ⟨v174, rfl, ho0, hb⟩; refine ⟨_, rfl, ?_⟩; have n0_ := Aside0.mk (Kd.R_elder' (by (with_reducible repeat (first | apply Kd.R_alloc | apply Kd.R_drewN | apply Kd.R_drew)); exact HO_19.out) (by first | exact Kd.N_base ho0 | exact Kd.S_base ho0 | exact Kd.R_base ho0) hb); have n1_ := Aside0.mk (Kd.R_lower (Kd.R_new' ho0 (Kd.R_lt (by (with_reducible repeat (first | apply Kd.R_alloc | apply Kd.R_drewN | apply Kd.R_drew)); exact HO_19.out))) (below_size (by repeat (first | (with_reducible first | exact HB.out | apply below_alloc | apply pw_below_drewN | apply below_drew1 | refine below_set ?_ GE161.out) | exact HB.out)))); have n2_ := Aside0.mk (blk_below (g := gb161) (o := .cells #[.string a0_0, .slice A0_1 l0_1.length c0_1, .slice A0_2 l0_2.length c0_2, .string a0_3] 35 (0, 0)) (by (with_reducible repeat (first | refine blk_drewN ?_ _ | refine blk_drew ?_ | refine blk_alloc ?_ _)); exact BK161.out) hb); have n3_ := Aside0.mk (below_step (by repeat (first | (with_reducible first | exact HB.out | apply below_alloc | apply pw_below_drewN | apply below_drew1 | refine below_set ?_ GE161.out) | exact HB.out)) hb); clear HO_19; clear BK161; clear HB; have HO_19 := n0_; have HO175 := n1_; have BK161 := n2_; have HB := n3_; clear n0_ n1_ n2_ n3_; (try clear hb); (try clear hb2); (try clear hk); (try clear hi); (try clear ho0); obtain ⟨Ao33, co33, eo33⟩ := Kd.R_slice HO175.out; subst eo33))
                        go_ret
                        exact ⟨by first | rfl | (simp [errW_none, errW_some] <;> rfl) | (simp [*, errW_none, errW_some] <;> rfl), by repeat (first | (with_reducible first | exact HB.out | apply below_alloc | apply pw_below_drewN | apply below_drew1 | refine below_set ?_ GE161.out) | exact HB.out)⟩
                      · rw [if_neg c31] at H
                        have c31b0 : ((t172.length : Int) == 0) = false := beq_eq_false_iff_ne.mpr c31
                        have c31b1 : ((t172.length : Int) != 0) = true := bne_iff_ne.mpr c31
                        have c31b2 : ¬ (t172 = []) := fun h_ => c31 (by rw [h_]; rfl)
                        by_cases c34 : 0 < (t172.length : Int)
                        · rw [if_pos c34] at H
                          have c34b0 : decide (0 < (t172.length : Int)) = true := decide_eq_true c34
                          have c34b1 : decide (0 < t172.length) = true := decide_eq_true (by omega)
                          clear c34
                          by_cases c35 : (rdOf ByteArray.empty t172 0).toList = ([227, 128, 128] : List UInt8)
                          · rw [if_pos c35] at H
                            have c35b0 : ((rdOf ByteArray.empty t172 0).toList == ([227, 128, 128] : List UInt8)) = true := beq_iff_eq.mpr c35
                            have c35b1 : ((rdOf ByteArray.empty t172 0).toList != ([227, 128, 128] : List UInt8)) = false := bne_eq_false_iff_eq.mpr c35
                            clear c35
                            obtain rfl := Option.some.inj H
                            go_wp2_with (first | ((with_reducible refine gate_callee (f := 12) rfl ?_); refine goesL_ (some 61) rfl rfl Try.func12 (by kernel_rfl) rfl #[.string (rdOf ByteArray.empty y168 x21_1)] rfl (by (try simp only [List.map_toArray, List.map_cons, List.map_nil]); first | done | rfl | (simp only [List.length_drop, List.length_take]; rfl)) ?_; (with_reducible refine (laws_signs.calls k2 (rdOf ByteArray.empty y168 x21_1) t172 t173 _ A30.out).mono ?_); rintro e w36 ⟨v174, rfl, ho0, hb⟩; refine ⟨_, rfl, ?_⟩; have n0_ := Aside0.mk (Kd.R_elder' (by (with_reducible repeat (first | apply Kd.R_alloc | apply Kd.R_drewN | apply Kd.R_drew)); exact HO_19.out) (by first | exact Kd.N_base ho0 | exact Kd.S_base ho0 | exact Kd.R_base ho0) hb); have n1_ := Aside0.mk (Kd.R_lower (Kd.R_new' ho0 (Kd.R_lt (by (with_reducible repeat (first | apply Kd.R_alloc | apply Kd.R_drewN | apply Kd.R_drew)); exact HO_19.out))) (below_size (by repeat (first | (with_reducible first | exact HB.out | apply below_alloc | apply pw_below_drewN | apply below_drew1 | refine below_set ?_ GE161.out) | exact HB.out)))); have n2_ := Aside0.mk (blk_below (g := gb161) (o := .cells #[.string a0_0, .slice A0_1 l0_1.length c0_1, .slice A0_2 l0_2.length c0_2, .string a0_3] 35 (0, 0)) (by (with_reducible repeat (first | refine blk_drewN ?_ _ | refine blk_drew ?_ | refine blk_alloc ?_ _)); exact BK161.out) hb); have n3_ := Aside0.mk (below_step (by repeat (first | (with_reducible first | exact HB.out | apply below_alloc | apply pw_below_drewN | apply below_drew1 | refine below_set ?_ GE161.out) | exact HB.out)) hb); clear HO_19; clear BK161; clear HB; have HO_19 := n0_; have HO175 := n1_; have BK161 := n2_; have HB := n3_; clear n0_ n1_ n2_ n3_; (try clear hb); (try clear hb2); (try clear hk); (try clear hi); (try clear ho0); obtain ⟨Ao37, co37, eo37⟩ := Kd.R_slice HO175.out; subst eo37; have p176 : 0 ≤ (0 : Int) := (by omega); have q176 : 0 < (t172.length : Int) := of_decide_eq_true (by first | (with_reducible assumption) | assumption); obtain ⟨ad176, e176, hx176_0⟩ := Kd.at_string (Kd.R_reads' HO175.out).2.2 0 p176 q176; cases e176; have qi176 : (0 < t172.length) = True := eq_true (by omega); (try rw [show ((0 : Int)).toNat = 0 from rfl] at hx176_0); (try rw [Addr.add_zero'] at hx176_0); replace p176 := eq_true p176; replace q176 := eq_true q176))
                            go_ret
                            exact ⟨by first | rfl | (simp [errW_none, errW_some] <;> rfl) | (simp [*, errW_none, errW_some] <;> rfl), by repeat (first | (with_reducible first | exact HB.out | apply below_alloc | apply pw_below_drewN | apply below_drew1 | refine below_set ?_ GE161.out) | exact HB.out)⟩
                          · rw [if_neg c35] at H
                            have c35b0 : ((rdOf ByteArray.empty t172 0).toList == ([227, 128, 128] : List UInt8)) = false := beq_eq_false_iff_ne.mpr c35
                            have c35b1 : ((rdOf ByteArray.empty t172 0).toList != ([227, 128, 128] : List UInt8)) = true := bne_iff_ne.mpr c35
                            obtain ⟨ji38, hji38⟩ : ∃ j_ : Int, (wrap64 ((t172.length : Int) - 1)) = j_ := ⟨_, rfl⟩
                            replace H : (if 0 ≤ (ji38) then (if (ji38) < (t172.length : Int) then (if (rdOf ByteArray.empty t172 (ji38)).toList = ([227, 128, 128] : List UInt8) then (some false) else (laws_plainOwn.l0 k2 y168 (y168.length : Int) (wrap64 (x21_1 + 1)))) else (none)) else (none)) = some r := by first | (rw [hji38] at H; exact H) | (simp only [hji38] at H ⊢; exact H)
                            (try rw [hji38] at A30)
                            have hji38w : (IntKind.i64.wrap ((t172.length : Int) - 1)) = ji38 := (i64_w _).trans hji38
                            by_cases c39 : 0 ≤ (ji38)
                            · rw [if_pos c39] at H
                              have c39b0 : decide (0 ≤ (ji38)) = true := decide_eq_true c39
                              clear c39
                              by_cases c40 : (ji38) < (t172.length : Int)
                              · rw [if_pos c40] at H
                                have c40b0 : decide ((ji38) < (t172.length : Int)) = true := decide_eq_true c40
                                clear c40
                                by_cases c41 : (rdOf ByteArray.empty t172 (ji38)).toList = ([227, 128, 128] : List UInt8)
                                · rw [if_pos c41] at H
                                  have c41b0 : ((rdOf ByteArray.empty t172 (ji38)).toList == ([227, 128, 128] : List UInt8)) = true := beq_iff_eq.mpr c41
                                  have c41b1 : ((rdOf ByteArray.empty t172 (ji38)).toList != ([227, 128, 128] : List UInt8)) = false := bne_eq_false_iff_eq.mpr c41
                                  clear c41
                                  obtain rfl := Option.some.inj H
                                  go_wp2_with (first | ((with_reducible refine gate_callee (f := 12) rfl ?_); refine goesL_ (some 61) rfl rfl Try.func12 (by kernel_rfl) rfl #[.string (rdOf ByteArray.empty y168 x21_1)] rfl (by (try simp only [List.map_toArray, List.map_cons, List.map_nil]); first | done | rfl | (simp only [List.length_drop, List.length_take]; rfl)) ?_; (with_reducible refine (laws_signs.calls k2 (rdOf ByteArray.empty y168 x21_1) t172 t173 _ A30.out).mono ?_); rintro e w42 ⟨v174, rfl, ho0, hb⟩; refine ⟨_, rfl, ?_⟩; have n0_ := Aside0.mk (Kd.R_elder' (by (with_reducible repeat (first | apply Kd.R_alloc | apply Kd.R_drewN | apply Kd.R_drew)); exact HO_19.out) (by first | exact Kd.N_base ho0 | exact Kd.S_base ho0 | exact Kd.R_base ho0) hb); have n1_ := Aside0.mk (Kd.R_lower (Kd.R_new' ho0 (Kd.R_lt (by (with_reducible repeat (first | apply Kd.R_alloc | apply Kd.R_drewN | apply Kd.R_drew)); exact HO_19.out))) (below_size (by repeat (first | (with_reducible first | exact HB.out | apply below_alloc | apply pw_below_drewN | apply below_drew1 | refine below_set ?_ GE161.out) | exact HB.out)))); have n2_ := Aside0.mk (blk_below (g := gb161) (o := .cells #[.string a0_0, .slice A0_1 l0_1.length c0_1, .slice A0_2 l0_2.length c0_2, .string a0_3] 35 (0, 0)) (by (with_reducible repeat (first | refine blk_drewN ?_ _ | refine blk_drew ?_ | refine blk_alloc ?_ _)); exact BK161.out) hb); have n3_ := Aside0.mk (below_step (by repeat (first | (with_reducible first | exact HB.out | apply below_alloc | apply pw_below_drewN | apply below_drew1 | refine below_set ?_ GE161.out) | exact HB.out)) hb); clear HO_19; clear BK161; clear HB; have HO_19 := n0_; have HO175 := n1_; have BK161 := n2_; have HB := n3_; clear n0_ n1_ n2_ n3_; (try clear hb); (try clear hb2); (try clear hk); (try clear hi); (try clear ho0); obtain ⟨Ao43, co43, eo43⟩ := Kd.R_slice HO175.out; subst eo43; have p176 : 0 ≤ (0 : Int) := (by omega); have q176 : 0 < (t172.length : Int) := of_decide_eq_true (by first | (with_reducible assumption) | assumption); obtain ⟨ad176, e176, hx176_0⟩ := Kd.at_string (Kd.R_reads' HO175.out).2.2 0 p176 q176; cases e176; have qi176 : (0 < t172.length) = True := eq_true (by omega); (try rw [show ((0 : Int)).toNat = 0 from rfl] at hx176_0); (try rw [Addr.add_zero'] at hx176_0); replace p176 := eq_true p176; replace q176 := eq_true q176; have p177 : 0 ≤ ((ji38) : Int) := of_decide_eq_true (by first | (with_reducible assumption) | assumption); have q177 : (ji38) < (t172.length : Int) := of_decide_eq_true (by first | (with_reducible assumption) | assumption); obtain ⟨ad177, e177, hx177_0⟩ := Kd.at_string (Kd.R_reads' HO175.out).2.2 (ji38) p177 q177; obtain rfl : ad176 = ad177 := (by injection e177); replace p177 := eq_true p177; replace q177 := eq_true q177))
                                  go_ret
                                  exact ⟨by first | rfl | (simp [errW_none, errW_some] <;> rfl) | (simp only [← hji38]; first | rfl | (simp [errW_none, errW_some] <;> rfl)) | (simp [*, errW_none, errW_some] <;> rfl), by repeat (first | (with_reducible first | exact HB.out | apply below_alloc | apply pw_below_drewN | apply below_drew1 | refine below_set ?_ GE161.out) | exact HB.out)⟩
                                · rw [if_neg c41] at H
                                  have c41b0 : ((rdOf ByteArray.empty t172 (ji38)).toList == ([227, 128, 128] : List UInt8)) = false := beq_eq_false_iff_ne.mpr c41
                                  have c41b1 : ((rdOf ByteArray.empty t172 (ji38)).toList != ([227, 128, 128] : List UInt8)) = true := bne_iff_ne.mpr c41
                                  have H' := Aside0.mk H
                                  clear H
                                  go_wp2_with (first | ((with_reducible refine gate_callee (f := 12) rfl ?_); refine goesL_ (some 61) rfl rfl Try.func12 (by kernel_rfl) rfl #[.string (rdOf ByteArray.empty y168 x21_1)] rfl (by (try simp only [List.map_toArray, List.map_cons, List.map_nil]); first | done | rfl | (simp only [List.length_drop, List.length_take]; rfl)) ?_; (with_reducible refine (laws_signs.calls k2 (rdOf ByteArray.empty y168 x21_1) t172 t173 _ A30.out).mono ?_); rintro e w44 ⟨v174, rfl, ho0, hb⟩; refine ⟨_, rfl, ?_⟩; have n0_ := Aside0.mk (Kd.R_elder' (by (with_reducible repeat (first | apply Kd.R_alloc | apply Kd.R_drewN | apply Kd.R_drew)); exact HO_19.out) (by first | exact Kd.N_base ho0 | exact Kd.S_base ho0 | exact Kd.R_base ho0) hb); have n1_ := Aside0.mk (Kd.R_lower (Kd.R_new' ho0 (Kd.R_lt (by (with_reducible repeat (first | apply Kd.R_alloc | apply Kd.R_drewN | apply Kd.R_drew)); exact HO_19.out))) (below_size (by repeat (first | (with_reducible first | exact HB.out | apply below_alloc | apply pw_below_drewN | apply below_drew1 | refine below_set ?_ GE161.out) | exact HB.out)))); have n2_ := Aside0.mk (blk_below (g := gb161) (o := .cells #[.string a0_0, .slice A0_1 l0_1.length c0_1, .slice A0_2 l0_2.length c0_2, .string a0_3] 35 (0, 0)) (by (with_reducible repeat (first | refine blk_drewN ?_ _ | refine blk_drew ?_ | refine blk_alloc ?_ _)); exact BK161.out) hb); have n3_ := Aside0.mk (below_step (by repeat (first | (with_reducible first | exact HB.out | apply below_alloc | apply pw_below_drewN | apply below_drew1 | refine below_set ?_ GE161.out) | exact HB.out)) hb); clear HO_19; clear BK161; clear HB; have HO_19 := n0_; have HO175 := n1_; have BK161 := n2_; have HB := n3_; clear n0_ n1_ n2_ n3_; (try clear hb); (try clear hb2); (try clear hk); (try clear hi); (try clear ho0); obtain ⟨Ao45, co45, eo45⟩ := Kd.R_slice HO175.out; subst eo45; have p176 : 0 ≤ (0 : Int) := (by omega); have q176 : 0 < (t172.length : Int) := of_decide_eq_true (by first | (with_reducible assumption) | assumption); obtain ⟨ad176, e176, hx176_0⟩ := Kd.at_string (Kd.R_reads' HO175.out).2.2 0 p176 q176; cases e176; have qi176 : (0 < t172.length) = True := eq_true (by omega); (try rw [show ((0 : Int)).toNat = 0 from rfl] at hx176_0); (try rw [Addr.add_zero'] at hx176_0); replace p176 := eq_true p176; replace q176 := eq_true q176; have p177 : 0 ≤ ((ji38) : Int) := of_decide_eq_true (by first | (with_reducible assumption) | assumption); have q177 : (ji38) < (t172.length : Int) := of_decide_eq_true (by first | (with_reducible assumption) | assumption); obtain ⟨ad177, e177, hx177_0⟩ := Kd.at_string (Kd.R_reads' HO175.out).2.2 (ji38) p177 q177; obtain rfl : ad176 = ad177 := (by injection e177); replace p177 := eq_true p177; replace q177 := eq_true q177))
                                  go_roundg k2
                                  case measure => have := HK1.out; have := HK2.out; omega
                                  case rel => exact ⟨(wrap64 (x21_1 + 1)), (by first | rfl | (simp; done) | (simp [*]; done)), H', ⟨by have := HK1.out; have := HK2.out; omega⟩, ⟨by (with_reducible repeat (first | apply Kd.R_alloc | apply Kd.R_drewN | apply Kd.R_drew)); exact Kd.R_mono HO_19.out (fun _ hk => trivial)⟩, ⟨by (with_reducible repeat (first | refine blk_drewN ?_ _ | refine blk_drew ?_ | refine blk_alloc ?_ _)); exact BK161.out⟩, ⟨by repeat (first | (with_reducible first | exact HB.out | apply below_alloc | apply pw_below_drewN | apply below_drew1 | refine below_set ?_ GE161.out) | exact HB.out)⟩⟩
                              · rw [if_neg c40] at H
                                exact absurd H (by simp)
                            · rw [if_neg c39] at H
                              exact absurd H (by simp)
                        · rw [if_neg c34] at H
                          exact absurd H (by simp)
              · rw [if_neg c13] at H
                exact absurd H (by simp)
            · rw [if_neg c12] at H
              exact absurd H (by simp)
          · rw [if_neg c11] at H
            have c11b0 : decide (x21_1 < (y168.length : Int)) = false := decide_eq_false c11
            clear c11
            obtain rfl := Option.some.inj H
            go_wp2
            go_ret
            exact ⟨by first | rfl | (simp [errW_none, errW_some] <;> rfl) | (simp [*, errW_none, errW_some] <;> rfl), by repeat (first | (with_reducible first | exact HB.out | apply below_alloc | apply pw_below_drewN | apply below_drew1 | refine below_set ?_ GE161.out) | exact HB.out)⟩
    · rw [if_neg c3] at H
      exact absurd H (by simp)
  · rw [if_neg c2] at H
    exact absurd H (by simp)

end Go.Proofs.Ythecfligfhpccaa.P
