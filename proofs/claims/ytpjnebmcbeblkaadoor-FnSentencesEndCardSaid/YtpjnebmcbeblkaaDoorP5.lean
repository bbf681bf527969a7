-- PRINTED by print.py (a twelfth state) out of the translation. Not trusted: Lean checks it.
import Derived.Test.YtpjnebmcbeblkaaDoorP0
import Derived.Test.YtpjnebmcbeblkaaDoorP8
import Derived.Test.YtpjnebmcbeblkaaDoorP10
import Derived.Test.YtpjnebmcbeblkaaDoorP11
import Derived.Test.YtpjnebmcbeblkaaDoorP19
import Derived.Test.YtpjnebmcbeblkaaDoorP21
import Derived.Test.YtpjnebmcbeblkaaDoorQSd
import Derived.Test.YtpjnebmcbeblkaaDoorQSb
namespace Go.Proofs.YtpjnebmcbeblkaaDoor.P
open Go.RowKit Go.Proofs.YtpjnebmcbeblkaaDoorW.PrintWords Go.Proofs.YtpjnebmcbeblkaaDoorW.PrintLast Go.Proofs.YtpjnebmcbeblkaaDoorW.PrintMore
attribute [local go_sem] max2_int min2_int max_two min_two max_three min_three max_four min_four   -- for this text's walks alone
set_option linter.unusedVariables false
set_option linter.unusedSimpArgs false

/-! ### laws_FnSentencesEnd: function 5 -/
mutual
def laws_FnSentencesEnd.j0 : Nat → ByteArray → Bool → ByteArray → ByteArray → Bool → Bool → Int → Option (Bool)
  | 0, _, _, _, _, _, _, _ => none
  | k + 1, x0, x19, x215000, x215001, x215002, x215003, x215004 => if x19 = true then (some true) else ((laws_splits.f k).bind fun t216 => (if t216 = true then ((laws_calm.f k x0 x215000 x215001 false false x215004).bind fun t217 => (if t217 = true then ((impl_Sentences.f x0 x215000 x215001 false false x215004 ([] : List Int)).bind fun bt218 => (if bt218.2 = true then (laws_FnSentencesEnd.l0 k bt218.1 bt218.1 (bt218.1.length : Int) 0 x215000 x215001 false false x215004) else (some false))) else (some true))) else (some false)))
def laws_FnSentencesEnd.l0 : Nat → List ByteArray → List ByteArray → Int → Int → ByteArray → ByteArray → Bool → Bool → Int → Option (Bool)
  | 0, _, _, _, _, _, _, _, _, _ => none
  | k + 1, x5, x36, x37, x38, x215000, x215001, x215002, x215003, x215004 => if x38 < x37 then (if 0 ≤ x38 then (if x38 < (x36.length : Int) then ((laws_signs.f k (rdOf ByteArray.empty x36 x38)).bind fun bt223 => (if x38 = (wrap64 ((x5.length : Int) - 1)) then (laws_FnSentencesEnd.j2 k x5 bt223.1 x36 x37 x38 true x215000 x215001 x215002 x215003 x215004) else (laws_FnSentencesEnd.j2 k x5 bt223.1 x36 x37 x38 (decide ((bt223.1.length : Int) ≥ x215004)) x215000 x215001 x215002 x215003 x215004))) else (none)) else (none)) else (some true)
def laws_FnSentencesEnd.j2 : Nat → List ByteArray → List ByteArray → List ByteArray → Int → Int → Bool → ByteArray → ByteArray → Bool → Bool → Int → Option (Bool)
  | 0, _, _, _, _, _, _, _, _, _, _, _ => none
  | k + 1, x5, x9, x36, x37, x38, x59, x215000, x215001, x215002, x215003, x215004 => if x59 = true then (laws_FnSentencesEnd.l0 k x5 x36 x37 (wrap64 (x38 + 1)) x215000 x215001 x215002 x215003 x215004) else (laws_FnSentencesEnd.l1 k x5 x9 (x9.length : Int) x36 x37 x38 x215000 x215001 x215002 x215003 x215004)
def laws_FnSentencesEnd.l1 : Nat → List ByteArray → List ByteArray → Int → List ByteArray → Int → Int → ByteArray → ByteArray → Bool → Bool → Int → Option (Bool)
  | 0, _, _, _, _, _, _, _, _, _, _, _ => none
  | k + 1, x5, x9, x11, x36, x37, x38, x215000, x215001, x215002, x215003, x215004 => if x11 > 0 then (if 0 ≤ (wrap64 (x11 - 1)) then (if (wrap64 (x11 - 1)) < (x9.length : Int) then ((laws_has.f k x215001 (rdOf ByteArray.empty x9 (wrap64 (x11 - 1)))).bind fun t228 => (if t228 = true then ((laws_has.f k x215000 (rdOf ByteArray.empty x9 (wrap64 (x11 - 1)))).bind fun t230 => (if t230 = true then (if x11 = 0 then (some false) else ((laws_has.f k x215000 (rdOf ByteArray.empty x9 (wrap64 (x11 - 1)))).bind fun t232 => (if t232 = true then (laws_FnSentencesEnd.l0 k x5 x36 x37 (wrap64 (x38 + 1)) x215000 x215001 x215002 x215003 x215004) else (some false)))) else (laws_FnSentencesEnd.l1 k x5 x9 (wrap64 (x11 - 1)) x36 x37 x38 x215000 x215001 x215002 x215003 x215004))) else (if x11 = 0 then (some false) else ((laws_has.f k x215000 (rdOf ByteArray.empty x9 (wrap64 (x11 - 1)))).bind fun t234 => (if t234 = true then (laws_FnSentencesEnd.l0 k x5 x36 x37 (wrap64 (x38 + 1)) x215000 x215001 x215002 x215003 x215004) else (some false)))))) else (none)) else (none)) else (if x11 = 0 then (some false) else (if 0 ≤ (wrap64 (x11 - 1)) then (if (wrap64 (x11 - 1)) < (x9.length : Int) then ((laws_has.f k x215000 (rdOf ByteArray.empty x9 (wrap64 (x11 - 1)))).bind fun t236 => (if t236 = true then (laws_FnSentencesEnd.l0 k x5 x36 x37 (wrap64 (x38 + 1)) x215000 x215001 x215002 x215003 x215004) else (some false))) else (none)) else (none)))
end
def laws_FnSentencesEnd.f (k : Nat) (a0 : ByteArray) (a1_0 : ByteArray) (a1_1 : ByteArray) (a1_2 : Bool) (a1_3 : Bool) (a1_4 : Int) : Option (Bool) := if (a0.size : Int) > 2147483647 then (laws_FnSentencesEnd.j0 k a0 true a1_0 a1_1 a1_2 a1_3 a1_4) else ((laws_zzFits10.f a1_0 a1_1 a1_2 a1_3 a1_4).bind fun t215 => (laws_FnSentencesEnd.j0 k a0 (!t215) a1_0 a1_1 a1_2 a1_3 a1_4))
theorem laws_FnSentencesEnd.mono_l : ∀ k, (∀ y0 y1 y2 y3 y4 y5 y6, LeO (laws_FnSentencesEnd.j0 k y0 y1 y2 y3 y4 y5 y6) (laws_FnSentencesEnd.j0 (k + 1) y0 y1 y2 y3 y4 y5 y6)) ∧ (∀ y0 y1 y2 y3 y4 y5 y6 y7 y8, LeO (laws_FnSentencesEnd.l0 k y0 y1 y2 y3 y4 y5 y6 y7 y8) (laws_FnSentencesEnd.l0 (k + 1) y0 y1 y2 y3 y4 y5 y6 y7 y8)) ∧ (∀ y0 y1 y2 y3 y4 y5 y6 y7 y8 y9 y10, LeO (laws_FnSentencesEnd.j2 k y0 y1 y2 y3 y4 y5 y6 y7 y8 y9 y10) (laws_FnSentencesEnd.j2 (k + 1) y0 y1 y2 y3 y4 y5 y6 y7 y8 y9 y10)) ∧ (∀ y0 y1 y2 y3 y4 y5 y6 y7 y8 y9 y10, LeO (laws_FnSentencesEnd.l1 k y0 y1 y2 y3 y4 y5 y6 y7 y8 y9 y10) (laws_FnSentencesEnd.l1 (k + 1) y0 y1 y2 y3 y4 y5 y6 y7 y8 y9 y10))
  | 0 => ⟨fun _ _ _ _ _ _ _ r h => by simp [laws_FnSentencesEnd.j0] at h, fun _ _ _ _ _ _ _ _ _ r h => by simp [laws_FnSentencesEnd.l0] at h, fun _ _ _ _ _ _ _ _ _ _ _ r h => by simp [laws_FnSentencesEnd.j2] at h, fun _ _ _ _ _ _ _ _ _ _ _ r h => by simp [laws_FnSentencesEnd.l1] at h⟩
  | k + 1 => by
    obtain ⟨ih0, ih1, ih2, ih3⟩ := laws_FnSentencesEnd.mono_l k
    refine ⟨?_, ?_, ?_, ?_⟩
    · intro y0 y1 y2 y3 y4 y5 y6
      unfold laws_FnSentencesEnd.j0
      repeat' first
      | (with_reducible exact ih0 _ _ _ _ _ _ _)
      | (with_reducible exact ih1 _ _ _ _ _ _ _ _ _)
      | (with_reducible exact ih2 _ _ _ _ _ _ _ _ _ _ _)
      | (with_reducible exact ih3 _ _ _ _ _ _ _ _ _ _ _)
      | (with_reducible exact laws_calm.mono _ _ _ _ _ _ _)
      | (with_reducible exact laws_has.mono _ _ _)
      | (with_reducible exact laws_signs.mono _ _)
      | (with_reducible exact laws_splits.mono _)
      | (with_reducible exact LeO.refl _)
      | (with_reducible exact LeO.none _)
      | (with_reducible refine LeO.ite ?_ ?_)
      | (with_reducible refine LeO.bind ?_ (fun _ => ?_))
      | exact ih0 _ _ _ _ _ _ _
      | exact ih1 _ _ _ _ _ _ _ _ _
      | exact ih2 _ _ _ _ _ _ _ _ _ _ _
      | exact ih3 _ _ _ _ _ _ _ _ _ _ _
      | exact laws_calm.mono _ _ _ _ _ _ _
      | exact laws_has.mono _ _ _
      | exact laws_signs.mono _ _
      | exact laws_splits.mono _
      | exact LeO.none _
      | refine LeO.ite ?_ ?_
      | refine LeO.bind ?_ (fun _ => ?_)
    · intro y0 y1 y2 y3 y4 y5 y6 y7 y8
      unfold laws_FnSentencesEnd.l0
      repeat' first
      | (with_reducible exact ih0 _ _ _ _ _ _ _)
      | (with_reducible exact ih1 _ _ _ _ _ _ _ _ _)
      | (with_reducible exact ih2 _ _ _ _ _ _ _ _ _ _ _)
      | (with_reducible exact ih3 _ _ _ _ _ _ _ _ _ _ _)
      | (with_reducible exact laws_calm.mono _ _ _ _ _ _ _)
      | (with_reducible exact laws_has.mono _ _ _)
      | (with_reducible exact laws_signs.mono _ _)
      | (with_reducible exact laws_splits.mono _)
      | (with_reducible exact LeO.refl _)
      | (with_reducible exact LeO.none _)
      | (with_reducible refine LeO.ite ?_ ?_)
      | (with_reducible refine LeO.bind ?_ (fun _ => ?_))
      | exact ih0 _ _ _ _ _ _ _
      | exact ih1 _ _ _ _ _ _ _ _ _
      | exact ih2 _ _ _ _ _ _ _ _ _ _ _
      | exact ih3 _ _ _ _ _ _ _ _ _ _ _
      | exact laws_calm.mono _ _ _ _ _ _ _
      | exact laws_has.mono _ _ _
      | exact laws_signs.mono _ _
      | exact laws_splits.mono _
      | exact LeO.none _
      | refine LeO.ite ?_ ?_
      | refine LeO.bind ?_ (fun _ => ?_)
    · intro y0 y1 y2 y3 y4 y5 y6 y7 y8 y9 y10
      unfold laws_FnSentencesEnd.j2
      repeat' first
      | (with_reducible exact ih0 _ _ _ _ _ _ _)
      | (with_reducible exact ih1 _ _ _ _ _ _ _ _ _)
      | (with_reducible exact ih2 _ _ _ _ _ _ _ _ _ _ _)
      | (with_reducible exact ih3 _ _ _ _ _ _ _ _ _ _ _)
      | (with_reducible exact laws_calm.mono _ _ _ _ _ _ _)
      | (with_reducible exact laws_has.mono _ _ _)
      | (with_reducible exact laws_signs.mono _ _)
      | (with_reducible exact laws_splits.mono _)
      | (with_reducible exact LeO.refl _)
      | (with_reducible exact LeO.none _)
      | (with_reducible refine LeO.ite ?_ ?_)
      | (with_reducible refine LeO.bind ?_ (fun _ => ?_))
      | exact ih0 _ _ _ _ _ _ _
      | exact ih1 _ _ _ _ _ _ _ _ _
      | exact ih2 _ _ _ _ _ _ _ _ _ _ _
      | exact ih3 _ _ _ _ _ _ _ _ _ _ _
      | exact laws_calm.mono _ _ _ _ _ _ _
      | exact laws_has.mono _ _ _
      | exact laws_signs.mono _ _
      | exact laws_splits.mono _
      | exact LeO.none _
      | refine LeO.ite ?_ ?_
      | refine LeO.bind ?_ (fun _ => ?_)
    · intro y0 y1 y2 y3 y4 y5 y6 y7 y8 y9 y10
      unfold laws_FnSentencesEnd.l1
      repeat' first
      | (with_reducible exact ih0 _ _ _ _ _ _ _)
      | (with_reducible exact ih1 _ _ _ _ _ _ _ _ _)
      | (with_reducible exact ih2 _ _ _ _ _ _ _ _ _ _ _)
      | (with_reducible exact ih3 _ _ _ _ _ _ _ _ _ _ _)
      | (with_reducible exact laws_calm.mono _ _ _ _ _ _ _)
      | (with_reducible exact laws_has.mono _ _ _)
      | (with_reducible exact laws_signs.mono _ _)
      | (with_reducible exact laws_splits.mono _)
      | (with_reducible exact LeO.refl _)
      | (with_reducible exact LeO.none _)
      | (with_reducible refine LeO.ite ?_ ?_)
      | (with_reducible refine LeO.bind ?_ (fun _ => ?_))
      | exact ih0 _ _ _ _ _ _ _
      | exact ih1 _ _ _ _ _ _ _ _ _
      | exact ih2 _ _ _ _ _ _ _ _ _ _ _
      | exact ih3 _ _ _ _ _ _ _ _ _ _ _
      | exact laws_calm.mono _ _ _ _ _ _ _
      | exact laws_has.mono _ _ _
      | exact laws_signs.mono _ _
      | exact laws_splits.mono _
      | exact LeO.none _
      | refine LeO.ite ?_ ?_
      | refine LeO.bind ?_ (fun _ => ?_)
theorem laws_FnSentencesEnd.mono : ∀ a0 a1 a2 a3 a4 a5 k, LeO (laws_FnSentencesEnd.f k a0 a1 a2 a3 a4 a5) (laws_FnSentencesEnd.f (k + 1) a0 a1 a2 a3 a4 a5) := by
  intro a0 a1 a2 a3 a4 a5 k
  obtain ⟨ih0, ih1, ih2, ih3⟩ := laws_FnSentencesEnd.mono_l k
  unfold laws_FnSentencesEnd.f
  repeat' first
      | (with_reducible exact ih0 _ _ _ _ _ _ _)
      | (with_reducible exact ih1 _ _ _ _ _ _ _ _ _)
      | (with_reducible exact ih2 _ _ _ _ _ _ _ _ _ _ _)
      | (with_reducible exact ih3 _ _ _ _ _ _ _ _ _ _ _)
      | (with_reducible exact laws_calm.mono _ _ _ _ _ _ _)
      | (with_reducible exact laws_has.mono _ _ _)
      | (with_reducible exact laws_signs.mono _ _)
      | (with_reducible exact laws_splits.mono _)
      | (with_reducible exact LeO.refl _)
      | (with_reducible exact LeO.none _)
      | (with_reducible refine LeO.ite ?_ ?_)
      | (with_reducible refine LeO.bind ?_ (fun _ => ?_))
      | exact ih0 _ _ _ _ _ _ _
      | exact ih1 _ _ _ _ _ _ _ _ _
      | exact ih2 _ _ _ _ _ _ _ _ _ _ _
      | exact ih3 _ _ _ _ _ _ _ _ _ _ _
      | exact laws_calm.mono _ _ _ _ _ _ _
      | exact laws_has.mono _ _ _
      | exact laws_signs.mono _ _
      | exact laws_splits.mono _
      | exact LeO.none _
      | refine LeO.ite ?_ ?_
      | refine LeO.bind ?_ (fun _ => ?_)
def laws_FnSentencesEnd.T17 : Bool × List (List Nat × List Nat) := (true, [([], []), ([0], [0]), ([1], [1]), ([2], [2]), ([3, 2], [2, 3]), ([2], [2]), ([2], [2]), ([6, 2], [2, 6]), ([5, 7, 2], [2, 5, 7]), ([8, 2], [2, 8]), ([4, 9, 2, 2], [2, 4, 9]), ([2, 10], [2, 10]), ([11, 10], [11]), ([12], [12]), ([13, 12], [12, 13]), ([12], [12]), ([12], [12]), ([16, 12], [12, 16]), ([15, 17, 12], [12, 15, 17]), ([18, 12], [12, 18]), ([14, 19, 12, 12], [12, 14, 19]), ([20, 12], [12, 20]), ([12, 21], [12, 21])])
def laws_FnSentencesEnd.B17 : List Nat := [0, 1, 3, 7, 15, 7, 7, 71, 231, 487, 1023, 2047, 4095, 8191, 16383, 8191, 8191, 73727, 237567, 499711, 1048575, 2097151, 4194303]
theorem laws_FnSentencesEnd.tab17 : rtab .any (opsOf Tryd.f5 17) = laws_FnSentencesEnd.T17 := by kernel_rfl
theorem laws_FnSentencesEnd.bits17 : waitsOk laws_FnSentencesEnd.T17.2 laws_FnSentencesEnd.B17 = true := by kernel_rfl
def laws_FnSentencesEnd.T19 : Bool × List (List Nat × List Nat) := (true, [([], []), ([0], [0]), ([1], [1]), ([2], [2]), ([3, 2], [2, 3]), ([2], [2]), ([2], [2]), ([6, 2], [2, 6]), ([5, 7, 2], [2, 5, 7]), ([8, 2], [2, 8]), ([4, 9, 2, 2], [2, 4, 9]), ([10, 2], [2, 10]), ([2, 11], [2, 11])])
def laws_FnSentencesEnd.B19 : List Nat := [0, 1, 3, 7, 15, 7, 7, 71, 231, 487, 1023, 2047, 4095]
theorem laws_FnSentencesEnd.tab19 : rtab .any (opsOf Tryd.f5 19) = laws_FnSentencesEnd.T19 := by kernel_rfl
theorem laws_FnSentencesEnd.bits19 : waitsOk laws_FnSentencesEnd.T19.2 laws_FnSentencesEnd.B19 = true := by kernel_rfl
set_option maxHeartbeats 8000000 in
set_option maxRecDepth 100000 in
theorem laws_FnSentencesEnd.calls (k : Nat) (a0 : ByteArray) (a1_0 : ByteArray) (a1_1 : ByteArray) (a1_2 : Bool) (a1_3 : Bool) (a1_4 : Int) (r : Bool) (w : World) (ht_ : Go.Proofs.YtpjnebmcbeblkaaDoor.X2.Tabs w) (h : laws_FnSentencesEnd.f k a0 a1_0 a1_1 a1_2 a1_3 a1_4 = some r) :
  Calls Tryd.prog 5 #[.string a0, .agg #[.string a1_0, .string a1_1, .bool a1_2, .bool a1_3, .int .i64 a1_4]] w fun e w' => e = .returned (.bool r) ∧ Below w.heap.size w w' := by
 have HT_ : Aside0 (∀ W_, Below w.heap.size w W_ → Go.Proofs.YtpjnebmcbeblkaaDoor.X2.Tabs W_) := ⟨fun W_ h_ => ht_.below h_⟩
 clear ht_
 have hu23 := Tryd.underlying23
 have HB := Aside0.mk (Below.refl w.heap.size w)
 have H : (if (a0.size : Int) > 2147483647 then (laws_FnSentencesEnd.j0 k a0 true a1_0 a1_1 a1_2 a1_3 a1_4) else ((laws_zzFits10.f a1_0 a1_1 a1_2 a1_3 a1_4).bind fun t215 => (laws_FnSentencesEnd.j0 k a0 (!t215) a1_0 a1_1 a1_2 a1_3 a1_4))) = some r := h
 clear h
 have HC3 := Aside0.mk H
 clear H
 go_enter Tryd.func5, Tryd.ntmps5
 go_upto_region 1 with (first | ((with_reducible refine gate_dst (N := 3) rfl ?_); (try (refine gate_guard (by rfl) ?_; dsimp only)); refine box_event ?hg (N := 3) ?hd (cs := #[.string a1_0, .string a1_1, .bool a1_2, .bool a1_3, .int .i64 a1_4]) (t := 23) ?hr ?_; (case hd => rfl); (case hg => rfl); (case hr => first | (go_simp; done) | (go_simp; rfl)); intro gb214 hg w4 hbox hb; have n0_ := Aside0.mk (below_step (by repeat (first | (with_reducible first | exact HB.out | apply below_alloc | apply pw_below_drewN | apply below_drew1) | exact HB.out)) hb); have n1_ := Aside0.mk (hbox); have n2_ := Aside0.mk ((by rw [hg]; exact (below_size (by repeat (first | (with_reducible first | exact HB.out | apply below_alloc | apply pw_below_drewN | apply below_drew1) | exact HB.out))) : w.heap.size ≤ gb214)); have n3_ := Aside0.mk ((by rw [hg]; exact (below_size (by repeat (first | (with_reducible first | exact HB.out | apply below_alloc | apply pw_below_drewN | apply below_drew1) | exact HB.out))) : w.heap.size ≤ gb214)); clear HB; have HB := n0_; have BK214 := n1_; have GW214 := n2_; have GE214 := n3_; clear n0_ n1_ n2_ n3_; clear hb hbox hg))
 (try simp only [Act.put, List.setIfInBounds_toArray, List.set_cons_zero, List.set_cons_succ])
 go_cut [19] (fun v19 wc => ∃ (kq : Nat) (x19_2 : Bool), v19 = .bool x19_2 ∧ Aside0 (laws_FnSentencesEnd.j0 kq a0 x19_2 a1_0 a1_1 a1_2 a1_3 a1_4 = some r) ∧ Aside0 (kq ≤ k) ∧ Aside0 (wc.heap[gb214]? = some (.cells #[.string a1_0, .string a1_1, .bool a1_2, .bool a1_3, .int .i64 a1_4] 23 (0, 0))) ∧ Aside0 (Below w.heap.size w wc))
 case first =>
  have H := HC3.out
  clear HC3
  by_cases c5 : (a0.size : Int) > 2147483647
  ·
   rw [if_pos c5] at H
   have c5b0 : decide (2147483647 < (a0.size : Int)) = true := decide_eq_true c5
   have c5b1 : decide (2147483647 < a0.size) = true := decide_eq_true (by omega)
   clear c5
   (first | rw [c5b0] | (simp only [i64_w, i32_w]; rw [c5b0]) | skip)
   have H' := Aside0.mk H
   clear H
   go_wp2
   go_meet
   case rel => exact ⟨_, (true), (by first | rfl | (simp; done) | (simp [*]; done)), H', ⟨by first | omega | exact Nat.le_refl _⟩, ⟨by (with_reducible repeat (first | refine blk_drewN ?_ _ | refine blk_drew ?_ | refine blk_alloc ?_ _)); exact BK214.out⟩, ⟨by repeat (first | (with_reducible first | exact HB.out | apply below_alloc | apply pw_below_drewN | apply below_drew1 | refine below_set ?_ GE214.out) | exact HB.out)⟩⟩
  ·
   rw [if_neg c5] at H
   have c5b0 : decide (2147483647 < (a0.size : Int)) = false := decide_eq_false c5
   have c5b1 : decide (2147483647 < a0.size) = false := decide_eq_false (by omega)
   clear c5
   (first | rw [c5b0] | (simp only [i64_w, i32_w]; rw [c5b0]) | skip)
   replace H := Option.bind_eq_some_iff.mp H
   obtain ⟨t215, A60, H⟩ := H
   replace H : (laws_FnSentencesEnd.j0 k a0 (!t215) a1_0 a1_1 a1_2 a1_3 a1_4) = some r := H
   have A6 := Aside0.mk A60
   clear A60
   have H' := Aside0.mk H
   clear H
   have hcz7_0 : w4.cell? ⟨gb214, 0, none⟩ = some (.string a1_0) := (blk_cell BK214.out 0).trans rfl
   have hcz7_1 : w4.cell? ⟨gb214, 1, none⟩ = some (.string a1_1) := (blk_cell BK214.out 1).trans rfl
   have hcz7_2 : w4.cell? ⟨gb214, 2, none⟩ = some (.bool a1_2) := (blk_cell BK214.out 2).trans rfl
   have hcz7_3 : w4.cell? ⟨gb214, 3, none⟩ = some (.bool a1_3) := (blk_cell BK214.out 3).trans rfl
   have hcz7_4 : w4.cell? ⟨gb214, 4, none⟩ = some (.int .i64 a1_4) := (blk_cell BK214.out 4).trans rfl
   have hfz7_0 := blk_frozen BK214.out 0
   have hfz7_1 := blk_frozen BK214.out 1
   have hfz7_2 := blk_frozen BK214.out 2
   have hfz7_3 := blk_frozen BK214.out 3
   have hfz7_4 := blk_frozen BK214.out 4
   go_wp2_with (first | (go_at_call 8; (with_reducible refine (laws_zzFits10.calls a1_0 a1_1 a1_2 a1_3 a1_4 t215 _ A6.out).mono ?_); rintro e w8 ⟨rfl, hb⟩; have n0_ := Aside0.mk (blk_below (g := gb214) (o := .cells #[.string a1_0, .string a1_1, .bool a1_2, .bool a1_3, .int .i64 a1_4] 23 (0, 0)) (by (with_reducible repeat (first | refine blk_drewN ?_ _ | refine blk_drew ?_ | refine blk_alloc ?_ _)); exact BK214.out) hb); have n1_ := Aside0.mk (below_step (by repeat (first | (with_reducible first | exact HB.out | apply below_alloc | apply pw_below_drewN | apply below_drew1 | refine below_set ?_ GE214.out) | exact HB.out)) hb); clear BK214; clear HB; have BK214 := n0_; have HB := n1_; clear n0_ n1_; (try clear hb); (try clear hb2); (try clear hk); (try clear hi)))
   go_meet
   case rel => exact ⟨_, (!t215), (by first | rfl | (simp; done) | (simp [*]; done)), H', ⟨by first | omega | exact Nat.le_refl _⟩, ⟨by (with_reducible repeat (first | refine blk_drewN ?_ _ | refine blk_drew ?_ | refine blk_alloc ?_ _)); exact BK214.out⟩, ⟨by repeat (first | (with_reducible first | exact HB.out | apply below_alloc | apply pw_below_drewN | apply below_drew1 | refine below_set ?_ GE214.out) | exact HB.out)⟩⟩
 case rest =>
  clear HC3
  try clear p2
  try clear c5
  try clear c5b0
  try clear c5b1
  try clear hcz7_0
  try clear hcz7_1
  try clear hcz7_2
  try clear hcz7_3
  try clear hcz7_4
  try clear hfz7_0
  try clear hfz7_1
  try clear hfz7_2
  try clear hfz7_3
  try clear hfz7_4
  obtain ⟨kq, x19_2, rfl, HA, HJ2, BK214, HB⟩ := hcut
  cases kq with
  | zero => exact absurd HA.out (by simp [laws_FnSentencesEnd.j0])
  | succ kj2 =>
   have H := HA.out
   clear HA
   simp only [laws_FnSentencesEnd.j0] at H
   by_cases c9 : x19_2 = true
   ·
    subst c9
    have H1 : (some true) = some r := by rw [if_pos rfl] at H; exact H
    clear H
    have H := H1
    clear H1
    obtain rfl := Option.some.inj H
    go_wp2
    go_ret
    exact ⟨by first | rfl | (simp [errW_none, errW_some] <;> rfl) | (simp [*, errW_none, errW_some] <;> rfl), by repeat (first | (with_reducible first | exact HB.out | apply below_alloc | apply pw_below_drewN | apply below_drew1 | refine below_set ?_ GE214.out) | exact HB.out)⟩
   ·
    replace c9 := Bool.eq_false_iff.mpr c9
    subst c9
    have H1 : ((laws_splits.f kj2).bind fun t216 => (if t216 = true then ((laws_calm.f kj2 a0 a1_0 a1_1 false false a1_4).bind fun t217 => (if t217 = true then ((impl_Sentences.f a0 a1_0 a1_1 false false a1_4 ([] : List Int)).bind fun bt218 => (if bt218.2 = true then (laws_FnSentencesEnd.l0 kj2 bt218.1 bt218.1 (bt218.1.length : Int) 0 a1_0 a1_1 false false a1_4) else (some false))) else (some true))) else (some false))) = some r := by rw [if_neg (show ¬ (false = true) by decide)] at H; exact H
    clear H
    have H := H1
    clear H1
    replace H := Option.bind_eq_some_iff.mp H
    obtain ⟨t216, A100, H⟩ := H
    replace H : (if t216 = true then ((laws_calm.f kj2 a0 a1_0 a1_1 false false a1_4).bind fun t217 => (if t217 = true then ((impl_Sentences.f a0 a1_0 a1_1 false false a1_4 ([] : List Int)).bind fun bt218 => (if bt218.2 = true then (laws_FnSentencesEnd.l0 kj2 bt218.1 bt218.1 (bt218.1.length : Int) 0 a1_0 a1_1 false false a1_4) else (some false))) else (some true))) else (some false)) = some r := H
    have A10 := Aside0.mk A100
    clear A100
    by_cases c11 : t216 = true
    ·
     subst c11
     have H1 : ((laws_calm.f kj2 a0 a1_0 a1_1 false false a1_4).bind fun t217 => (if t217 = true then ((impl_Sentences.f a0 a1_0 a1_1 false false a1_4 ([] : List Int)).bind fun bt218 => (if bt218.2 = true then (laws_FnSentencesEnd.l0 kj2 bt218.1 bt218.1 (bt218.1.length : Int) 0 a1_0 a1_1 false false a1_4) else (some false))) else (some true))) = some r := by rw [if_pos rfl] at H; exact H
     clear H
     have H := H1
     clear H1
     replace H := Option.bind_eq_some_iff.mp H
     obtain ⟨t217, A120, H⟩ := H
     replace H : (if t217 = true then ((impl_Sentences.f a0 a1_0 a1_1 false false a1_4 ([] : List Int)).bind fun bt218 => (if bt218.2 = true then (laws_FnSentencesEnd.l0 kj2 bt218.1 bt218.1 (bt218.1.length : Int) 0 a1_0 a1_1 false false a1_4) else (some false))) else (some true)) = some r := H
     have A12 := Aside0.mk A120
     clear A120
     by_cases c13 : t217 = true
     ·
      subst c13
      have H1 : ((impl_Sentences.f a0 a1_0 a1_1 false false a1_4 ([] : List Int)).bind fun bt218 => (if bt218.2 = true then (laws_FnSentencesEnd.l0 kj2 bt218.1 bt218.1 (bt218.1.length : Int) 0 a1_0 a1_1 false false a1_4) else (some false))) = some r := by rw [if_pos rfl] at H; exact H
      clear H
      have H := H1
      clear H1
      replace H := Option.bind_eq_some_iff.mp H
      obtain ⟨⟨t218, t221⟩, A140, H⟩ := H
      replace H : (if t221 = true then (laws_FnSentencesEnd.l0 kj2 t218 t218 (t218.length : Int) 0 a1_0 a1_1 false false a1_4) else (some false)) = some r := H
      have A14 := Aside0.mk A140
      clear A140
      by_cases c15 : t221 = true
      ·
       subst c15
       have H1 : (laws_FnSentencesEnd.l0 kj2 t218 t218 (t218.length : Int) 0 a1_0 a1_1 false false a1_4) = some r := by rw [if_pos rfl] at H; exact H
       clear H
       have H := H1
       clear H1
       have H' := Aside0.mk H
       clear H
       go_wp2_with (first | ((with_reducible refine gate_callee (f := 19) rfl ?_); refine goesL_ (some 20) rfl rfl Tryd.func19 (by kernel_rfl) rfl #[] rfl (by (try simp only [List.map_toArray, List.map_cons, List.map_nil]); first | done | rfl | (simp only [List.length_drop, List.length_take]; rfl)) ?_; (with_reducible refine (laws_splits.calls kj2  true _ (HT_.out _ (by repeat (first | (with_reducible first | exact HB.out | apply below_alloc | apply pw_below_drewN | apply below_drew1) | exact HB.out))) A10.out).mono ?_); rintro e w16 ⟨rfl, hb⟩; refine ⟨_, rfl, ?_⟩; have n0_ := Aside0.mk (blk_below (g := gb214) (o := .cells #[.string a1_0, .string a1_1, .bool a1_2, .bool a1_3, .int .i64 a1_4] 23 (0, 0)) (by (with_reducible repeat (first | refine blk_drewN ?_ _ | refine blk_drew ?_ | refine blk_alloc ?_ _)); exact BK214.out) hb); have n1_ := Aside0.mk (below_step (by repeat (first | (with_reducible first | exact HB.out | apply below_alloc | apply pw_below_drewN | apply below_drew1 | refine below_set ?_ GE214.out) | exact HB.out)) hb); clear BK214; clear HB; have BK214 := n0_; have HB := n1_; clear n0_ n1_; (try clear hb); (try clear hb2); (try clear hk); (try clear hi); have hcz17_0 : w16.cell? ⟨gb214, 0, none⟩ = some (.string a1_0) := (blk_cell BK214.out 0).trans rfl; have hcz17_1 : w16.cell? ⟨gb214, 1, none⟩ = some (.string a1_1) := (blk_cell BK214.out 1).trans rfl; have hcz17_2 : w16.cell? ⟨gb214, 2, none⟩ = some (.bool a1_2) := (blk_cell BK214.out 2).trans rfl; have hcz17_3 : w16.cell? ⟨gb214, 3, none⟩ = some (.bool a1_3) := (blk_cell BK214.out 3).trans rfl; have hcz17_4 : w16.cell? ⟨gb214, 4, none⟩ = some (.int .i64 a1_4) := (blk_cell BK214.out 4).trans rfl; have hfz17_0 := blk_frozen BK214.out 0; have hfz17_1 := blk_frozen BK214.out 1; have hfz17_2 := blk_frozen BK214.out 2; have hfz17_3 := blk_frozen BK214.out 3; have hfz17_4 := blk_frozen BK214.out 4) | ((with_reducible refine gate_callee (f := 10) rfl ?_); refine goesL_ (some 26) rfl rfl Tryd.func10 (by kernel_rfl) rfl #[.string a0, .agg #[.string a1_0, .string a1_1, .bool false, .bool false, .int .i64 a1_4]] rfl (by (try simp only [List.map_toArray, List.map_cons, List.map_nil]); first | done | rfl | (simp only [List.length_drop, List.length_take]; rfl)) ?_; (with_reducible refine (laws_calm.calls kj2 a0 a1_0 a1_1 false false a1_4 true _ A12.out).mono ?_); rintro e w18 ⟨rfl, hb⟩; refine ⟨_, rfl, ?_⟩; have n0_ := Aside0.mk (blk_below (g := gb214) (o := .cells #[.string a1_0, .string a1_1, .bool false, .bool false, .int .i64 a1_4] 23 (0, 0)) (by (with_reducible repeat (first | refine blk_drewN ?_ _ | refine blk_drew ?_ | refine blk_alloc ?_ _)); refine blk_put (cs := #[.string a1_0, .string a1_1, .bool false, .bool a1_3, .int .i64 a1_4]) ?_ 3 _ rfl; (with_reducible repeat (first | refine blk_drewN ?_ _ | refine blk_drew ?_ | refine blk_alloc ?_ _)); refine blk_put (cs := #[.string a1_0, .string a1_1, .bool a1_2, .bool a1_3, .int .i64 a1_4]) ?_ 2 _ rfl; (with_reducible repeat (first | refine blk_drewN ?_ _ | refine blk_drew ?_ | refine blk_alloc ?_ _)); exact BK214.out) hb); have n1_ := Aside0.mk (below_step (by repeat (first | (with_reducible first | exact HB.out | apply below_alloc | apply pw_below_drewN | apply below_drew1 | refine below_set ?_ GE214.out) | exact HB.out)) hb); clear BK214; clear HB; have BK214 := n0_; have HB := n1_; clear n0_ n1_; (try clear hb); (try clear hb2); (try clear hk); (try clear hi); have hcz19_0 : w18.cell? ⟨gb214, 0, none⟩ = some (.string a1_0) := (blk_cell BK214.out 0).trans rfl; have hcz19_1 : w18.cell? ⟨gb214, 1, none⟩ = some (.string a1_1) := (blk_cell BK214.out 1).trans rfl; have hcz19_2 : w18.cell? ⟨gb214, 2, none⟩ = some (.bool false) := (blk_cell BK214.out 2).trans rfl; have hcz19_3 : w18.cell? ⟨gb214, 3, none⟩ = some (.bool false) := (blk_cell BK214.out 3).trans rfl; have hcz19_4 : w18.cell? ⟨gb214, 4, none⟩ = some (.int .i64 a1_4) := (blk_cell BK214.out 4).trans rfl; have hfz19_0 := blk_frozen BK214.out 0; have hfz19_1 := blk_frozen BK214.out 1; have hfz19_2 := blk_frozen BK214.out 2; have hfz19_3 := blk_frozen BK214.out 3; have hfz19_4 := blk_frozen BK214.out 4) | ((with_reducible refine gate_callee (f := 20) rfl ?_); refine goesL_ (some 31) rfl rfl Tryd.func20 (by kernel_rfl) rfl #[.string a0, .agg #[.string a1_0, .string a1_1, .bool false, .bool false, .int .i64 a1_4], .slice none 0 0] rfl (by (try simp only [List.map_toArray, List.map_cons, List.map_nil]); first | done | rfl | (simp only [List.length_drop, List.length_take]; rfl)) ?_; (refine (impl_Sentences.calls a0 a1_0 a1_1 false false a1_4 none 0 ([] : List Int) t218 true _ ?side1 ?side2 (HT_.out _ (by repeat (first | (with_reducible first | exact HB.out | apply below_alloc | apply pw_below_drewN | apply below_drew1) | exact HB.out))) A14.out).mono ?_); (case side1 => exact Kd.C_nil _ _); (case side2 => exact Nat.le_refl _); rintro e w20 ⟨v219, rfl, ho0, hb⟩; refine ⟨_, rfl, ?_⟩; have n0_ := Aside0.mk (Kd.R_lower ho0 (below_size (by repeat (first | (with_reducible first | exact HB.out | apply below_alloc | apply pw_below_drewN | apply below_drew1 | refine below_set ?_ GE214.out) | exact HB.out)))); have n1_ := Aside0.mk (blk_below (g := gb214) (o := .cells #[.string a1_0, .string a1_1, .bool false, .bool false, .int .i64 a1_4] 23 (0, 0)) (by (with_reducible repeat (first | refine blk_drewN ?_ _ | refine blk_drew ?_ | refine blk_alloc ?_ _)); exact BK214.out) hb); have n2_ := Aside0.mk (below_step (by repeat (first | (with_reducible first | exact HB.out | apply below_alloc | apply pw_below_drewN | apply below_drew1 | refine below_set ?_ GE214.out) | exact HB.out)) hb); clear BK214; clear HB; have HO220 := n0_; have BK214 := n1_; have HB := n2_; clear n0_ n1_ n2_; (try clear hb); (try clear hb2); (try clear hk); (try clear hi); (try clear ho0); obtain ⟨Ao21, co21, eo21⟩ := Kd.R_slice HO220.out; subst eo21))
       go_loopg [38] kj2 (fun kq v38 w' => ∃ (x38_2 : Int), v38 = .int .i64 x38_2 ∧ Aside0 (laws_FnSentencesEnd.l0 kq t218 t218 (t218.length : Int) x38_2 a1_0 a1_1 false false a1_4 = some r) ∧ Aside0 (kq ≤ kj2) ∧ Aside0 (Kd.R Kd.string 9 w' w.heap.size (fun _ => True) (.slice Ao21 t218.length co21) t218) ∧ Aside0 (Kd.R Kd.string 9 w' w.heap.size (fun _ => True) (.slice Ao21 t218.length co21) t218) ∧ Aside0 (w'.heap[gb214]? = some (.cells #[.string a1_0, .string a1_1, .bool false, .bool false, .int .i64 a1_4] 23 (0, 0))) ∧ Aside0 (Below w.heap.size w w'))
       case atStart => exact ⟨(0), (by first | rfl | (simp; done) | (simp [*]; done)), H', ⟨Nat.le_refl _⟩, ⟨by (with_reducible repeat (first | apply Kd.R_alloc | apply Kd.R_drewN | apply Kd.R_drew)); exact HO220.out⟩, ⟨by (with_reducible repeat (first | apply Kd.R_alloc | apply Kd.R_drewN | apply Kd.R_drew)); exact HO220.out⟩, ⟨by (with_reducible repeat (first | refine blk_drewN ?_ _ | refine blk_drew ?_ | refine blk_alloc ?_ _)); exact BK214.out⟩, ⟨by repeat (first | (with_reducible first | exact HB.out | apply below_alloc | apply pw_below_drewN | apply below_drew1 | refine below_set ?_ GE214.out) | exact HB.out)⟩⟩
       case round =>
        clear H'
        try clear c1
        try clear c2
        try clear p2
        try clear c5
        try clear c5b0
        try clear c5b1
        try clear c9
        try clear c10
        try clear c11
        try clear c13
        try clear c15
        try clear c19
        try clear c20
        try clear hcz17_0
        try clear hcz17_1
        try clear hcz17_2
        try clear hcz17_3
        try clear hcz17_4
        try clear hcz19_0
        try clear hcz19_1
        try clear hcz19_2
        try clear hcz19_3
        try clear hcz19_4
        try clear hcz7_0
        try clear hcz7_1
        try clear hcz7_2
        try clear hcz7_3
        try clear hcz7_4
        try clear hfz17_0
        try clear hfz17_1
        try clear hfz17_2
        try clear hfz17_3
        try clear hfz17_4
        try clear hfz19_0
        try clear hfz19_1
        try clear hfz19_2
        try clear hfz19_3
        try clear hfz19_4
        try clear hfz7_0
        try clear hfz7_1
        try clear hfz7_2
        try clear hfz7_3
        try clear hfz7_4
        try clear p2
        obtain ⟨x38_2, rfl, HA, HK2, HO_5, HO_36, BK214, HB⟩ := hrel
        cases gk with
        | zero => exact absurd HA.out (by simp [laws_FnSentencesEnd.l0])
        | succ k2 =>
         have H := HA.out
         clear HA
         simp only [laws_FnSentencesEnd.l0] at H
         by_cases c22 : x38_2 < (t218.length : Int)
         ·
          rw [if_pos c22] at H
          have c22b0 : decide (x38_2 < (t218.length : Int)) = true := decide_eq_true c22
          clear c22
          by_cases c23 : 0 ≤ x38_2
          ·
           rw [if_pos c23] at H
           have c23b0 : decide (0 ≤ x38_2) = true := decide_eq_true c23
           clear c23
           by_cases c24 : x38_2 < (t218.length : Int)
           ·
            rw [if_pos c24] at H
            have c24b0 : decide (x38_2 < (t218.length : Int)) = true := decide_eq_true c24
            clear c24
            replace H := Option.bind_eq_some_iff.mp H
            obtain ⟨⟨t223, t224⟩, A250, H⟩ := H
            replace H : (if x38_2 = (wrap64 ((t218.length : Int) - 1)) then (laws_FnSentencesEnd.j2 k2 t218 t223 t218 (t218.length : Int) x38_2 true a1_0 a1_1 false false a1_4) else (laws_FnSentencesEnd.j2 k2 t218 t223 t218 (t218.length : Int) x38_2 (decide ((t223.length : Int) ≥ a1_4)) a1_0 a1_1 false false a1_4)) = some r := H
            have A25 := Aside0.mk A250
            clear A250
            have HC26 := Aside0.mk H
            clear H
            have p222 : 0 ≤ (x38_2 : Int) := of_decide_eq_true (by first | (with_reducible assumption) | assumption)
            have q222 : x38_2 < (t218.length : Int) := of_decide_eq_true (by first | (with_reducible assumption) | assumption)
            obtain ⟨ad222, e222, hx222_0⟩ := Kd.at_string (Kd.R_reads' HO_36.out).2.2 x38_2 p222 q222
            cases e222
            replace p222 := eq_true p222
            replace q222 := eq_true q222
            go_upto_region 15 with (first | ((with_reducible refine gate_callee (f := 11) rfl ?_); refine goesL_ (some 45) rfl rfl Tryd.func11 (by kernel_rfl) rfl #[.string (rdOf ByteArray.empty t218 x38_2)] rfl (by (try simp only [List.map_toArray, List.map_cons, List.map_nil]); first | done | rfl | (simp only [List.length_drop, List.length_take]; rfl)) ?_; (with_reducible refine (laws_signs.calls k2 (rdOf ByteArray.empty t218 x38_2) t223 t224 _ A25.out).mono ?_); rintro e w27 ⟨v225, rfl, ho0, hb⟩; refine ⟨_, rfl, ?_⟩; have n0_ := Aside0.mk (Kd.R_elder' (by (with_reducible repeat (first | apply Kd.R_alloc | apply Kd.R_drewN | apply Kd.R_drew)); exact HO_5.out) (by first | exact Kd.N_base ho0 | exact Kd.S_base ho0 | exact Kd.R_base ho0) hb); have n1_ := Aside0.mk (Kd.R_elder' (by (with_reducible repeat (first | apply Kd.R_alloc | apply Kd.R_drewN | apply Kd.R_drew)); exact HO_36.out) (by first | exact Kd.N_base ho0 | exact Kd.S_base ho0 | exact Kd.R_base ho0) hb); have n2_ := Aside0.mk (Kd.R_lower (Kd.R_new' (Kd.R_new' ho0 (Kd.R_lt (by (with_reducible repeat (first | apply Kd.R_alloc | apply Kd.R_drewN | apply Kd.R_drew)); exact HO_5.out))) (Kd.R_lt (by (with_reducible repeat (first | apply Kd.R_alloc | apply Kd.R_drewN | apply Kd.R_drew)); exact HO_36.out))) (below_size (by repeat (first | (with_reducible first | exact HB.out | apply below_alloc | apply pw_below_drewN | apply below_drew1 | refine below_set ?_ GE214.out) | exact HB.out)))); have n3_ := Aside0.mk (blk_below (g := gb214) (o := .cells #[.string a1_0, .string a1_1, .bool false, .bool false, .int .i64 a1_4] 23 (0, 0)) (by (with_reducible repeat (first | refine blk_drewN ?_ _ | refine blk_drew ?_ | refine blk_alloc ?_ _)); exact BK214.out) hb); have n4_ := Aside0.mk (below_step (by repeat (first | (with_reducible first | exact HB.out | apply below_alloc | apply pw_below_drewN | apply below_drew1 | refine below_set ?_ GE214.out) | exact HB.out)) hb); clear HO_5; clear HO_36; clear BK214; clear HB; have HO_5 := n0_; have HO_36 := n1_; have HO226 := n2_; have BK214 := n3_; have HB := n4_; clear n0_ n1_ n2_ n3_ n4_; (try clear hb); (try clear hb2); (try clear hk); (try clear hi); (try clear ho0)))
            (try simp only [Act.put, List.setIfInBounds_toArray, List.set_cons_zero, List.set_cons_succ])
            go_cut [59] (fun v59 wc => ∃ (kq : Nat) (x59_25 : Bool), v59 = .bool x59_25 ∧ Aside0 (laws_FnSentencesEnd.j2 kq t218 t223 t218 (t218.length : Int) x38_2 x59_25 a1_0 a1_1 false false a1_4 = some r) ∧ Aside0 (kq ≤ k2) ∧ Aside0 (Kd.R Kd.string 9 wc w.heap.size (fun k_ => some k_ ≠ (v225 : Value).ownBlock) (.slice (some ad222) t218.length co21) t218) ∧ Aside0 (Kd.R Kd.string 9 wc w.heap.size (fun k_ => some k_ ≠ ((.slice (some ad222) t218.length co21) : Value).ownBlock ∧ some k_ ≠ ((.slice (some ad222) t218.length co21) : Value).ownBlock) v225 t223) ∧ Aside0 (Kd.R Kd.string 9 wc w.heap.size (fun k_ => some k_ ≠ (v225 : Value).ownBlock) (.slice (some ad222) t218.length co21) t218) ∧ Aside0 (wc.heap[gb214]? = some (.cells #[.string a1_0, .string a1_1, .bool false, .bool false, .int .i64 a1_4] 23 (0, 0))) ∧ Aside0 (Below w.heap.size w wc))
            case first =>
             have H := HC26.out
             clear HC26
             by_cases c28 : x38_2 = (wrap64 ((t218.length : Int) - 1))
             ·
              rw [if_pos c28] at H
              have c28b0 : (x38_2 == (wrap64 ((t218.length : Int) - 1))) = true := beq_iff_eq.mpr c28
              have c28b1 : (x38_2 != (wrap64 ((t218.length : Int) - 1))) = false := bne_eq_false_iff_eq.mpr c28
              clear c28
              (first | rw [c28b0] | (simp only [i64_w, i32_w]; rw [c28b0]) | skip)
              have H' := Aside0.mk H
              clear H
              go_wp2
              go_meet
              case rel => exact ⟨_, (true), (by first | rfl | (simp; done) | (simp [*]; done)), H', ⟨by have := HJ2.out; have := HK2.out; first | omega | exact Nat.le_refl _⟩, ⟨by (with_reducible repeat (first | apply Kd.R_alloc | apply Kd.R_drewN | apply Kd.R_drew)); exact Kd.R_mono HO_5.out (fun _ hk => hk.2)⟩, ⟨by (with_reducible repeat (first | apply Kd.R_alloc | apply Kd.R_drewN | apply Kd.R_drew)); exact Kd.R_mono HO226.out (fun _ hk => ⟨hk.1.2, hk.2⟩)⟩, ⟨by (with_reducible repeat (first | apply Kd.R_alloc | apply Kd.R_drewN | apply Kd.R_drew)); exact Kd.R_mono HO_36.out (fun _ hk => hk.2)⟩, ⟨by (with_reducible repeat (first | refine blk_drewN ?_ _ | refine blk_drew ?_ | refine blk_alloc ?_ _)); exact BK214.out⟩, ⟨by repeat (first | (with_reducible first | exact HB.out | apply below_alloc | apply pw_below_drewN | apply below_drew1 | refine below_set ?_ GE214.out) | exact HB.out)⟩⟩
             ·
              rw [if_neg c28] at H
              have c28b0 : (x38_2 == (wrap64 ((t218.length : Int) - 1))) = false := beq_eq_false_iff_ne.mpr c28
              have c28b1 : (x38_2 != (wrap64 ((t218.length : Int) - 1))) = true := bne_iff_ne.mpr c28
              (first | rw [c28b0] | (simp only [i64_w, i32_w]; rw [c28b0]) | skip)
              have H' := Aside0.mk H
              clear H
              obtain ⟨Ao29, co29, eo29⟩ := Kd.R_slice HO226.out
              subst eo29
              have hcz30_0 : w27.cell? ⟨gb214, 0, none⟩ = some (.string a1_0) := (blk_cell BK214.out 0).trans rfl
              have hcz30_1 : w27.cell? ⟨gb214, 1, none⟩ = some (.string a1_1) := (blk_cell BK214.out 1).trans rfl
              have hcz30_2 : w27.cell? ⟨gb214, 2, none⟩ = some (.bool false) := (blk_cell BK214.out 2).trans rfl
              have hcz30_3 : w27.cell? ⟨gb214, 3, none⟩ = some (.bool false) := (blk_cell BK214.out 3).trans rfl
              have hcz30_4 : w27.cell? ⟨gb214, 4, none⟩ = some (.int .i64 a1_4) := (blk_cell BK214.out 4).trans rfl
              have hfz30_0 := blk_frozen BK214.out 0
              have hfz30_1 := blk_frozen BK214.out 1
              have hfz30_2 := blk_frozen BK214.out 2
              have hfz30_3 := blk_frozen BK214.out 3
              have hfz30_4 := blk_frozen BK214.out 4
              go_wp2
              go_meet
              case rel => exact ⟨_, (decide ((t223.length : Int) ≥ a1_4)), (by first | rfl | (simp; done) | (simp [*]; done)), H', ⟨by have := HJ2.out; have := HK2.out; first | omega | exact Nat.le_refl _⟩, ⟨by (with_reducible repeat (first | apply Kd.R_alloc | apply Kd.R_drewN | apply Kd.R_drew)); exact Kd.R_mono HO_5.out (fun _ hk => hk.2)⟩, ⟨by (with_reducible repeat (first | apply Kd.R_alloc | apply Kd.R_drewN | apply Kd.R_drew)); exact Kd.R_mono HO226.out (fun _ hk => ⟨hk.1.2, hk.2⟩)⟩, ⟨by (with_reducible repeat (first | apply Kd.R_alloc | apply Kd.R_drewN | apply Kd.R_drew)); exact Kd.R_mono HO_36.out (fun _ hk => hk.2)⟩, ⟨by (with_reducible repeat (first | refine blk_drewN ?_ _ | refine blk_drew ?_ | refine blk_alloc ?_ _)); exact BK214.out⟩, ⟨by repeat (first | (with_reducible first | exact HB.out | apply below_alloc | apply pw_below_drewN | apply below_drew1 | refine below_set ?_ GE214.out) | exact HB.out)⟩⟩
            case rest =>
             clear HC26
             try clear c1
             try clear c2
             try clear p2
             try clear q2
             try clear hx2
             try clear c5
             try clear c5b0
             try clear c5b1
             try clear p6
             try clear c9
             try clear c10
             try clear c11
             try clear c13
             try clear c15
             try clear c19
             try clear c20
             try clear c22
             try clear c22b0
             try clear p22
             try clear q22
             try clear hx22
             try clear c23
             try clear c23b0
             try clear c24
             try clear c24b0
             try clear c28
             try clear c28b0
             try clear c28b1
             try clear hcz17_0
             try clear hcz17_1
             try clear hcz17_2
             try clear hcz17_3
             try clear hcz17_4
             try clear hcz19_0
             try clear hcz19_1
             try clear hcz19_2
             try clear hcz19_3
             try clear hcz19_4
             try clear hcz30_0
             try clear hcz30_1
             try clear hcz30_2
             try clear hcz30_3
             try clear hcz30_4
             try clear hcz7_0
             try clear hcz7_1
             try clear hcz7_2
             try clear hcz7_3
             try clear hcz7_4
             try clear hfz17_0
             try clear hfz17_1
             try clear hfz17_2
             try clear hfz17_3
             try clear hfz17_4
             try clear hfz19_0
             try clear hfz19_1
             try clear hfz19_2
             try clear hfz19_3
             try clear hfz19_4
             try clear hfz30_0
             try clear hfz30_1
             try clear hfz30_2
             try clear hfz30_3
             try clear hfz30_4
             try clear hfz7_0
             try clear hfz7_1
             try clear hfz7_2
             try clear hfz7_3
             try clear hfz7_4
             try clear hx222_0
             try clear p2
             try clear p222
             try clear q222
             obtain ⟨kq, x59_25, rfl, HA, HJ25, HO_5, HO_9, HO_36, BK214, HB⟩ := hcut
             cases kq with
             | zero => exact absurd HA.out (by simp [laws_FnSentencesEnd.j2])
             | succ kj25 =>
              have H := HA.out
              clear HA
              simp only [laws_FnSentencesEnd.j2] at H
              by_cases c31 : x59_25 = true
              ·
               subst c31
               have H1 : (laws_FnSentencesEnd.l0 kj25 t218 t218 (t218.length : Int) (wrap64 (x38_2 + 1)) a1_0 a1_1 false false a1_4) = some r := by rw [if_pos rfl] at H; exact H
               clear H
               have H := H1
               clear H1
               have H' := Aside0.mk H
               clear H
               go_wp2
               go_roundg kj25
               case measure => have := HJ2.out; have := HK2.out; have := HJ25.out; omega
               case rel => exact ⟨(wrap64 (x38_2 + 1)), (by first | rfl | (simp; done) | (simp [*]; done)), H', ⟨by have := HJ2.out; have := HK2.out; have := HJ25.out; omega⟩, ⟨by (with_reducible repeat (first | apply Kd.R_alloc | apply Kd.R_drewN | apply Kd.R_drew)); exact Kd.R_mono HO_5.out (fun _ hk => trivial)⟩, ⟨by (with_reducible repeat (first | apply Kd.R_alloc | apply Kd.R_drewN | apply Kd.R_drew)); exact Kd.R_mono HO_36.out (fun _ hk => trivial)⟩, ⟨by (with_reducible repeat (first | refine blk_drewN ?_ _ | refine blk_drew ?_ | refine blk_alloc ?_ _)); exact BK214.out⟩, ⟨by repeat (first | (with_reducible first | exact HB.out | apply below_alloc | apply pw_below_drewN | apply below_drew1 | refine below_set ?_ GE214.out) | exact HB.out)⟩⟩
              ·
               replace c31 := Bool.eq_false_iff.mpr c31
               subst c31
               have H1 : (laws_FnSentencesEnd.l1 kj25 t218 t223 (t223.length : Int) t218 (t218.length : Int) x38_2 a1_0 a1_1 false false a1_4) = some r := by rw [if_neg (show ¬ (false = true) by decide)] at H; exact H
               clear H
               have H := H1
               clear H1
               have H' := Aside0.mk H
               clear H
               obtain ⟨Ao32, co32, eo32⟩ := Kd.R_slice HO_9.out
               subst eo32
               go_wp2
               go_loopg [11] kj25 (fun kq v11 w' => ∃ (x11_4 : Int), v11 = .int .i64 x11_4 ∧ Aside0 (laws_FnSentencesEnd.l1 kq t218 t223 x11_4 t218 (t218.length : Int) x38_2 a1_0 a1_1 false false a1_4 = some r) ∧ Aside0 (kq ≤ kj25) ∧ Aside0 (Kd.R Kd.string 9 w' w.heap.size (fun k_ => some k_ ≠ ((.slice Ao32 t223.length co32) : Value).ownBlock) (.slice (some ad222) t218.length co21) t218) ∧ Aside0 (Kd.R Kd.string 9 w' w.heap.size (fun k_ => some k_ ≠ ((.slice (some ad222) t218.length co21) : Value).ownBlock ∧ some k_ ≠ ((.slice (some ad222) t218.length co21) : Value).ownBlock) (.slice Ao32 t223.length co32) t223) ∧ Aside0 (Kd.R Kd.string 9 w' w.heap.size (fun k_ => some k_ ≠ ((.slice Ao32 t223.length co32) : Value).ownBlock) (.slice (some ad222) t218.length co21) t218) ∧ Aside0 (w'.heap[gb214]? = some (.cells #[.string a1_0, .string a1_1, .bool false, .bool false, .int .i64 a1_4] 23 (0, 0))) ∧ Aside0 (Below w.heap.size w w'))
               case atStart => exact ⟨((t223.length : Int)), (by first | rfl | (simp; done) | (simp [*]; done)), H', ⟨Nat.le_refl _⟩, ⟨by (with_reducible repeat (first | apply Kd.R_alloc | apply Kd.R_drewN | apply Kd.R_drew)); exact HO_5.out⟩, ⟨by (with_reducible repeat (first | apply Kd.R_alloc | apply Kd.R_drewN | apply Kd.R_drew)); exact HO_9.out⟩, ⟨by (with_reducible repeat (first | apply Kd.R_alloc | apply Kd.R_drewN | apply Kd.R_drew)); exact HO_36.out⟩, ⟨by (with_reducible repeat (first | refine blk_drewN ?_ _ | refine blk_drew ?_ | refine blk_alloc ?_ _)); exact BK214.out⟩, ⟨by repeat (first | (with_reducible first | exact HB.out | apply below_alloc | apply pw_below_drewN | apply below_drew1 | refine below_set ?_ GE214.out) | exact HB.out)⟩⟩
               case round =>
                clear H'
                try clear c1
                try clear c2
                try clear p2
                try clear q2
                try clear hx2
                try clear c3
                try clear c5
                try clear c5b0
                try clear c5b1
                try clear p6
                try clear c9
                try clear c10
                try clear c11
                try clear c13
                try clear c15
                try clear c19
                try clear c20
                try clear c22
                try clear c22b0
                try clear p22
                try clear q22
                try clear hx22
                try clear c23
                try clear c23b0
                try clear c24
                try clear c24b0
                try clear c28
                try clear c28b0
                try clear c28b1
                try clear c31
                try clear hcz17_0
                try clear hcz17_1
                try clear hcz17_2
                try clear hcz17_3
                try clear hcz17_4
                try clear hcz19_0
                try clear hcz19_1
                try clear hcz19_2
                try clear hcz19_3
                try clear hcz19_4
                try clear hcz30_0
                try clear hcz30_1
                try clear hcz30_2
                try clear hcz30_3
                try clear hcz30_4
                try clear hcz7_0
                try clear hcz7_1
                try clear hcz7_2
                try clear hcz7_3
                try clear hcz7_4
                try clear hfz17_0
                try clear hfz17_1
                try clear hfz17_2
                try clear hfz17_3
                try clear hfz17_4
                try clear hfz19_0
                try clear hfz19_1
                try clear hfz19_2
                try clear hfz19_3
                try clear hfz19_4
                try clear hfz30_0
                try clear hfz30_1
                try clear hfz30_2
                try clear hfz30_3
                try clear hfz30_4
                try clear hfz7_0
                try clear hfz7_1
                try clear hfz7_2
                try clear hfz7_3
                try clear hfz7_4
                try clear hx222_0
                try clear p2
                try clear p22
                try clear p222
                try clear p6
                try clear q2
                try clear q22
                try clear q222
                obtain ⟨x11_4, rfl, HA, HK4, HO_5, HO_9, HO_36, BK214, HB⟩ := hrel
                cases gk with
                | zero => exact absurd HA.out (by simp [laws_FnSentencesEnd.l1])
                | succ k4 =>
                 have H := HA.out
                 clear HA
                 simp only [laws_FnSentencesEnd.l1] at H
                 by_cases c33 : x11_4 > 0
                 ·
                  rw [if_pos c33] at H
                  have c33b0 : decide (0 < x11_4) = true := decide_eq_true c33
                  clear c33
                  obtain ⟨ji34, hji34⟩ : ∃ j_ : Int, (wrap64 (x11_4 - 1)) = j_ := ⟨_, rfl⟩
                  replace H : (if 0 ≤ (ji34) then (if (ji34) < (t223.length : Int) then ((laws_has.f k4 a1_1 (rdOf ByteArray.empty t223 (ji34))).bind fun t228 => (if t228 = true then ((laws_has.f k4 a1_0 (rdOf ByteArray.empty t223 (ji34))).bind fun t230 => (if t230 = true then (if x11_4 = 0 then (some false) else ((laws_has.f k4 a1_0 (rdOf ByteArray.empty t223 (ji34))).bind fun t232 => (if t232 = true then (laws_FnSentencesEnd.l0 k4 t218 t218 (t218.length : Int) (wrap64 (x38_2 + 1)) a1_0 a1_1 false false a1_4) else (some false)))) else (laws_FnSentencesEnd.l1 k4 t218 t223 ji34 t218 (t218.length : Int) x38_2 a1_0 a1_1 false false a1_4))) else (if x11_4 = 0 then (some false) else ((laws_has.f k4 a1_0 (rdOf ByteArray.empty t223 (ji34))).bind fun t234 => (if t234 = true then (laws_FnSentencesEnd.l0 k4 t218 t218 (t218.length : Int) (wrap64 (x38_2 + 1)) a1_0 a1_1 false false a1_4) else (some false)))))) else (none)) else (none)) = some r := by first | (rw [hji34] at H; exact H) | (simp only [hji34] at H ⊢; exact H)
                  have hji34w : (IntKind.i64.wrap (x11_4 - 1)) = ji34 := (i64_w _).trans hji34
                  by_cases c35 : 0 ≤ (ji34)
                  ·
                   rw [if_pos c35] at H
                   have c35b0 : decide (0 ≤ (ji34)) = true := decide_eq_true c35
                   clear c35
                   by_cases c36 : (ji34) < (t223.length : Int)
                   ·
                    rw [if_pos c36] at H
                    have c36b0 : decide ((ji34) < (t223.length : Int)) = true := decide_eq_true c36
                    clear c36
                    replace H := Option.bind_eq_some_iff.mp H
                    obtain ⟨t228, A370, H⟩ := H
                    replace H : (if t228 = true then ((laws_has.f k4 a1_0 (rdOf ByteArray.empty t223 (ji34))).bind fun t230 => (if t230 = true then (if x11_4 = 0 then (some false) else ((laws_has.f k4 a1_0 (rdOf ByteArray.empty t223 (ji34))).bind fun t232 => (if t232 = true then (laws_FnSentencesEnd.l0 k4 t218 t218 (t218.length : Int) (wrap64 (x38_2 + 1)) a1_0 a1_1 false false a1_4) else (some false)))) else (laws_FnSentencesEnd.l1 k4 t218 t223 ji34 t218 (t218.length : Int) x38_2 a1_0 a1_1 false false a1_4))) else (if x11_4 = 0 then (some false) else ((laws_has.f k4 a1_0 (rdOf ByteArray.empty t223 (ji34))).bind fun t234 => (if t234 = true then (laws_FnSentencesEnd.l0 k4 t218 t218 (t218.length : Int) (wrap64 (x38_2 + 1)) a1_0 a1_1 false false a1_4) else (some false))))) = some r := H
                    have A37 := Aside0.mk A370
                    clear A370
                    by_cases c38 : t228 = true
                    ·
                     subst c38
                     have H1 : ((laws_has.f k4 a1_0 (rdOf ByteArray.empty t223 (ji34))).bind fun t230 => (if t230 = true then (if x11_4 = 0 then (some false) else ((laws_has.f k4 a1_0 (rdOf ByteArray.empty t223 (ji34))).bind fun t232 => (if t232 = true then (laws_FnSentencesEnd.l0 k4 t218 t218 (t218.length : Int) (wrap64 (x38_2 + 1)) a1_0 a1_1 false false a1_4) else (some false)))) else (laws_FnSentencesEnd.l1 k4 t218 t223 ji34 t218 (t218.length : Int) x38_2 a1_0 a1_1 false false a1_4))) = some r := by rw [if_pos rfl] at H; exact H
                     clear H
                     have H := H1
                     clear H1
                     replace H := Option.bind_eq_some_iff.mp H
                     obtain ⟨t230, A390, H⟩ := H
                     replace H : (if t230 = true then (if x11_4 = 0 then (some false) else ((laws_has.f k4 a1_0 (rdOf ByteArray.empty t223 (ji34))).bind fun t232 => (if t232 = true then (laws_FnSentencesEnd.l0 k4 t218 t218 (t218.length : Int) (wrap64 (x38_2 + 1)) a1_0 a1_1 false false a1_4) else (some false)))) else (laws_FnSentencesEnd.l1 k4 t218 t223 ji34 t218 (t218.length : Int) x38_2 a1_0 a1_1 false false a1_4)) = some r := H
                     have A39 := Aside0.mk A390
                     clear A390
                     by_cases c40 : t230 = true
                     ·
                      subst c40
                      have H1 : (if x11_4 = 0 then (some false) else ((laws_has.f k4 a1_0 (rdOf ByteArray.empty t223 (ji34))).bind fun t232 => (if t232 = true then (laws_FnSentencesEnd.l0 k4 t218 t218 (t218.length : Int) (wrap64 (x38_2 + 1)) a1_0 a1_1 false false a1_4) else (some false)))) = some r := by rw [if_pos rfl] at H; exact H
                      clear H
                      have H := H1
                      clear H1
                      by_cases c41 : x11_4 = 0
                      ·
                       exact absurd (of_decide_eq_true c33b0) (by rw [c41]; decide)
                      ·
                       rw [if_neg c41] at H
                       have c41b0 : (x11_4 == 0) = false := beq_eq_false_iff_ne.mpr c41
                       have c41b1 : (x11_4 != 0) = true := bne_iff_ne.mpr c41
                       replace H := Option.bind_eq_some_iff.mp H
                       obtain ⟨t232, A460, H⟩ := H
                       replace H : (if t232 = true then (laws_FnSentencesEnd.l0 k4 t218 t218 (t218.length : Int) (wrap64 (x38_2 + 1)) a1_0 a1_1 false false a1_4) else (some false)) = some r := H
                       have A46 := Aside0.mk A460
                       clear A460
                       by_cases c47 : t232 = true
                       ·
                        subst c47
                        have H1 : (laws_FnSentencesEnd.l0 k4 t218 t218 (t218.length : Int) (wrap64 (x38_2 + 1)) a1_0 a1_1 false false a1_4) = some r := by rw [if_pos rfl] at H; exact H
                        clear H
                        have H := H1
                        clear H1
                        have H' := Aside0.mk H
                        clear H
                        try go_wp2
                        have n0_ := Aside0.mk (Kd.R_drew HO_5.out)
                        have n1_ := Aside0.mk (Kd.R_drew HO_9.out)
                        have n2_ := Aside0.mk (Kd.R_drew HO_36.out)
                        have n3_ := Aside0.mk (blk_drew BK214.out)
                        have n4_ := Aside0.mk (below_drew1 HB.out)
                        clear HO_5
                        clear HO_9
                        clear HO_36
                        clear BK214
                        clear HB
                        have HO_5 := n0_
                        have HO_9 := n1_
                        have HO_36 := n2_
                        have BK214 := n3_
                        have HB := n4_
                        clear n0_ n1_ n2_ n3_ n4_
                        have p227 : 0 ≤ ((ji34) : Int) := of_decide_eq_true (by first | (with_reducible assumption) | assumption)
                        have q227 : (ji34) < (t223.length : Int) := of_decide_eq_true (by first | (with_reducible assumption) | assumption)
                        obtain ⟨ad227, e227, hx227_0⟩ := Kd.at_string (Kd.R_reads' HO_9.out).2.2 (ji34) p227 q227
                        cases e227
                        replace p227 := eq_true p227
                        replace q227 := eq_true q227
                        have p229 : 0 ≤ ((ji34) : Int) := of_decide_eq_true (by first | (with_reducible assumption) | assumption)
                        have q229 : (ji34) < (t223.length : Int) := of_decide_eq_true (by first | (with_reducible assumption) | assumption)
                        obtain ⟨ad229, e229, hx229_0⟩ := Kd.at_string (Kd.R_reads' HO_9.out).2.2 (ji34) p229 q229
                        obtain rfl : ad227 = ad229 := (by injection e229)
                        replace p229 := eq_true p229
                        replace q229 := eq_true q229
                        refine start_ (n := 23) (S := fun w' => w'.cell? ⟨gb214, 0, none⟩ = some (.string a1_0) ∧ w'.cell? ⟨gb214, 1, none⟩ = some (.string a1_1) ∧ w'.cell? ⟨gb214, 2, none⟩ = some (.bool false) ∧ w'.cell? ⟨gb214, 3, none⟩ = some (.bool false) ∧ w'.cell? ⟨gb214, 4, none⟩ = some (.int .i64 a1_4) ∧ w'.cell? (ad227.add ((ji34)).toNat) = some (.string (rdOf ByteArray.empty t223 (ji34))) ∧ w'.cell? (ad227.add ((ji34)).toNat) = some (.string (rdOf ByteArray.empty t223 (ji34)))) (ds := []) #[false, false, false, false, false, false, false, false, false, false, false, false, false, false, false, false, false, false, false, false, false, false, false] (by kernel_rfl) rfl rfl ⟨(blk_cell BK214.out 0).trans rfl, (blk_cell BK214.out 1).trans rfl, (blk_cell BK214.out 2).trans rfl, (blk_cell BK214.out 3).trans rfl, (blk_cell BK214.out 4).trans rfl, hx227_0, hx229_0⟩ (fun hHeld => ?_); refine with_tabW laws_FnSentencesEnd.tab17 laws_FnSentencesEnd.bits17 (fun HT_ HW_ => ?_)
                        generalize wr.drew = w48 at HO_5 HO_9 HO_36 BK214 HB hx227_0 hx229_0 hHeld ⊢
                        refine pure_ (i := 0) (N := some 62) (v := ?_) (a' := ?_) #[true, false, false, false, false, false, false, false, false, false, false, false, false, false, false, false, false, false, false, false, false, false, false] rfl rfl (any_of HT_.out (by kernel_rfl)) (fun _ _ _ h => h) (Or.inl ⟨by rfl, ?_⟩) ?_ ?_
                        rotate_left
                        ·
                         intro w'
                         go_simp
                         with_reducible rfl
                        rotate_left
                        ·
                         simp only [Act.put, List.setIfInBounds_toArray, List.set_cons_zero, List.set_cons_succ, i64_w, i32_w]
                         rfl
                        refine pure_ (i := 1) (N := some 63) (v := ?_) (a' := ?_) #[true, true, false, false, false, false, false, false, false, false, false, false, false, false, false, false, false, false, false, false, false, false, false] rfl rfl (any_of HT_.out (by kernel_rfl)) (fun _ _ _ h => h) (Or.inl ⟨by rfl, ?_⟩) ?_ ?_
                        rotate_left
                        ·
                         intro w'
                         go_simp
                         with_reducible rfl
                        rotate_left
                        ·
                         simp only [Act.put, List.setIfInBounds_toArray, List.set_cons_zero, List.set_cons_succ, i64_w, i32_w]
                         rfl
                        refine pure_ (i := 2) (N := some 64) (v := ?_) (a' := ?_) #[true, true, true, false, false, false, false, false, false, false, false, false, false, false, false, false, false, false, false, false, false, false, false] rfl rfl (any_of HT_.out (by kernel_rfl)) (fun _ _ _ h => h) (Or.inl ⟨by rfl, ?_⟩) ?_ ?_
                        rotate_left
                        ·
                         intro w'
                         go_simp
                         with_reducible rfl
                        rotate_left
                        ·
                         simp only [Act.put, List.setIfInBounds_toArray, List.set_cons_zero, List.set_cons_succ, i64_w, i32_w]
                         rfl
                        refine pure_ (i := 3) (N := some 65) (v := ?_) (a' := ?_) #[true, true, true, true, false, false, false, false, false, false, false, false, false, false, false, false, false, false, false, false, false, false, false] rfl rfl (any_of HT_.out (by kernel_rfl)) (fun _ _ _ h => h) (Or.inl ⟨by rfl, ?_⟩) ?_ ?_
                        rotate_left
                        ·
                         intro w'
                         go_simp
                         with_reducible rfl
                        rotate_left
                        ·
                         simp only [Act.put, List.setIfInBounds_toArray, List.set_cons_zero, List.set_cons_succ, i64_w, i32_w]
                         rfl
                        refine pure_ (i := 5) (N := some 67) (v := ?_) (a' := ?_) #[true, true, true, true, false, true, false, false, false, false, false, false, false, false, false, false, false, false, false, false, false, false, false] rfl rfl (any_of HT_.out (by kernel_rfl)) (fun _ _ _ h => h) (Or.inl ⟨by rfl, ?_⟩) ?_ ?_
                        rotate_left
                        ·
                         intro w'
                         go_simp
                         with_reducible rfl
                        rotate_left
                        ·
                         simp only [Act.put, List.setIfInBounds_toArray, List.set_cons_zero, List.set_cons_succ, i64_w, i32_w]
                         rfl
                        refine pure_ (i := 6) (N := some 68) (v := ?_) (a' := ?_) #[true, true, true, true, false, true, true, false, false, false, false, false, false, false, false, false, false, false, false, false, false, false, false] rfl rfl (any_of HT_.out (by kernel_rfl)) (fun _ _ _ h => h) (Or.inl ⟨by rfl, ?_⟩) ?_ ?_
                        rotate_left
                        ·
                         intro w'
                         go_simp
                         with_reducible rfl
                        rotate_left
                        ·
                         simp only [Act.put, List.setIfInBounds_toArray, List.set_cons_zero, List.set_cons_succ, i64_w, i32_w]
                         rfl
                        refine pure_ (i := 7) (N := some 69) (v := ?_) (a' := ?_) #[true, true, true, true, false, true, true, true, false, false, false, false, false, false, false, false, false, false, false, false, false, false, false] rfl rfl (any_of HT_.out (by kernel_rfl)) (fun _ _ _ h => h) (Or.inl ⟨by rfl, ?_⟩) ?_ ?_
                        rotate_left
                        ·
                         intro w'
                         go_simp
                         with_reducible rfl
                        rotate_left
                        ·
                         simp only [Act.put, List.setIfInBounds_toArray, List.set_cons_zero, List.set_cons_succ, i64_w, i32_w]
                         rfl
                        refine pure_ (i := 8) (N := some 70) (v := ?_) (a' := ?_) #[true, true, true, true, false, true, true, true, true, false, false, false, false, false, false, false, false, false, false, false, false, false, false] rfl rfl (any_of HT_.out (by kernel_rfl)) (fun _ _ _ h => h) (Or.inl ⟨by rfl, ?_⟩) ?_ ?_
                        rotate_left
                        ·
                         intro w'
                         go_simp
                         with_reducible rfl
                        rotate_left
                        ·
                         simp only [Act.put, List.setIfInBounds_toArray, List.set_cons_zero, List.set_cons_succ, i64_w, i32_w]
                         rfl
                        refine take_ (i := 4) (N := some 66) (v := ?_) (a' := ?_) #[true, true, true, true, true, true, true, true, true, false, false, false, false, false, false, false, false, false, false, false, false, false, false] rfl rfl (take_ofW HT_.out HW_.out (by kernel_rfl)) (fun _ _ _ h => h) (Or.inl ⟨by rfl, ?_⟩) hHeld ?_ ?_
                        rotate_left
                        ·
                         rintro w' ⟨s0, s1, s2, s3, s4, s5, s6⟩
                         go_simp
                         with_reducible rfl
                        rotate_left
                        ·
                         simp only [Act.put, List.setIfInBounds_toArray, List.set_cons_zero, List.set_cons_succ, i64_w, i32_w]
                         rfl
                        refine take_ (i := 9) (N := some 71) (v := ?_) (a' := ?_) #[true, true, true, true, true, true, true, true, true, true, false, false, false, false, false, false, false, false, false, false, false, false, false] rfl rfl (take_ofW HT_.out HW_.out (by kernel_rfl)) (fun _ _ _ h => h) (Or.inl ⟨by rfl, ?_⟩) hHeld ?_ ?_
                        rotate_left
                        ·
                         rintro w' ⟨s0, s1, s2, s3, s4, s5, s6⟩
                         go_simp
                         with_reducible rfl
                        rotate_left
                        ·
                         simp only [Act.put, List.setIfInBounds_toArray, List.set_cons_zero, List.set_cons_succ, i64_w, i32_w]
                         rfl
                        refine one_ (i := 10) (N := some 72) #[true, true, true, true, true, true, true, true, true, true, true, false, false, false, false, false, false, false, false, false, false, false, false] rfl rfl (one_of HT_.out (by kernel_rfl)) (by decide) (fun K hK => ?_)
                        refine goes_ Tryd.func21 (by kernel_rfl) rfl #[.string a1_1, .string (rdOf ByteArray.empty t223 (ji34))] (by rfl) rfl rfl (by (try simp only [List.map_toArray, List.map_cons, List.map_nil]); first | done | (simp only [hji34]; rfl) | rfl | (simp only [List.length_drop, List.length_take]; rfl)) ?_
                        with_reducible refine (laws_has.calls k4 a1_1 (rdOf ByteArray.empty t223 (ji34)) true _ A37.out).mono ?_
                        rintro e w49 ⟨rfl, hb⟩
                        have HS5_ := (hb.cell (World.block_lt_of_cell? _ _ (hHeld.2.2.2.2.2.1))).trans (hHeld.2.2.2.2.2.1)
                        have HS6_ := (hb.cell (World.block_lt_of_cell? _ _ (hHeld.2.2.2.2.2.2))).trans (hHeld.2.2.2.2.2.2)
                        refine ⟨_, rfl, ?_⟩
                        have n0_ := Aside0.mk (Kd.R_below (by (with_reducible repeat (first | apply Kd.R_alloc | apply Kd.R_drewN | apply Kd.R_drew)); exact HO_5.out) hb)
                        have n1_ := Aside0.mk (Kd.R_below (by (with_reducible repeat (first | apply Kd.R_alloc | apply Kd.R_drewN | apply Kd.R_drew)); exact HO_9.out) hb)
                        have n2_ := Aside0.mk (Kd.R_below (by (with_reducible repeat (first | apply Kd.R_alloc | apply Kd.R_drewN | apply Kd.R_drew)); exact HO_36.out) hb)
                        have n3_ := Aside0.mk (blk_below (g := gb214) (o := .cells #[.string a1_0, .string a1_1, .bool false, .bool false, .int .i64 a1_4] 23 (0, 0)) (by (with_reducible repeat (first | refine blk_drewN ?_ _ | refine blk_drew ?_ | refine blk_alloc ?_ _)); exact BK214.out) hb)
                        have n4_ := Aside0.mk (below_step (by repeat (first | (with_reducible first | exact HB.out | apply below_alloc | apply pw_below_drewN | apply below_drew1 | refine below_set ?_ GE214.out) | exact HB.out)) hb)
                        clear HO_5
                        clear HO_9
                        clear HO_36
                        clear BK214
                        clear HB
                        have HO_5 := n0_
                        have HO_9 := n1_
                        have HO_36 := n2_
                        have BK214 := n3_
                        have HB := n4_
                        clear n0_ n1_ n2_ n3_ n4_
                        (try clear hb)
                        (try clear hb2)
                        (try clear hk)
                        (try clear hi)
                        refine hK.out _ _ ⟨(blk_cell BK214.out 0).trans rfl, (blk_cell BK214.out 1).trans rfl, (blk_cell BK214.out 2).trans rfl, (blk_cell BK214.out 3).trans rfl, (blk_cell BK214.out 4).trans rfl, HS5_, HS6_⟩ (fun hHeld => ?_)
                        clear hK K
                        refine norm_ (a' := ?_) ?_ ?_
                        rotate_left
                        ·
                         show Act.put _ (some 72) _ = _
                         simp only [Act.put, List.setIfInBounds_toArray, List.set_cons_zero, List.set_cons_succ, i64_w, i32_w]
                         rfl
                        refine pure_ (i := 11) (N := some 73) (v := ?_) (a' := ?_) #[true, true, true, true, true, true, true, true, true, true, true, true, false, false, false, false, false, false, false, false, false, false, false] rfl rfl (any_of HT_.out (by kernel_rfl)) (fun _ _ _ h => h) (Or.inl ⟨by rfl, ?_⟩) ?_ ?_
                        rotate_left
                        ·
                         intro w'
                         go_simp
                         with_reducible rfl
                        rotate_left
                        ·
                         simp only [Act.put, List.setIfInBounds_toArray, List.set_cons_zero, List.set_cons_succ, i64_w, i32_w]
                         rfl
                        refine pure_ (i := 12) (N := some 74) (v := ?_) (a' := ?_) #[true, true, true, true, true, true, true, true, true, true, true, true, true, false, false, false, false, false, false, false, false, false, false] rfl rfl (any_of HT_.out (by kernel_rfl)) (fun _ _ _ h => h) (Or.inl ⟨by rfl, ?_⟩) ?_ ?_
                        rotate_left
                        ·
                         intro w'
                         go_simp
                         with_reducible rfl
                        rotate_left
                        ·
                         simp only [Act.put, List.setIfInBounds_toArray, List.set_cons_zero, List.set_cons_succ, i64_w, i32_w]
                         rfl
                        refine pure_ (i := 13) (N := some 75) (v := ?_) (a' := ?_) #[true, true, true, true, true, true, true, true, true, true, true, true, true, true, false, false, false, false, false, false, false, false, false] rfl rfl (any_of HT_.out (by kernel_rfl)) (fun _ _ _ h => h) (Or.inl ⟨by rfl, ?_⟩) ?_ ?_
                        rotate_left
                        ·
                         intro w'
                         go_simp
                         with_reducible rfl
                        rotate_left
                        ·
                         simp only [Act.put, List.setIfInBounds_toArray, List.set_cons_zero, List.set_cons_succ, i64_w, i32_w]
                         rfl
                        refine pure_ (i := 15) (N := some 77) (v := ?_) (a' := ?_) #[true, true, true, true, true, true, true, true, true, true, true, true, true, true, false, true, false, false, false, false, false, false, false] rfl rfl (any_of HT_.out (by kernel_rfl)) (fun _ _ _ h => h) (Or.inl ⟨by rfl, ?_⟩) ?_ ?_
                        rotate_left
                        ·
                         intro w'
                         go_simp
                         with_reducible rfl
                        rotate_left
                        ·
                         simp only [Act.put, List.setIfInBounds_toArray, List.set_cons_zero, List.set_cons_succ, i64_w, i32_w]
                         rfl
                        refine pure_ (i := 16) (N := some 78) (v := ?_) (a' := ?_) #[true, true, true, true, true, true, true, true, true, true, true, true, true, true, false, true, true, false, false, false, false, false, false] rfl rfl (any_of HT_.out (by kernel_rfl)) (fun _ _ _ h => h) (Or.inl ⟨by rfl, ?_⟩) ?_ ?_
                        rotate_left
                        ·
                         intro w'
                         go_simp
                         with_reducible rfl
                        rotate_left
                        ·
                         simp only [Act.put, List.setIfInBounds_toArray, List.set_cons_zero, List.set_cons_succ, i64_w, i32_w]
                         rfl
                        refine pure_ (i := 17) (N := some 79) (v := ?_) (a' := ?_) #[true, true, true, true, true, true, true, true, true, true, true, true, true, true, false, true, true, true, false, false, false, false, false] rfl rfl (any_of HT_.out (by kernel_rfl)) (fun _ _ _ h => h) (Or.inl ⟨by rfl, ?_⟩) ?_ ?_
                        rotate_left
                        ·
                         intro w'
                         go_simp
                         with_reducible rfl
                        rotate_left
                        ·
                         simp only [Act.put, List.setIfInBounds_toArray, List.set_cons_zero, List.set_cons_succ, i64_w, i32_w]
                         rfl
                        refine pure_ (i := 18) (N := some 80) (v := ?_) (a' := ?_) #[true, true, true, true, true, true, true, true, true, true, true, true, true, true, false, true, true, true, true, false, false, false, false] rfl rfl (any_of HT_.out (by kernel_rfl)) (fun _ _ _ h => h) (Or.inl ⟨by rfl, ?_⟩) ?_ ?_
                        rotate_left
                        ·
                         intro w'
                         go_simp
                         with_reducible rfl
                        rotate_left
                        ·
                         simp only [Act.put, List.setIfInBounds_toArray, List.set_cons_zero, List.set_cons_succ, i64_w, i32_w]
                         rfl
                        refine take_ (i := 14) (N := some 76) (v := ?_) (a' := ?_) #[true, true, true, true, true, true, true, true, true, true, true, true, true, true, true, true, true, true, true, false, false, false, false] rfl rfl (take_ofW HT_.out HW_.out (by kernel_rfl)) (fun _ _ _ h => h) (Or.inl ⟨by rfl, ?_⟩) hHeld ?_ ?_
                        rotate_left
                        ·
                         rintro w' ⟨s0, s1, s2, s3, s4, s5, s6⟩
                         go_simp
                         with_reducible rfl
                        rotate_left
                        ·
                         simp only [Act.put, List.setIfInBounds_toArray, List.set_cons_zero, List.set_cons_succ, i64_w, i32_w]
                         rfl
                        refine take_ (i := 19) (N := some 81) (v := ?_) (a' := ?_) #[true, true, true, true, true, true, true, true, true, true, true, true, true, true, true, true, true, true, true, true, false, false, false] rfl rfl (take_ofW HT_.out HW_.out (by kernel_rfl)) (fun _ _ _ h => h) (Or.inl ⟨by rfl, ?_⟩) hHeld ?_ ?_
                        rotate_left
                        ·
                         rintro w' ⟨s0, s1, s2, s3, s4, s5, s6⟩
                         go_simp
                         with_reducible rfl
                        rotate_left
                        ·
                         simp only [Act.put, List.setIfInBounds_toArray, List.set_cons_zero, List.set_cons_succ, i64_w, i32_w]
                         rfl
                        refine one_ (i := 20) (N := some 82) #[true, true, true, true, true, true, true, true, true, true, true, true, true, true, true, true, true, true, true, true, true, false, false] rfl rfl (one_of HT_.out (by kernel_rfl)) (by decide) (fun K hK => ?_)
                        refine goes_ Tryd.func21 (by kernel_rfl) rfl #[.string a1_0, .string (rdOf ByteArray.empty t223 (ji34))] (by rfl) rfl rfl (by (try simp only [List.map_toArray, List.map_cons, List.map_nil]); first | done | (simp only [hji34]; rfl) | rfl | (simp only [List.length_drop, List.length_take]; rfl)) ?_
                        with_reducible refine (laws_has.calls k4 a1_0 (rdOf ByteArray.empty t223 (ji34)) true _ A39.out).mono ?_
                        rintro e w50 ⟨rfl, hb⟩
                        have HS5_ := (hb.cell (World.block_lt_of_cell? _ _ (hHeld.2.2.2.2.2.1))).trans (hHeld.2.2.2.2.2.1)
                        have HS6_ := (hb.cell (World.block_lt_of_cell? _ _ (hHeld.2.2.2.2.2.2))).trans (hHeld.2.2.2.2.2.2)
                        refine ⟨_, rfl, ?_⟩
                        have n0_ := Aside0.mk (Kd.R_below (by (with_reducible repeat (first | apply Kd.R_alloc | apply Kd.R_drewN | apply Kd.R_drew)); exact HO_5.out) hb)
                        have n1_ := Aside0.mk (Kd.R_below (by (with_reducible repeat (first | apply Kd.R_alloc | apply Kd.R_drewN | apply Kd.R_drew)); exact HO_9.out) hb)
                        have n2_ := Aside0.mk (Kd.R_below (by (with_reducible repeat (first | apply Kd.R_alloc | apply Kd.R_drewN | apply Kd.R_drew)); exact HO_36.out) hb)
                        have n3_ := Aside0.mk (blk_below (g := gb214) (o := .cells #[.string a1_0, .string a1_1, .bool false, .bool false, .int .i64 a1_4] 23 (0, 0)) (by (with_reducible repeat (first | refine blk_drewN ?_ _ | refine blk_drew ?_ | refine blk_alloc ?_ _)); exact BK214.out) hb)
                        have n4_ := Aside0.mk (below_step (by repeat (first | (with_reducible first | exact HB.out | apply below_alloc | apply pw_below_drewN | apply below_drew1 | refine below_set ?_ GE214.out) | exact HB.out)) hb)
                        clear HO_5
                        clear HO_9
                        clear HO_36
                        clear BK214
                        clear HB
                        have HO_5 := n0_
                        have HO_9 := n1_
                        have HO_36 := n2_
                        have BK214 := n3_
                        have HB := n4_
                        clear n0_ n1_ n2_ n3_ n4_
                        (try clear hb)
                        (try clear hb2)
                        (try clear hk)
                        (try clear hi)
                        refine hK.out _ _ ⟨(blk_cell BK214.out 0).trans rfl, (blk_cell BK214.out 1).trans rfl, (blk_cell BK214.out 2).trans rfl, (blk_cell BK214.out 3).trans rfl, (blk_cell BK214.out 4).trans rfl, HS5_, HS6_⟩ (fun hHeld => ?_)
                        clear hK K
                        refine norm_ (a' := ?_) ?_ ?_
                        rotate_left
                        ·
                         show Act.put _ (some 82) _ = _
                         simp only [Act.put, List.setIfInBounds_toArray, List.set_cons_zero, List.set_cons_succ, i64_w, i32_w]
                         rfl
                        refine pure_ (i := 21) (N := some 83) (v := ?_) (a' := ?_) #[true, true, true, true, true, true, true, true, true, true, true, true, true, true, true, true, true, true, true, true, true, true, false] rfl rfl (any_of HT_.out (by kernel_rfl)) (fun _ _ _ h => h) (Or.inl ⟨by rfl, ?_⟩) ?_ ?_
                        rotate_left
                        ·
                         intro w'
                         go_simp
                         with_reducible rfl
                        rotate_left
                        ·
                         simp only [Act.put, List.setIfInBounds_toArray, List.set_cons_zero, List.set_cons_succ, i64_w, i32_w]
                         rfl
                        refine pure_ (i := 22) (N := some 84) (v := ?_) (a' := ?_) #[true, true, true, true, true, true, true, true, true, true, true, true, true, true, true, true, true, true, true, true, true, true, true] rfl rfl (any_of HT_.out (by kernel_rfl)) (fun _ _ _ h => h) (Or.inl ⟨by rfl, ?_⟩) ?_ ?_
                        rotate_left
                        ·
                         intro w'
                         go_simp
                         with_reducible rfl
                        rotate_left
                        ·
                         simp only [Act.put, List.setIfInBounds_toArray, List.set_cons_zero, List.set_cons_succ, i64_w, i32_w]
                         rfl
                        refine done_ (done_of HT_.out (by kernel_rfl)) ?_
                        try go_wp2
                        have n0_ := Aside0.mk (Kd.R_drew HO_5.out)
                        have n1_ := Aside0.mk (Kd.R_drew HO_9.out)
                        have n2_ := Aside0.mk (Kd.R_drew HO_36.out)
                        have n3_ := Aside0.mk (blk_drew BK214.out)
                        have n4_ := Aside0.mk (below_drew1 HB.out)
                        clear HO_5
                        clear HO_9
                        clear HO_36
                        clear BK214
                        clear HB
                        have HO_5 := n0_
                        have HO_9 := n1_
                        have HO_36 := n2_
                        have BK214 := n3_
                        have HB := n4_
                        clear n0_ n1_ n2_ n3_ n4_
                        have p231 : 0 ≤ ((ji34) : Int) := of_decide_eq_true (by first | (with_reducible assumption) | assumption)
                        have q231 : (ji34) < (t223.length : Int) := of_decide_eq_true (by first | (with_reducible assumption) | assumption)
                        obtain ⟨ad231, e231, hx231_0⟩ := Kd.at_string (Kd.R_reads' HO_9.out).2.2 (ji34) p231 q231
                        obtain rfl : ad227 = ad231 := (by injection e231)
                        replace p231 := eq_true p231
                        replace q231 := eq_true q231
                        refine start_ (n := 13) (S := fun w' => w'.cell? ⟨gb214, 0, none⟩ = some (.string a1_0) ∧ w'.cell? ⟨gb214, 1, none⟩ = some (.string a1_1) ∧ w'.cell? ⟨gb214, 2, none⟩ = some (.bool false) ∧ w'.cell? ⟨gb214, 3, none⟩ = some (.bool false) ∧ w'.cell? ⟨gb214, 4, none⟩ = some (.int .i64 a1_4) ∧ w'.cell? (ad227.add ((ji34)).toNat) = some (.string (rdOf ByteArray.empty t223 (ji34)))) (ds := []) #[false, false, false, false, false, false, false, false, false, false, false, false, false] (by kernel_rfl) rfl rfl ⟨(blk_cell BK214.out 0).trans rfl, (blk_cell BK214.out 1).trans rfl, (blk_cell BK214.out 2).trans rfl, (blk_cell BK214.out 3).trans rfl, (blk_cell BK214.out 4).trans rfl, hx231_0⟩ (fun hHeld => ?_); refine with_tabW laws_FnSentencesEnd.tab19 laws_FnSentencesEnd.bits19 (fun HT_ HW_ => ?_)
                        generalize w50.drew = w51 at HO_5 HO_9 HO_36 BK214 HB hx231_0 hHeld ⊢
                        refine pure_ (i := 0) (N := some 87) (v := ?_) (a' := ?_) #[true, false, false, false, false, false, false, false, false, false, false, false, false] rfl rfl (any_of HT_.out (by kernel_rfl)) (fun _ _ _ h => h) (Or.inl ⟨by rfl, ?_⟩) ?_ ?_
                        rotate_left
                        ·
                         intro w'
                         go_simp
                         with_reducible rfl
                        rotate_left
                        ·
                         simp only [Act.put, List.setIfInBounds_toArray, List.set_cons_zero, List.set_cons_succ, i64_w, i32_w]
                         rfl
                        refine pure_ (i := 1) (N := some 88) (v := ?_) (a' := ?_) #[true, true, false, false, false, false, false, false, false, false, false, false, false] rfl rfl (any_of HT_.out (by kernel_rfl)) (fun _ _ _ h => h) (Or.inl ⟨by rfl, ?_⟩) ?_ ?_
                        rotate_left
                        ·
                         intro w'
                         go_simp
                         with_reducible rfl
                        rotate_left
                        ·
                         simp only [Act.put, List.setIfInBounds_toArray, List.set_cons_zero, List.set_cons_succ, i64_w, i32_w]
                         rfl
                        refine pure_ (i := 2) (N := some 89) (v := ?_) (a' := ?_) #[true, true, true, false, false, false, false, false, false, false, false, false, false] rfl rfl (any_of HT_.out (by kernel_rfl)) (fun _ _ _ h => h) (Or.inl ⟨by rfl, ?_⟩) ?_ ?_
                        rotate_left
                        ·
                         intro w'
                         go_simp
                         with_reducible rfl
                        rotate_left
                        ·
                         simp only [Act.put, List.setIfInBounds_toArray, List.set_cons_zero, List.set_cons_succ, i64_w, i32_w]
                         rfl
                        refine pure_ (i := 3) (N := some 90) (v := ?_) (a' := ?_) #[true, true, true, true, false, false, false, false, false, false, false, false, false] rfl rfl (any_of HT_.out (by kernel_rfl)) (fun _ _ _ h => h) (Or.inl ⟨by rfl, ?_⟩) ?_ ?_
                        rotate_left
                        ·
                         intro w'
                         go_simp
                         with_reducible rfl
                        rotate_left
                        ·
                         simp only [Act.put, List.setIfInBounds_toArray, List.set_cons_zero, List.set_cons_succ, i64_w, i32_w]
                         rfl
                        refine pure_ (i := 5) (N := some 92) (v := ?_) (a' := ?_) #[true, true, true, true, false, true, false, false, false, false, false, false, false] rfl rfl (any_of HT_.out (by kernel_rfl)) (fun _ _ _ h => h) (Or.inl ⟨by rfl, ?_⟩) ?_ ?_
                        rotate_left
                        ·
                         intro w'
                         go_simp
                         with_reducible rfl
                        rotate_left
                        ·
                         simp only [Act.put, List.setIfInBounds_toArray, List.set_cons_zero, List.set_cons_succ, i64_w, i32_w]
                         rfl
                        refine pure_ (i := 6) (N := some 93) (v := ?_) (a' := ?_) #[true, true, true, true, false, true, true, false, false, false, false, false, false] rfl rfl (any_of HT_.out (by kernel_rfl)) (fun _ _ _ h => h) (Or.inl ⟨by rfl, ?_⟩) ?_ ?_
                        rotate_left
                        ·
                         intro w'
                         go_simp
                         with_reducible rfl
                        rotate_left
                        ·
                         simp only [Act.put, List.setIfInBounds_toArray, List.set_cons_zero, List.set_cons_succ, i64_w, i32_w]
                         rfl
                        refine pure_ (i := 7) (N := some 94) (v := ?_) (a' := ?_) #[true, true, true, true, false, true, true, true, false, false, false, false, false] rfl rfl (any_of HT_.out (by kernel_rfl)) (fun _ _ _ h => h) (Or.inl ⟨by rfl, ?_⟩) ?_ ?_
                        rotate_left
                        ·
                         intro w'
                         go_simp
                         with_reducible rfl
                        rotate_left
                        ·
                         simp only [Act.put, List.setIfInBounds_toArray, List.set_cons_zero, List.set_cons_succ, i64_w, i32_w]
                         rfl
                        refine pure_ (i := 8) (N := some 95) (v := ?_) (a' := ?_) #[true, true, true, true, false, true, true, true, true, false, false, false, false] rfl rfl (any_of HT_.out (by kernel_rfl)) (fun _ _ _ h => h) (Or.inl ⟨by rfl, ?_⟩) ?_ ?_
                        rotate_left
                        ·
                         intro w'
                         go_simp
                         with_reducible rfl
                        rotate_left
                        ·
                         simp only [Act.put, List.setIfInBounds_toArray, List.set_cons_zero, List.set_cons_succ, i64_w, i32_w]
                         rfl
                        refine take_ (i := 4) (N := some 91) (v := ?_) (a' := ?_) #[true, true, true, true, true, true, true, true, true, false, false, false, false] rfl rfl (take_ofW HT_.out HW_.out (by kernel_rfl)) (fun _ _ _ h => h) (Or.inl ⟨by rfl, ?_⟩) hHeld ?_ ?_
                        rotate_left
                        ·
                         rintro w' ⟨s0, s1, s2, s3, s4, s5⟩
                         go_simp
                         with_reducible rfl
                        rotate_left
                        ·
                         simp only [Act.put, List.setIfInBounds_toArray, List.set_cons_zero, List.set_cons_succ, i64_w, i32_w]
                         rfl
                        refine take_ (i := 9) (N := some 96) (v := ?_) (a' := ?_) #[true, true, true, true, true, true, true, true, true, true, false, false, false] rfl rfl (take_ofW HT_.out HW_.out (by kernel_rfl)) (fun _ _ _ h => h) (Or.inl ⟨by rfl, ?_⟩) hHeld ?_ ?_
                        rotate_left
                        ·
                         rintro w' ⟨s0, s1, s2, s3, s4, s5⟩
                         go_simp
                         with_reducible rfl
                        rotate_left
                        ·
                         simp only [Act.put, List.setIfInBounds_toArray, List.set_cons_zero, List.set_cons_succ, i64_w, i32_w]
                         rfl
                        refine one_ (i := 10) (N := some 97) #[true, true, true, true, true, true, true, true, true, true, true, false, false] rfl rfl (one_of HT_.out (by kernel_rfl)) (by decide) (fun K hK => ?_)
                        refine goes_ Tryd.func21 (by kernel_rfl) rfl #[.string a1_0, .string (rdOf ByteArray.empty t223 (ji34))] (by rfl) rfl rfl (by (try simp only [List.map_toArray, List.map_cons, List.map_nil]); first | done | (simp only [hji34]; rfl) | rfl | (simp only [List.length_drop, List.length_take]; rfl)) ?_
                        with_reducible refine (laws_has.calls k4 a1_0 (rdOf ByteArray.empty t223 (ji34)) true _ A46.out).mono ?_
                        rintro e w52 ⟨rfl, hb⟩
                        have HS5_ := (hb.cell (World.block_lt_of_cell? _ _ (hHeld.2.2.2.2.2))).trans (hHeld.2.2.2.2.2)
                        refine ⟨_, rfl, ?_⟩
                        have n0_ := Aside0.mk (Kd.R_below (by (with_reducible repeat (first | apply Kd.R_alloc | apply Kd.R_drewN | apply Kd.R_drew)); exact HO_5.out) hb)
                        have n1_ := Aside0.mk (Kd.R_below (by (with_reducible repeat (first | apply Kd.R_alloc | apply Kd.R_drewN | apply Kd.R_drew)); exact HO_9.out) hb)
                        have n2_ := Aside0.mk (Kd.R_below (by (with_reducible repeat (first | apply Kd.R_alloc | apply Kd.R_drewN | apply Kd.R_drew)); exact HO_36.out) hb)
                        have n3_ := Aside0.mk (blk_below (g := gb214) (o := .cells #[.string a1_0, .string a1_1, .bool false, .bool false, .int .i64 a1_4] 23 (0, 0)) (by (with_reducible repeat (first | refine blk_drewN ?_ _ | refine blk_drew ?_ | refine blk_alloc ?_ _)); exact BK214.out) hb)
                        have n4_ := Aside0.mk (below_step (by repeat (first | (with_reducible first | exact HB.out | apply below_alloc | apply pw_below_drewN | apply below_drew1 | refine below_set ?_ GE214.out) | exact HB.out)) hb)
                        clear HO_5
                        clear HO_9
                        clear HO_36
                        clear BK214
                        clear HB
                        have HO_5 := n0_
                        have HO_9 := n1_
                        have HO_36 := n2_
                        have BK214 := n3_
                        have HB := n4_
                        clear n0_ n1_ n2_ n3_ n4_
                        (try clear hb)
                        (try clear hb2)
                        (try clear hk)
                        (try clear hi)
                        refine hK.out _ _ ⟨(blk_cell BK214.out 0).trans rfl, (blk_cell BK214.out 1).trans rfl, (blk_cell BK214.out 2).trans rfl, (blk_cell BK214.out 3).trans rfl, (blk_cell BK214.out 4).trans rfl, HS5_⟩ (fun hHeld => ?_)
                        clear hK K
                        refine norm_ (a' := ?_) ?_ ?_
                        rotate_left
                        ·
                         show Act.put _ (some 97) _ = _
                         simp only [Act.put, List.setIfInBounds_toArray, List.set_cons_zero, List.set_cons_succ, i64_w, i32_w]
                         rfl
                        refine pure_ (i := 11) (N := some 98) (v := ?_) (a' := ?_) #[true, true, true, true, true, true, true, true, true, true, true, true, false] rfl rfl (any_of HT_.out (by kernel_rfl)) (fun _ _ _ h => h) (Or.inl ⟨by rfl, ?_⟩) ?_ ?_
                        rotate_left
                        ·
                         intro w'
                         go_simp
                         with_reducible rfl
                        rotate_left
                        ·
                         simp only [Act.put, List.setIfInBounds_toArray, List.set_cons_zero, List.set_cons_succ, i64_w, i32_w]
                         rfl
                        refine pure_ (i := 12) (N := some 99) (v := ?_) (a' := ?_) #[true, true, true, true, true, true, true, true, true, true, true, true, true] rfl rfl (any_of HT_.out (by kernel_rfl)) (fun _ _ _ h => h) (Or.inl ⟨by rfl, ?_⟩) ?_ ?_
                        rotate_left
                        ·
                         intro w'
                         go_simp
                         with_reducible rfl
                        rotate_left
                        ·
                         simp only [Act.put, List.setIfInBounds_toArray, List.set_cons_zero, List.set_cons_succ, i64_w, i32_w]
                         rfl
                        refine done_ (done_of HT_.out (by kernel_rfl)) ?_
                        try go_wp2
                        go_roundg k4
                        case measure => have := HJ2.out; have := HK2.out; have := HJ25.out; have := HK4.out; omega
                        case rel => exact ⟨(wrap64 (x38_2 + 1)), (by first | rfl | (simp; done) | (simp [*]; done)), H', ⟨by have := HJ2.out; have := HK2.out; have := HJ25.out; have := HK4.out; omega⟩, ⟨by (with_reducible repeat (first | apply Kd.R_alloc | apply Kd.R_drewN | apply Kd.R_drew)); exact Kd.R_mono HO_5.out (fun _ hk => trivial)⟩, ⟨by (with_reducible repeat (first | apply Kd.R_alloc | apply Kd.R_drewN | apply Kd.R_drew)); exact Kd.R_mono HO_36.out (fun _ hk => trivial)⟩, ⟨by (with_reducible repeat (first | refine blk_drewN ?_ _ | refine blk_drew ?_ | refine blk_alloc ?_ _)); exact BK214.out⟩, ⟨by repeat (first | (with_reducible first | exact HB.out | apply below_alloc | apply pw_below_drewN | apply below_drew1 | refine below_set ?_ GE214.out) | exact HB.out)⟩⟩
                       ·
                        exact absurd (Option.some.inj (A46.out.symm.trans A39.out)) c47
                     ·
                      replace c40 := Bool.eq_false_iff.mpr c40
                      subst c40
                      have H1 : (laws_FnSentencesEnd.l1 k4 t218 t223 ji34 t218 (t218.length : Int) x38_2 a1_0 a1_1 false false a1_4) = some r := by rw [if_neg (show ¬ (false = true) by decide)] at H; exact H
                      clear H
                      have H := H1
                      clear H1
                      have H' := Aside0.mk H
                      clear H
                      try go_wp2
                      have n0_ := Aside0.mk (Kd.R_drew HO_5.out)
                      have n1_ := Aside0.mk (Kd.R_drew HO_9.out)
                      have n2_ := Aside0.mk (Kd.R_drew HO_36.out)
                      have n3_ := Aside0.mk (blk_drew BK214.out)
                      have n4_ := Aside0.mk (below_drew1 HB.out)
                      clear HO_5
                      clear HO_9
                      clear HO_36
                      clear BK214
                      clear HB
                      have HO_5 := n0_
                      have HO_9 := n1_
                      have HO_36 := n2_
                      have BK214 := n3_
                      have HB := n4_
                      clear n0_ n1_ n2_ n3_ n4_
                      have p227 : 0 ≤ ((ji34) : Int) := of_decide_eq_true (by first | (with_reducible assumption) | assumption)
                      have q227 : (ji34) < (t223.length : Int) := of_decide_eq_true (by first | (with_reducible assumption) | assumption)
                      obtain ⟨ad227, e227, hx227_0⟩ := Kd.at_string (Kd.R_reads' HO_9.out).2.2 (ji34) p227 q227
                      cases e227
                      replace p227 := eq_true p227
                      replace q227 := eq_true q227
                      have p229 : 0 ≤ ((ji34) : Int) := of_decide_eq_true (by first | (with_reducible assumption) | assumption)
                      have q229 : (ji34) < (t223.length : Int) := of_decide_eq_true (by first | (with_reducible assumption) | assumption)
                      obtain ⟨ad229, e229, hx229_0⟩ := Kd.at_string (Kd.R_reads' HO_9.out).2.2 (ji34) p229 q229
                      obtain rfl : ad227 = ad229 := (by injection e229)
                      replace p229 := eq_true p229
                      replace q229 := eq_true q229
                      refine start_ (n := 23) (S := fun w' => w'.cell? ⟨gb214, 0, none⟩ = some (.string a1_0) ∧ w'.cell? ⟨gb214, 1, none⟩ = some (.string a1_1) ∧ w'.cell? ⟨gb214, 2, none⟩ = some (.bool false) ∧ w'.cell? ⟨gb214, 3, none⟩ = some (.bool false) ∧ w'.cell? ⟨gb214, 4, none⟩ = some (.int .i64 a1_4) ∧ w'.cell? (ad227.add ((ji34)).toNat) = some (.string (rdOf ByteArray.empty t223 (ji34))) ∧ w'.cell? (ad227.add ((ji34)).toNat) = some (.string (rdOf ByteArray.empty t223 (ji34)))) (ds := []) #[false, false, false, false, false, false, false, false, false, false, false, false, false, false, false, false, false, false, false, false, false, false, false] (by kernel_rfl) rfl rfl ⟨(blk_cell BK214.out 0).trans rfl, (blk_cell BK214.out 1).trans rfl, (blk_cell BK214.out 2).trans rfl, (blk_cell BK214.out 3).trans rfl, (blk_cell BK214.out 4).trans rfl, hx227_0, hx229_0⟩ (fun hHeld => ?_); refine with_tabW laws_FnSentencesEnd.tab17 laws_FnSentencesEnd.bits17 (fun HT_ HW_ => ?_)
                      generalize wr.drew = w58 at HO_5 HO_9 HO_36 BK214 HB hx227_0 hx229_0 hHeld ⊢
                      refine pure_ (i := 0) (N := some 62) (v := ?_) (a' := ?_) #[true, false, false, false, false, false, false, false, false, false, false, false, false, false, false, false, false, false, false, false, false, false, false] rfl rfl (any_of HT_.out (by kernel_rfl)) (fun _ _ _ h => h) (Or.inl ⟨by rfl, ?_⟩) ?_ ?_
                      rotate_left
                      ·
                       intro w'
                       go_simp
                       with_reducible rfl
                      rotate_left
                      ·
                       simp only [Act.put, List.setIfInBounds_toArray, List.set_cons_zero, List.set_cons_succ, i64_w, i32_w]
                       rfl
                      refine pure_ (i := 1) (N := some 63) (v := ?_) (a' := ?_) #[true, true, false, false, false, false, false, false, false, false, false, false, false, false, false, false, false, false, false, false, false, false, false] rfl rfl (any_of HT_.out (by kernel_rfl)) (fun _ _ _ h => h) (Or.inl ⟨by rfl, ?_⟩) ?_ ?_
                      rotate_left
                      ·
                       intro w'
                       go_simp
                       with_reducible rfl
                      rotate_left
                      ·
                       simp only [Act.put, List.setIfInBounds_toArray, List.set_cons_zero, List.set_cons_succ, i64_w, i32_w]
                       rfl
                      refine pure_ (i := 2) (N := some 64) (v := ?_) (a' := ?_) #[true, true, true, false, false, false, false, false, false, false, false, false, false, false, false, false, false, false, false, false, false, false, false] rfl rfl (any_of HT_.out (by kernel_rfl)) (fun _ _ _ h => h) (Or.inl ⟨by rfl, ?_⟩) ?_ ?_
                      rotate_left
                      ·
                       intro w'
                       go_simp
                       with_reducible rfl
                      rotate_left
                      ·
                       simp only [Act.put, List.setIfInBounds_toArray, List.set_cons_zero, List.set_cons_succ, i64_w, i32_w]
                       rfl
                      refine pure_ (i := 3) (N := some 65) (v := ?_) (a' := ?_) #[true, true, true, true, false, false, false, false, false, false, false, false, false, false, false, false, false, false, false, false, false, false, false] rfl rfl (any_of HT_.out (by kernel_rfl)) (fun _ _ _ h => h) (Or.inl ⟨by rfl, ?_⟩) ?_ ?_
                      rotate_left
                      ·
                       intro w'
                       go_simp
                       with_reducible rfl
                      rotate_left
                      ·
                       simp only [Act.put, List.setIfInBounds_toArray, List.set_cons_zero, List.set_cons_succ, i64_w, i32_w]
                       rfl
                      refine pure_ (i := 5) (N := some 67) (v := ?_) (a' := ?_) #[true, true, true, true, false, true, false, false, false, false, false, false, false, false, false, false, false, false, false, false, false, false, false] rfl rfl (any_of HT_.out (by kernel_rfl)) (fun _ _ _ h => h) (Or.inl ⟨by rfl, ?_⟩) ?_ ?_
                      rotate_left
                      ·
                       intro w'
                       go_simp
                       with_reducible rfl
                      rotate_left
                      ·
                       simp only [Act.put, List.setIfInBounds_toArray, List.set_cons_zero, List.set_cons_succ, i64_w, i32_w]
                       rfl
                      refine pure_ (i := 6) (N := some 68) (v := ?_) (a' := ?_) #[true, true, true, true, false, true, true, false, false, false, false, false, false, false, false, false, false, false, false, false, false, false, false] rfl rfl (any_of HT_.out (by kernel_rfl)) (fun _ _ _ h => h) (Or.inl ⟨by rfl, ?_⟩) ?_ ?_
                      rotate_left
                      ·
                       intro w'
                       go_simp
                       with_reducible rfl
                      rotate_left
                      ·
                       simp only [Act.put, List.setIfInBounds_toArray, List.set_cons_zero, List.set_cons_succ, i64_w, i32_w]
                       rfl
                      refine pure_ (i := 7) (N := some 69) (v := ?_) (a' := ?_) #[true, true, true, true, false, true, true, true, false, false, false, false, false, false, false, false, false, false, false, false, false, false, false] rfl rfl (any_of HT_.out (by kernel_rfl)) (fun _ _ _ h => h) (Or.inl ⟨by rfl, ?_⟩) ?_ ?_
                      rotate_left
                      ·
                       intro w'
                       go_simp
                       with_reducible rfl
                      rotate_left
                      ·
                       simp only [Act.put, List.setIfInBounds_toArray, List.set_cons_zero, List.set_cons_succ, i64_w, i32_w]
                       rfl
                      refine pure_ (i := 8) (N := some 70) (v := ?_) (a' := ?_) #[true, true, true, true, false, true, true, true, true, false, false, false, false, false, false, false, false, false, false, false, false, false, false] rfl rfl (any_of HT_.out (by kernel_rfl)) (fun _ _ _ h => h) (Or.inl ⟨by rfl, ?_⟩) ?_ ?_
                      rotate_left
                      ·
                       intro w'
                       go_simp
                       with_reducible rfl
                      rotate_left
                      ·
                       simp only [Act.put, List.setIfInBounds_toArray, List.set_cons_zero, List.set_cons_succ, i64_w, i32_w]
                       rfl
                      refine take_ (i := 4) (N := some 66) (v := ?_) (a' := ?_) #[true, true, true, true, true, true, true, true, true, false, false, false, false, false, false, false, false, false, false, false, false, false, false] rfl rfl (take_ofW HT_.out HW_.out (by kernel_rfl)) (fun _ _ _ h => h) (Or.inl ⟨by rfl, ?_⟩) hHeld ?_ ?_
                      rotate_left
                      ·
                       rintro w' ⟨s0, s1, s2, s3, s4, s5, s6⟩
                       go_simp
                       with_reducible rfl
                      rotate_left
                      ·
                       simp only [Act.put, List.setIfInBounds_toArray, List.set_cons_zero, List.set_cons_succ, i64_w, i32_w]
                       rfl
                      refine take_ (i := 9) (N := some 71) (v := ?_) (a' := ?_) #[true, true, true, true, true, true, true, true, true, true, false, false, false, false, false, false, false, false, false, false, false, false, false] rfl rfl (take_ofW HT_.out HW_.out (by kernel_rfl)) (fun _ _ _ h => h) (Or.inl ⟨by rfl, ?_⟩) hHeld ?_ ?_
                      rotate_left
                      ·
                       rintro w' ⟨s0, s1, s2, s3, s4, s5, s6⟩
                       go_simp
                       with_reducible rfl
                      rotate_left
                      ·
                       simp only [Act.put, List.setIfInBounds_toArray, List.set_cons_zero, List.set_cons_succ, i64_w, i32_w]
                       rfl
                      refine one_ (i := 10) (N := some 72) #[true, true, true, true, true, true, true, true, true, true, true, false, false, false, false, false, false, false, false, false, false, false, false] rfl rfl (one_of HT_.out (by kernel_rfl)) (by decide) (fun K hK => ?_)
                      refine goes_ Tryd.func21 (by kernel_rfl) rfl #[.string a1_1, .string (rdOf ByteArray.empty t223 (ji34))] (by rfl) rfl rfl (by (try simp only [List.map_toArray, List.map_cons, List.map_nil]); first | done | (simp only [hji34]; rfl) | rfl | (simp only [List.length_drop, List.length_take]; rfl)) ?_
                      with_reducible refine (laws_has.calls k4 a1_1 (rdOf ByteArray.empty t223 (ji34)) true _ A37.out).mono ?_
                      rintro e w59 ⟨rfl, hb⟩
                      have HS5_ := (hb.cell (World.block_lt_of_cell? _ _ (hHeld.2.2.2.2.2.1))).trans (hHeld.2.2.2.2.2.1)
                      have HS6_ := (hb.cell (World.block_lt_of_cell? _ _ (hHeld.2.2.2.2.2.2))).trans (hHeld.2.2.2.2.2.2)
                      refine ⟨_, rfl, ?_⟩
                      have n0_ := Aside0.mk (Kd.R_below (by (with_reducible repeat (first | apply Kd.R_alloc | apply Kd.R_drewN | apply Kd.R_drew)); exact HO_5.out) hb)
                      have n1_ := Aside0.mk (Kd.R_below (by (with_reducible repeat (first | apply Kd.R_alloc | apply Kd.R_drewN | apply Kd.R_drew)); exact HO_9.out) hb)
                      have n2_ := Aside0.mk (Kd.R_below (by (with_reducible repeat (first | apply Kd.R_alloc | apply Kd.R_drewN | apply Kd.R_drew)); exact HO_36.out) hb)
                      have n3_ := Aside0.mk (blk_below (g := gb214) (o := .cells #[.string a1_0, .string a1_1, .bool false, .bool false, .int .i64 a1_4] 23 (0, 0)) (by (with_reducible repeat (first | refine blk_drewN ?_ _ | refine blk_drew ?_ | refine blk_alloc ?_ _)); exact BK214.out) hb)
                      have n4_ := Aside0.mk (below_step (by repeat (first | (with_reducible first | exact HB.out | apply below_alloc | apply pw_below_drewN | apply below_drew1 | refine below_set ?_ GE214.out) | exact HB.out)) hb)
                      clear HO_5
                      clear HO_9
                      clear HO_36
                      clear BK214
                      clear HB
                      have HO_5 := n0_
                      have HO_9 := n1_
                      have HO_36 := n2_
                      have BK214 := n3_
                      have HB := n4_
                      clear n0_ n1_ n2_ n3_ n4_
                      (try clear hb)
                      (try clear hb2)
                      (try clear hk)
                      (try clear hi)
                      refine hK.out _ _ ⟨(blk_cell BK214.out 0).trans rfl, (blk_cell BK214.out 1).trans rfl, (blk_cell BK214.out 2).trans rfl, (blk_cell BK214.out 3).trans rfl, (blk_cell BK214.out 4).trans rfl, HS5_, HS6_⟩ (fun hHeld => ?_)
                      clear hK K
                      refine norm_ (a' := ?_) ?_ ?_
                      rotate_left
                      ·
                       show Act.put _ (some 72) _ = _
                       simp only [Act.put, List.setIfInBounds_toArray, List.set_cons_zero, List.set_cons_succ, i64_w, i32_w]
                       rfl
                      refine pure_ (i := 11) (N := some 73) (v := ?_) (a' := ?_) #[true, true, true, true, true, true, true, true, true, true, true, true, false, false, false, false, false, false, false, false, false, false, false] rfl rfl (any_of HT_.out (by kernel_rfl)) (fun _ _ _ h => h) (Or.inl ⟨by rfl, ?_⟩) ?_ ?_
                      rotate_left
                      ·
                       intro w'
                       go_simp
                       with_reducible rfl
                      rotate_left
                      ·
                       simp only [Act.put, List.setIfInBounds_toArray, List.set_cons_zero, List.set_cons_succ, i64_w, i32_w]
                       rfl
                      refine pure_ (i := 12) (N := some 74) (v := ?_) (a' := ?_) #[true, true, true, true, true, true, true, true, true, true, true, true, true, false, false, false, false, false, false, false, false, false, false] rfl rfl (any_of HT_.out (by kernel_rfl)) (fun _ _ _ h => h) (Or.inl ⟨by rfl, ?_⟩) ?_ ?_
                      rotate_left
                      ·
                       intro w'
                       go_simp
                       with_reducible rfl
                      rotate_left
                      ·
                       simp only [Act.put, List.setIfInBounds_toArray, List.set_cons_zero, List.set_cons_succ, i64_w, i32_w]
                       rfl
                      refine pure_ (i := 13) (N := some 75) (v := ?_) (a' := ?_) #[true, true, true, true, true, true, true, true, true, true, true, true, true, true, false, false, false, false, false, false, false, false, false] rfl rfl (any_of HT_.out (by kernel_rfl)) (fun _ _ _ h => h) (Or.inl ⟨by rfl, ?_⟩) ?_ ?_
                      rotate_left
                      ·
                       intro w'
                       go_simp
                       with_reducible rfl
                      rotate_left
                      ·
                       simp only [Act.put, List.setIfInBounds_toArray, List.set_cons_zero, List.set_cons_succ, i64_w, i32_w]
                       rfl
                      refine pure_ (i := 15) (N := some 77) (v := ?_) (a' := ?_) #[true, true, true, true, true, true, true, true, true, true, true, true, true, true, false, true, false, false, false, false, false, false, false] rfl rfl (any_of HT_.out (by kernel_rfl)) (fun _ _ _ h => h) (Or.inl ⟨by rfl, ?_⟩) ?_ ?_
                      rotate_left
                      ·
                       intro w'
                       go_simp
                       with_reducible rfl
                      rotate_left
                      ·
                       simp only [Act.put, List.setIfInBounds_toArray, List.set_cons_zero, List.set_cons_succ, i64_w, i32_w]
                       rfl
                      refine pure_ (i := 16) (N := some 78) (v := ?_) (a' := ?_) #[true, true, true, true, true, true, true, true, true, true, true, true, true, true, false, true, true, false, false, false, false, false, false] rfl rfl (any_of HT_.out (by kernel_rfl)) (fun _ _ _ h => h) (Or.inl ⟨by rfl, ?_⟩) ?_ ?_
                      rotate_left
                      ·
                       intro w'
                       go_simp
                       with_reducible rfl
                      rotate_left
                      ·
                       simp only [Act.put, List.setIfInBounds_toArray, List.set_cons_zero, List.set_cons_succ, i64_w, i32_w]
                       rfl
                      refine pure_ (i := 17) (N := some 79) (v := ?_) (a' := ?_) #[true, true, true, true, true, true, true, true, true, true, true, true, true, true, false, true, true, true, false, false, false, false, false] rfl rfl (any_of HT_.out (by kernel_rfl)) (fun _ _ _ h => h) (Or.inl ⟨by rfl, ?_⟩) ?_ ?_
                      rotate_left
                      ·
                       intro w'
                       go_simp
                       with_reducible rfl
                      rotate_left
                      ·
                       simp only [Act.put, List.setIfInBounds_toArray, List.set_cons_zero, List.set_cons_succ, i64_w, i32_w]
                       rfl
                      refine pure_ (i := 18) (N := some 80) (v := ?_) (a' := ?_) #[true, true, true, true, true, true, true, true, true, true, true, true, true, true, false, true, true, true, true, false, false, false, false] rfl rfl (any_of HT_.out (by kernel_rfl)) (fun _ _ _ h => h) (Or.inl ⟨by rfl, ?_⟩) ?_ ?_
                      rotate_left
                      ·
                       intro w'
                       go_simp
                       with_reducible rfl
                      rotate_left
                      ·
                       simp only [Act.put, List.setIfInBounds_toArray, List.set_cons_zero, List.set_cons_succ, i64_w, i32_w]
                       rfl
                      refine take_ (i := 14) (N := some 76) (v := ?_) (a' := ?_) #[true, true, true, true, true, true, true, true, true, true, true, true, true, true, true, true, true, true, true, false, false, false, false] rfl rfl (take_ofW HT_.out HW_.out (by kernel_rfl)) (fun _ _ _ h => h) (Or.inl ⟨by rfl, ?_⟩) hHeld ?_ ?_
                      rotate_left
                      ·
                       rintro w' ⟨s0, s1, s2, s3, s4, s5, s6⟩
                       go_simp
                       with_reducible rfl
                      rotate_left
                      ·
                       simp only [Act.put, List.setIfInBounds_toArray, List.set_cons_zero, List.set_cons_succ, i64_w, i32_w]
                       rfl
                      refine take_ (i := 19) (N := some 81) (v := ?_) (a' := ?_) #[true, true, true, true, true, true, true, true, true, true, true, true, true, true, true, true, true, true, true, true, false, false, false] rfl rfl (take_ofW HT_.out HW_.out (by kernel_rfl)) (fun _ _ _ h => h) (Or.inl ⟨by rfl, ?_⟩) hHeld ?_ ?_
                      rotate_left
                      ·
                       rintro w' ⟨s0, s1, s2, s3, s4, s5, s6⟩
                       go_simp
                       with_reducible rfl
                      rotate_left
                      ·
                       simp only [Act.put, List.setIfInBounds_toArray, List.set_cons_zero, List.set_cons_succ, i64_w, i32_w]
                       rfl
                      refine one_ (i := 20) (N := some 82) #[true, true, true, true, true, true, true, true, true, true, true, true, true, true, true, true, true, true, true, true, true, false, false] rfl rfl (one_of HT_.out (by kernel_rfl)) (by decide) (fun K hK => ?_)
                      refine goes_ Tryd.func21 (by kernel_rfl) rfl #[.string a1_0, .string (rdOf ByteArray.empty t223 (ji34))] (by rfl) rfl rfl (by (try simp only [List.map_toArray, List.map_cons, List.map_nil]); first | done | (simp only [hji34]; rfl) | rfl | (simp only [List.length_drop, List.length_take]; rfl)) ?_
                      with_reducible refine (laws_has.calls k4 a1_0 (rdOf ByteArray.empty t223 (ji34)) false _ A39.out).mono ?_
                      rintro e w60 ⟨rfl, hb⟩
                      have HS5_ := (hb.cell (World.block_lt_of_cell? _ _ (hHeld.2.2.2.2.2.1))).trans (hHeld.2.2.2.2.2.1)
                      have HS6_ := (hb.cell (World.block_lt_of_cell? _ _ (hHeld.2.2.2.2.2.2))).trans (hHeld.2.2.2.2.2.2)
                      refine ⟨_, rfl, ?_⟩
                      have n0_ := Aside0.mk (Kd.R_below (by (with_reducible repeat (first | apply Kd.R_alloc | apply Kd.R_drewN | apply Kd.R_drew)); exact HO_5.out) hb)
                      have n1_ := Aside0.mk (Kd.R_below (by (with_reducible repeat (first | apply Kd.R_alloc | apply Kd.R_drewN | apply Kd.R_drew)); exact HO_9.out) hb)
                      have n2_ := Aside0.mk (Kd.R_below (by (with_reducible repeat (first | apply Kd.R_alloc | apply Kd.R_drewN | apply Kd.R_drew)); exact HO_36.out) hb)
                      have n3_ := Aside0.mk (blk_below (g := gb214) (o := .cells #[.string a1_0, .string a1_1, .bool false, .bool false, .int .i64 a1_4] 23 (0, 0)) (by (with_reducible repeat (first | refine blk_drewN ?_ _ | refine blk_drew ?_ | refine blk_alloc ?_ _)); exact BK214.out) hb)
                      have n4_ := Aside0.mk (below_step (by repeat (first | (with_reducible first | exact HB.out | apply below_alloc | apply pw_below_drewN | apply below_drew1 | refine below_set ?_ GE214.out) | exact HB.out)) hb)
                      clear HO_5
                      clear HO_9
                      clear HO_36
                      clear BK214
                      clear HB
                      have HO_5 := n0_
                      have HO_9 := n1_
                      have HO_36 := n2_
                      have BK214 := n3_
                      have HB := n4_
                      clear n0_ n1_ n2_ n3_ n4_
                      (try clear hb)
                      (try clear hb2)
                      (try clear hk)
                      (try clear hi)
                      refine hK.out _ _ ⟨(blk_cell BK214.out 0).trans rfl, (blk_cell BK214.out 1).trans rfl, (blk_cell BK214.out 2).trans rfl, (blk_cell BK214.out 3).trans rfl, (blk_cell BK214.out 4).trans rfl, HS5_, HS6_⟩ (fun hHeld => ?_)
                      clear hK K
                      refine norm_ (a' := ?_) ?_ ?_
                      rotate_left
                      ·
                       show Act.put _ (some 82) _ = _
                       simp only [Act.put, List.setIfInBounds_toArray, List.set_cons_zero, List.set_cons_succ, i64_w, i32_w]
                       rfl
                      refine pure_ (i := 21) (N := some 83) (v := ?_) (a' := ?_) #[true, true, true, true, true, true, true, true, true, true, true, true, true, true, true, true, true, true, true, true, true, true, false] rfl rfl (any_of HT_.out (by kernel_rfl)) (fun _ _ _ h => h) (Or.inl ⟨by rfl, ?_⟩) ?_ ?_
                      rotate_left
                      ·
                       intro w'
                       go_simp
                       with_reducible rfl
                      rotate_left
                      ·
                       simp only [Act.put, List.setIfInBounds_toArray, List.set_cons_zero, List.set_cons_succ, i64_w, i32_w]
                       rfl
                      refine pure_ (i := 22) (N := some 84) (v := ?_) (a' := ?_) #[true, true, true, true, true, true, true, true, true, true, true, true, true, true, true, true, true, true, true, true, true, true, true] rfl rfl (any_of HT_.out (by kernel_rfl)) (fun _ _ _ h => h) (Or.inl ⟨by rfl, ?_⟩) ?_ ?_
                      rotate_left
                      ·
                       intro w'
                       go_simp
                       with_reducible rfl
                      rotate_left
                      ·
                       simp only [Act.put, List.setIfInBounds_toArray, List.set_cons_zero, List.set_cons_succ, i64_w, i32_w]
                       rfl
                      refine done_ (done_of HT_.out (by kernel_rfl)) ?_
                      try go_wp2
                      go_roundg k4
                      case measure => have := HJ2.out; have := HK2.out; have := HJ25.out; have := HK4.out; omega
                      case rel => exact ⟨(ji34), (by first | rfl | (simp; done) | (simp only [← hji34] <;> (first | rfl | simp)) | (simp [*]; done)), H', ⟨by have := HJ2.out; have := HK2.out; have := HJ25.out; have := HK4.out; omega⟩, ⟨by (with_reducible repeat (first | apply Kd.R_alloc | apply Kd.R_drewN | apply Kd.R_drew)); exact HO_5.out⟩, ⟨by (with_reducible repeat (first | apply Kd.R_alloc | apply Kd.R_drewN | apply Kd.R_drew)); exact HO_9.out⟩, ⟨by (with_reducible repeat (first | apply Kd.R_alloc | apply Kd.R_drewN | apply Kd.R_drew)); exact HO_36.out⟩, ⟨by (with_reducible repeat (first | refine blk_drewN ?_ _ | refine blk_drew ?_ | refine blk_alloc ?_ _)); exact BK214.out⟩, ⟨by repeat (first | (with_reducible first | exact HB.out | apply below_alloc | apply pw_below_drewN | apply below_drew1 | refine below_set ?_ GE214.out) | exact HB.out)⟩⟩
                    ·
                     replace c38 := Bool.eq_false_iff.mpr c38
                     subst c38
                     have H1 : (if x11_4 = 0 then (some false) else ((laws_has.f k4 a1_0 (rdOf ByteArray.empty t223 (ji34))).bind fun t234 => (if t234 = true then (laws_FnSentencesEnd.l0 k4 t218 t218 (t218.length : Int) (wrap64 (x38_2 + 1)) a1_0 a1_1 false false a1_4) else (some false)))) = some r := by rw [if_neg (show ¬ (false = true) by decide)] at H; exact H
                     clear H
                     have H := H1
                     clear H1
                     by_cases c61 : x11_4 = 0
                     ·
                      exact absurd (of_decide_eq_true c33b0) (by rw [c61]; decide)
                     ·
                      rw [if_neg c61] at H
                      have c61b0 : (x11_4 == 0) = false := beq_eq_false_iff_ne.mpr c61
                      have c61b1 : (x11_4 != 0) = true := bne_iff_ne.mpr c61
                      replace H := Option.bind_eq_some_iff.mp H
                      obtain ⟨t234, A650, H⟩ := H
                      replace H : (if t234 = true then (laws_FnSentencesEnd.l0 k4 t218 t218 (t218.length : Int) (wrap64 (x38_2 + 1)) a1_0 a1_1 false false a1_4) else (some false)) = some r := H
                      have A65 := Aside0.mk A650
                      clear A650
                      by_cases c66 : t234 = true
                      ·
                       subst c66
                       have H1 : (laws_FnSentencesEnd.l0 k4 t218 t218 (t218.length : Int) (wrap64 (x38_2 + 1)) a1_0 a1_1 false false a1_4) = some r := by rw [if_pos rfl] at H; exact H
                       clear H
                       have H := H1
                       clear H1
                       have H' := Aside0.mk H
                       clear H
                       try go_wp2
                       have n0_ := Aside0.mk (Kd.R_drew HO_5.out)
                       have n1_ := Aside0.mk (Kd.R_drew HO_9.out)
                       have n2_ := Aside0.mk (Kd.R_drew HO_36.out)
                       have n3_ := Aside0.mk (blk_drew BK214.out)
                       have n4_ := Aside0.mk (below_drew1 HB.out)
                       clear HO_5
                       clear HO_9
                       clear HO_36
                       clear BK214
                       clear HB
                       have HO_5 := n0_
                       have HO_9 := n1_
                       have HO_36 := n2_
                       have BK214 := n3_
                       have HB := n4_
                       clear n0_ n1_ n2_ n3_ n4_
                       have p227 : 0 ≤ ((ji34) : Int) := of_decide_eq_true (by first | (with_reducible assumption) | assumption)
                       have q227 : (ji34) < (t223.length : Int) := of_decide_eq_true (by first | (with_reducible assumption) | assumption)
                       obtain ⟨ad227, e227, hx227_0⟩ := Kd.at_string (Kd.R_reads' HO_9.out).2.2 (ji34) p227 q227
                       cases e227
                       replace p227 := eq_true p227
                       replace q227 := eq_true q227
                       refine start_ (n := 23) (S := fun w' => w'.cell? ⟨gb214, 0, none⟩ = some (.string a1_0) ∧ w'.cell? ⟨gb214, 1, none⟩ = some (.string a1_1) ∧ w'.cell? ⟨gb214, 2, none⟩ = some (.bool false) ∧ w'.cell? ⟨gb214, 3, none⟩ = some (.bool false) ∧ w'.cell? ⟨gb214, 4, none⟩ = some (.int .i64 a1_4) ∧ w'.cell? (ad227.add ((ji34)).toNat) = some (.string (rdOf ByteArray.empty t223 (ji34)))) (ds := []) #[false, false, false, false, false, false, false, false, false, false, false, false, false, false, false, false, false, false, false, false, false, false, false] (by kernel_rfl) rfl rfl ⟨(blk_cell BK214.out 0).trans rfl, (blk_cell BK214.out 1).trans rfl, (blk_cell BK214.out 2).trans rfl, (blk_cell BK214.out 3).trans rfl, (blk_cell BK214.out 4).trans rfl, hx227_0⟩ (fun hHeld => ?_); refine with_tabW laws_FnSentencesEnd.tab17 laws_FnSentencesEnd.bits17 (fun HT_ HW_ => ?_)
                       generalize wr.drew = w67 at HO_5 HO_9 HO_36 BK214 HB hx227_0 hHeld ⊢
                       refine pure_ (i := 0) (N := some 62) (v := ?_) (a' := ?_) #[true, false, false, false, false, false, false, false, false, false, false, false, false, false, false, false, false, false, false, false, false, false, false] rfl rfl (any_of HT_.out (by kernel_rfl)) (fun _ _ _ h => h) (Or.inl ⟨by rfl, ?_⟩) ?_ ?_
                       rotate_left
                       ·
                        intro w'
                        go_simp
                        with_reducible rfl
                       rotate_left
                       ·
                        simp only [Act.put, List.setIfInBounds_toArray, List.set_cons_zero, List.set_cons_succ, i64_w, i32_w]
                        rfl
                       refine pure_ (i := 1) (N := some 63) (v := ?_) (a' := ?_) #[true, true, false, false, false, false, false, false, false, false, false, false, false, false, false, false, false, false, false, false, false, false, false] rfl rfl (any_of HT_.out (by kernel_rfl)) (fun _ _ _ h => h) (Or.inl ⟨by rfl, ?_⟩) ?_ ?_
                       rotate_left
                       ·
                        intro w'
                        go_simp
                        with_reducible rfl
                       rotate_left
                       ·
                        simp only [Act.put, List.setIfInBounds_toArray, List.set_cons_zero, List.set_cons_succ, i64_w, i32_w]
                        rfl
                       refine pure_ (i := 2) (N := some 64) (v := ?_) (a' := ?_) #[true, true, true, false, false, false, false, false, false, false, false, false, false, false, false, false, false, false, false, false, false, false, false] rfl rfl (any_of HT_.out (by kernel_rfl)) (fun _ _ _ h => h) (Or.inl ⟨by rfl, ?_⟩) ?_ ?_
                       rotate_left
                       ·
                        intro w'
                        go_simp
                        with_reducible rfl
                       rotate_left
                       ·
                        simp only [Act.put, List.setIfInBounds_toArray, List.set_cons_zero, List.set_cons_succ, i64_w, i32_w]
                        rfl
                       refine pure_ (i := 3) (N := some 65) (v := ?_) (a' := ?_) #[true, true, true, true, false, false, false, false, false, false, false, false, false, false, false, false, false, false, false, false, false, false, false] rfl rfl (any_of HT_.out (by kernel_rfl)) (fun _ _ _ h => h) (Or.inl ⟨by rfl, ?_⟩) ?_ ?_
                       rotate_left
                       ·
                        intro w'
                        go_simp
                        with_reducible rfl
                       rotate_left
                       ·
                        simp only [Act.put, List.setIfInBounds_toArray, List.set_cons_zero, List.set_cons_succ, i64_w, i32_w]
                        rfl
                       refine pure_ (i := 5) (N := some 67) (v := ?_) (a' := ?_) #[true, true, true, true, false, true, false, false, false, false, false, false, false, false, false, false, false, false, false, false, false, false, false] rfl rfl (any_of HT_.out (by kernel_rfl)) (fun _ _ _ h => h) (Or.inl ⟨by rfl, ?_⟩) ?_ ?_
                       rotate_left
                       ·
                        intro w'
                        go_simp
                        with_reducible rfl
                       rotate_left
                       ·
                        simp only [Act.put, List.setIfInBounds_toArray, List.set_cons_zero, List.set_cons_succ, i64_w, i32_w]
                        rfl
                       refine pure_ (i := 6) (N := some 68) (v := ?_) (a' := ?_) #[true, true, true, true, false, true, true, false, false, false, false, false, false, false, false, false, false, false, false, false, false, false, false] rfl rfl (any_of HT_.out (by kernel_rfl)) (fun _ _ _ h => h) (Or.inl ⟨by rfl, ?_⟩) ?_ ?_
                       rotate_left
                       ·
                        intro w'
                        go_simp
                        with_reducible rfl
                       rotate_left
                       ·
                        simp only [Act.put, List.setIfInBounds_toArray, List.set_cons_zero, List.set_cons_succ, i64_w, i32_w]
                        rfl
                       refine pure_ (i := 7) (N := some 69) (v := ?_) (a' := ?_) #[true, true, true, true, false, true, true, true, false, false, false, false, false, false, false, false, false, false, false, false, false, false, false] rfl rfl (any_of HT_.out (by kernel_rfl)) (fun _ _ _ h => h) (Or.inl ⟨by rfl, ?_⟩) ?_ ?_
                       rotate_left
                       ·
                        intro w'
                        go_simp
                        with_reducible rfl
                       rotate_left
                       ·
                        simp only [Act.put, List.setIfInBounds_toArray, List.set_cons_zero, List.set_cons_succ, i64_w, i32_w]
                        rfl
                       refine pure_ (i := 8) (N := some 70) (v := ?_) (a' := ?_) #[true, true, true, true, false, true, true, true, true, false, false, false, false, false, false, false, false, false, false, false, false, false, false] rfl rfl (any_of HT_.out (by kernel_rfl)) (fun _ _ _ h => h) (Or.inl ⟨by rfl, ?_⟩) ?_ ?_
                       rotate_left
                       ·
                        intro w'
                        go_simp
                        with_reducible rfl
                       rotate_left
                       ·
                        simp only [Act.put, List.setIfInBounds_toArray, List.set_cons_zero, List.set_cons_succ, i64_w, i32_w]
                        rfl
                       refine take_ (i := 4) (N := some 66) (v := ?_) (a' := ?_) #[true, true, true, true, true, true, true, true, true, false, false, false, false, false, false, false, false, false, false, false, false, false, false] rfl rfl (take_ofW HT_.out HW_.out (by kernel_rfl)) (fun _ _ _ h => h) (Or.inl ⟨by rfl, ?_⟩) hHeld ?_ ?_
                       rotate_left
                       ·
                        rintro w' ⟨s0, s1, s2, s3, s4, s5⟩
                        go_simp
                        with_reducible rfl
                       rotate_left
                       ·
                        simp only [Act.put, List.setIfInBounds_toArray, List.set_cons_zero, List.set_cons_succ, i64_w, i32_w]
                        rfl
                       refine take_ (i := 9) (N := some 71) (v := ?_) (a' := ?_) #[true, true, true, true, true, true, true, true, true, true, false, false, false, false, false, false, false, false, false, false, false, false, false] rfl rfl (take_ofW HT_.out HW_.out (by kernel_rfl)) (fun _ _ _ h => h) (Or.inl ⟨by rfl, ?_⟩) hHeld ?_ ?_
                       rotate_left
                       ·
                        rintro w' ⟨s0, s1, s2, s3, s4, s5⟩
                        go_simp
                        with_reducible rfl
                       rotate_left
                       ·
                        simp only [Act.put, List.setIfInBounds_toArray, List.set_cons_zero, List.set_cons_succ, i64_w, i32_w]
                        rfl
                       refine one_ (i := 10) (N := some 72) #[true, true, true, true, true, true, true, true, true, true, true, false, false, false, false, false, false, false, false, false, false, false, false] rfl rfl (one_of HT_.out (by kernel_rfl)) (by decide) (fun K hK => ?_)
                       refine goes_ Tryd.func21 (by kernel_rfl) rfl #[.string a1_1, .string (rdOf ByteArray.empty t223 (ji34))] (by rfl) rfl rfl (by (try simp only [List.map_toArray, List.map_cons, List.map_nil]); first | done | (simp only [hji34]; rfl) | rfl | (simp only [List.length_drop, List.length_take]; rfl)) ?_
                       with_reducible refine (laws_has.calls k4 a1_1 (rdOf ByteArray.empty t223 (ji34)) false _ A37.out).mono ?_
                       rintro e w68 ⟨rfl, hb⟩
                       have HS5_ := (hb.cell (World.block_lt_of_cell? _ _ (hHeld.2.2.2.2.2))).trans (hHeld.2.2.2.2.2)
                       refine ⟨_, rfl, ?_⟩
                       have n0_ := Aside0.mk (Kd.R_below (by (with_reducible repeat (first | apply Kd.R_alloc | apply Kd.R_drewN | apply Kd.R_drew)); exact HO_5.out) hb)
                       have n1_ := Aside0.mk (Kd.R_below (by (with_reducible repeat (first | apply Kd.R_alloc | apply Kd.R_drewN | apply Kd.R_drew)); exact HO_9.out) hb)
                       have n2_ := Aside0.mk (Kd.R_below (by (with_reducible repeat (first | apply Kd.R_alloc | apply Kd.R_drewN | apply Kd.R_drew)); exact HO_36.out) hb)
                       have n3_ := Aside0.mk (blk_below (g := gb214) (o := .cells #[.string a1_0, .string a1_1, .bool false, .bool false, .int .i64 a1_4] 23 (0, 0)) (by (with_reducible repeat (first | refine blk_drewN ?_ _ | refine blk_drew ?_ | refine blk_alloc ?_ _)); exact BK214.out) hb)
                       have n4_ := Aside0.mk (below_step (by repeat (first | (with_reducible first | exact HB.out | apply below_alloc | apply pw_below_drewN | apply below_drew1 | refine below_set ?_ GE214.out) | exact HB.out)) hb)
                       clear HO_5
                       clear HO_9
                       clear HO_36
                       clear BK214
                       clear HB
                       have HO_5 := n0_
                       have HO_9 := n1_
                       have HO_36 := n2_
                       have BK214 := n3_
                       have HB := n4_
                       clear n0_ n1_ n2_ n3_ n4_
                       (try clear hb)
                       (try clear hb2)
                       (try clear hk)
                       (try clear hi)
                       refine hK.out _ _ ⟨(blk_cell BK214.out 0).trans rfl, (blk_cell BK214.out 1).trans rfl, (blk_cell BK214.out 2).trans rfl, (blk_cell BK214.out 3).trans rfl, (blk_cell BK214.out 4).trans rfl, HS5_⟩ (fun hHeld => ?_)
                       clear hK K
                       refine norm_ (a' := ?_) ?_ ?_
                       rotate_left
                       ·
                        show Act.put _ (some 72) _ = _
                        simp only [Act.put, List.setIfInBounds_toArray, List.set_cons_zero, List.set_cons_succ, i64_w, i32_w]
                        rfl
                       refine pure_ (i := 11) (N := some 73) (v := ?_) (a' := ?_) #[true, true, true, true, true, true, true, true, true, true, true, true, false, false, false, false, false, false, false, false, false, false, false] rfl rfl (any_of HT_.out (by kernel_rfl)) (fun _ _ _ h => h) (Or.inl ⟨by rfl, ?_⟩) ?_ ?_
                       rotate_left
                       ·
                        intro w'
                        go_simp
                        with_reducible rfl
                       rotate_left
                       ·
                        simp only [Act.put, List.setIfInBounds_toArray, List.set_cons_zero, List.set_cons_succ, i64_w, i32_w]
                        rfl
                       refine pure_ (i := 12) (N := some 74) (v := ?_) (a' := ?_) #[true, true, true, true, true, true, true, true, true, true, true, true, true, false, false, false, false, false, false, false, false, false, false] rfl rfl (any_of HT_.out (by kernel_rfl)) (fun _ _ _ h => h) (Or.inl ⟨by rfl, ?_⟩) ?_ ?_
                       rotate_left
                       ·
                        intro w'
                        go_simp
                        with_reducible rfl
                       rotate_left
                       ·
                        simp only [Act.put, List.setIfInBounds_toArray, List.set_cons_zero, List.set_cons_succ, i64_w, i32_w]
                        rfl
                       refine pure_ (i := 13) (N := some 75) (v := undef) (a' := ?_) #[true, true, true, true, true, true, true, true, true, true, true, true, true, true, false, false, false, false, false, false, false, false, false] rfl rfl (any_of HT_.out (by kernel_rfl)) (fun _ _ _ h => h) (Or.inr ⟨by rfl, rfl⟩) ?_ ?_
                       rotate_left
                       ·
                        simp only [Act.put, List.setIfInBounds_toArray, List.set_cons_zero, List.set_cons_succ, i64_w, i32_w]
                        rfl
                       refine pure_ (i := 14) (N := some 76) (v := undef) (a' := ?_) #[true, true, true, true, true, true, true, true, true, true, true, true, true, true, true, false, false, false, false, false, false, false, false] rfl rfl (any_of HT_.out (by kernel_rfl)) (fun _ _ _ h => h) (Or.inr ⟨by rfl, rfl⟩) ?_ ?_
                       rotate_left
                       ·
                        simp only [Act.put, List.setIfInBounds_toArray, List.set_cons_zero, List.set_cons_succ, i64_w, i32_w]
                        rfl
                       refine pure_ (i := 15) (N := some 77) (v := undef) (a' := ?_) #[true, true, true, true, true, true, true, true, true, true, true, true, true, true, true, true, false, false, false, false, false, false, false] rfl rfl (any_of HT_.out (by kernel_rfl)) (fun _ _ _ h => h) (Or.inr ⟨by rfl, rfl⟩) ?_ ?_
                       rotate_left
                       ·
                        simp only [Act.put, List.setIfInBounds_toArray, List.set_cons_zero, List.set_cons_succ, i64_w, i32_w]
                        rfl
                       refine pure_ (i := 16) (N := some 78) (v := undef) (a' := ?_) #[true, true, true, true, true, true, true, true, true, true, true, true, true, true, true, true, true, false, false, false, false, false, false] rfl rfl (any_of HT_.out (by kernel_rfl)) (fun _ _ _ h => h) (Or.inr ⟨by rfl, rfl⟩) ?_ ?_
                       rotate_left
                       ·
                        simp only [Act.put, List.setIfInBounds_toArray, List.set_cons_zero, List.set_cons_succ, i64_w, i32_w]
                        rfl
                       refine pure_ (i := 17) (N := some 79) (v := undef) (a' := ?_) #[true, true, true, true, true, true, true, true, true, true, true, true, true, true, true, true, true, true, false, false, false, false, false] rfl rfl (any_of HT_.out (by kernel_rfl)) (fun _ _ _ h => h) (Or.inr ⟨by rfl, rfl⟩) ?_ ?_
                       rotate_left
                       ·
                        simp only [Act.put, List.setIfInBounds_toArray, List.set_cons_zero, List.set_cons_succ, i64_w, i32_w]
                        rfl
                       refine pure_ (i := 18) (N := some 80) (v := undef) (a' := ?_) #[true, true, true, true, true, true, true, true, true, true, true, true, true, true, true, true, true, true, true, false, false, false, false] rfl rfl (any_of HT_.out (by kernel_rfl)) (fun _ _ _ h => h) (Or.inr ⟨by rfl, rfl⟩) ?_ ?_
                       rotate_left
                       ·
                        simp only [Act.put, List.setIfInBounds_toArray, List.set_cons_zero, List.set_cons_succ, i64_w, i32_w]
                        rfl
                       refine pure_ (i := 19) (N := some 81) (v := undef) (a' := ?_) #[true, true, true, true, true, true, true, true, true, true, true, true, true, true, true, true, true, true, true, true, false, false, false] rfl rfl (any_of HT_.out (by kernel_rfl)) (fun _ _ _ h => h) (Or.inr ⟨by rfl, rfl⟩) ?_ ?_
                       rotate_left
                       ·
                        simp only [Act.put, List.setIfInBounds_toArray, List.set_cons_zero, List.set_cons_succ, i64_w, i32_w]
                        rfl
                       refine pure_ (i := 20) (N := some 82) (v := undef) (a' := ?_) #[true, true, true, true, true, true, true, true, true, true, true, true, true, true, true, true, true, true, true, true, true, false, false] rfl rfl (any_of HT_.out (by kernel_rfl)) (fun _ _ _ h => h) (Or.inr ⟨by rfl, rfl⟩) ?_ ?_
                       rotate_left
                       ·
                        simp only [Act.put, List.setIfInBounds_toArray, List.set_cons_zero, List.set_cons_succ, i64_w, i32_w]
                        rfl
                       refine pure_ (i := 21) (N := some 83) (v := undef) (a' := ?_) #[true, true, true, true, true, true, true, true, true, true, true, true, true, true, true, true, true, true, true, true, true, true, false] rfl rfl (any_of HT_.out (by kernel_rfl)) (fun _ _ _ h => h) (Or.inr ⟨by rfl, rfl⟩) ?_ ?_
                       rotate_left
                       ·
                        simp only [Act.put, List.setIfInBounds_toArray, List.set_cons_zero, List.set_cons_succ, i64_w, i32_w]
                        rfl
                       refine pure_ (i := 22) (N := some 84) (v := ?_) (a' := ?_) #[true, true, true, true, true, true, true, true, true, true, true, true, true, true, true, true, true, true, true, true, true, true, true] rfl rfl (any_of HT_.out (by kernel_rfl)) (fun _ _ _ h => h) (Or.inl ⟨by rfl, ?_⟩) ?_ ?_
                       rotate_left
                       ·
                        intro w'
                        go_simp
                        with_reducible rfl
                       rotate_left
                       ·
                        simp only [Act.put, List.setIfInBounds_toArray, List.set_cons_zero, List.set_cons_succ, i64_w, i32_w]
                        rfl
                       refine done_ (done_of HT_.out (by kernel_rfl)) ?_
                       try go_wp2
                       have n0_ := Aside0.mk (Kd.R_drew HO_5.out)
                       have n1_ := Aside0.mk (Kd.R_drew HO_9.out)
                       have n2_ := Aside0.mk (Kd.R_drew HO_36.out)
                       have n3_ := Aside0.mk (blk_drew BK214.out)
                       have n4_ := Aside0.mk (below_drew1 HB.out)
                       clear HO_5
                       clear HO_9
                       clear HO_36
                       clear BK214
                       clear HB
                       have HO_5 := n0_
                       have HO_9 := n1_
                       have HO_36 := n2_
                       have BK214 := n3_
                       have HB := n4_
                       clear n0_ n1_ n2_ n3_ n4_
                       have p233 : 0 ≤ ((ji34) : Int) := of_decide_eq_true (by first | (with_reducible assumption) | assumption)
                       have q233 : (ji34) < (t223.length : Int) := of_decide_eq_true (by first | (with_reducible assumption) | assumption)
                       obtain ⟨ad233, e233, hx233_0⟩ := Kd.at_string (Kd.R_reads' HO_9.out).2.2 (ji34) p233 q233
                       obtain rfl : ad227 = ad233 := (by injection e233)
                       replace p233 := eq_true p233
                       replace q233 := eq_true q233
                       refine start_ (n := 13) (S := fun w' => w'.cell? ⟨gb214, 0, none⟩ = some (.string a1_0) ∧ w'.cell? ⟨gb214, 1, none⟩ = some (.string a1_1) ∧ w'.cell? ⟨gb214, 2, none⟩ = some (.bool false) ∧ w'.cell? ⟨gb214, 3, none⟩ = some (.bool false) ∧ w'.cell? ⟨gb214, 4, none⟩ = some (.int .i64 a1_4) ∧ w'.cell? (ad227.add ((ji34)).toNat) = some (.string (rdOf ByteArray.empty t223 (ji34)))) (ds := []) #[false, false, false, false, false, false, false, false, false, false, false, false, false] (by kernel_rfl) rfl rfl ⟨(blk_cell BK214.out 0).trans rfl, (blk_cell BK214.out 1).trans rfl, (blk_cell BK214.out 2).trans rfl, (blk_cell BK214.out 3).trans rfl, (blk_cell BK214.out 4).trans rfl, hx233_0⟩ (fun hHeld => ?_); refine with_tabW laws_FnSentencesEnd.tab19 laws_FnSentencesEnd.bits19 (fun HT_ HW_ => ?_)
                       generalize w68.drew = w69 at HO_5 HO_9 HO_36 BK214 HB hx233_0 hHeld ⊢
                       refine pure_ (i := 0) (N := some 87) (v := ?_) (a' := ?_) #[true, false, false, false, false, false, false, false, false, false, false, false, false] rfl rfl (any_of HT_.out (by kernel_rfl)) (fun _ _ _ h => h) (Or.inl ⟨by rfl, ?_⟩) ?_ ?_
                       rotate_left
                       ·
                        intro w'
                        go_simp
                        with_reducible rfl
                       rotate_left
                       ·
                        simp only [Act.put, List.setIfInBounds_toArray, List.set_cons_zero, List.set_cons_succ, i64_w, i32_w]
                        rfl
                       refine pure_ (i := 1) (N := some 88) (v := ?_) (a' := ?_) #[true, true, false, false, false, false, false, false, false, false, false, false, false] rfl rfl (any_of HT_.out (by kernel_rfl)) (fun _ _ _ h => h) (Or.inl ⟨by rfl, ?_⟩) ?_ ?_
                       rotate_left
                       ·
                        intro w'
                        go_simp
                        with_reducible rfl
                       rotate_left
                       ·
                        simp only [Act.put, List.setIfInBounds_toArray, List.set_cons_zero, List.set_cons_succ, i64_w, i32_w]
                        rfl
                       refine pure_ (i := 2) (N := some 89) (v := ?_) (a' := ?_) #[true, true, true, false, false, false, false, false, false, false, false, false, false] rfl rfl (any_of HT_.out (by kernel_rfl)) (fun _ _ _ h => h) (Or.inl ⟨by rfl, ?_⟩) ?_ ?_
                       rotate_left
                       ·
                        intro w'
                        go_simp
                        with_reducible rfl
                       rotate_left
                       ·
                        simp only [Act.put, List.setIfInBounds_toArray, List.set_cons_zero, List.set_cons_succ, i64_w, i32_w]
                        rfl
                       refine pure_ (i := 3) (N := some 90) (v := ?_) (a' := ?_) #[true, true, true, true, false, false, false, false, false, false, false, false, false] rfl rfl (any_of HT_.out (by kernel_rfl)) (fun _ _ _ h => h) (Or.inl ⟨by rfl, ?_⟩) ?_ ?_
                       rotate_left
                       ·
                        intro w'
                        go_simp
                        with_reducible rfl
                       rotate_left
                       ·
                        simp only [Act.put, List.setIfInBounds_toArray, List.set_cons_zero, List.set_cons_succ, i64_w, i32_w]
                        rfl
                       refine pure_ (i := 5) (N := some 92) (v := ?_) (a' := ?_) #[true, true, true, true, false, true, false, false, false, false, false, false, false] rfl rfl (any_of HT_.out (by kernel_rfl)) (fun _ _ _ h => h) (Or.inl ⟨by rfl, ?_⟩) ?_ ?_
                       rotate_left
                       ·
                        intro w'
                        go_simp
                        with_reducible rfl
                       rotate_left
                       ·
                        simp only [Act.put, List.setIfInBounds_toArray, List.set_cons_zero, List.set_cons_succ, i64_w, i32_w]
                        rfl
                       refine pure_ (i := 6) (N := some 93) (v := ?_) (a' := ?_) #[true, true, true, true, false, true, true, false, false, false, false, false, false] rfl rfl (any_of HT_.out (by kernel_rfl)) (fun _ _ _ h => h) (Or.inl ⟨by rfl, ?_⟩) ?_ ?_
                       rotate_left
                       ·
                        intro w'
                        go_simp
                        with_reducible rfl
                       rotate_left
                       ·
                        simp only [Act.put, List.setIfInBounds_toArray, List.set_cons_zero, List.set_cons_succ, i64_w, i32_w]
                        rfl
                       refine pure_ (i := 7) (N := some 94) (v := ?_) (a' := ?_) #[true, true, true, true, false, true, true, true, false, false, false, false, false] rfl rfl (any_of HT_.out (by kernel_rfl)) (fun _ _ _ h => h) (Or.inl ⟨by rfl, ?_⟩) ?_ ?_
                       rotate_left
                       ·
                        intro w'
                        go_simp
                        with_reducible rfl
                       rotate_left
                       ·
                        simp only [Act.put, List.setIfInBounds_toArray, List.set_cons_zero, List.set_cons_succ, i64_w, i32_w]
                        rfl
                       refine pure_ (i := 8) (N := some 95) (v := ?_) (a' := ?_) #[true, true, true, true, false, true, true, true, true, false, false, false, false] rfl rfl (any_of HT_.out (by kernel_rfl)) (fun _ _ _ h => h) (Or.inl ⟨by rfl, ?_⟩) ?_ ?_
                       rotate_left
                       ·
                        intro w'
                        go_simp
                        with_reducible rfl
                       rotate_left
                       ·
                        simp only [Act.put, List.setIfInBounds_toArray, List.set_cons_zero, List.set_cons_succ, i64_w, i32_w]
                        rfl
                       refine take_ (i := 4) (N := some 91) (v := ?_) (a' := ?_) #[true, true, true, true, true, true, true, true, true, false, false, false, false] rfl rfl (take_ofW HT_.out HW_.out (by kernel_rfl)) (fun _ _ _ h => h) (Or.inl ⟨by rfl, ?_⟩) hHeld ?_ ?_
                       rotate_left
                       ·
                        rintro w' ⟨s0, s1, s2, s3, s4, s5⟩
                        go_simp
                        with_reducible rfl
                       rotate_left
                       ·
                        simp only [Act.put, List.setIfInBounds_toArray, List.set_cons_zero, List.set_cons_succ, i64_w, i32_w]
                        rfl
                       refine take_ (i := 9) (N := some 96) (v := ?_) (a' := ?_) #[true, true, true, true, true, true, true, true, true, true, false, false, false] rfl rfl (take_ofW HT_.out HW_.out (by kernel_rfl)) (fun _ _ _ h => h) (Or.inl ⟨by rfl, ?_⟩) hHeld ?_ ?_
                       rotate_left
                       ·
                        rintro w' ⟨s0, s1, s2, s3, s4, s5⟩
                        go_simp
                        with_reducible rfl
                       rotate_left
                       ·
                        simp only [Act.put, List.setIfInBounds_toArray, List.set_cons_zero, List.set_cons_succ, i64_w, i32_w]
                        rfl
                       refine one_ (i := 10) (N := some 97) #[true, true, true, true, true, true, true, true, true, true, true, false, false] rfl rfl (one_of HT_.out (by kernel_rfl)) (by decide) (fun K hK => ?_)
                       refine goes_ Tryd.func21 (by kernel_rfl) rfl #[.string a1_0, .string (rdOf ByteArray.empty t223 (ji34))] (by rfl) rfl rfl (by (try simp only [List.map_toArray, List.map_cons, List.map_nil]); first | done | (simp only [hji34]; rfl) | rfl | (simp only [List.length_drop, List.length_take]; rfl)) ?_
                       with_reducible refine (laws_has.calls k4 a1_0 (rdOf ByteArray.empty t223 (ji34)) true _ A65.out).mono ?_
                       rintro e w70 ⟨rfl, hb⟩
                       have HS5_ := (hb.cell (World.block_lt_of_cell? _ _ (hHeld.2.2.2.2.2))).trans (hHeld.2.2.2.2.2)
                       refine ⟨_, rfl, ?_⟩
                       have n0_ := Aside0.mk (Kd.R_below (by (with_reducible repeat (first | apply Kd.R_alloc | apply Kd.R_drewN | apply Kd.R_drew)); exact HO_5.out) hb)
                       have n1_ := Aside0.mk (Kd.R_below (by (with_reducible repeat (first | apply Kd.R_alloc | apply Kd.R_drewN | apply Kd.R_drew)); exact HO_9.out) hb)
                       have n2_ := Aside0.mk (Kd.R_below (by (with_reducible repeat (first | apply Kd.R_alloc | apply Kd.R_drewN | apply Kd.R_drew)); exact HO_36.out) hb)
                       have n3_ := Aside0.mk (blk_below (g := gb214) (o := .cells #[.string a1_0, .string a1_1, .bool false, .bool false, .int .i64 a1_4] 23 (0, 0)) (by (with_reducible repeat (first | refine blk_drewN ?_ _ | refine blk_drew ?_ | refine blk_alloc ?_ _)); exact BK214.out) hb)
                       have n4_ := Aside0.mk (below_step (by repeat (first | (with_reducible first | exact HB.out | apply below_alloc | apply pw_below_drewN | apply below_drew1 | refine below_set ?_ GE214.out) | exact HB.out)) hb)
                       clear HO_5
                       clear HO_9
                       clear HO_36
                       clear BK214
                       clear HB
                       have HO_5 := n0_
                       have HO_9 := n1_
                       have HO_36 := n2_
                       have BK214 := n3_
                       have HB := n4_
                       clear n0_ n1_ n2_ n3_ n4_
                       (try clear hb)
                       (try clear hb2)
                       (try clear hk)
                       (try clear hi)
                       refine hK.out _ _ ⟨(blk_cell BK214.out 0).trans rfl, (blk_cell BK214.out 1).trans rfl, (blk_cell BK214.out 2).trans rfl, (blk_cell BK214.out 3).trans rfl, (blk_cell BK214.out 4).trans rfl, HS5_⟩ (fun hHeld => ?_)
                       clear hK K
                       refine norm_ (a' := ?_) ?_ ?_
                       rotate_left
                       ·
                        show Act.put _ (some 97) _ = _
                        simp only [Act.put, List.setIfInBounds_toArray, List.set_cons_zero, List.set_cons_succ, i64_w, i32_w]
                        rfl
                       refine pure_ (i := 11) (N := some 98) (v := ?_) (a' := ?_) #[true, true, true, true, true, true, true, true, true, true, true, true, false] rfl rfl (any_of HT_.out (by kernel_rfl)) (fun _ _ _ h => h) (Or.inl ⟨by rfl, ?_⟩) ?_ ?_
                       rotate_left
                       ·
                        intro w'
                        go_simp
                        with_reducible rfl
                       rotate_left
                       ·
                        simp only [Act.put, List.setIfInBounds_toArray, List.set_cons_zero, List.set_cons_succ, i64_w, i32_w]
                        rfl
                       refine pure_ (i := 12) (N := some 99) (v := ?_) (a' := ?_) #[true, true, true, true, true, true, true, true, true, true, true, true, true] rfl rfl (any_of HT_.out (by kernel_rfl)) (fun _ _ _ h => h) (Or.inl ⟨by rfl, ?_⟩) ?_ ?_
                       rotate_left
                       ·
                        intro w'
                        go_simp
                        with_reducible rfl
                       rotate_left
                       ·
                        simp only [Act.put, List.setIfInBounds_toArray, List.set_cons_zero, List.set_cons_succ, i64_w, i32_w]
                        rfl
                       refine done_ (done_of HT_.out (by kernel_rfl)) ?_
                       try go_wp2
                       go_roundg k4
                       case measure => have := HJ2.out; have := HK2.out; have := HJ25.out; have := HK4.out; omega
                       case rel => exact ⟨(wrap64 (x38_2 + 1)), (by first | rfl | (simp; done) | (simp [*]; done)), H', ⟨by have := HJ2.out; have := HK2.out; have := HJ25.out; have := HK4.out; omega⟩, ⟨by (with_reducible repeat (first | apply Kd.R_alloc | apply Kd.R_drewN | apply Kd.R_drew)); exact Kd.R_mono HO_5.out (fun _ hk => trivial)⟩, ⟨by (with_reducible repeat (first | apply Kd.R_alloc | apply Kd.R_drewN | apply Kd.R_drew)); exact Kd.R_mono HO_36.out (fun _ hk => trivial)⟩, ⟨by (with_reducible repeat (first | refine blk_drewN ?_ _ | refine blk_drew ?_ | refine blk_alloc ?_ _)); exact BK214.out⟩, ⟨by repeat (first | (with_reducible first | exact HB.out | apply below_alloc | apply pw_below_drewN | apply below_drew1 | refine below_set ?_ GE214.out) | exact HB.out)⟩⟩
                      ·
                       replace c66 := Bool.eq_false_iff.mpr c66
                       subst c66
                       have H1 : (some false) = some r := by rw [if_neg (show ¬ (false = true) by decide)] at H; exact H
                       clear H
                       have H := H1
                       clear H1
                       obtain rfl := Option.some.inj H
                       try go_wp2
                       have n0_ := Aside0.mk (Kd.R_drew HO_5.out)
                       have n1_ := Aside0.mk (Kd.R_drew HO_9.out)
                       have n2_ := Aside0.mk (Kd.R_drew HO_36.out)
                       have n3_ := Aside0.mk (blk_drew BK214.out)
                       have n4_ := Aside0.mk (below_drew1 HB.out)
                       clear HO_5
                       clear HO_9
                       clear HO_36
                       clear BK214
                       clear HB
                       have HO_5 := n0_
                       have HO_9 := n1_
                       have HO_36 := n2_
                       have BK214 := n3_
                       have HB := n4_
                       clear n0_ n1_ n2_ n3_ n4_
                       have p227 : 0 ≤ ((ji34) : Int) := of_decide_eq_true (by first | (with_reducible assumption) | assumption)
                       have q227 : (ji34) < (t223.length : Int) := of_decide_eq_true (by first | (with_reducible assumption) | assumption)
                       obtain ⟨ad227, e227, hx227_0⟩ := Kd.at_string (Kd.R_reads' HO_9.out).2.2 (ji34) p227 q227
                       cases e227
                       replace p227 := eq_true p227
                       replace q227 := eq_true q227
                       refine start_ (n := 23) (S := fun w' => w'.cell? ⟨gb214, 0, none⟩ = some (.string a1_0) ∧ w'.cell? ⟨gb214, 1, none⟩ = some (.string a1_1) ∧ w'.cell? ⟨gb214, 2, none⟩ = some (.bool false) ∧ w'.cell? ⟨gb214, 3, none⟩ = some (.bool false) ∧ w'.cell? ⟨gb214, 4, none⟩ = some (.int .i64 a1_4) ∧ w'.cell? (ad227.add ((ji34)).toNat) = some (.string (rdOf ByteArray.empty t223 (ji34)))) (ds := []) #[false, false, false, false, false, false, false, false, false, false, false, false, false, false, false, false, false, false, false, false, false, false, false] (by kernel_rfl) rfl rfl ⟨(blk_cell BK214.out 0).trans rfl, (blk_cell BK214.out 1).trans rfl, (blk_cell BK214.out 2).trans rfl, (blk_cell BK214.out 3).trans rfl, (blk_cell BK214.out 4).trans rfl, hx227_0⟩ (fun hHeld => ?_); refine with_tabW laws_FnSentencesEnd.tab17 laws_FnSentencesEnd.bits17 (fun HT_ HW_ => ?_)
                       generalize wr.drew = w71 at HO_5 HO_9 HO_36 BK214 HB hx227_0 hHeld ⊢
                       refine pure_ (i := 0) (N := some 62) (v := ?_) (a' := ?_) #[true, false, false, false, false, false, false, false, false, false, false, false, false, false, false, false, false, false, false, false, false, false, false] rfl rfl (any_of HT_.out (by kernel_rfl)) (fun _ _ _ h => h) (Or.inl ⟨by rfl, ?_⟩) ?_ ?_
                       rotate_left
                       ·
                        intro w'
                        go_simp
                        with_reducible rfl
                       rotate_left
                       ·
                        simp only [Act.put, List.setIfInBounds_toArray, List.set_cons_zero, List.set_cons_succ, i64_w, i32_w]
                        rfl
                       refine pure_ (i := 1) (N := some 63) (v := ?_) (a' := ?_) #[true, true, false, false, false, false, false, false, false, false, false, false, false, false, false, false, false, false, false, false, false, false, false] rfl rfl (any_of HT_.out (by kernel_rfl)) (fun _ _ _ h => h) (Or.inl ⟨by rfl, ?_⟩) ?_ ?_
                       rotate_left
                       ·
                        intro w'
                        go_simp
                        with_reducible rfl
                       rotate_left
                       ·
                        simp only [Act.put, List.setIfInBounds_toArray, List.set_cons_zero, List.set_cons_succ, i64_w, i32_w]
                        rfl
                       refine pure_ (i := 2) (N := some 64) (v := ?_) (a' := ?_) #[true, true, true, false, false, false, false, false, false, false, false, false, false, false, false, false, false, false, false, false, false, false, false] rfl rfl (any_of HT_.out (by kernel_rfl)) (fun _ _ _ h => h) (Or.inl ⟨by rfl, ?_⟩) ?_ ?_
                       rotate_left
                       ·
                        intro w'
                        go_simp
                        with_reducible rfl
                       rotate_left
                       ·
                        simp only [Act.put, List.setIfInBounds_toArray, List.set_cons_zero, List.set_cons_succ, i64_w, i32_w]
                        rfl
                       refine pure_ (i := 3) (N := some 65) (v := ?_) (a' := ?_) #[true, true, true, true, false, false, false, false, false, false, false, false, false, false, false, false, false, false, false, false, false, false, false] rfl rfl (any_of HT_.out (by kernel_rfl)) (fun _ _ _ h => h) (Or.inl ⟨by rfl, ?_⟩) ?_ ?_
                       rotate_left
                       ·
                        intro w'
                        go_simp
                        with_reducible rfl
                       rotate_left
                       ·
                        simp only [Act.put, List.setIfInBounds_toArray, List.set_cons_zero, List.set_cons_succ, i64_w, i32_w]
                        rfl
                       refine pure_ (i := 5) (N := some 67) (v := ?_) (a' := ?_) #[true, true, true, true, false, true, false, false, false, false, false, false, false, false, false, false, false, false, false, false, false, false, false] rfl rfl (any_of HT_.out (by kernel_rfl)) (fun _ _ _ h => h) (Or.inl ⟨by rfl, ?_⟩) ?_ ?_
                       rotate_left
                       ·
                        intro w'
                        go_simp
                        with_reducible rfl
                       rotate_left
                       ·
                        simp only [Act.put, List.setIfInBounds_toArray, List.set_cons_zero, List.set_cons_succ, i64_w, i32_w]
                        rfl
                       refine pure_ (i := 6) (N := some 68) (v := ?_) (a' := ?_) #[true, true, true, true, false, true, true, false, false, false, false, false, false, false, false, false, false, false, false, false, false, false, false] rfl rfl (any_of HT_.out (by kernel_rfl)) (fun _ _ _ h => h) (Or.inl ⟨by rfl, ?_⟩) ?_ ?_
                       rotate_left
                       ·
                        intro w'
                        go_simp
                        with_reducible rfl
                       rotate_left
                       ·
                        simp only [Act.put, List.setIfInBounds_toArray, List.set_cons_zero, List.set_cons_succ, i64_w, i32_w]
                        rfl
                       refine pure_ (i := 7) (N := some 69) (v := ?_) (a' := ?_) #[true, true, true, true, false, true, true, true, false, false, false, false, false, false, false, false, false, false, false, false, false, false, false] rfl rfl (any_of HT_.out (by kernel_rfl)) (fun _ _ _ h => h) (Or.inl ⟨by rfl, ?_⟩) ?_ ?_
                       rotate_left
                       ·
                        intro w'
                        go_simp
                        with_reducible rfl
                       rotate_left
                       ·
                        simp only [Act.put, List.setIfInBounds_toArray, List.set_cons_zero, List.set_cons_succ, i64_w, i32_w]
                        rfl
                       refine pure_ (i := 8) (N := some 70) (v := ?_) (a' := ?_) #[true, true, true, true, false, true, true, true, true, false, false, false, false, false, false, false, false, false, false, false, false, false, false] rfl rfl (any_of HT_.out (by kernel_rfl)) (fun _ _ _ h => h) (Or.inl ⟨by rfl, ?_⟩) ?_ ?_
                       rotate_left
                       ·
                        intro w'
                        go_simp
                        with_reducible rfl
                       rotate_left
                       ·
                        simp only [Act.put, List.setIfInBounds_toArray, List.set_cons_zero, List.set_cons_succ, i64_w, i32_w]
                        rfl
                       refine take_ (i := 4) (N := some 66) (v := ?_) (a' := ?_) #[true, true, true, true, true, true, true, true, true, false, false, false, false, false, false, false, false, false, false, false, false, false, false] rfl rfl (take_ofW HT_.out HW_.out (by kernel_rfl)) (fun _ _ _ h => h) (Or.inl ⟨by rfl, ?_⟩) hHeld ?_ ?_
                       rotate_left
                       ·
                        rintro w' ⟨s0, s1, s2, s3, s4, s5⟩
                        go_simp
                        with_reducible rfl
                       rotate_left
                       ·
                        simp only [Act.put, List.setIfInBounds_toArray, List.set_cons_zero, List.set_cons_succ, i64_w, i32_w]
                        rfl
                       refine take_ (i := 9) (N := some 71) (v := ?_) (a' := ?_) #[true, true, true, true, true, true, true, true, true, true, false, false, false, false, false, false, false, false, false, false, false, false, false] rfl rfl (take_ofW HT_.out HW_.out (by kernel_rfl)) (fun _ _ _ h => h) (Or.inl ⟨by rfl, ?_⟩) hHeld ?_ ?_
                       rotate_left
                       ·
                        rintro w' ⟨s0, s1, s2, s3, s4, s5⟩
                        go_simp
                        with_reducible rfl
                       rotate_left
                       ·
                        simp only [Act.put, List.setIfInBounds_toArray, List.set_cons_zero, List.set_cons_succ, i64_w, i32_w]
                        rfl
                       refine one_ (i := 10) (N := some 72) #[true, true, true, true, true, true, true, true, true, true, true, false, false, false, false, false, false, false, false, false, false, false, false] rfl rfl (one_of HT_.out (by kernel_rfl)) (by decide) (fun K hK => ?_)
                       refine goes_ Tryd.func21 (by kernel_rfl) rfl #[.string a1_1, .string (rdOf ByteArray.empty t223 (ji34))] (by rfl) rfl rfl (by (try simp only [List.map_toArray, List.map_cons, List.map_nil]); first | done | (simp only [hji34]; rfl) | rfl | (simp only [List.length_drop, List.length_take]; rfl)) ?_
                       with_reducible refine (laws_has.calls k4 a1_1 (rdOf ByteArray.empty t223 (ji34)) false _ A37.out).mono ?_
                       rintro e w72 ⟨rfl, hb⟩
                       have HS5_ := (hb.cell (World.block_lt_of_cell? _ _ (hHeld.2.2.2.2.2))).trans (hHeld.2.2.2.2.2)
                       refine ⟨_, rfl, ?_⟩
                       have n0_ := Aside0.mk (Kd.R_below (by (with_reducible repeat (first | apply Kd.R_alloc | apply Kd.R_drewN | apply Kd.R_drew)); exact HO_5.out) hb)
                       have n1_ := Aside0.mk (Kd.R_below (by (with_reducible repeat (first | apply Kd.R_alloc | apply Kd.R_drewN | apply Kd.R_drew)); exact HO_9.out) hb)
                       have n2_ := Aside0.mk (Kd.R_below (by (with_reducible repeat (first | apply Kd.R_alloc | apply Kd.R_drewN | apply Kd.R_drew)); exact HO_36.out) hb)
                       have n3_ := Aside0.mk (blk_below (g := gb214) (o := .cells #[.string a1_0, .string a1_1, .bool false, .bool false, .int .i64 a1_4] 23 (0, 0)) (by (with_reducible repeat (first | refine blk_drewN ?_ _ | refine blk_drew ?_ | refine blk_alloc ?_ _)); exact BK214.out) hb)
                       have n4_ := Aside0.mk (below_step (by repeat (first | (with_reducible first | exact HB.out | apply below_alloc | apply pw_below_drewN | apply below_drew1 | refine below_set ?_ GE214.out) | exact HB.out)) hb)
                       clear HO_5
                       clear HO_9
                       clear HO_36
                       clear BK214
                       clear HB
                       have HO_5 := n0_
                       have HO_9 := n1_
                       have HO_36 := n2_
                       have BK214 := n3_
                       have HB := n4_
                       clear n0_ n1_ n2_ n3_ n4_
                       (try clear hb)
                       (try clear hb2)
                       (try clear hk)
                       (try clear hi)
                       refine hK.out _ _ ⟨(blk_cell BK214.out 0).trans rfl, (blk_cell BK214.out 1).trans rfl, (blk_cell BK214.out 2).trans rfl, (blk_cell BK214.out 3).trans rfl, (blk_cell BK214.out 4).trans rfl, HS5_⟩ (fun hHeld => ?_)
                       clear hK K
                       refine norm_ (a' := ?_) ?_ ?_
                       rotate_left
                       ·
                        show Act.put _ (some 72) _ = _
                        simp only [Act.put, List.setIfInBounds_toArray, List.set_cons_zero, List.set_cons_succ, i64_w, i32_w]
                        rfl
                       refine pure_ (i := 11) (N := some 73) (v := ?_) (a' := ?_) #[true, true, true, true, true, true, true, true, true, true, true, true, false, false, false, false, false, false, false, false, false, false, false] rfl rfl (any_of HT_.out (by kernel_rfl)) (fun _ _ _ h => h) (Or.inl ⟨by rfl, ?_⟩) ?_ ?_
                       rotate_left
                       ·
                        intro w'
                        go_simp
                        with_reducible rfl
                       rotate_left
                       ·
                        simp only [Act.put, List.setIfInBounds_toArray, List.set_cons_zero, List.set_cons_succ, i64_w, i32_w]
                        rfl
                       refine pure_ (i := 12) (N := some 74) (v := ?_) (a' := ?_) #[true, true, true, true, true, true, true, true, true, true, true, true, true, false, false, false, false, false, false, false, false, false, false] rfl rfl (any_of HT_.out (by kernel_rfl)) (fun _ _ _ h => h) (Or.inl ⟨by rfl, ?_⟩) ?_ ?_
                       rotate_left
                       ·
                        intro w'
                        go_simp
                        with_reducible rfl
                       rotate_left
                       ·
                        simp only [Act.put, List.setIfInBounds_toArray, List.set_cons_zero, List.set_cons_succ, i64_w, i32_w]
                        rfl
                       refine pure_ (i := 13) (N := some 75) (v := undef) (a' := ?_) #[true, true, true, true, true, true, true, true, true, true, true, true, true, true, false, false, false, false, false, false, false, false, false] rfl rfl (any_of HT_.out (by kernel_rfl)) (fun _ _ _ h => h) (Or.inr ⟨by rfl, rfl⟩) ?_ ?_
                       rotate_left
                       ·
                        simp only [Act.put, List.setIfInBounds_toArray, List.set_cons_zero, List.set_cons_succ, i64_w, i32_w]
                        rfl
                       refine pure_ (i := 14) (N := some 76) (v := undef) (a' := ?_) #[true, true, true, true, true, true, true, true, true, true, true, true, true, true, true, false, false, false, false, false, false, false, false] rfl rfl (any_of HT_.out (by kernel_rfl)) (fun _ _ _ h => h) (Or.inr ⟨by rfl, rfl⟩) ?_ ?_
                       rotate_left
                       ·
                        simp only [Act.put, List.setIfInBounds_toArray, List.set_cons_zero, List.set_cons_succ, i64_w, i32_w]
                        rfl
                       refine pure_ (i := 15) (N := some 77) (v := undef) (a' := ?_) #[true, true, true, true, true, true, true, true, true, true, true, true, true, true, true, true, false, false, false, false, false, false, false] rfl rfl (any_of HT_.out (by kernel_rfl)) (fun _ _ _ h => h) (Or.inr ⟨by rfl, rfl⟩) ?_ ?_
                       rotate_left
                       ·
                        simp only [Act.put, List.setIfInBounds_toArray, List.set_cons_zero, List.set_cons_succ, i64_w, i32_w]
                        rfl
                       refine pure_ (i := 16) (N := some 78) (v := undef) (a' := ?_) #[true, true, true, true, true, true, true, true, true, true, true, true, true, true, true, true, true, false, false, false, false, false, false] rfl rfl (any_of HT_.out (by kernel_rfl)) (fun _ _ _ h => h) (Or.inr ⟨by rfl, rfl⟩) ?_ ?_
                       rotate_left
                       ·
                        simp only [Act.put, List.setIfInBounds_toArray, List.set_cons_zero, List.set_cons_succ, i64_w, i32_w]
                        rfl
                       refine pure_ (i := 17) (N := some 79) (v := undef) (a' := ?_) #[true, true, true, true, true, true, true, true, true, true, true, true, true, true, true, true, true, true, false, false, false, false, false] rfl rfl (any_of HT_.out (by kernel_rfl)) (fun _ _ _ h => h) (Or.inr ⟨by rfl, rfl⟩) ?_ ?_
                       rotate_left
                       ·
                        simp only [Act.put, List.setIfInBounds_toArray, List.set_cons_zero, List.set_cons_succ, i64_w, i32_w]
                        rfl
                       refine pure_ (i := 18) (N := some 80) (v := undef) (a' := ?_) #[true, true, true, true, true, true, true, true, true, true, true, true, true, true, true, true, true, true, true, false, false, false, false] rfl rfl (any_of HT_.out (by kernel_rfl)) (fun _ _ _ h => h) (Or.inr ⟨by rfl, rfl⟩) ?_ ?_
                       rotate_left
                       ·
                        simp only [Act.put, List.setIfInBounds_toArray, List.set_cons_zero, List.set_cons_succ, i64_w, i32_w]
                        rfl
                       refine pure_ (i := 19) (N := some 81) (v := undef) (a' := ?_) #[true, true, true, true, true, true, true, true, true, true, true, true, true, true, true, true, true, true, true, true, false, false, false] rfl rfl (any_of HT_.out (by kernel_rfl)) (fun _ _ _ h => h) (Or.inr ⟨by rfl, rfl⟩) ?_ ?_
                       rotate_left
                       ·
                        simp only [Act.put, List.setIfInBounds_toArray, List.set_cons_zero, List.set_cons_succ, i64_w, i32_w]
                        rfl
                       refine pure_ (i := 20) (N := some 82) (v := undef) (a' := ?_) #[true, true, true, true, true, true, true, true, true, true, true, true, true, true, true, true, true, true, true, true, true, false, false] rfl rfl (any_of HT_.out (by kernel_rfl)) (fun _ _ _ h => h) (Or.inr ⟨by rfl, rfl⟩) ?_ ?_
                       rotate_left
                       ·
                        simp only [Act.put, List.setIfInBounds_toArray, List.set_cons_zero, List.set_cons_succ, i64_w, i32_w]
                        rfl
                       refine pure_ (i := 21) (N := some 83) (v := undef) (a' := ?_) #[true, true, true, true, true, true, true, true, true, true, true, true, true, true, true, true, true, true, true, true, true, true, false] rfl rfl (any_of HT_.out (by kernel_rfl)) (fun _ _ _ h => h) (Or.inr ⟨by rfl, rfl⟩) ?_ ?_
                       rotate_left
                       ·
                        simp only [Act.put, List.setIfInBounds_toArray, List.set_cons_zero, List.set_cons_succ, i64_w, i32_w]
                        rfl
                       refine pure_ (i := 22) (N := some 84) (v := ?_) (a' := ?_) #[true, true, true, true, true, true, true, true, true, true, true, true, true, true, true, true, true, true, true, true, true, true, true] rfl rfl (any_of HT_.out (by kernel_rfl)) (fun _ _ _ h => h) (Or.inl ⟨by rfl, ?_⟩) ?_ ?_
                       rotate_left
                       ·
                        intro w'
                        go_simp
                        with_reducible rfl
                       rotate_left
                       ·
                        simp only [Act.put, List.setIfInBounds_toArray, List.set_cons_zero, List.set_cons_succ, i64_w, i32_w]
                        rfl
                       refine done_ (done_of HT_.out (by kernel_rfl)) ?_
                       try go_wp2
                       have n0_ := Aside0.mk (Kd.R_drew HO_5.out)
                       have n1_ := Aside0.mk (Kd.R_drew HO_9.out)
                       have n2_ := Aside0.mk (Kd.R_drew HO_36.out)
                       have n3_ := Aside0.mk (blk_drew BK214.out)
                       have n4_ := Aside0.mk (below_drew1 HB.out)
                       clear HO_5
                       clear HO_9
                       clear HO_36
                       clear BK214
                       clear HB
                       have HO_5 := n0_
                       have HO_9 := n1_
                       have HO_36 := n2_
                       have BK214 := n3_
                       have HB := n4_
                       clear n0_ n1_ n2_ n3_ n4_
                       have p233 : 0 ≤ ((ji34) : Int) := of_decide_eq_true (by first | (with_reducible assumption) | assumption)
                       have q233 : (ji34) < (t223.length : Int) := of_decide_eq_true (by first | (with_reducible assumption) | assumption)
                       obtain ⟨ad233, e233, hx233_0⟩ := Kd.at_string (Kd.R_reads' HO_9.out).2.2 (ji34) p233 q233
                       obtain rfl : ad227 = ad233 := (by injection e233)
                       replace p233 := eq_true p233
                       replace q233 := eq_true q233
                       refine start_ (n := 13) (S := fun w' => w'.cell? ⟨gb214, 0, none⟩ = some (.string a1_0) ∧ w'.cell? ⟨gb214, 1, none⟩ = some (.string a1_1) ∧ w'.cell? ⟨gb214, 2, none⟩ = some (.bool false) ∧ w'.cell? ⟨gb214, 3, none⟩ = some (.bool false) ∧ w'.cell? ⟨gb214, 4, none⟩ = some (.int .i64 a1_4) ∧ w'.cell? (ad227.add ((ji34)).toNat) = some (.string (rdOf ByteArray.empty t223 (ji34)))) (ds := []) #[false, false, false, false, false, false, false, false, false, false, false, false, false] (by kernel_rfl) rfl rfl ⟨(blk_cell BK214.out 0).trans rfl, (blk_cell BK214.out 1).trans rfl, (blk_cell BK214.out 2).trans rfl, (blk_cell BK214.out 3).trans rfl, (blk_cell BK214.out 4).trans rfl, hx233_0⟩ (fun hHeld => ?_); refine with_tabW laws_FnSentencesEnd.tab19 laws_FnSentencesEnd.bits19 (fun HT_ HW_ => ?_)
                       generalize w72.drew = w73 at HO_5 HO_9 HO_36 BK214 HB hx233_0 hHeld ⊢
                       refine pure_ (i := 0) (N := some 87) (v := ?_) (a' := ?_) #[true, false, false, false, false, false, false, false, false, false, false, false, false] rfl rfl (any_of HT_.out (by kernel_rfl)) (fun _ _ _ h => h) (Or.inl ⟨by rfl, ?_⟩) ?_ ?_
                       rotate_left
                       ·
                        intro w'
                        go_simp
                        with_reducible rfl
                       rotate_left
                       ·
                        simp only [Act.put, List.setIfInBounds_toArray, List.set_cons_zero, List.set_cons_succ, i64_w, i32_w]
                        rfl
                       refine pure_ (i := 1) (N := some 88) (v := ?_) (a' := ?_) #[true, true, false, false, false, false, false, false, false, false, false, false, false] rfl rfl (any_of HT_.out (by kernel_rfl)) (fun _ _ _ h => h) (Or.inl ⟨by rfl, ?_⟩) ?_ ?_
                       rotate_left
                       ·
                        intro w'
                        go_simp
                        with_reducible rfl
                       rotate_left
                       ·
                        simp only [Act.put, List.setIfInBounds_toArray, List.set_cons_zero, List.set_cons_succ, i64_w, i32_w]
                        rfl
                       refine pure_ (i := 2) (N := some 89) (v := ?_) (a' := ?_) #[true, true, true, false, false, false, false, false, false, false, false, false, false] rfl rfl (any_of HT_.out (by kernel_rfl)) (fun _ _ _ h => h) (Or.inl ⟨by rfl, ?_⟩) ?_ ?_
                       rotate_left
                       ·
                        intro w'
                        go_simp
                        with_reducible rfl
                       rotate_left
                       ·
                        simp only [Act.put, List.setIfInBounds_toArray, List.set_cons_zero, List.set_cons_succ, i64_w, i32_w]
                        rfl
                       refine pure_ (i := 3) (N := some 90) (v := ?_) (a' := ?_) #[true, true, true, true, false, false, false, false, false, false, false, false, false] rfl rfl (any_of HT_.out (by kernel_rfl)) (fun _ _ _ h => h) (Or.inl ⟨by rfl, ?_⟩) ?_ ?_
                       rotate_left
                       ·
                        intro w'
                        go_simp
                        with_reducible rfl
                       rotate_left
                       ·
                        simp only [Act.put, List.setIfInBounds_toArray, List.set_cons_zero, List.set_cons_succ, i64_w, i32_w]
                        rfl
                       refine pure_ (i := 5) (N := some 92) (v := ?_) (a' := ?_) #[true, true, true, true, false, true, false, false, false, false, false, false, false] rfl rfl (any_of HT_.out (by kernel_rfl)) (fun _ _ _ h => h) (Or.inl ⟨by rfl, ?_⟩) ?_ ?_
                       rotate_left
                       ·
                        intro w'
                        go_simp
                        with_reducible rfl
                       rotate_left
                       ·
                        simp only [Act.put, List.setIfInBounds_toArray, List.set_cons_zero, List.set_cons_succ, i64_w, i32_w]
                        rfl
                       refine pure_ (i := 6) (N := some 93) (v := ?_) (a' := ?_) #[true, true, true, true, false, true, true, false, false, false, false, false, false] rfl rfl (any_of HT_.out (by kernel_rfl)) (fun _ _ _ h => h) (Or.inl ⟨by rfl, ?_⟩) ?_ ?_
                       rotate_left
                       ·
                        intro w'
                        go_simp
                        with_reducible rfl
                       rotate_left
                       ·
                        simp only [Act.put, List.setIfInBounds_toArray, List.set_cons_zero, List.set_cons_succ, i64_w, i32_w]
                        rfl
                       refine pure_ (i := 7) (N := some 94) (v := ?_) (a' := ?_) #[true, true, true, true, false, true, true, true, false, false, false, false, false] rfl rfl (any_of HT_.out (by kernel_rfl)) (fun _ _ _ h => h) (Or.inl ⟨by rfl, ?_⟩) ?_ ?_
                       rotate_left
                       ·
                        intro w'
                        go_simp
                        with_reducible rfl
                       rotate_left
                       ·
                        simp only [Act.put, List.setIfInBounds_toArray, List.set_cons_zero, List.set_cons_succ, i64_w, i32_w]
                        rfl
                       refine pure_ (i := 8) (N := some 95) (v := ?_) (a' := ?_) #[true, true, true, true, false, true, true, true, true, false, false, false, false] rfl rfl (any_of HT_.out (by kernel_rfl)) (fun _ _ _ h => h) (Or.inl ⟨by rfl, ?_⟩) ?_ ?_
                       rotate_left
                       ·
                        intro w'
                        go_simp
                        with_reducible rfl
                       rotate_left
                       ·
                        simp only [Act.put, List.setIfInBounds_toArray, List.set_cons_zero, List.set_cons_succ, i64_w, i32_w]
                        rfl
                       refine take_ (i := 4) (N := some 91) (v := ?_) (a' := ?_) #[true, true, true, true, true, true, true, true, true, false, false, false, false] rfl rfl (take_ofW HT_.out HW_.out (by kernel_rfl)) (fun _ _ _ h => h) (Or.inl ⟨by rfl, ?_⟩) hHeld ?_ ?_
                       rotate_left
                       ·
                        rintro w' ⟨s0, s1, s2, s3, s4, s5⟩
                        go_simp
                        with_reducible rfl
                       rotate_left
                       ·
                        simp only [Act.put, List.setIfInBounds_toArray, List.set_cons_zero, List.set_cons_succ, i64_w, i32_w]
                        rfl
                       refine take_ (i := 9) (N := some 96) (v := ?_) (a' := ?_) #[true, true, true, true, true, true, true, true, true, true, false, false, false] rfl rfl (take_ofW HT_.out HW_.out (by kernel_rfl)) (fun _ _ _ h => h) (Or.inl ⟨by rfl, ?_⟩) hHeld ?_ ?_
                       rotate_left
                       ·
                        rintro w' ⟨s0, s1, s2, s3, s4, s5⟩
                        go_simp
                        with_reducible rfl
                       rotate_left
                       ·
                        simp only [Act.put, List.setIfInBounds_toArray, List.set_cons_zero, List.set_cons_succ, i64_w, i32_w]
                        rfl
                       refine one_ (i := 10) (N := some 97) #[true, true, true, true, true, true, true, true, true, true, true, false, false] rfl rfl (one_of HT_.out (by kernel_rfl)) (by decide) (fun K hK => ?_)
                       refine goes_ Tryd.func21 (by kernel_rfl) rfl #[.string a1_0, .string (rdOf ByteArray.empty t223 (ji34))] (by rfl) rfl rfl (by (try simp only [List.map_toArray, List.map_cons, List.map_nil]); first | done | (simp only [hji34]; rfl) | rfl | (simp only [List.length_drop, List.length_take]; rfl)) ?_
                       with_reducible refine (laws_has.calls k4 a1_0 (rdOf ByteArray.empty t223 (ji34)) false _ A65.out).mono ?_
                       rintro e w74 ⟨rfl, hb⟩
                       have HS5_ := (hb.cell (World.block_lt_of_cell? _ _ (hHeld.2.2.2.2.2))).trans (hHeld.2.2.2.2.2)
                       refine ⟨_, rfl, ?_⟩
                       have n0_ := Aside0.mk (Kd.R_below (by (with_reducible repeat (first | apply Kd.R_alloc | apply Kd.R_drewN | apply Kd.R_drew)); exact HO_5.out) hb)
                       have n1_ := Aside0.mk (Kd.R_below (by (with_reducible repeat (first | apply Kd.R_alloc | apply Kd.R_drewN | apply Kd.R_drew)); exact HO_9.out) hb)
                       have n2_ := Aside0.mk (Kd.R_below (by (with_reducible repeat (first | apply Kd.R_alloc | apply Kd.R_drewN | apply Kd.R_drew)); exact HO_36.out) hb)
                       have n3_ := Aside0.mk (blk_below (g := gb214) (o := .cells #[.string a1_0, .string a1_1, .bool false, .bool false, .int .i64 a1_4] 23 (0, 0)) (by (with_reducible repeat (first | refine blk_drewN ?_ _ | refine blk_drew ?_ | refine blk_alloc ?_ _)); exact BK214.out) hb)
                       have n4_ := Aside0.mk (below_step (by repeat (first | (with_reducible first | exact HB.out | apply below_alloc | apply pw_below_drewN | apply below_drew1 | refine below_set ?_ GE214.out) | exact HB.out)) hb)
                       clear HO_5
                       clear HO_9
                       clear HO_36
                       clear BK214
                       clear HB
                       have HO_5 := n0_
                       have HO_9 := n1_
                       have HO_36 := n2_
                       have BK214 := n3_
                       have HB := n4_
                       clear n0_ n1_ n2_ n3_ n4_
                       (try clear hb)
                       (try clear hb2)
                       (try clear hk)
                       (try clear hi)
                       refine hK.out _ _ ⟨(blk_cell BK214.out 0).trans rfl, (blk_cell BK214.out 1).trans rfl, (blk_cell BK214.out 2).trans rfl, (blk_cell BK214.out 3).trans rfl, (blk_cell BK214.out 4).trans rfl, HS5_⟩ (fun hHeld => ?_)
                       clear hK K
                       refine norm_ (a' := ?_) ?_ ?_
                       rotate_left
                       ·
                        show Act.put _ (some 97) _ = _
                        simp only [Act.put, List.setIfInBounds_toArray, List.set_cons_zero, List.set_cons_succ, i64_w, i32_w]
                        rfl
                       refine pure_ (i := 11) (N := some 98) (v := ?_) (a' := ?_) #[true, true, true, true, true, true, true, true, true, true, true, true, false] rfl rfl (any_of HT_.out (by kernel_rfl)) (fun _ _ _ h => h) (Or.inl ⟨by rfl, ?_⟩) ?_ ?_
                       rotate_left
                       ·
                        intro w'
                        go_simp
                        with_reducible rfl
                       rotate_left
                       ·
                        simp only [Act.put, List.setIfInBounds_toArray, List.set_cons_zero, List.set_cons_succ, i64_w, i32_w]
                        rfl
                       refine pure_ (i := 12) (N := some 99) (v := ?_) (a' := ?_) #[true, true, true, true, true, true, true, true, true, true, true, true, true] rfl rfl (any_of HT_.out (by kernel_rfl)) (fun _ _ _ h => h) (Or.inl ⟨by rfl, ?_⟩) ?_ ?_
                       rotate_left
                       ·
                        intro w'
                        go_simp
                        with_reducible rfl
                       rotate_left
                       ·
                        simp only [Act.put, List.setIfInBounds_toArray, List.set_cons_zero, List.set_cons_succ, i64_w, i32_w]
                        rfl
                       refine done_ (done_of HT_.out (by kernel_rfl)) ?_
                       try go_wp2
                       go_ret
                       exact ⟨by first | rfl | (simp [errW_none, errW_some] <;> rfl) | (simp only [← hji34]; first | rfl | (simp [errW_none, errW_some] <;> rfl)) | (simp [*, errW_none, errW_some] <;> rfl), by repeat (first | (with_reducible first | exact HB.out | apply below_alloc | apply pw_below_drewN | apply below_drew1 | refine below_set ?_ GE214.out) | exact HB.out)⟩
                   ·
                    rw [if_neg c36] at H
                    exact absurd H (by simp)
                  ·
                   rw [if_neg c35] at H
                   exact absurd H (by simp)
                 ·
                  rw [if_neg c33] at H
                  have c33b0 : decide (0 < x11_4) = false := decide_eq_false c33
                  clear c33
                  by_cases c75 : x11_4 = 0
                  ·
                   rw [if_pos c75] at H
                   have c75b0 : (x11_4 == 0) = true := beq_iff_eq.mpr c75
                   have c75b1 : (x11_4 != 0) = false := bne_eq_false_iff_eq.mpr c75
                   clear c75
                   obtain rfl := Option.some.inj H
                   try go_wp2
                   have n0_ := Aside0.mk (Kd.R_drew HO_5.out)
                   have n1_ := Aside0.mk (Kd.R_drew HO_9.out)
                   have n2_ := Aside0.mk (Kd.R_drew HO_36.out)
                   have n3_ := Aside0.mk (blk_drew BK214.out)
                   have n4_ := Aside0.mk (below_drew1 HB.out)
                   clear HO_5
                   clear HO_9
                   clear HO_36
                   clear BK214
                   clear HB
                   have HO_5 := n0_
                   have HO_9 := n1_
                   have HO_36 := n2_
                   have BK214 := n3_
                   have HB := n4_
                   clear n0_ n1_ n2_ n3_ n4_
                   refine start_ (n := 23) (S := fun w' => True) (ds := []) #[false, false, false, false, false, false, false, false, false, false, false, false, false, false, false, false, false, false, false, false, false, false, false] (by kernel_rfl) rfl rfl trivial (fun hHeld => ?_); refine with_tabW laws_FnSentencesEnd.tab17 laws_FnSentencesEnd.bits17 (fun HT_ HW_ => ?_)
                   generalize wr.drew = w76 at HO_5 HO_9 HO_36 BK214 HB hHeld ⊢
                   refine pure_ (i := 0) (N := some 62) (v := ?_) (a' := ?_) #[true, false, false, false, false, false, false, false, false, false, false, false, false, false, false, false, false, false, false, false, false, false, false] rfl rfl (any_of HT_.out (by kernel_rfl)) (fun _ _ _ h => h) (Or.inl ⟨by rfl, ?_⟩) ?_ ?_
                   rotate_left
                   ·
                    intro w'
                    go_simp
                    with_reducible rfl
                   rotate_left
                   ·
                    simp only [Act.put, List.setIfInBounds_toArray, List.set_cons_zero, List.set_cons_succ, i64_w, i32_w]
                    rfl
                   refine pure_ (i := 1) (N := some 63) (v := ?_) (a' := ?_) #[true, true, false, false, false, false, false, false, false, false, false, false, false, false, false, false, false, false, false, false, false, false, false] rfl rfl (any_of HT_.out (by kernel_rfl)) (fun _ _ _ h => h) (Or.inl ⟨by rfl, ?_⟩) ?_ ?_
                   rotate_left
                   ·
                    intro w'
                    go_simp
                    with_reducible rfl
                   rotate_left
                   ·
                    simp only [Act.put, List.setIfInBounds_toArray, List.set_cons_zero, List.set_cons_succ, i64_w, i32_w]
                    rfl
                   refine pure_ (i := 2) (N := some 64) (v := ?_) (a' := ?_) #[true, true, true, false, false, false, false, false, false, false, false, false, false, false, false, false, false, false, false, false, false, false, false] rfl rfl (any_of HT_.out (by kernel_rfl)) (fun _ _ _ h => h) (Or.inl ⟨by rfl, ?_⟩) ?_ ?_
                   rotate_left
                   ·
                    intro w'
                    go_simp
                    with_reducible rfl
                   rotate_left
                   ·
                    simp only [Act.put, List.setIfInBounds_toArray, List.set_cons_zero, List.set_cons_succ, i64_w, i32_w]
                    rfl
                   refine pure_ (i := 3) (N := some 65) (v := undef) (a' := ?_) #[true, true, true, true, false, false, false, false, false, false, false, false, false, false, false, false, false, false, false, false, false, false, false] rfl rfl (any_of HT_.out (by kernel_rfl)) (fun _ _ _ h => h) (Or.inr ⟨by rfl, rfl⟩) ?_ ?_
                   rotate_left
                   ·
                    simp only [Act.put, List.setIfInBounds_toArray, List.set_cons_zero, List.set_cons_succ, i64_w, i32_w]
                    rfl
                   refine pure_ (i := 4) (N := some 66) (v := undef) (a' := ?_) #[true, true, true, true, true, false, false, false, false, false, false, false, false, false, false, false, false, false, false, false, false, false, false] rfl rfl (any_of HT_.out (by kernel_rfl)) (fun _ _ _ h => h) (Or.inr ⟨by rfl, rfl⟩) ?_ ?_
                   rotate_left
                   ·
                    simp only [Act.put, List.setIfInBounds_toArray, List.set_cons_zero, List.set_cons_succ, i64_w, i32_w]
                    rfl
                   refine pure_ (i := 5) (N := some 67) (v := undef) (a' := ?_) #[true, true, true, true, true, true, false, false, false, false, false, false, false, false, false, false, false, false, false, false, false, false, false] rfl rfl (any_of HT_.out (by kernel_rfl)) (fun _ _ _ h => h) (Or.inr ⟨by rfl, rfl⟩) ?_ ?_
                   rotate_left
                   ·
                    simp only [Act.put, List.setIfInBounds_toArray, List.set_cons_zero, List.set_cons_succ, i64_w, i32_w]
                    rfl
                   refine pure_ (i := 6) (N := some 68) (v := undef) (a' := ?_) #[true, true, true, true, true, true, true, false, false, false, false, false, false, false, false, false, false, false, false, false, false, false, false] rfl rfl (any_of HT_.out (by kernel_rfl)) (fun _ _ _ h => h) (Or.inr ⟨by rfl, rfl⟩) ?_ ?_
                   rotate_left
                   ·
                    simp only [Act.put, List.setIfInBounds_toArray, List.set_cons_zero, List.set_cons_succ, i64_w, i32_w]
                    rfl
                   refine pure_ (i := 7) (N := some 69) (v := undef) (a' := ?_) #[true, true, true, true, true, true, true, true, false, false, false, false, false, false, false, false, false, false, false, false, false, false, false] rfl rfl (any_of HT_.out (by kernel_rfl)) (fun _ _ _ h => h) (Or.inr ⟨by rfl, rfl⟩) ?_ ?_
                   rotate_left
                   ·
                    simp only [Act.put, List.setIfInBounds_toArray, List.set_cons_zero, List.set_cons_succ, i64_w, i32_w]
                    rfl
                   refine pure_ (i := 8) (N := some 70) (v := undef) (a' := ?_) #[true, true, true, true, true, true, true, true, true, false, false, false, false, false, false, false, false, false, false, false, false, false, false] rfl rfl (any_of HT_.out (by kernel_rfl)) (fun _ _ _ h => h) (Or.inr ⟨by rfl, rfl⟩) ?_ ?_
                   rotate_left
                   ·
                    simp only [Act.put, List.setIfInBounds_toArray, List.set_cons_zero, List.set_cons_succ, i64_w, i32_w]
                    rfl
                   refine pure_ (i := 9) (N := some 71) (v := undef) (a' := ?_) #[true, true, true, true, true, true, true, true, true, true, false, false, false, false, false, false, false, false, false, false, false, false, false] rfl rfl (any_of HT_.out (by kernel_rfl)) (fun _ _ _ h => h) (Or.inr ⟨by rfl, rfl⟩) ?_ ?_
                   rotate_left
                   ·
                    simp only [Act.put, List.setIfInBounds_toArray, List.set_cons_zero, List.set_cons_succ, i64_w, i32_w]
                    rfl
                   refine pure_ (i := 10) (N := some 72) (v := undef) (a' := ?_) #[true, true, true, true, true, true, true, true, true, true, true, false, false, false, false, false, false, false, false, false, false, false, false] rfl rfl (any_of HT_.out (by kernel_rfl)) (fun _ _ _ h => h) (Or.inr ⟨by rfl, rfl⟩) ?_ ?_
                   rotate_left
                   ·
                    simp only [Act.put, List.setIfInBounds_toArray, List.set_cons_zero, List.set_cons_succ, i64_w, i32_w]
                    rfl
                   refine pure_ (i := 11) (N := some 73) (v := ?_) (a' := ?_) #[true, true, true, true, true, true, true, true, true, true, true, true, false, false, false, false, false, false, false, false, false, false, false] rfl rfl (any_of HT_.out (by kernel_rfl)) (fun _ _ _ h => h) (Or.inl ⟨by rfl, ?_⟩) ?_ ?_
                   rotate_left
                   ·
                    intro w'
                    go_simp
                    with_reducible rfl
                   rotate_left
                   ·
                    simp only [Act.put, List.setIfInBounds_toArray, List.set_cons_zero, List.set_cons_succ, i64_w, i32_w]
                    rfl
                   refine pure_ (i := 12) (N := some 74) (v := ?_) (a' := ?_) #[true, true, true, true, true, true, true, true, true, true, true, true, true, false, false, false, false, false, false, false, false, false, false] rfl rfl (any_of HT_.out (by kernel_rfl)) (fun _ _ _ h => h) (Or.inl ⟨by rfl, ?_⟩) ?_ ?_
                   rotate_left
                   ·
                    intro w'
                    go_simp
                    with_reducible rfl
                   rotate_left
                   ·
                    simp only [Act.put, List.setIfInBounds_toArray, List.set_cons_zero, List.set_cons_succ, i64_w, i32_w]
                    rfl
                   refine pure_ (i := 13) (N := some 75) (v := undef) (a' := ?_) #[true, true, true, true, true, true, true, true, true, true, true, true, true, true, false, false, false, false, false, false, false, false, false] rfl rfl (any_of HT_.out (by kernel_rfl)) (fun _ _ _ h => h) (Or.inr ⟨by rfl, rfl⟩) ?_ ?_
                   rotate_left
                   ·
                    simp only [Act.put, List.setIfInBounds_toArray, List.set_cons_zero, List.set_cons_succ, i64_w, i32_w]
                    rfl
                   refine pure_ (i := 14) (N := some 76) (v := undef) (a' := ?_) #[true, true, true, true, true, true, true, true, true, true, true, true, true, true, true, false, false, false, false, false, false, false, false] rfl rfl (any_of HT_.out (by kernel_rfl)) (fun _ _ _ h => h) (Or.inr ⟨by rfl, rfl⟩) ?_ ?_
                   rotate_left
                   ·
                    simp only [Act.put, List.setIfInBounds_toArray, List.set_cons_zero, List.set_cons_succ, i64_w, i32_w]
                    rfl
                   refine pure_ (i := 15) (N := some 77) (v := undef) (a' := ?_) #[true, true, true, true, true, true, true, true, true, true, true, true, true, true, true, true, false, false, false, false, false, false, false] rfl rfl (any_of HT_.out (by kernel_rfl)) (fun _ _ _ h => h) (Or.inr ⟨by rfl, rfl⟩) ?_ ?_
                   rotate_left
                   ·
                    simp only [Act.put, List.setIfInBounds_toArray, List.set_cons_zero, List.set_cons_succ, i64_w, i32_w]
                    rfl
                   refine pure_ (i := 16) (N := some 78) (v := undef) (a' := ?_) #[true, true, true, true, true, true, true, true, true, true, true, true, true, true, true, true, true, false, false, false, false, false, false] rfl rfl (any_of HT_.out (by kernel_rfl)) (fun _ _ _ h => h) (Or.inr ⟨by rfl, rfl⟩) ?_ ?_
                   rotate_left
                   ·
                    simp only [Act.put, List.setIfInBounds_toArray, List.set_cons_zero, List.set_cons_succ, i64_w, i32_w]
                    rfl
                   refine pure_ (i := 17) (N := some 79) (v := undef) (a' := ?_) #[true, true, true, true, true, true, true, true, true, true, true, true, true, true, true, true, true, true, false, false, false, false, false] rfl rfl (any_of HT_.out (by kernel_rfl)) (fun _ _ _ h => h) (Or.inr ⟨by rfl, rfl⟩) ?_ ?_
                   rotate_left
                   ·
                    simp only [Act.put, List.setIfInBounds_toArray, List.set_cons_zero, List.set_cons_succ, i64_w, i32_w]
                    rfl
                   refine pure_ (i := 18) (N := some 80) (v := undef) (a' := ?_) #[true, true, true, true, true, true, true, true, true, true, true, true, true, true, true, true, true, true, true, false, false, false, false] rfl rfl (any_of HT_.out (by kernel_rfl)) (fun _ _ _ h => h) (Or.inr ⟨by rfl, rfl⟩) ?_ ?_
                   rotate_left
                   ·
                    simp only [Act.put, List.setIfInBounds_toArray, List.set_cons_zero, List.set_cons_succ, i64_w, i32_w]
                    rfl
                   refine pure_ (i := 19) (N := some 81) (v := undef) (a' := ?_) #[true, true, true, true, true, true, true, true, true, true, true, true, true, true, true, true, true, true, true, true, false, false, false] rfl rfl (any_of HT_.out (by kernel_rfl)) (fun _ _ _ h => h) (Or.inr ⟨by rfl, rfl⟩) ?_ ?_
                   rotate_left
                   ·
                    simp only [Act.put, List.setIfInBounds_toArray, List.set_cons_zero, List.set_cons_succ, i64_w, i32_w]
                    rfl
                   refine pure_ (i := 20) (N := some 82) (v := undef) (a' := ?_) #[true, true, true, true, true, true, true, true, true, true, true, true, true, true, true, true, true, true, true, true, true, false, false] rfl rfl (any_of HT_.out (by kernel_rfl)) (fun _ _ _ h => h) (Or.inr ⟨by rfl, rfl⟩) ?_ ?_
                   rotate_left
                   ·
                    simp only [Act.put, List.setIfInBounds_toArray, List.set_cons_zero, List.set_cons_succ, i64_w, i32_w]
                    rfl
                   refine pure_ (i := 21) (N := some 83) (v := undef) (a' := ?_) #[true, true, true, true, true, true, true, true, true, true, true, true, true, true, true, true, true, true, true, true, true, true, false] rfl rfl (any_of HT_.out (by kernel_rfl)) (fun _ _ _ h => h) (Or.inr ⟨by rfl, rfl⟩) ?_ ?_
                   rotate_left
                   ·
                    simp only [Act.put, List.setIfInBounds_toArray, List.set_cons_zero, List.set_cons_succ, i64_w, i32_w]
                    rfl
                   refine pure_ (i := 22) (N := some 84) (v := ?_) (a' := ?_) #[true, true, true, true, true, true, true, true, true, true, true, true, true, true, true, true, true, true, true, true, true, true, true] rfl rfl (any_of HT_.out (by kernel_rfl)) (fun _ _ _ h => h) (Or.inl ⟨by rfl, ?_⟩) ?_ ?_
                   rotate_left
                   ·
                    intro w'
                    go_simp
                    with_reducible rfl
                   rotate_left
                   ·
                    simp only [Act.put, List.setIfInBounds_toArray, List.set_cons_zero, List.set_cons_succ, i64_w, i32_w]
                    rfl
                   refine done_ (done_of HT_.out (by kernel_rfl)) ?_
                   try go_wp2
                   have n0_ := Aside0.mk (Kd.R_drew HO_5.out)
                   have n1_ := Aside0.mk (Kd.R_drew HO_9.out)
                   have n2_ := Aside0.mk (Kd.R_drew HO_36.out)
                   have n3_ := Aside0.mk (blk_drew BK214.out)
                   have n4_ := Aside0.mk (below_drew1 HB.out)
                   clear HO_5
                   clear HO_9
                   clear HO_36
                   clear BK214
                   clear HB
                   have HO_5 := n0_
                   have HO_9 := n1_
                   have HO_36 := n2_
                   have BK214 := n3_
                   have HB := n4_
                   clear n0_ n1_ n2_ n3_ n4_
                   refine start_ (n := 13) (S := fun w' => True) (ds := []) #[false, false, false, false, false, false, false, false, false, false, false, false, false] (by kernel_rfl) rfl rfl trivial (fun hHeld => ?_); refine with_tabW laws_FnSentencesEnd.tab19 laws_FnSentencesEnd.bits19 (fun HT_ HW_ => ?_)
                   generalize w76.drew = w77 at HO_5 HO_9 HO_36 BK214 HB hHeld ⊢
                   refine pure_ (i := 0) (N := some 87) (v := ?_) (a' := ?_) #[true, false, false, false, false, false, false, false, false, false, false, false, false] rfl rfl (any_of HT_.out (by kernel_rfl)) (fun _ _ _ h => h) (Or.inl ⟨by rfl, ?_⟩) ?_ ?_
                   rotate_left
                   ·
                    intro w'
                    go_simp
                    with_reducible rfl
                   rotate_left
                   ·
                    simp only [Act.put, List.setIfInBounds_toArray, List.set_cons_zero, List.set_cons_succ, i64_w, i32_w]
                    rfl
                   refine pure_ (i := 1) (N := some 88) (v := ?_) (a' := ?_) #[true, true, false, false, false, false, false, false, false, false, false, false, false] rfl rfl (any_of HT_.out (by kernel_rfl)) (fun _ _ _ h => h) (Or.inl ⟨by rfl, ?_⟩) ?_ ?_
                   rotate_left
                   ·
                    intro w'
                    go_simp
                    with_reducible rfl
                   rotate_left
                   ·
                    simp only [Act.put, List.setIfInBounds_toArray, List.set_cons_zero, List.set_cons_succ, i64_w, i32_w]
                    rfl
                   refine pure_ (i := 2) (N := some 89) (v := ?_) (a' := ?_) #[true, true, true, false, false, false, false, false, false, false, false, false, false] rfl rfl (any_of HT_.out (by kernel_rfl)) (fun _ _ _ h => h) (Or.inl ⟨by rfl, ?_⟩) ?_ ?_
                   rotate_left
                   ·
                    intro w'
                    go_simp
                    with_reducible rfl
                   rotate_left
                   ·
                    simp only [Act.put, List.setIfInBounds_toArray, List.set_cons_zero, List.set_cons_succ, i64_w, i32_w]
                    rfl
                   refine pure_ (i := 3) (N := some 90) (v := undef) (a' := ?_) #[true, true, true, true, false, false, false, false, false, false, false, false, false] rfl rfl (any_of HT_.out (by kernel_rfl)) (fun _ _ _ h => h) (Or.inr ⟨by rfl, rfl⟩) ?_ ?_
                   rotate_left
                   ·
                    simp only [Act.put, List.setIfInBounds_toArray, List.set_cons_zero, List.set_cons_succ, i64_w, i32_w]
                    rfl
                   refine pure_ (i := 4) (N := some 91) (v := undef) (a' := ?_) #[true, true, true, true, true, false, false, false, false, false, false, false, false] rfl rfl (any_of HT_.out (by kernel_rfl)) (fun _ _ _ h => h) (Or.inr ⟨by rfl, rfl⟩) ?_ ?_
                   rotate_left
                   ·
                    simp only [Act.put, List.setIfInBounds_toArray, List.set_cons_zero, List.set_cons_succ, i64_w, i32_w]
                    rfl
                   refine pure_ (i := 5) (N := some 92) (v := undef) (a' := ?_) #[true, true, true, true, true, true, false, false, false, false, false, false, false] rfl rfl (any_of HT_.out (by kernel_rfl)) (fun _ _ _ h => h) (Or.inr ⟨by rfl, rfl⟩) ?_ ?_
                   rotate_left
                   ·
                    simp only [Act.put, List.setIfInBounds_toArray, List.set_cons_zero, List.set_cons_succ, i64_w, i32_w]
                    rfl
                   refine pure_ (i := 6) (N := some 93) (v := undef) (a' := ?_) #[true, true, true, true, true, true, true, false, false, false, false, false, false] rfl rfl (any_of HT_.out (by kernel_rfl)) (fun _ _ _ h => h) (Or.inr ⟨by rfl, rfl⟩) ?_ ?_
                   rotate_left
                   ·
                    simp only [Act.put, List.setIfInBounds_toArray, List.set_cons_zero, List.set_cons_succ, i64_w, i32_w]
                    rfl
                   refine pure_ (i := 7) (N := some 94) (v := undef) (a' := ?_) #[true, true, true, true, true, true, true, true, false, false, false, false, false] rfl rfl (any_of HT_.out (by kernel_rfl)) (fun _ _ _ h => h) (Or.inr ⟨by rfl, rfl⟩) ?_ ?_
                   rotate_left
                   ·
                    simp only [Act.put, List.setIfInBounds_toArray, List.set_cons_zero, List.set_cons_succ, i64_w, i32_w]
                    rfl
                   refine pure_ (i := 8) (N := some 95) (v := undef) (a' := ?_) #[true, true, true, true, true, true, true, true, true, false, false, false, false] rfl rfl (any_of HT_.out (by kernel_rfl)) (fun _ _ _ h => h) (Or.inr ⟨by rfl, rfl⟩) ?_ ?_
                   rotate_left
                   ·
                    simp only [Act.put, List.setIfInBounds_toArray, List.set_cons_zero, List.set_cons_succ, i64_w, i32_w]
                    rfl
                   refine pure_ (i := 9) (N := some 96) (v := undef) (a' := ?_) #[true, true, true, true, true, true, true, true, true, true, false, false, false] rfl rfl (any_of HT_.out (by kernel_rfl)) (fun _ _ _ h => h) (Or.inr ⟨by rfl, rfl⟩) ?_ ?_
                   rotate_left
                   ·
                    simp only [Act.put, List.setIfInBounds_toArray, List.set_cons_zero, List.set_cons_succ, i64_w, i32_w]
                    rfl
                   refine pure_ (i := 10) (N := some 97) (v := undef) (a' := ?_) #[true, true, true, true, true, true, true, true, true, true, true, false, false] rfl rfl (any_of HT_.out (by kernel_rfl)) (fun _ _ _ h => h) (Or.inr ⟨by rfl, rfl⟩) ?_ ?_
                   rotate_left
                   ·
                    simp only [Act.put, List.setIfInBounds_toArray, List.set_cons_zero, List.set_cons_succ, i64_w, i32_w]
                    rfl
                   refine pure_ (i := 11) (N := some 98) (v := undef) (a' := ?_) #[true, true, true, true, true, true, true, true, true, true, true, true, false] rfl rfl (any_of HT_.out (by kernel_rfl)) (fun _ _ _ h => h) (Or.inr ⟨by rfl, rfl⟩) ?_ ?_
                   rotate_left
                   ·
                    simp only [Act.put, List.setIfInBounds_toArray, List.set_cons_zero, List.set_cons_succ, i64_w, i32_w]
                    rfl
                   refine pure_ (i := 12) (N := some 99) (v := ?_) (a' := ?_) #[true, true, true, true, true, true, true, true, true, true, true, true, true] rfl rfl (any_of HT_.out (by kernel_rfl)) (fun _ _ _ h => h) (Or.inl ⟨by rfl, ?_⟩) ?_ ?_
                   rotate_left
                   ·
                    intro w'
                    go_simp
                    with_reducible rfl
                   rotate_left
                   ·
                    simp only [Act.put, List.setIfInBounds_toArray, List.set_cons_zero, List.set_cons_succ, i64_w, i32_w]
                    rfl
                   refine done_ (done_of HT_.out (by kernel_rfl)) ?_
                   try go_wp2
                   go_ret
                   exact ⟨by first | rfl | (simp [errW_none, errW_some] <;> rfl) | (simp [*, errW_none, errW_some] <;> rfl), by repeat (first | (with_reducible first | exact HB.out | apply below_alloc | apply pw_below_drewN | apply below_drew1 | refine below_set ?_ GE214.out) | exact HB.out)⟩
                  ·
                   rw [if_neg c75] at H
                   have c75b0 : (x11_4 == 0) = false := beq_eq_false_iff_ne.mpr c75
                   have c75b1 : (x11_4 != 0) = true := bne_iff_ne.mpr c75
                   obtain ⟨ji78, hji78⟩ : ∃ j_ : Int, (wrap64 (x11_4 - 1)) = j_ := ⟨_, rfl⟩
                   replace H : (if 0 ≤ (ji78) then (if (ji78) < (t223.length : Int) then ((laws_has.f k4 a1_0 (rdOf ByteArray.empty t223 (ji78))).bind fun t236 => (if t236 = true then (laws_FnSentencesEnd.l0 k4 t218 t218 (t218.length : Int) (wrap64 (x38_2 + 1)) a1_0 a1_1 false false a1_4) else (some false))) else (none)) else (none)) = some r := by first | (rw [hji78] at H; exact H) | (simp only [hji78] at H ⊢; exact H)
                   have hji78w : (IntKind.i64.wrap (x11_4 - 1)) = ji78 := (i64_w _).trans hji78
                   by_cases c79 : 0 ≤ (ji78)
                   ·
                    rw [if_pos c79] at H
                    have c79b0 : decide (0 ≤ (ji78)) = true := decide_eq_true c79
                    clear c79
                    by_cases c80 : (ji78) < (t223.length : Int)
                    ·
                     rw [if_pos c80] at H
                     have c80b0 : decide ((ji78) < (t223.length : Int)) = true := decide_eq_true c80
                     clear c80
                     replace H := Option.bind_eq_some_iff.mp H
                     obtain ⟨t236, A810, H⟩ := H
                     replace H : (if t236 = true then (laws_FnSentencesEnd.l0 k4 t218 t218 (t218.length : Int) (wrap64 (x38_2 + 1)) a1_0 a1_1 false false a1_4) else (some false)) = some r := H
                     have A81 := Aside0.mk A810
                     clear A810
                     by_cases c82 : t236 = true
                     ·
                      subst c82
                      have H1 : (laws_FnSentencesEnd.l0 k4 t218 t218 (t218.length : Int) (wrap64 (x38_2 + 1)) a1_0 a1_1 false false a1_4) = some r := by rw [if_pos rfl] at H; exact H
                      clear H
                      have H := H1
                      clear H1
                      have H' := Aside0.mk H
                      clear H
                      try go_wp2
                      have n0_ := Aside0.mk (Kd.R_drew HO_5.out)
                      have n1_ := Aside0.mk (Kd.R_drew HO_9.out)
                      have n2_ := Aside0.mk (Kd.R_drew HO_36.out)
                      have n3_ := Aside0.mk (blk_drew BK214.out)
                      have n4_ := Aside0.mk (below_drew1 HB.out)
                      clear HO_5
                      clear HO_9
                      clear HO_36
                      clear BK214
                      clear HB
                      have HO_5 := n0_
                      have HO_9 := n1_
                      have HO_36 := n2_
                      have BK214 := n3_
                      have HB := n4_
                      clear n0_ n1_ n2_ n3_ n4_
                      refine start_ (n := 23) (S := fun w' => True) (ds := []) #[false, false, false, false, false, false, false, false, false, false, false, false, false, false, false, false, false, false, false, false, false, false, false] (by kernel_rfl) rfl rfl trivial (fun hHeld => ?_); refine with_tabW laws_FnSentencesEnd.tab17 laws_FnSentencesEnd.bits17 (fun HT_ HW_ => ?_)
                      generalize wr.drew = w83 at HO_5 HO_9 HO_36 BK214 HB hHeld ⊢
                      refine pure_ (i := 0) (N := some 62) (v := ?_) (a' := ?_) #[true, false, false, false, false, false, false, false, false, false, false, false, false, false, false, false, false, false, false, false, false, false, false] rfl rfl (any_of HT_.out (by kernel_rfl)) (fun _ _ _ h => h) (Or.inl ⟨by rfl, ?_⟩) ?_ ?_
                      rotate_left
                      ·
                       intro w'
                       go_simp
                       with_reducible rfl
                      rotate_left
                      ·
                       simp only [Act.put, List.setIfInBounds_toArray, List.set_cons_zero, List.set_cons_succ, i64_w, i32_w]
                       rfl
                      refine pure_ (i := 1) (N := some 63) (v := ?_) (a' := ?_) #[true, true, false, false, false, false, false, false, false, false, false, false, false, false, false, false, false, false, false, false, false, false, false] rfl rfl (any_of HT_.out (by kernel_rfl)) (fun _ _ _ h => h) (Or.inl ⟨by rfl, ?_⟩) ?_ ?_
                      rotate_left
                      ·
                       intro w'
                       go_simp
                       with_reducible rfl
                      rotate_left
                      ·
                       simp only [Act.put, List.setIfInBounds_toArray, List.set_cons_zero, List.set_cons_succ, i64_w, i32_w]
                       rfl
                      refine pure_ (i := 2) (N := some 64) (v := ?_) (a' := ?_) #[true, true, true, false, false, false, false, false, false, false, false, false, false, false, false, false, false, false, false, false, false, false, false] rfl rfl (any_of HT_.out (by kernel_rfl)) (fun _ _ _ h => h) (Or.inl ⟨by rfl, ?_⟩) ?_ ?_
                      rotate_left
                      ·
                       intro w'
                       go_simp
                       with_reducible rfl
                      rotate_left
                      ·
                       simp only [Act.put, List.setIfInBounds_toArray, List.set_cons_zero, List.set_cons_succ, i64_w, i32_w]
                       rfl
                      refine pure_ (i := 3) (N := some 65) (v := undef) (a' := ?_) #[true, true, true, true, false, false, false, false, false, false, false, false, false, false, false, false, false, false, false, false, false, false, false] rfl rfl (any_of HT_.out (by kernel_rfl)) (fun _ _ _ h => h) (Or.inr ⟨by rfl, rfl⟩) ?_ ?_
                      rotate_left
                      ·
                       simp only [Act.put, List.setIfInBounds_toArray, List.set_cons_zero, List.set_cons_succ, i64_w, i32_w]
                       rfl
                      refine pure_ (i := 4) (N := some 66) (v := undef) (a' := ?_) #[true, true, true, true, true, false, false, false, false, false, false, false, false, false, false, false, false, false, false, false, false, false, false] rfl rfl (any_of HT_.out (by kernel_rfl)) (fun _ _ _ h => h) (Or.inr ⟨by rfl, rfl⟩) ?_ ?_
                      rotate_left
                      ·
                       simp only [Act.put, List.setIfInBounds_toArray, List.set_cons_zero, List.set_cons_succ, i64_w, i32_w]
                       rfl
                      refine pure_ (i := 5) (N := some 67) (v := undef) (a' := ?_) #[true, true, true, true, true, true, false, false, false, false, false, false, false, false, false, false, false, false, false, false, false, false, false] rfl rfl (any_of HT_.out (by kernel_rfl)) (fun _ _ _ h => h) (Or.inr ⟨by rfl, rfl⟩) ?_ ?_
                      rotate_left
                      ·
                       simp only [Act.put, List.setIfInBounds_toArray, List.set_cons_zero, List.set_cons_succ, i64_w, i32_w]
                       rfl
                      refine pure_ (i := 6) (N := some 68) (v := undef) (a' := ?_) #[true, true, true, true, true, true, true, false, false, false, false, false, false, false, false, false, false, false, false, false, false, false, false] rfl rfl (any_of HT_.out (by kernel_rfl)) (fun _ _ _ h => h) (Or.inr ⟨by rfl, rfl⟩) ?_ ?_
                      rotate_left
                      ·
                       simp only [Act.put, List.setIfInBounds_toArray, List.set_cons_zero, List.set_cons_succ, i64_w, i32_w]
                       rfl
                      refine pure_ (i := 7) (N := some 69) (v := undef) (a' := ?_) #[true, true, true, true, true, true, true, true, false, false, false, false, false, false, false, false, false, false, false, false, false, false, false] rfl rfl (any_of HT_.out (by kernel_rfl)) (fun _ _ _ h => h) (Or.inr ⟨by rfl, rfl⟩) ?_ ?_
                      rotate_left
                      ·
                       simp only [Act.put, List.setIfInBounds_toArray, List.set_cons_zero, List.set_cons_succ, i64_w, i32_w]
                       rfl
                      refine pure_ (i := 8) (N := some 70) (v := undef) (a' := ?_) #[true, true, true, true, true, true, true, true, true, false, false, false, false, false, false, false, false, false, false, false, false, false, false] rfl rfl (any_of HT_.out (by kernel_rfl)) (fun _ _ _ h => h) (Or.inr ⟨by rfl, rfl⟩) ?_ ?_
                      rotate_left
                      ·
                       simp only [Act.put, List.setIfInBounds_toArray, List.set_cons_zero, List.set_cons_succ, i64_w, i32_w]
                       rfl
                      refine pure_ (i := 9) (N := some 71) (v := undef) (a' := ?_) #[true, true, true, true, true, true, true, true, true, true, false, false, false, false, false, false, false, false, false, false, false, false, false] rfl rfl (any_of HT_.out (by kernel_rfl)) (fun _ _ _ h => h) (Or.inr ⟨by rfl, rfl⟩) ?_ ?_
                      rotate_left
                      ·
                       simp only [Act.put, List.setIfInBounds_toArray, List.set_cons_zero, List.set_cons_succ, i64_w, i32_w]
                       rfl
                      refine pure_ (i := 10) (N := some 72) (v := undef) (a' := ?_) #[true, true, true, true, true, true, true, true, true, true, true, false, false, false, false, false, false, false, false, false, false, false, false] rfl rfl (any_of HT_.out (by kernel_rfl)) (fun _ _ _ h => h) (Or.inr ⟨by rfl, rfl⟩) ?_ ?_
                      rotate_left
                      ·
                       simp only [Act.put, List.setIfInBounds_toArray, List.set_cons_zero, List.set_cons_succ, i64_w, i32_w]
                       rfl
                      refine pure_ (i := 11) (N := some 73) (v := ?_) (a' := ?_) #[true, true, true, true, true, true, true, true, true, true, true, true, false, false, false, false, false, false, false, false, false, false, false] rfl rfl (any_of HT_.out (by kernel_rfl)) (fun _ _ _ h => h) (Or.inl ⟨by rfl, ?_⟩) ?_ ?_
                      rotate_left
                      ·
                       intro w'
                       go_simp
                       with_reducible rfl
                      rotate_left
                      ·
                       simp only [Act.put, List.setIfInBounds_toArray, List.set_cons_zero, List.set_cons_succ, i64_w, i32_w]
                       rfl
                      refine pure_ (i := 12) (N := some 74) (v := ?_) (a' := ?_) #[true, true, true, true, true, true, true, true, true, true, true, true, true, false, false, false, false, false, false, false, false, false, false] rfl rfl (any_of HT_.out (by kernel_rfl)) (fun _ _ _ h => h) (Or.inl ⟨by rfl, ?_⟩) ?_ ?_
                      rotate_left
                      ·
                       intro w'
                       go_simp
                       with_reducible rfl
                      rotate_left
                      ·
                       simp only [Act.put, List.setIfInBounds_toArray, List.set_cons_zero, List.set_cons_succ, i64_w, i32_w]
                       rfl
                      refine pure_ (i := 13) (N := some 75) (v := undef) (a' := ?_) #[true, true, true, true, true, true, true, true, true, true, true, true, true, true, false, false, false, false, false, false, false, false, false] rfl rfl (any_of HT_.out (by kernel_rfl)) (fun _ _ _ h => h) (Or.inr ⟨by rfl, rfl⟩) ?_ ?_
                      rotate_left
                      ·
                       simp only [Act.put, List.setIfInBounds_toArray, List.set_cons_zero, List.set_cons_succ, i64_w, i32_w]
                       rfl
                      refine pure_ (i := 14) (N := some 76) (v := undef) (a' := ?_) #[true, true, true, true, true, true, true, true, true, true, true, true, true, true, true, false, false, false, false, false, false, false, false] rfl rfl (any_of HT_.out (by kernel_rfl)) (fun _ _ _ h => h) (Or.inr ⟨by rfl, rfl⟩) ?_ ?_
                      rotate_left
                      ·
                       simp only [Act.put, List.setIfInBounds_toArray, List.set_cons_zero, List.set_cons_succ, i64_w, i32_w]
                       rfl
                      refine pure_ (i := 15) (N := some 77) (v := undef) (a' := ?_) #[true, true, true, true, true, true, true, true, true, true, true, true, true, true, true, true, false, false, false, false, false, false, false] rfl rfl (any_of HT_.out (by kernel_rfl)) (fun _ _ _ h => h) (Or.inr ⟨by rfl, rfl⟩) ?_ ?_
                      rotate_left
                      ·
                       simp only [Act.put, List.setIfInBounds_toArray, List.set_cons_zero, List.set_cons_succ, i64_w, i32_w]
                       rfl
                      refine pure_ (i := 16) (N := some 78) (v := undef) (a' := ?_) #[true, true, true, true, true, true, true, true, true, true, true, true, true, true, true, true, true, false, false, false, false, false, false] rfl rfl (any_of HT_.out (by kernel_rfl)) (fun _ _ _ h => h) (Or.inr ⟨by rfl, rfl⟩) ?_ ?_
                      rotate_left
                      ·
                       simp only [Act.put, List.setIfInBounds_toArray, List.set_cons_zero, List.set_cons_succ, i64_w, i32_w]
                       rfl
                      refine pure_ (i := 17) (N := some 79) (v := undef) (a' := ?_) #[true, true, true, true, true, true, true, true, true, true, true, true, true, true, true, true, true, true, false, false, false, false, false] rfl rfl (any_of HT_.out (by kernel_rfl)) (fun _ _ _ h => h) (Or.inr ⟨by rfl, rfl⟩) ?_ ?_
                      rotate_left
                      ·
                       simp only [Act.put, List.setIfInBounds_toArray, List.set_cons_zero, List.set_cons_succ, i64_w, i32_w]
                       rfl
                      refine pure_ (i := 18) (N := some 80) (v := undef) (a' := ?_) #[true, true, true, true, true, true, true, true, true, true, true, true, true, true, true, true, true, true, true, false, false, false, false] rfl rfl (any_of HT_.out (by kernel_rfl)) (fun _ _ _ h => h) (Or.inr ⟨by rfl, rfl⟩) ?_ ?_
                      rotate_left
                      ·
                       simp only [Act.put, List.setIfInBounds_toArray, List.set_cons_zero, List.set_cons_succ, i64_w, i32_w]
                       rfl
                      refine pure_ (i := 19) (N := some 81) (v := undef) (a' := ?_) #[true, true, true, true, true, true, true, true, true, true, true, true, true, true, true, true, true, true, true, true, false, false, false] rfl rfl (any_of HT_.out (by kernel_rfl)) (fun _ _ _ h => h) (Or.inr ⟨by rfl, rfl⟩) ?_ ?_
                      rotate_left
                      ·
                       simp only [Act.put, List.setIfInBounds_toArray, List.set_cons_zero, List.set_cons_succ, i64_w, i32_w]
                       rfl
                      refine pure_ (i := 20) (N := some 82) (v := undef) (a' := ?_) #[true, true, true, true, true, true, true, true, true, true, true, true, true, true, true, true, true, true, true, true, true, false, false] rfl rfl (any_of HT_.out (by kernel_rfl)) (fun _ _ _ h => h) (Or.inr ⟨by rfl, rfl⟩) ?_ ?_
                      rotate_left
                      ·
                       simp only [Act.put, List.setIfInBounds_toArray, List.set_cons_zero, List.set_cons_succ, i64_w, i32_w]
                       rfl
                      refine pure_ (i := 21) (N := some 83) (v := undef) (a' := ?_) #[true, true, true, true, true, true, true, true, true, true, true, true, true, true, true, true, true, true, true, true, true, true, false] rfl rfl (any_of HT_.out (by kernel_rfl)) (fun _ _ _ h => h) (Or.inr ⟨by rfl, rfl⟩) ?_ ?_
                      rotate_left
                      ·
                       simp only [Act.put, List.setIfInBounds_toArray, List.set_cons_zero, List.set_cons_succ, i64_w, i32_w]
                       rfl
                      refine pure_ (i := 22) (N := some 84) (v := ?_) (a' := ?_) #[true, true, true, true, true, true, true, true, true, true, true, true, true, true, true, true, true, true, true, true, true, true, true] rfl rfl (any_of HT_.out (by kernel_rfl)) (fun _ _ _ h => h) (Or.inl ⟨by rfl, ?_⟩) ?_ ?_
                      rotate_left
                      ·
                       intro w'
                       go_simp
                       with_reducible rfl
                      rotate_left
                      ·
                       simp only [Act.put, List.setIfInBounds_toArray, List.set_cons_zero, List.set_cons_succ, i64_w, i32_w]
                       rfl
                      refine done_ (done_of HT_.out (by kernel_rfl)) ?_
                      try go_wp2
                      have n0_ := Aside0.mk (Kd.R_drew HO_5.out)
                      have n1_ := Aside0.mk (Kd.R_drew HO_9.out)
                      have n2_ := Aside0.mk (Kd.R_drew HO_36.out)
                      have n3_ := Aside0.mk (blk_drew BK214.out)
                      have n4_ := Aside0.mk (below_drew1 HB.out)
                      clear HO_5
                      clear HO_9
                      clear HO_36
                      clear BK214
                      clear HB
                      have HO_5 := n0_
                      have HO_9 := n1_
                      have HO_36 := n2_
                      have BK214 := n3_
                      have HB := n4_
                      clear n0_ n1_ n2_ n3_ n4_
                      have p235 : 0 ≤ ((ji78) : Int) := of_decide_eq_true (by first | (with_reducible assumption) | assumption)
                      have q235 : (ji78) < (t223.length : Int) := of_decide_eq_true (by first | (with_reducible assumption) | assumption)
                      obtain ⟨ad235, e235, hx235_0⟩ := Kd.at_string (Kd.R_reads' HO_9.out).2.2 (ji78) p235 q235
                      cases e235
                      replace p235 := eq_true p235
                      replace q235 := eq_true q235
                      refine start_ (n := 13) (S := fun w' => w'.cell? ⟨gb214, 0, none⟩ = some (.string a1_0) ∧ w'.cell? ⟨gb214, 1, none⟩ = some (.string a1_1) ∧ w'.cell? ⟨gb214, 2, none⟩ = some (.bool false) ∧ w'.cell? ⟨gb214, 3, none⟩ = some (.bool false) ∧ w'.cell? ⟨gb214, 4, none⟩ = some (.int .i64 a1_4) ∧ w'.cell? (ad235.add ((ji78)).toNat) = some (.string (rdOf ByteArray.empty t223 (ji78)))) (ds := []) #[false, false, false, false, false, false, false, false, false, false, false, false, false] (by kernel_rfl) rfl rfl ⟨(blk_cell BK214.out 0).trans rfl, (blk_cell BK214.out 1).trans rfl, (blk_cell BK214.out 2).trans rfl, (blk_cell BK214.out 3).trans rfl, (blk_cell BK214.out 4).trans rfl, hx235_0⟩ (fun hHeld => ?_); refine with_tabW laws_FnSentencesEnd.tab19 laws_FnSentencesEnd.bits19 (fun HT_ HW_ => ?_)
                      generalize w83.drew = w84 at HO_5 HO_9 HO_36 BK214 HB hx235_0 hHeld ⊢
                      refine pure_ (i := 0) (N := some 87) (v := ?_) (a' := ?_) #[true, false, false, false, false, false, false, false, false, false, false, false, false] rfl rfl (any_of HT_.out (by kernel_rfl)) (fun _ _ _ h => h) (Or.inl ⟨by rfl, ?_⟩) ?_ ?_
                      rotate_left
                      ·
                       intro w'
                       go_simp
                       with_reducible rfl
                      rotate_left
                      ·
                       simp only [Act.put, List.setIfInBounds_toArray, List.set_cons_zero, List.set_cons_succ, i64_w, i32_w]
                       rfl
                      refine pure_ (i := 1) (N := some 88) (v := ?_) (a' := ?_) #[true, true, false, false, false, false, false, false, false, false, false, false, false] rfl rfl (any_of HT_.out (by kernel_rfl)) (fun _ _ _ h => h) (Or.inl ⟨by rfl, ?_⟩) ?_ ?_
                      rotate_left
                      ·
                       intro w'
                       go_simp
                       with_reducible rfl
                      rotate_left
                      ·
                       simp only [Act.put, List.setIfInBounds_toArray, List.set_cons_zero, List.set_cons_succ, i64_w, i32_w]
                       rfl
                      refine pure_ (i := 2) (N := some 89) (v := ?_) (a' := ?_) #[true, true, true, false, false, false, false, false, false, false, false, false, false] rfl rfl (any_of HT_.out (by kernel_rfl)) (fun _ _ _ h => h) (Or.inl ⟨by rfl, ?_⟩) ?_ ?_
                      rotate_left
                      ·
                       intro w'
                       go_simp
                       with_reducible rfl
                      rotate_left
                      ·
                       simp only [Act.put, List.setIfInBounds_toArray, List.set_cons_zero, List.set_cons_succ, i64_w, i32_w]
                       rfl
                      refine pure_ (i := 3) (N := some 90) (v := ?_) (a' := ?_) #[true, true, true, true, false, false, false, false, false, false, false, false, false] rfl rfl (any_of HT_.out (by kernel_rfl)) (fun _ _ _ h => h) (Or.inl ⟨by rfl, ?_⟩) ?_ ?_
                      rotate_left
                      ·
                       intro w'
                       go_simp
                       with_reducible rfl
                      rotate_left
                      ·
                       simp only [Act.put, List.setIfInBounds_toArray, List.set_cons_zero, List.set_cons_succ, i64_w, i32_w]
                       rfl
                      refine pure_ (i := 5) (N := some 92) (v := ?_) (a' := ?_) #[true, true, true, true, false, true, false, false, false, false, false, false, false] rfl rfl (any_of HT_.out (by kernel_rfl)) (fun _ _ _ h => h) (Or.inl ⟨by rfl, ?_⟩) ?_ ?_
                      rotate_left
                      ·
                       intro w'
                       go_simp
                       with_reducible rfl
                      rotate_left
                      ·
                       simp only [Act.put, List.setIfInBounds_toArray, List.set_cons_zero, List.set_cons_succ, i64_w, i32_w]
                       rfl
                      refine pure_ (i := 6) (N := some 93) (v := ?_) (a' := ?_) #[true, true, true, true, false, true, true, false, false, false, false, false, false] rfl rfl (any_of HT_.out (by kernel_rfl)) (fun _ _ _ h => h) (Or.inl ⟨by rfl, ?_⟩) ?_ ?_
                      rotate_left
                      ·
                       intro w'
                       go_simp
                       with_reducible rfl
                      rotate_left
                      ·
                       simp only [Act.put, List.setIfInBounds_toArray, List.set_cons_zero, List.set_cons_succ, i64_w, i32_w]
                       rfl
                      refine pure_ (i := 7) (N := some 94) (v := ?_) (a' := ?_) #[true, true, true, true, false, true, true, true, false, false, false, false, false] rfl rfl (any_of HT_.out (by kernel_rfl)) (fun _ _ _ h => h) (Or.inl ⟨by rfl, ?_⟩) ?_ ?_
                      rotate_left
                      ·
                       intro w'
                       go_simp
                       with_reducible rfl
                      rotate_left
                      ·
                       simp only [Act.put, List.setIfInBounds_toArray, List.set_cons_zero, List.set_cons_succ, i64_w, i32_w]
                       rfl
                      refine pure_ (i := 8) (N := some 95) (v := ?_) (a' := ?_) #[true, true, true, true, false, true, true, true, true, false, false, false, false] rfl rfl (any_of HT_.out (by kernel_rfl)) (fun _ _ _ h => h) (Or.inl ⟨by rfl, ?_⟩) ?_ ?_
                      rotate_left
                      ·
                       intro w'
                       go_simp
                       with_reducible rfl
                      rotate_left
                      ·
                       simp only [Act.put, List.setIfInBounds_toArray, List.set_cons_zero, List.set_cons_succ, i64_w, i32_w]
                       rfl
                      refine take_ (i := 4) (N := some 91) (v := ?_) (a' := ?_) #[true, true, true, true, true, true, true, true, true, false, false, false, false] rfl rfl (take_ofW HT_.out HW_.out (by kernel_rfl)) (fun _ _ _ h => h) (Or.inl ⟨by rfl, ?_⟩) hHeld ?_ ?_
                      rotate_left
                      ·
                       rintro w' ⟨s0, s1, s2, s3, s4, s5⟩
                       go_simp
                       with_reducible rfl
                      rotate_left
                      ·
                       simp only [Act.put, List.setIfInBounds_toArray, List.set_cons_zero, List.set_cons_succ, i64_w, i32_w]
                       rfl
                      refine take_ (i := 9) (N := some 96) (v := ?_) (a' := ?_) #[true, true, true, true, true, true, true, true, true, true, false, false, false] rfl rfl (take_ofW HT_.out HW_.out (by kernel_rfl)) (fun _ _ _ h => h) (Or.inl ⟨by rfl, ?_⟩) hHeld ?_ ?_
                      rotate_left
                      ·
                       rintro w' ⟨s0, s1, s2, s3, s4, s5⟩
                       go_simp
                       with_reducible rfl
                      rotate_left
                      ·
                       simp only [Act.put, List.setIfInBounds_toArray, List.set_cons_zero, List.set_cons_succ, i64_w, i32_w]
                       rfl
                      refine one_ (i := 10) (N := some 97) #[true, true, true, true, true, true, true, true, true, true, true, false, false] rfl rfl (one_of HT_.out (by kernel_rfl)) (by decide) (fun K hK => ?_)
                      refine goes_ Tryd.func21 (by kernel_rfl) rfl #[.string a1_0, .string (rdOf ByteArray.empty t223 (ji78))] (by rfl) rfl rfl (by (try simp only [List.map_toArray, List.map_cons, List.map_nil]); first | done | (simp only [hji78]; rfl) | rfl | (simp only [List.length_drop, List.length_take]; rfl)) ?_
                      with_reducible refine (laws_has.calls k4 a1_0 (rdOf ByteArray.empty t223 (ji78)) true _ A81.out).mono ?_
                      rintro e w85 ⟨rfl, hb⟩
                      have HS5_ := (hb.cell (World.block_lt_of_cell? _ _ (hHeld.2.2.2.2.2))).trans (hHeld.2.2.2.2.2)
                      refine ⟨_, rfl, ?_⟩
                      have n0_ := Aside0.mk (Kd.R_below (by (with_reducible repeat (first | apply Kd.R_alloc | apply Kd.R_drewN | apply Kd.R_drew)); exact HO_5.out) hb)
                      have n1_ := Aside0.mk (Kd.R_below (by (with_reducible repeat (first | apply Kd.R_alloc | apply Kd.R_drewN | apply Kd.R_drew)); exact HO_9.out) hb)
                      have n2_ := Aside0.mk (Kd.R_below (by (with_reducible repeat (first | apply Kd.R_alloc | apply Kd.R_drewN | apply Kd.R_drew)); exact HO_36.out) hb)
                      have n3_ := Aside0.mk (blk_below (g := gb214) (o := .cells #[.string a1_0, .string a1_1, .bool false, .bool false, .int .i64 a1_4] 23 (0, 0)) (by (with_reducible repeat (first | refine blk_drewN ?_ _ | refine blk_drew ?_ | refine blk_alloc ?_ _)); exact BK214.out) hb)
                      have n4_ := Aside0.mk (below_step (by repeat (first | (with_reducible first | exact HB.out | apply below_alloc | apply pw_below_drewN | apply below_drew1 | refine below_set ?_ GE214.out) | exact HB.out)) hb)
                      clear HO_5
                      clear HO_9
                      clear HO_36
                      clear BK214
                      clear HB
                      have HO_5 := n0_
                      have HO_9 := n1_
                      have HO_36 := n2_
                      have BK214 := n3_
                      have HB := n4_
                      clear n0_ n1_ n2_ n3_ n4_
                      (try clear hb)
                      (try clear hb2)
                      (try clear hk)
                      (try clear hi)
                      refine hK.out _ _ ⟨(blk_cell BK214.out 0).trans rfl, (blk_cell BK214.out 1).trans rfl, (blk_cell BK214.out 2).trans rfl, (blk_cell BK214.out 3).trans rfl, (blk_cell BK214.out 4).trans rfl, HS5_⟩ (fun hHeld => ?_)
                      clear hK K
                      refine norm_ (a' := ?_) ?_ ?_
                      rotate_left
                      ·
                       show Act.put _ (some 97) _ = _
                       simp only [Act.put, List.setIfInBounds_toArray, List.set_cons_zero, List.set_cons_succ, i64_w, i32_w]
                       rfl
                      refine pure_ (i := 11) (N := some 98) (v := ?_) (a' := ?_) #[true, true, true, true, true, true, true, true, true, true, true, true, false] rfl rfl (any_of HT_.out (by kernel_rfl)) (fun _ _ _ h => h) (Or.inl ⟨by rfl, ?_⟩) ?_ ?_
                      rotate_left
                      ·
                       intro w'
                       go_simp
                       with_reducible rfl
                      rotate_left
                      ·
                       simp only [Act.put, List.setIfInBounds_toArray, List.set_cons_zero, List.set_cons_succ, i64_w, i32_w]
                       rfl
                      refine pure_ (i := 12) (N := some 99) (v := ?_) (a' := ?_) #[true, true, true, true, true, true, true, true, true, true, true, true, true] rfl rfl (any_of HT_.out (by kernel_rfl)) (fun _ _ _ h => h) (Or.inl ⟨by rfl, ?_⟩) ?_ ?_
                      rotate_left
                      ·
                       intro w'
                       go_simp
                       with_reducible rfl
                      rotate_left
                      ·
                       simp only [Act.put, List.setIfInBounds_toArray, List.set_cons_zero, List.set_cons_succ, i64_w, i32_w]
                       rfl
                      refine done_ (done_of HT_.out (by kernel_rfl)) ?_
                      try go_wp2
                      go_roundg k4
                      case measure => have := HJ2.out; have := HK2.out; have := HJ25.out; have := HK4.out; omega
                      case rel => exact ⟨(wrap64 (x38_2 + 1)), (by first | rfl | (simp; done) | (simp [*]; done)), H', ⟨by have := HJ2.out; have := HK2.out; have := HJ25.out; have := HK4.out; omega⟩, ⟨by (with_reducible repeat (first | apply Kd.R_alloc | apply Kd.R_drewN | apply Kd.R_drew)); exact Kd.R_mono HO_5.out (fun _ hk => trivial)⟩, ⟨by (with_reducible repeat (first | apply Kd.R_alloc | apply Kd.R_drewN | apply Kd.R_drew)); exact Kd.R_mono HO_36.out (fun _ hk => trivial)⟩, ⟨by (with_reducible repeat (first | refine blk_drewN ?_ _ | refine blk_drew ?_ | refine blk_alloc ?_ _)); exact BK214.out⟩, ⟨by repeat (first | (with_reducible first | exact HB.out | apply below_alloc | apply pw_below_drewN | apply below_drew1 | refine below_set ?_ GE214.out) | exact HB.out)⟩⟩
                     ·
                      replace c82 := Bool.eq_false_iff.mpr c82
                      subst c82
                      have H1 : (some false) = some r := by rw [if_neg (show ¬ (false = true) by decide)] at H; exact H
                      clear H
                      have H := H1
                      clear H1
                      obtain rfl := Option.some.inj H
                      try go_wp2
                      have n0_ := Aside0.mk (Kd.R_drew HO_5.out)
                      have n1_ := Aside0.mk (Kd.R_drew HO_9.out)
                      have n2_ := Aside0.mk (Kd.R_drew HO_36.out)
                      have n3_ := Aside0.mk (blk_drew BK214.out)
                      have n4_ := Aside0.mk (below_drew1 HB.out)
                      clear HO_5
                      clear HO_9
                      clear HO_36
                      clear BK214
                      clear HB
                      have HO_5 := n0_
                      have HO_9 := n1_
                      have HO_36 := n2_
                      have BK214 := n3_
                      have HB := n4_
                      clear n0_ n1_ n2_ n3_ n4_
                      refine start_ (n := 23) (S := fun w' => True) (ds := []) #[false, false, false, false, false, false, false, false, false, false, false, false, false, false, false, false, false, false, false, false, false, false, false] (by kernel_rfl) rfl rfl trivial (fun hHeld => ?_); refine with_tabW laws_FnSentencesEnd.tab17 laws_FnSentencesEnd.bits17 (fun HT_ HW_ => ?_)
                      generalize wr.drew = w86 at HO_5 HO_9 HO_36 BK214 HB hHeld ⊢
                      refine pure_ (i := 0) (N := some 62) (v := ?_) (a' := ?_) #[true, false, false, false, false, false, false, false, false, false, false, false, false, false, false, false, false, false, false, false, false, false, false] rfl rfl (any_of HT_.out (by kernel_rfl)) (fun _ _ _ h => h) (Or.inl ⟨by rfl, ?_⟩) ?_ ?_
                      rotate_left
                      ·
                       intro w'
                       go_simp
                       with_reducible rfl
                      rotate_left
                      ·
                       simp only [Act.put, List.setIfInBounds_toArray, List.set_cons_zero, List.set_cons_succ, i64_w, i32_w]
                       rfl
                      refine pure_ (i := 1) (N := some 63) (v := ?_) (a' := ?_) #[true, true, false, false, false, false, false, false, false, false, false, false, false, false, false, false, false, false, false, false, false, false, false] rfl rfl (any_of HT_.out (by kernel_rfl)) (fun _ _ _ h => h) (Or.inl ⟨by rfl, ?_⟩) ?_ ?_
                      rotate_left
                      ·
                       intro w'
                       go_simp
                       with_reducible rfl
                      rotate_left
                      ·
                       simp only [Act.put, List.setIfInBounds_toArray, List.set_cons_zero, List.set_cons_succ, i64_w, i32_w]
                       rfl
                      refine pure_ (i := 2) (N := some 64) (v := ?_) (a' := ?_) #[true, true, true, false, false, false, false, false, false, false, false, false, false, false, false, false, false, false, false, false, false, false, false] rfl rfl (any_of HT_.out (by kernel_rfl)) (fun _ _ _ h => h) (Or.inl ⟨by rfl, ?_⟩) ?_ ?_
                      rotate_left
                      ·
                       intro w'
                       go_simp
                       with_reducible rfl
                      rotate_left
                      ·
                       simp only [Act.put, List.setIfInBounds_toArray, List.set_cons_zero, List.set_cons_succ, i64_w, i32_w]
                       rfl
                      refine pure_ (i := 3) (N := some 65) (v := undef) (a' := ?_) #[true, true, true, true, false, false, false, false, false, false, false, false, false, false, false, false, false, false, false, false, false, false, false] rfl rfl (any_of HT_.out (by kernel_rfl)) (fun _ _ _ h => h) (Or.inr ⟨by rfl, rfl⟩) ?_ ?_
                      rotate_left
                      ·
                       simp only [Act.put, List.setIfInBounds_toArray, List.set_cons_zero, List.set_cons_succ, i64_w, i32_w]
                       rfl
                      refine pure_ (i := 4) (N := some 66) (v := undef) (a' := ?_) #[true, true, true, true, true, false, false, false, false, false, false, false, false, false, false, false, false, false, false, false, false, false, false] rfl rfl (any_of HT_.out (by kernel_rfl)) (fun _ _ _ h => h) (Or.inr ⟨by rfl, rfl⟩) ?_ ?_
                      rotate_left
                      ·
                       simp only [Act.put, List.setIfInBounds_toArray, List.set_cons_zero, List.set_cons_succ, i64_w, i32_w]
                       rfl
                      refine pure_ (i := 5) (N := some 67) (v := undef) (a' := ?_) #[true, true, true, true, true, true, false, false, false, false, false, false, false, false, false, false, false, false, false, false, false, false, false] rfl rfl (any_of HT_.out (by kernel_rfl)) (fun _ _ _ h => h) (Or.inr ⟨by rfl, rfl⟩) ?_ ?_
                      rotate_left
                      ·
                       simp only [Act.put, List.setIfInBounds_toArray, List.set_cons_zero, List.set_cons_succ, i64_w, i32_w]
                       rfl
                      refine pure_ (i := 6) (N := some 68) (v := undef) (a' := ?_) #[true, true, true, true, true, true, true, false, false, false, false, false, false, false, false, false, false, false, false, false, false, false, false] rfl rfl (any_of HT_.out (by kernel_rfl)) (fun _ _ _ h => h) (Or.inr ⟨by rfl, rfl⟩) ?_ ?_
                      rotate_left
                      ·
                       simp only [Act.put, List.setIfInBounds_toArray, List.set_cons_zero, List.set_cons_succ, i64_w, i32_w]
                       rfl
                      refine pure_ (i := 7) (N := some 69) (v := undef) (a' := ?_) #[true, true, true, true, true, true, true, true, false, false, false, false, false, false, false, false, false, false, false, false, false, false, false] rfl rfl (any_of HT_.out (by kernel_rfl)) (fun _ _ _ h => h) (Or.inr ⟨by rfl, rfl⟩) ?_ ?_
                      rotate_left
                      ·
                       simp only [Act.put, List.setIfInBounds_toArray, List.set_cons_zero, List.set_cons_succ, i64_w, i32_w]
                       rfl
                      refine pure_ (i := 8) (N := some 70) (v := undef) (a' := ?_) #[true, true, true, true, true, true, true, true, true, false, false, false, false, false, false, false, false, false, false, false, false, false, false] rfl rfl (any_of HT_.out (by kernel_rfl)) (fun _ _ _ h => h) (Or.inr ⟨by rfl, rfl⟩) ?_ ?_
                      rotate_left
                      ·
                       simp only [Act.put, List.setIfInBounds_toArray, List.set_cons_zero, List.set_cons_succ, i64_w, i32_w]
                       rfl
                      refine pure_ (i := 9) (N := some 71) (v := undef) (a' := ?_) #[true, true, true, true, true, true, true, true, true, true, false, false, false, false, false, false, false, false, false, false, false, false, false] rfl rfl (any_of HT_.out (by kernel_rfl)) (fun _ _ _ h => h) (Or.inr ⟨by rfl, rfl⟩) ?_ ?_
                      rotate_left
                      ·
                       simp only [Act.put, List.setIfInBounds_toArray, List.set_cons_zero, List.set_cons_succ, i64_w, i32_w]
                       rfl
                      refine pure_ (i := 10) (N := some 72) (v := undef) (a' := ?_) #[true, true, true, true, true, true, true, true, true, true, true, false, false, false, false, false, false, false, false, false, false, false, false] rfl rfl (any_of HT_.out (by kernel_rfl)) (fun _ _ _ h => h) (Or.inr ⟨by rfl, rfl⟩) ?_ ?_
                      rotate_left
                      ·
                       simp only [Act.put, List.setIfInBounds_toArray, List.set_cons_zero, List.set_cons_succ, i64_w, i32_w]
                       rfl
                      refine pure_ (i := 11) (N := some 73) (v := ?_) (a' := ?_) #[true, true, true, true, true, true, true, true, true, true, true, true, false, false, false, false, false, false, false, false, false, false, false] rfl rfl (any_of HT_.out (by kernel_rfl)) (fun _ _ _ h => h) (Or.inl ⟨by rfl, ?_⟩) ?_ ?_
                      rotate_left
                      ·
                       intro w'
                       go_simp
                       with_reducible rfl
                      rotate_left
                      ·
                       simp only [Act.put, List.setIfInBounds_toArray, List.set_cons_zero, List.set_cons_succ, i64_w, i32_w]
                       rfl
                      refine pure_ (i := 12) (N := some 74) (v := ?_) (a' := ?_) #[true, true, true, true, true, true, true, true, true, true, true, true, true, false, false, false, false, false, false, false, false, false, false] rfl rfl (any_of HT_.out (by kernel_rfl)) (fun _ _ _ h => h) (Or.inl ⟨by rfl, ?_⟩) ?_ ?_
                      rotate_left
                      ·
                       intro w'
                       go_simp
                       with_reducible rfl
                      rotate_left
                      ·
                       simp only [Act.put, List.setIfInBounds_toArray, List.set_cons_zero, List.set_cons_succ, i64_w, i32_w]
                       rfl
                      refine pure_ (i := 13) (N := some 75) (v := undef) (a' := ?_) #[true, true, true, true, true, true, true, true, true, true, true, true, true, true, false, false, false, false, false, false, false, false, false] rfl rfl (any_of HT_.out (by kernel_rfl)) (fun _ _ _ h => h) (Or.inr ⟨by rfl, rfl⟩) ?_ ?_
                      rotate_left
                      ·
                       simp only [Act.put, List.setIfInBounds_toArray, List.set_cons_zero, List.set_cons_succ, i64_w, i32_w]
                       rfl
                      refine pure_ (i := 14) (N := some 76) (v := undef) (a' := ?_) #[true, true, true, true, true, true, true, true, true, true, true, true, true, true, true, false, false, false, false, false, false, false, false] rfl rfl (any_of HT_.out (by kernel_rfl)) (fun _ _ _ h => h) (Or.inr ⟨by rfl, rfl⟩) ?_ ?_
                      rotate_left
                      ·
                       simp only [Act.put, List.setIfInBounds_toArray, List.set_cons_zero, List.set_cons_succ, i64_w, i32_w]
                       rfl
                      refine pure_ (i := 15) (N := some 77) (v := undef) (a' := ?_) #[true, true, true, true, true, true, true, true, true, true, true, true, true, true, true, true, false, false, false, false, false, false, false] rfl rfl (any_of HT_.out (by kernel_rfl)) (fun _ _ _ h => h) (Or.inr ⟨by rfl, rfl⟩) ?_ ?_
                      rotate_left
                      ·
                       simp only [Act.put, List.setIfInBounds_toArray, List.set_cons_zero, List.set_cons_succ, i64_w, i32_w]
                       rfl
                      refine pure_ (i := 16) (N := some 78) (v := undef) (a' := ?_) #[true, true, true, true, true, true, true, true, true, true, true, true, true, true, true, true, true, false, false, false, false, false, false] rfl rfl (any_of HT_.out (by kernel_rfl)) (fun _ _ _ h => h) (Or.inr ⟨by rfl, rfl⟩) ?_ ?_
                      rotate_left
                      ·
                       simp only [Act.put, List.setIfInBounds_toArray, List.set_cons_zero, List.set_cons_succ, i64_w, i32_w]
                       rfl
                      refine pure_ (i := 17) (N := some 79) (v := undef) (a' := ?_) #[true, true, true, true, true, true, true, true, true, true, true, true, true, true, true, true, true, true, false, false, false, false, false] rfl rfl (any_of HT_.out (by kernel_rfl)) (fun _ _ _ h => h) (Or.inr ⟨by rfl, rfl⟩) ?_ ?_
                      rotate_left
                      ·
                       simp only [Act.put, List.setIfInBounds_toArray, List.set_cons_zero, List.set_cons_succ, i64_w, i32_w]
                       rfl
                      refine pure_ (i := 18) (N := some 80) (v := undef) (a' := ?_) #[true, true, true, true, true, true, true, true, true, true, true, true, true, true, true, true, true, true, true, false, false, false, false] rfl rfl (any_of HT_.out (by kernel_rfl)) (fun _ _ _ h => h) (Or.inr ⟨by rfl, rfl⟩) ?_ ?_
                      rotate_left
                      ·
                       simp only [Act.put, List.setIfInBounds_toArray, List.set_cons_zero, List.set_cons_succ, i64_w, i32_w]
                       rfl
                      refine pure_ (i := 19) (N := some 81) (v := undef) (a' := ?_) #[true, true, true, true, true, true, true, true, true, true, true, true, true, true, true, true, true, true, true, true, false, false, false] rfl rfl (any_of HT_.out (by kernel_rfl)) (fun _ _ _ h => h) (Or.inr ⟨by rfl, rfl⟩) ?_ ?_
                      rotate_left
                      ·
                       simp only [Act.put, List.setIfInBounds_toArray, List.set_cons_zero, List.set_cons_succ, i64_w, i32_w]
                       rfl
                      refine pure_ (i := 20) (N := some 82) (v := undef) (a' := ?_) #[true, true, true, true, true, true, true, true, true, true, true, true, true, true, true, true, true, true, true, true, true, false, false] rfl rfl (any_of HT_.out (by kernel_rfl)) (fun _ _ _ h => h) (Or.inr ⟨by rfl, rfl⟩) ?_ ?_
                      rotate_left
                      ·
                       simp only [Act.put, List.setIfInBounds_toArray, List.set_cons_zero, List.set_cons_succ, i64_w, i32_w]
                       rfl
                      refine pure_ (i := 21) (N := some 83) (v := undef) (a' := ?_) #[true, true, true, true, true, true, true, true, true, true, true, true, true, true, true, true, true, true, true, true, true, true, false] rfl rfl (any_of HT_.out (by kernel_rfl)) (fun _ _ _ h => h) (Or.inr ⟨by rfl, rfl⟩) ?_ ?_
                      rotate_left
                      ·
                       simp only [Act.put, List.setIfInBounds_toArray, List.set_cons_zero, List.set_cons_succ, i64_w, i32_w]
                       rfl
                      refine pure_ (i := 22) (N := some 84) (v := ?_) (a' := ?_) #[true, true, true, true, true, true, true, true, true, true, true, true, true, true, true, true, true, true, true, true, true, true, true] rfl rfl (any_of HT_.out (by kernel_rfl)) (fun _ _ _ h => h) (Or.inl ⟨by rfl, ?_⟩) ?_ ?_
                      rotate_left
                      ·
                       intro w'
                       go_simp
                       with_reducible rfl
                      rotate_left
                      ·
                       simp only [Act.put, List.setIfInBounds_toArray, List.set_cons_zero, List.set_cons_succ, i64_w, i32_w]
                       rfl
                      refine done_ (done_of HT_.out (by kernel_rfl)) ?_
                      try go_wp2
                      have n0_ := Aside0.mk (Kd.R_drew HO_5.out)
                      have n1_ := Aside0.mk (Kd.R_drew HO_9.out)
                      have n2_ := Aside0.mk (Kd.R_drew HO_36.out)
                      have n3_ := Aside0.mk (blk_drew BK214.out)
                      have n4_ := Aside0.mk (below_drew1 HB.out)
                      clear HO_5
                      clear HO_9
                      clear HO_36
                      clear BK214
                      clear HB
                      have HO_5 := n0_
                      have HO_9 := n1_
                      have HO_36 := n2_
                      have BK214 := n3_
                      have HB := n4_
                      clear n0_ n1_ n2_ n3_ n4_
                      have p235 : 0 ≤ ((ji78) : Int) := of_decide_eq_true (by first | (with_reducible assumption) | assumption)
                      have q235 : (ji78) < (t223.length : Int) := of_decide_eq_true (by first | (with_reducible assumption) | assumption)
                      obtain ⟨ad235, e235, hx235_0⟩ := Kd.at_string (Kd.R_reads' HO_9.out).2.2 (ji78) p235 q235
                      cases e235
                      replace p235 := eq_true p235
                      replace q235 := eq_true q235
                      refine start_ (n := 13) (S := fun w' => w'.cell? ⟨gb214, 0, none⟩ = some (.string a1_0) ∧ w'.cell? ⟨gb214, 1, none⟩ = some (.string a1_1) ∧ w'.cell? ⟨gb214, 2, none⟩ = some (.bool false) ∧ w'.cell? ⟨gb214, 3, none⟩ = some (.bool false) ∧ w'.cell? ⟨gb214, 4, none⟩ = some (.int .i64 a1_4) ∧ w'.cell? (ad235.add ((ji78)).toNat) = some (.string (rdOf ByteArray.empty t223 (ji78)))) (ds := []) #[false, false, false, false, false, false, false, false, false, false, false, false, false] (by kernel_rfl) rfl rfl ⟨(blk_cell BK214.out 0).trans rfl, (blk_cell BK214.out 1).trans rfl, (blk_cell BK214.out 2).trans rfl, (blk_cell BK214.out 3).trans rfl, (blk_cell BK214.out 4).trans rfl, hx235_0⟩ (fun hHeld => ?_); refine with_tabW laws_FnSentencesEnd.tab19 laws_FnSentencesEnd.bits19 (fun HT_ HW_ => ?_)
                      generalize w86.drew = w87 at HO_5 HO_9 HO_36 BK214 HB hx235_0 hHeld ⊢
                      refine pure_ (i := 0) (N := some 87) (v := ?_) (a' := ?_) #[true, false, false, false, false, false, false, false, false, false, false, false, false] rfl rfl (any_of HT_.out (by kernel_rfl)) (fun _ _ _ h => h) (Or.inl ⟨by rfl, ?_⟩) ?_ ?_
                      rotate_left
                      ·
                       intro w'
                       go_simp
                       with_reducible rfl
                      rotate_left
                      ·
                       simp only [Act.put, List.setIfInBounds_toArray, List.set_cons_zero, List.set_cons_succ, i64_w, i32_w]
                       rfl
                      refine pure_ (i := 1) (N := some 88) (v := ?_) (a' := ?_) #[true, true, false, false, false, false, false, false, false, false, false, false, false] rfl rfl (any_of HT_.out (by kernel_rfl)) (fun _ _ _ h => h) (Or.inl ⟨by rfl, ?_⟩) ?_ ?_
                      rotate_left
                      ·
                       intro w'
                       go_simp
                       with_reducible rfl
                      rotate_left
                      ·
                       simp only [Act.put, List.setIfInBounds_toArray, List.set_cons_zero, List.set_cons_succ, i64_w, i32_w]
                       rfl
                      refine pure_ (i := 2) (N := some 89) (v := ?_) (a' := ?_) #[true, true, true, false, false, false, false, false, false, false, false, false, false] rfl rfl (any_of HT_.out (by kernel_rfl)) (fun _ _ _ h => h) (Or.inl ⟨by rfl, ?_⟩) ?_ ?_
                      rotate_left
                      ·
                       intro w'
                       go_simp
                       with_reducible rfl
                      rotate_left
                      ·
                       simp only [Act.put, List.setIfInBounds_toArray, List.set_cons_zero, List.set_cons_succ, i64_w, i32_w]
                       rfl
                      refine pure_ (i := 3) (N := some 90) (v := ?_) (a' := ?_) #[true, true, true, true, false, false, false, false, false, false, false, false, false] rfl rfl (any_of HT_.out (by kernel_rfl)) (fun _ _ _ h => h) (Or.inl ⟨by rfl, ?_⟩) ?_ ?_
                      rotate_left
                      ·
                       intro w'
                       go_simp
                       with_reducible rfl
                      rotate_left
                      ·
                       simp only [Act.put, List.setIfInBounds_toArray, List.set_cons_zero, List.set_cons_succ, i64_w, i32_w]
                       rfl
                      refine pure_ (i := 5) (N := some 92) (v := ?_) (a' := ?_) #[true, true, true, true, false, true, false, false, false, false, false, false, false] rfl rfl (any_of HT_.out (by kernel_rfl)) (fun _ _ _ h => h) (Or.inl ⟨by rfl, ?_⟩) ?_ ?_
                      rotate_left
                      ·
                       intro w'
                       go_simp
                       with_reducible rfl
                      rotate_left
                      ·
                       simp only [Act.put, List.setIfInBounds_toArray, List.set_cons_zero, List.set_cons_succ, i64_w, i32_w]
                       rfl
                      refine pure_ (i := 6) (N := some 93) (v := ?_) (a' := ?_) #[true, true, true, true, false, true, true, false, false, false, false, false, false] rfl rfl (any_of HT_.out (by kernel_rfl)) (fun _ _ _ h => h) (Or.inl ⟨by rfl, ?_⟩) ?_ ?_
                      rotate_left
                      ·
                       intro w'
                       go_simp
                       with_reducible rfl
                      rotate_left
                      ·
                       simp only [Act.put, List.setIfInBounds_toArray, List.set_cons_zero, List.set_cons_succ, i64_w, i32_w]
                       rfl
                      refine pure_ (i := 7) (N := some 94) (v := ?_) (a' := ?_) #[true, true, true, true, false, true, true, true, false, false, false, false, false] rfl rfl (any_of HT_.out (by kernel_rfl)) (fun _ _ _ h => h) (Or.inl ⟨by rfl, ?_⟩) ?_ ?_
                      rotate_left
                      ·
                       intro w'
                       go_simp
                       with_reducible rfl
                      rotate_left
                      ·
                       simp only [Act.put, List.setIfInBounds_toArray, List.set_cons_zero, List.set_cons_succ, i64_w, i32_w]
                       rfl
                      refine pure_ (i := 8) (N := some 95) (v := ?_) (a' := ?_) #[true, true, true, true, false, true, true, true, true, false, false, false, false] rfl rfl (any_of HT_.out (by kernel_rfl)) (fun _ _ _ h => h) (Or.inl ⟨by rfl, ?_⟩) ?_ ?_
                      rotate_left
                      ·
                       intro w'
                       go_simp
                       with_reducible rfl
                      rotate_left
                      ·
                       simp only [Act.put, List.setIfInBounds_toArray, List.set_cons_zero, List.set_cons_succ, i64_w, i32_w]
                       rfl
                      refine take_ (i := 4) (N := some 91) (v := ?_) (a' := ?_) #[true, true, true, true, true, true, true, true, true, false, false, false, false] rfl rfl (take_ofW HT_.out HW_.out (by kernel_rfl)) (fun _ _ _ h => h) (Or.inl ⟨by rfl, ?_⟩) hHeld ?_ ?_
                      rotate_left
                      ·
                       rintro w' ⟨s0, s1, s2, s3, s4, s5⟩
                       go_simp
                       with_reducible rfl
                      rotate_left
                      ·
                       simp only [Act.put, List.setIfInBounds_toArray, List.set_cons_zero, List.set_cons_succ, i64_w, i32_w]
                       rfl
                      refine take_ (i := 9) (N := some 96) (v := ?_) (a' := ?_) #[true, true, true, true, true, true, true, true, true, true, false, false, false] rfl rfl (take_ofW HT_.out HW_.out (by kernel_rfl)) (fun _ _ _ h => h) (Or.inl ⟨by rfl, ?_⟩) hHeld ?_ ?_
                      rotate_left
                      ·
                       rintro w' ⟨s0, s1, s2, s3, s4, s5⟩
                       go_simp
                       with_reducible rfl
                      rotate_left
                      ·
                       simp only [Act.put, List.setIfInBounds_toArray, List.set_cons_zero, List.set_cons_succ, i64_w, i32_w]
                       rfl
                      refine one_ (i := 10) (N := some 97) #[true, true, true, true, true, true, true, true, true, true, true, false, false] rfl rfl (one_of HT_.out (by kernel_rfl)) (by decide) (fun K hK => ?_)
                      refine goes_ Tryd.func21 (by kernel_rfl) rfl #[.string a1_0, .string (rdOf ByteArray.empty t223 (ji78))] (by rfl) rfl rfl (by (try simp only [List.map_toArray, List.map_cons, List.map_nil]); first | done | (simp only [hji78]; rfl) | rfl | (simp only [List.length_drop, List.length_take]; rfl)) ?_
                      with_reducible refine (laws_has.calls k4 a1_0 (rdOf ByteArray.empty t223 (ji78)) false _ A81.out).mono ?_
                      rintro e w88 ⟨rfl, hb⟩
                      have HS5_ := (hb.cell (World.block_lt_of_cell? _ _ (hHeld.2.2.2.2.2))).trans (hHeld.2.2.2.2.2)
                      refine ⟨_, rfl, ?_⟩
                      have n0_ := Aside0.mk (Kd.R_below (by (with_reducible repeat (first | apply Kd.R_alloc | apply Kd.R_drewN | apply Kd.R_drew)); exact HO_5.out) hb)
                      have n1_ := Aside0.mk (Kd.R_below (by (with_reducible repeat (first | apply Kd.R_alloc | apply Kd.R_drewN | apply Kd.R_drew)); exact HO_9.out) hb)
                      have n2_ := Aside0.mk (Kd.R_below (by (with_reducible repeat (first | apply Kd.R_alloc | apply Kd.R_drewN | apply Kd.R_drew)); exact HO_36.out) hb)
                      have n3_ := Aside0.mk (blk_below (g := gb214) (o := .cells #[.string a1_0, .string a1_1, .bool false, .bool false, .int .i64 a1_4] 23 (0, 0)) (by (with_reducible repeat (first | refine blk_drewN ?_ _ | refine blk_drew ?_ | refine blk_alloc ?_ _)); exact BK214.out) hb)
                      have n4_ := Aside0.mk (below_step (by repeat (first | (with_reducible first | exact HB.out | apply below_alloc | apply pw_below_drewN | apply below_drew1 | refine below_set ?_ GE214.out) | exact HB.out)) hb)
                      clear HO_5
                      clear HO_9
                      clear HO_36
                      clear BK214
                      clear HB
                      have HO_5 := n0_
                      have HO_9 := n1_
                      have HO_36 := n2_
                      have BK214 := n3_
                      have HB := n4_
                      clear n0_ n1_ n2_ n3_ n4_
                      (try clear hb)
                      (try clear hb2)
                      (try clear hk)
                      (try clear hi)
                      refine hK.out _ _ ⟨(blk_cell BK214.out 0).trans rfl, (blk_cell BK214.out 1).trans rfl, (blk_cell BK214.out 2).trans rfl, (blk_cell BK214.out 3).trans rfl, (blk_cell BK214.out 4).trans rfl, HS5_⟩ (fun hHeld => ?_)
                      clear hK K
                      refine norm_ (a' := ?_) ?_ ?_
                      rotate_left
                      ·
                       show Act.put _ (some 97) _ = _
                       simp only [Act.put, List.setIfInBounds_toArray, List.set_cons_zero, List.set_cons_succ, i64_w, i32_w]
                       rfl
                      refine pure_ (i := 11) (N := some 98) (v := ?_) (a' := ?_) #[true, true, true, true, true, true, true, true, true, true, true, true, false] rfl rfl (any_of HT_.out (by kernel_rfl)) (fun _ _ _ h => h) (Or.inl ⟨by rfl, ?_⟩) ?_ ?_
                      rotate_left
                      ·
                       intro w'
                       go_simp
                       with_reducible rfl
                      rotate_left
                      ·
                       simp only [Act.put, List.setIfInBounds_toArray, List.set_cons_zero, List.set_cons_succ, i64_w, i32_w]
                       rfl
                      refine pure_ (i := 12) (N := some 99) (v := ?_) (a' := ?_) #[true, true, true, true, true, true, true, true, true, true, true, true, true] rfl rfl (any_of HT_.out (by kernel_rfl)) (fun _ _ _ h => h) (Or.inl ⟨by rfl, ?_⟩) ?_ ?_
                      rotate_left
                      ·
                       intro w'
                       go_simp
                       with_reducible rfl
                      rotate_left
                      ·
                       simp only [Act.put, List.setIfInBounds_toArray, List.set_cons_zero, List.set_cons_succ, i64_w, i32_w]
                       rfl
                      refine done_ (done_of HT_.out (by kernel_rfl)) ?_
                      try go_wp2
                      go_ret
                      exact ⟨by first | rfl | (simp [errW_none, errW_some] <;> rfl) | (simp only [← hji78]; first | rfl | (simp [errW_none, errW_some] <;> rfl)) | (simp [*, errW_none, errW_some] <;> rfl), by repeat (first | (with_reducible first | exact HB.out | apply below_alloc | apply pw_below_drewN | apply below_drew1 | refine below_set ?_ GE214.out) | exact HB.out)⟩
                    ·
                     rw [if_neg c80] at H
                     exact absurd H (by simp)
                   ·
                    rw [if_neg c79] at H
                    exact absurd H (by simp)
           ·
            rw [if_neg c24] at H
            exact absurd H (by simp)
          ·
           rw [if_neg c23] at H
           exact absurd H (by simp)
         ·
          rw [if_neg c22] at H
          have c22b0 : decide (x38_2 < (t218.length : Int)) = false := decide_eq_false c22
          clear c22
          obtain rfl := Option.some.inj H
          go_wp2
          go_ret
          exact ⟨by first | rfl | (simp [errW_none, errW_some] <;> rfl) | (simp [*, errW_none, errW_some] <;> rfl), by repeat (first | (with_reducible first | exact HB.out | apply below_alloc | apply pw_below_drewN | apply below_drew1 | refine below_set ?_ GE214.out) | exact HB.out)⟩
      ·
       replace c15 := Bool.eq_false_iff.mpr c15
       subst c15
       have H1 : (some false) = some r := by rw [if_neg (show ¬ (false = true) by decide)] at H; exact H
       clear H
       have H := H1
       clear H1
       obtain rfl := Option.some.inj H
       go_wp2_with (first | ((with_reducible refine gate_callee (f := 19) rfl ?_); refine goesL_ (some 20) rfl rfl Tryd.func19 (by kernel_rfl) rfl #[] rfl (by (try simp only [List.map_toArray, List.map_cons, List.map_nil]); first | done | rfl | (simp only [List.length_drop, List.length_take]; rfl)) ?_; (with_reducible refine (laws_splits.calls kj2  true _ (HT_.out _ (by repeat (first | (with_reducible first | exact HB.out | apply below_alloc | apply pw_below_drewN | apply below_drew1) | exact HB.out))) A10.out).mono ?_); rintro e w89 ⟨rfl, hb⟩; refine ⟨_, rfl, ?_⟩; have n0_ := Aside0.mk (blk_below (g := gb214) (o := .cells #[.string a1_0, .string a1_1, .bool a1_2, .bool a1_3, .int .i64 a1_4] 23 (0, 0)) (by (with_reducible repeat (first | refine blk_drewN ?_ _ | refine blk_drew ?_ | refine blk_alloc ?_ _)); exact BK214.out) hb); have n1_ := Aside0.mk (below_step (by repeat (first | (with_reducible first | exact HB.out | apply below_alloc | apply pw_below_drewN | apply below_drew1 | refine below_set ?_ GE214.out) | exact HB.out)) hb); clear BK214; clear HB; have BK214 := n0_; have HB := n1_; clear n0_ n1_; (try clear hb); (try clear hb2); (try clear hk); (try clear hi); have hcz90_0 : w89.cell? ⟨gb214, 0, none⟩ = some (.string a1_0) := (blk_cell BK214.out 0).trans rfl; have hcz90_1 : w89.cell? ⟨gb214, 1, none⟩ = some (.string a1_1) := (blk_cell BK214.out 1).trans rfl; have hcz90_2 : w89.cell? ⟨gb214, 2, none⟩ = some (.bool a1_2) := (blk_cell BK214.out 2).trans rfl; have hcz90_3 : w89.cell? ⟨gb214, 3, none⟩ = some (.bool a1_3) := (blk_cell BK214.out 3).trans rfl; have hcz90_4 : w89.cell? ⟨gb214, 4, none⟩ = some (.int .i64 a1_4) := (blk_cell BK214.out 4).trans rfl; have hfz90_0 := blk_frozen BK214.out 0; have hfz90_1 := blk_frozen BK214.out 1; have hfz90_2 := blk_frozen BK214.out 2; have hfz90_3 := blk_frozen BK214.out 3; have hfz90_4 := blk_frozen BK214.out 4) | ((with_reducible refine gate_callee (f := 10) rfl ?_); refine goesL_ (some 26) rfl rfl Tryd.func10 (by kernel_rfl) rfl #[.string a0, .agg #[.string a1_0, .string a1_1, .bool false, .bool false, .int .i64 a1_4]] rfl (by (try simp only [List.map_toArray, List.map_cons, List.map_nil]); first | done | rfl | (simp only [List.length_drop, List.length_take]; rfl)) ?_; (with_reducible refine (laws_calm.calls kj2 a0 a1_0 a1_1 false false a1_4 true _ A12.out).mono ?_); rintro e w91 ⟨rfl, hb⟩; refine ⟨_, rfl, ?_⟩; have n0_ := Aside0.mk (blk_below (g := gb214) (o := .cells #[.string a1_0, .string a1_1, .bool false, .bool false, .int .i64 a1_4] 23 (0, 0)) (by (with_reducible repeat (first | refine blk_drewN ?_ _ | refine blk_drew ?_ | refine blk_alloc ?_ _)); refine blk_put (cs := #[.string a1_0, .string a1_1, .bool false, .bool a1_3, .int .i64 a1_4]) ?_ 3 _ rfl; (with_reducible repeat (first | refine blk_drewN ?_ _ | refine blk_drew ?_ | refine blk_alloc ?_ _)); refine blk_put (cs := #[.string a1_0, .string a1_1, .bool a1_2, .bool a1_3, .int .i64 a1_4]) ?_ 2 _ rfl; (with_reducible repeat (first | refine blk_drewN ?_ _ | refine blk_drew ?_ | refine blk_alloc ?_ _)); exact BK214.out) hb); have n1_ := Aside0.mk (below_step (by repeat (first | (with_reducible first | exact HB.out | apply below_alloc | apply pw_below_drewN | apply below_drew1 | refine below_set ?_ GE214.out) | exact HB.out)) hb); clear BK214; clear HB; have BK214 := n0_; have HB := n1_; clear n0_ n1_; (try clear hb); (try clear hb2); (try clear hk); (try clear hi); have hcz92_0 : w91.cell? ⟨gb214, 0, none⟩ = some (.string a1_0) := (blk_cell BK214.out 0).trans rfl; have hcz92_1 : w91.cell? ⟨gb214, 1, none⟩ = some (.string a1_1) := (blk_cell BK214.out 1).trans rfl; have hcz92_2 : w91.cell? ⟨gb214, 2, none⟩ = some (.bool false) := (blk_cell BK214.out 2).trans rfl; have hcz92_3 : w91.cell? ⟨gb214, 3, none⟩ = some (.bool false) := (blk_cell BK214.out 3).trans rfl; have hcz92_4 : w91.cell? ⟨gb214, 4, none⟩ = some (.int .i64 a1_4) := (blk_cell BK214.out 4).trans rfl; have hfz92_0 := blk_frozen BK214.out 0; have hfz92_1 := blk_frozen BK214.out 1; have hfz92_2 := blk_frozen BK214.out 2; have hfz92_3 := blk_frozen BK214.out 3; have hfz92_4 := blk_frozen BK214.out 4) | ((with_reducible refine gate_callee (f := 20) rfl ?_); refine goesL_ (some 31) rfl rfl Tryd.func20 (by kernel_rfl) rfl #[.string a0, .agg #[.string a1_0, .string a1_1, .bool false, .bool false, .int .i64 a1_4], .slice none 0 0] rfl (by (try simp only [List.map_toArray, List.map_cons, List.map_nil]); first | done | rfl | (simp only [List.length_drop, List.length_take]; rfl)) ?_; (refine (impl_Sentences.calls a0 a1_0 a1_1 false false a1_4 none 0 ([] : List Int) t218 false _ ?side1 ?side2 (HT_.out _ (by repeat (first | (with_reducible first | exact HB.out | apply below_alloc | apply pw_below_drewN | apply below_drew1) | exact HB.out))) A14.out).mono ?_); (case side1 => exact Kd.C_nil _ _); (case side2 => exact Nat.le_refl _); rintro e w93 ⟨v219, rfl, ho0, hb⟩; refine ⟨_, rfl, ?_⟩; have n0_ := Aside0.mk (Kd.R_lower ho0 (below_size (by repeat (first | (with_reducible first | exact HB.out | apply below_alloc | apply pw_below_drewN | apply below_drew1 | refine below_set ?_ GE214.out) | exact HB.out)))); have n1_ := Aside0.mk (blk_below (g := gb214) (o := .cells #[.string a1_0, .string a1_1, .bool false, .bool false, .int .i64 a1_4] 23 (0, 0)) (by (with_reducible repeat (first | refine blk_drewN ?_ _ | refine blk_drew ?_ | refine blk_alloc ?_ _)); exact BK214.out) hb); have n2_ := Aside0.mk (below_step (by repeat (first | (with_reducible first | exact HB.out | apply below_alloc | apply pw_below_drewN | apply below_drew1 | refine below_set ?_ GE214.out) | exact HB.out)) hb); clear BK214; clear HB; have HO220 := n0_; have BK214 := n1_; have HB := n2_; clear n0_ n1_ n2_; (try clear hb); (try clear hb2); (try clear hk); (try clear hi); (try clear ho0)))
       go_ret
       exact ⟨by first | rfl | (simp [errW_none, errW_some] <;> rfl) | (simp [*, errW_none, errW_some] <;> rfl), by repeat (first | (with_reducible first | exact HB.out | apply below_alloc | apply pw_below_drewN | apply below_drew1 | refine below_set ?_ GE214.out) | exact HB.out)⟩
     ·
      replace c13 := Bool.eq_false_iff.mpr c13
      subst c13
      have H1 : (some true) = some r := by rw [if_neg (show ¬ (false = true) by decide)] at H; exact H
      clear H
      have H := H1
      clear H1
      obtain rfl := Option.some.inj H
      go_wp2_with (first | ((with_reducible refine gate_callee (f := 19) rfl ?_); refine goesL_ (some 20) rfl rfl Tryd.func19 (by kernel_rfl) rfl #[] rfl (by (try simp only [List.map_toArray, List.map_cons, List.map_nil]); first | done | rfl | (simp only [List.length_drop, List.length_take]; rfl)) ?_; (with_reducible refine (laws_splits.calls kj2  true _ (HT_.out _ (by repeat (first | (with_reducible first | exact HB.out | apply below_alloc | apply pw_below_drewN | apply below_drew1) | exact HB.out))) A10.out).mono ?_); rintro e w94 ⟨rfl, hb⟩; refine ⟨_, rfl, ?_⟩; have n0_ := Aside0.mk (blk_below (g := gb214) (o := .cells #[.string a1_0, .string a1_1, .bool a1_2, .bool a1_3, .int .i64 a1_4] 23 (0, 0)) (by (with_reducible repeat (first | refine blk_drewN ?_ _ | refine blk_drew ?_ | refine blk_alloc ?_ _)); exact BK214.out) hb); have n1_ := Aside0.mk (below_step (by repeat (first | (with_reducible first | exact HB.out | apply below_alloc | apply pw_below_drewN | apply below_drew1 | refine below_set ?_ GE214.out) | exact HB.out)) hb); clear BK214; clear HB; have BK214 := n0_; have HB := n1_; clear n0_ n1_; (try clear hb); (try clear hb2); (try clear hk); (try clear hi); have hcz95_0 : w94.cell? ⟨gb214, 0, none⟩ = some (.string a1_0) := (blk_cell BK214.out 0).trans rfl; have hcz95_1 : w94.cell? ⟨gb214, 1, none⟩ = some (.string a1_1) := (blk_cell BK214.out 1).trans rfl; have hcz95_2 : w94.cell? ⟨gb214, 2, none⟩ = some (.bool a1_2) := (blk_cell BK214.out 2).trans rfl; have hcz95_3 : w94.cell? ⟨gb214, 3, none⟩ = some (.bool a1_3) := (blk_cell BK214.out 3).trans rfl; have hcz95_4 : w94.cell? ⟨gb214, 4, none⟩ = some (.int .i64 a1_4) := (blk_cell BK214.out 4).trans rfl; have hfz95_0 := blk_frozen BK214.out 0; have hfz95_1 := blk_frozen BK214.out 1; have hfz95_2 := blk_frozen BK214.out 2; have hfz95_3 := blk_frozen BK214.out 3; have hfz95_4 := blk_frozen BK214.out 4) | ((with_reducible refine gate_callee (f := 10) rfl ?_); refine goesL_ (some 26) rfl rfl Tryd.func10 (by kernel_rfl) rfl #[.string a0, .agg #[.string a1_0, .string a1_1, .bool false, .bool false, .int .i64 a1_4]] rfl (by (try simp only [List.map_toArray, List.map_cons, List.map_nil]); first | done | rfl | (simp only [List.length_drop, List.length_take]; rfl)) ?_; (with_reducible refine (laws_calm.calls kj2 a0 a1_0 a1_1 false false a1_4 false _ A12.out).mono ?_); rintro e w96 ⟨rfl, hb⟩; refine ⟨_, rfl, ?_⟩; have n0_ := Aside0.mk (blk_below (g := gb214) (o := .cells #[.string a1_0, .string a1_1, .bool false, .bool false, .int .i64 a1_4] 23 (0, 0)) (by (with_reducible repeat (first | refine blk_drewN ?_ _ | refine blk_drew ?_ | refine blk_alloc ?_ _)); refine blk_put (cs := #[.string a1_0, .string a1_1, .bool false, .bool a1_3, .int .i64 a1_4]) ?_ 3 _ rfl; (with_reducible repeat (first | refine blk_drewN ?_ _ | refine blk_drew ?_ | refine blk_alloc ?_ _)); refine blk_put (cs := #[.string a1_0, .string a1_1, .bool a1_2, .bool a1_3, .int .i64 a1_4]) ?_ 2 _ rfl; (with_reducible repeat (first | refine blk_drewN ?_ _ | refine blk_drew ?_ | refine blk_alloc ?_ _)); exact BK214.out) hb); have n1_ := Aside0.mk (below_step (by repeat (first | (with_reducible first | exact HB.out | apply below_alloc | apply pw_below_drewN | apply below_drew1 | refine below_set ?_ GE214.out) | exact HB.out)) hb); clear BK214; clear HB; have BK214 := n0_; have HB := n1_; clear n0_ n1_; (try clear hb); (try clear hb2); (try clear hk); (try clear hi)))
      go_ret
      exact ⟨by first | rfl | (simp [errW_none, errW_some] <;> rfl) | (simp [*, errW_none, errW_some] <;> rfl), by repeat (first | (with_reducible first | exact HB.out | apply below_alloc | apply pw_below_drewN | apply below_drew1 | refine below_set ?_ GE214.out) | exact HB.out)⟩
    ·
     replace c11 := Bool.eq_false_iff.mpr c11
     subst c11
     have H1 : (some false) = some r := by rw [if_neg (show ¬ (false = true) by decide)] at H; exact H
     clear H
     have H := H1
     clear H1
     obtain rfl := Option.some.inj H
     go_wp2_with (first | ((with_reducible refine gate_callee (f := 19) rfl ?_); refine goesL_ (some 20) rfl rfl Tryd.func19 (by kernel_rfl) rfl #[] rfl (by (try simp only [List.map_toArray, List.map_cons, List.map_nil]); first | done | rfl | (simp only [List.length_drop, List.length_take]; rfl)) ?_; (with_reducible refine (laws_splits.calls kj2  false _ (HT_.out _ (by repeat (first | (with_reducible first | exact HB.out | apply below_alloc | apply pw_below_drewN | apply below_drew1) | exact HB.out))) A10.out).mono ?_); rintro e w97 ⟨rfl, hb⟩; refine ⟨_, rfl, ?_⟩; have n0_ := Aside0.mk (blk_below (g := gb214) (o := .cells #[.string a1_0, .string a1_1, .bool a1_2, .bool a1_3, .int .i64 a1_4] 23 (0, 0)) (by (with_reducible repeat (first | refine blk_drewN ?_ _ | refine blk_drew ?_ | refine blk_alloc ?_ _)); exact BK214.out) hb); have n1_ := Aside0.mk (below_step (by repeat (first | (with_reducible first | exact HB.out | apply below_alloc | apply pw_below_drewN | apply below_drew1 | refine below_set ?_ GE214.out) | exact HB.out)) hb); clear BK214; clear HB; have BK214 := n0_; have HB := n1_; clear n0_ n1_; (try clear hb); (try clear hb2); (try clear hk); (try clear hi)))
     go_ret
     exact ⟨by first | rfl | (simp [errW_none, errW_some] <;> rfl) | (simp [*, errW_none, errW_some] <;> rfl), by repeat (first | (with_reducible first | exact HB.out | apply below_alloc | apply pw_below_drewN | apply below_drew1 | refine below_set ?_ GE214.out) | exact HB.out)⟩

end Go.Proofs.YtpjnebmcbeblkaaDoor.P
