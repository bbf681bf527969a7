-- PRINTED by print.py (a twelfth state) out of the translation. Not trusted: Lean checks it.
import Derived.Test.YtddcjmdcpkmnjaaP0
import Derived.Test.YtddcjmdcpkmnjaaP9
import Derived.Test.YtddcjmdcpkmnjaaP10
import Derived.Test.YtddcjmdcpkmnjaaP11
import Derived.Test.YtddcjmdcpkmnjaaP12
import Derived.Test.YtddcjmdcpkmnjaaP15
import Derived.Test.YtddcjmdcpkmnjaaP17
import Derived.Test.YtddcjmdcpkmnjaaP18
import Derived.Test.YtddcjmdcpkmnjaaETrB
namespace Go.Proofs.Ytddcjmdcpkmnjaa.P
open Go.RowKit Go.Proofs.YtddcjmdcpkmnjaaW.PrintWords Go.Proofs.YtddcjmdcpkmnjaaW.PrintLast Go.Proofs.YtddcjmdcpkmnjaaW.PrintMore
attribute [local go_sem] max2_int min2_int max_two min_two max_three min_three max_four min_four   -- for this text's walks alone
set_option linter.unusedVariables false
set_option linter.unusedSimpArgs false

/-! ### laws_FnPrefixesCut: function 5 -/
mutual
def laws_FnPrefixesCut.j0 : Nat → List ByteArray → ByteArray → Int → Bool → Option (Bool)
  | 0, _, _, _, _ => none
  | k + 1, x0, x1, x2, x23 => if x23 = true then (some true) else ((laws_finds.f).bind fun t313 => (if t313 = true then ((laws_fair.f k x0 ([] : List Int)).bind fun t314 => (if t314 = true then ((laws_clean.f k 80 (([x1] : List ByteArray))).bind fun t318 => (if t318 = true then (if x2 < 0 then (laws_FnPrefixesCut.j1 k x0 x1 x2 true) else (laws_FnPrefixesCut.j1 k x0 x1 x2 (decide (x2 > (x1.size : Int))))) else (laws_FnPrefixesCut.j1 k x0 x1 x2 true))) else (laws_FnPrefixesCut.j1 k x0 x1 x2 true))) else (some false)))
def laws_FnPrefixesCut.j1 : Nat → List ByteArray → ByteArray → Int → Bool → Option (Bool)
  | 0, _, _, _, _ => none
  | k + 1, x0, x1, x2, x44 => if x44 = true then (some true) else (if 0 ≤ x2 then (if x2 ≤ (x1.size : Int) then ((laws_signs.f k (x1.extract 0 (x2 : Int).toNat)).bind fun bt319 => (if bt319.2 = true then ((laws_numbered.f k (x0.length : Int)).bind fun t323 => ((impl_TriePrefixes.f x0 t323 x1).bind fun bt326 => ((laws_numbered.f k (x0.length : Int)).bind fun t333 => ((impl_TriePrefixes.f x0 t333 (x1.extract 0 (x2 : Int).toNat)).bind fun bt336 => (laws_FnPrefixesCut.l0 k x2 bt326.1 bt326.2.1 bt326.2.2 bt336.1 bt336.2.1 bt336.2.2 0))))) else (some true))) else (none)) else (none))
def laws_FnPrefixesCut.l0 : Nat → Int → List Int → List Int → Bool → List Int → List Int → Bool → Int → Option (Bool)
  | 0, _, _, _, _, _, _, _, _ => none
  | k + 1, x2, x9, x10, x11, x12, x13, x14, x15 => if x15 < (x10.length : Int) then (if 0 ≤ x15 then (if (rd x10 x15) ≤ x2 then (laws_FnPrefixesCut.l0 k x2 x9 x10 x11 x12 x13 x14 (wrap64 (x15 + 1))) else (if x11 = true then (if x14 = true then (if x15 ≤ (x9.length : Int) then ((laws_sameInts.f k x12 (x9.take (x15 : Int).toNat)).bind fun t348 => (if t348 = true then (if x15 ≤ (x10.length : Int) then ((laws_sameInts.f k x13 (x10.take (x15 : Int).toNat)).bind fun t353 => (some t353)) else (none)) else (some false))) else (some false)) else (some false)) else (some false))) else (none)) else (if x11 = true then (if x14 = true then (if x15 ≤ (x9.length : Int) then (if 0 ≤ x15 then ((laws_sameInts.f k x12 (x9.take (x15 : Int).toNat)).bind fun t358 => (if t358 = true then (if x15 ≤ (x10.length : Int) then ((laws_sameInts.f k x13 (x10.take (x15 : Int).toNat)).bind fun t363 => (some t363)) else (none)) else (some false))) else (none)) else (some false)) else (some false)) else (some false))
end
def laws_FnPrefixesCut.f (k : Nat) (l0 : List ByteArray) (a1 : ByteArray) (a2 : Int) : Option (Bool) := (laws_zzFits4.f k l0).bind fun t312 => (if t312 = true then (laws_FnPrefixesCut.j0 k l0 a1 a2 (decide ((a1.size : Int) > 2147483647))) else (laws_FnPrefixesCut.j0 k l0 a1 a2 true))
theorem laws_FnPrefixesCut.mono_l : ∀ k, (∀ y0 y1 y2 y3, LeO (laws_FnPrefixesCut.j0 k y0 y1 y2 y3) (laws_FnPrefixesCut.j0 (k + 1) y0 y1 y2 y3)) ∧ (∀ y0 y1 y2 y3, LeO (laws_FnPrefixesCut.j1 k y0 y1 y2 y3) (laws_FnPrefixesCut.j1 (k + 1) y0 y1 y2 y3)) ∧ (∀ y0 y1 y2 y3 y4 y5 y6 y7, LeO (laws_FnPrefixesCut.l0 k y0 y1 y2 y3 y4 y5 y6 y7) (laws_FnPrefixesCut.l0 (k + 1) y0 y1 y2 y3 y4 y5 y6 y7))
  | 0 => ⟨fun _ _ _ _ r h => by simp [laws_FnPrefixesCut.j0] at h, fun _ _ _ _ r h => by simp [laws_FnPrefixesCut.j1] at h, fun _ _ _ _ _ _ _ _ r h => by simp [laws_FnPrefixesCut.l0] at h⟩
  | k + 1 => by
    obtain ⟨ih0, ih1, ih2⟩ := laws_FnPrefixesCut.mono_l k
    refine ⟨?_, ?_, ?_⟩
    · intro y0 y1 y2 y3
      unfold laws_FnPrefixesCut.j0
      repeat' first
      | (with_reducible exact ih0 _ _ _ _)
      | (with_reducible exact ih1 _ _ _ _)
      | (with_reducible exact ih2 _ _ _ _ _ _ _ _)
      | (with_reducible exact laws_clean.mono _ _ _)
      | (with_reducible exact laws_fair.mono _ _ _)
      | (with_reducible exact laws_numbered.mono _ _)
      | (with_reducible exact laws_sameInts.mono _ _ _)
      | (with_reducible exact laws_signs.mono _ _)
      | (with_reducible exact laws_zzFits4.mono _ _)
      | (with_reducible exact LeO.refl _)
      | (with_reducible exact LeO.none _)
      | (with_reducible refine LeO.ite ?_ ?_)
      | (with_reducible refine LeO.bind ?_ (fun _ => ?_))
      | exact ih0 _ _ _ _
      | exact ih1 _ _ _ _
      | exact ih2 _ _ _ _ _ _ _ _
      | exact laws_clean.mono _ _ _
      | exact laws_fair.mono _ _ _
      | exact laws_numbered.mono _ _
      | exact laws_sameInts.mono _ _ _
      | exact laws_signs.mono _ _
      | exact laws_zzFits4.mono _ _
      | exact LeO.none _
      | refine LeO.ite ?_ ?_
      | refine LeO.bind ?_ (fun _ => ?_)
    · intro y0 y1 y2 y3
      unfold laws_FnPrefixesCut.j1
      repeat' first
      | (with_reducible exact ih0 _ _ _ _)
      | (with_reducible exact ih1 _ _ _ _)
      | (with_reducible exact ih2 _ _ _ _ _ _ _ _)
      | (with_reducible exact laws_clean.mono _ _ _)
      | (with_reducible exact laws_fair.mono _ _ _)
      | (with_reducible exact laws_numbered.mono _ _)
      | (with_reducible exact laws_sameInts.mono _ _ _)
      | (with_reducible exact laws_signs.mono _ _)
      | (with_reducible exact laws_zzFits4.mono _ _)
      | (with_reducible exact LeO.refl _)
      | (with_reducible exact LeO.none _)
      | (with_reducible refine LeO.ite ?_ ?_)
      | (with_reducible refine LeO.bind ?_ (fun _ => ?_))
      | exact ih0 _ _ _ _
      | exact ih1 _ _ _ _
      | exact ih2 _ _ _ _ _ _ _ _
      | exact laws_clean.mono _ _ _
      | exact laws_fair.mono _ _ _
      | exact laws_numbered.mono _ _
      | exact laws_sameInts.mono _ _ _
      | exact laws_signs.mono _ _
      | exact laws_zzFits4.mono _ _
      | exact LeO.none _
      | refine LeO.ite ?_ ?_
      | refine LeO.bind ?_ (fun _ => ?_)
    · intro y0 y1 y2 y3 y4 y5 y6 y7
      unfold laws_FnPrefixesCut.l0
      repeat' first
      | (with_reducible exact ih0 _ _ _ _)
      | (with_reducible exact ih1 _ _ _ _)
      | (with_reducible exact ih2 _ _ _ _ _ _ _ _)
      | (with_reducible exact laws_clean.mono _ _ _)
      | (with_reducible exact laws_fair.mono _ _ _)
      | (with_reducible exact laws_numbered.mono _ _)
      | (with_reducible exact laws_sameInts.mono _ _ _)
      | (with_reducible exact laws_signs.mono _ _)
      | (with_reducible exact laws_zzFits4.mono _ _)
      | (with_reducible exact LeO.refl _)
      | (with_reducible exact LeO.none _)
      | (with_reducible refine LeO.ite ?_ ?_)
      | (with_reducible refine LeO.bind ?_ (fun _ => ?_))
      | exact ih0 _ _ _ _
      | exact ih1 _ _ _ _
      | exact ih2 _ _ _ _ _ _ _ _
      | exact laws_clean.mono _ _ _
      | exact laws_fair.mono _ _ _
      | exact laws_numbered.mono _ _
      | exact laws_sameInts.mono _ _ _
      | exact laws_signs.mono _ _
      | exact laws_zzFits4.mono _ _
      | exact LeO.none _
      | refine LeO.ite ?_ ?_
      | refine LeO.bind ?_ (fun _ => ?_)
theorem laws_FnPrefixesCut.mono : ∀ a0 a1 a2 k, LeO (laws_FnPrefixesCut.f k a0 a1 a2) (laws_FnPrefixesCut.f (k + 1) a0 a1 a2) := by
  intro a0 a1 a2 k
  obtain ⟨ih0, ih1, ih2⟩ := laws_FnPrefixesCut.mono_l k
  unfold laws_FnPrefixesCut.f
  repeat' first
      | (with_reducible exact ih0 _ _ _ _)
      | (with_reducible exact ih1 _ _ _ _)
      | (with_reducible exact ih2 _ _ _ _ _ _ _ _)
      | (with_reducible exact laws_clean.mono _ _ _)
      | (with_reducible exact laws_fair.mono _ _ _)
      | (with_reducible exact laws_numbered.mono _ _)
      | (with_reducible exact laws_sameInts.mono _ _ _)
      | (with_reducible exact laws_signs.mono _ _)
      | (with_reducible exact laws_zzFits4.mono _ _)
      | (with_reducible exact LeO.refl _)
      | (with_reducible exact LeO.none _)
      | (with_reducible refine LeO.ite ?_ ?_)
      | (with_reducible refine LeO.bind ?_ (fun _ => ?_))
      | exact ih0 _ _ _ _
      | exact ih1 _ _ _ _
      | exact ih2 _ _ _ _ _ _ _ _
      | exact laws_clean.mono _ _ _
      | exact laws_fair.mono _ _ _
      | exact laws_numbered.mono _ _
      | exact laws_sameInts.mono _ _ _
      | exact laws_signs.mono _ _
      | exact laws_zzFits4.mono _ _
      | exact LeO.none _
      | refine LeO.ite ?_ ?_
      | refine LeO.bind ?_ (fun _ => ?_)
def laws_FnPrefixesCut.T11 : Bool × List (List Nat × List Nat) := (true, [([], []), ([], []), ([1], [1]), ([2], [2]), ([], []), ([], []), ([4, 5], [4, 5]), ([0, 3, 6, 3], [0, 3, 6]), ([7], [7]), ([8], [8]), ([8], [8]), ([8], [8]), ([9, 7, 0, 1, 2, 3, 4, 5, 6, 7, 8, 9], [9]), ([10, 12, 0, 1, 2, 3, 4, 5, 6, 7, 8, 9, 10, 12], [10]), ([11, 13, 0, 1, 2, 3, 4, 5, 6, 7, 8, 9, 10, 11, 12, 13], [11])])
def laws_FnPrefixesCut.B11 : List Nat := [0, 0, 2, 6, 0, 0, 48, 127, 255, 511, 511, 511, 1023, 6143, 16383]
theorem laws_FnPrefixesCut.tab11 : rtab .any (opsOf Try.f5 11) = laws_FnPrefixesCut.T11 := by kernel_rfl
theorem laws_FnPrefixesCut.bits11 : waitsOk laws_FnPrefixesCut.T11.2 laws_FnPrefixesCut.B11 = true := by kernel_rfl
set_option maxHeartbeats 8000000 in
set_option maxRecDepth 100000 in
theorem laws_FnPrefixesCut.calls (k : Nat) (A0 : Option Addr) (c0 : Nat) (l0 : List ByteArray) (a1 : ByteArray) (a2 : Int) (r : Bool) (w : World) (hr0 : Kd.C Kd.string w A0 l0.length l0) (hc0 : l0.length ≤ c0) (h : laws_FnPrefixesCut.f k l0 a1 a2 = some r) :
    Calls Try.prog 5 #[.slice A0 l0.length c0, .string a1, .int .i64 a2] w fun e w' => e = .returned (.bool r) ∧ Below w.heap.size w w' := by
  have HR0 := Aside0.mk hr0
  have HC0 := Aside0.mk hc0
  clear hr0 hc0
  have HB := Aside0.mk (Below.refl w.heap.size w)
  have H : ((laws_zzFits4.f k l0).bind fun t312 => (if t312 = true then (laws_FnPrefixesCut.j0 k l0 a1 a2 (decide ((a1.size : Int) > 2147483647))) else (laws_FnPrefixesCut.j0 k l0 a1 a2 true))) = some r := h
  clear h
  have HC4 := Aside0.mk H
  clear H
  go_enter Try.func5, Try.ntmps5
  go_upto_region 1 with (fail)
  go_cut [23] (fun v23 wc => ∃ (kq : Nat) (x23_3 : Bool), v23 = .bool x23_3 ∧ Aside0 (laws_FnPrefixesCut.j0 kq l0 a1 a2 x23_3 = some r) ∧ Aside0 (kq ≤ k) ∧ Aside0 (Below w.heap.size w wc))
  case first =>
    have H := HC4.out
    clear HC4
    replace H := Option.bind_eq_some_iff.mp H
    obtain ⟨t312, A50, H⟩ := H
    replace H : (if t312 = true then (laws_FnPrefixesCut.j0 k l0 a1 a2 (decide ((a1.size : Int) > 2147483647))) else (laws_FnPrefixesCut.j0 k l0 a1 a2 true)) = some r := H
    have A5 := Aside0.mk A50
    clear A50
    by_cases c6 : t312 = true
    · subst c6
      have H1 : (laws_FnPrefixesCut.j0 k l0 a1 a2 (decide ((a1.size : Int) > 2147483647))) = some r := by rw [if_pos rfl] at H; exact H
      clear H
      have H := H1
      clear H1
      have H' := Aside0.mk H
      clear H
      go_wp2_with (first | ((with_reducible refine gate_callee (f := 9) rfl ?_); refine goesL_ (some 17) rfl rfl Try.func9 (by kernel_rfl) rfl #[.slice A0 l0.length c0] rfl (by (try simp only [List.map_toArray, List.map_cons, List.map_nil]); first | done | rfl | (simp only [List.length_drop, List.length_take]; rfl)) ?_; (with_reducible refine (laws_zzFits4.calls k _ _ l0 true _ ?side1 ?side2 A5.out).mono ?_); (case side1 => repeat (first | exact (Kd.C_below HR0.out HB.out) | (with_reducible refine Kd.C_alloc ?_ _) | (with_reducible refine Kd.C_drewN ?_ _) | (with_reducible refine Kd.C_drew ?_))); (case side2 => exact HC0.out); rintro e w' ⟨rfl, ⟨nd, rfl⟩⟩; refine ⟨_, rfl, ?_⟩))
      go_meet
      case rel => exact ⟨_, (decide ((a1.size : Int) > 2147483647)), (by first | rfl | (simp; done) | (simp [*]; done)), H', ⟨by first | omega | exact Nat.le_refl _⟩, ⟨by repeat (first | (with_reducible first | exact HB.out | apply below_alloc | apply pw_below_drewN | apply below_drew1) | exact HB.out)⟩⟩
    · replace c6 := Bool.eq_false_iff.mpr c6
      subst c6
      have H1 : (laws_FnPrefixesCut.j0 k l0 a1 a2 true) = some r := by rw [if_neg (show ¬ (false = true) by decide)] at H; exact H
      clear H
      have H := H1
      clear H1
      have H' := Aside0.mk H
      clear H
      go_wp2_with (first | ((with_reducible refine gate_callee (f := 9) rfl ?_); refine goesL_ (some 17) rfl rfl Try.func9 (by kernel_rfl) rfl #[.slice A0 l0.length c0] rfl (by (try simp only [List.map_toArray, List.map_cons, List.map_nil]); first | done | rfl | (simp only [List.length_drop, List.length_take]; rfl)) ?_; (with_reducible refine (laws_zzFits4.calls k _ _ l0 false _ ?side1 ?side2 A5.out).mono ?_); (case side1 => repeat (first | exact (Kd.C_below HR0.out HB.out) | (with_reducible refine Kd.C_alloc ?_ _) | (with_reducible refine Kd.C_drewN ?_ _) | (with_reducible refine Kd.C_drew ?_))); (case side2 => exact HC0.out); rintro e w' ⟨rfl, ⟨nd, rfl⟩⟩; refine ⟨_, rfl, ?_⟩))
      go_meet
      case rel => exact ⟨_, (true), (by first | rfl | (simp; done) | (simp [*]; done)), H', ⟨by first | omega | exact Nat.le_refl _⟩, ⟨by repeat (first | (with_reducible first | exact HB.out | apply below_alloc | apply pw_below_drewN | apply below_drew1) | exact HB.out)⟩⟩
  case rest =>
    clear HC4
    try clear p2
    try clear c5
    try clear c6
    obtain ⟨kq, x23_3, rfl, HA, HJ3, HB⟩ := hcut
    cases kq with
    | zero => exact absurd HA.out (by simp [laws_FnPrefixesCut.j0])
    | succ kj3 =>
      have H := HA.out
      clear HA
      simp only [laws_FnPrefixesCut.j0] at H
      by_cases c7 : x23_3 = true
      · subst c7
        have H1 : (some true) = some r := by rw [if_pos rfl] at H; exact H
        clear H
        have H := H1
        clear H1
        obtain rfl := Option.some.inj H
        go_wp2
        go_ret
        exact ⟨by first | rfl | (simp [errW_none, errW_some] <;> rfl) | (simp [*, errW_none, errW_some] <;> rfl), by repeat (first | (with_reducible first | exact HB.out | apply below_alloc | apply pw_below_drewN | apply below_drew1) | exact HB.out)⟩
      · replace c7 := Bool.eq_false_iff.mpr c7
        subst c7
        have H1 : ((laws_finds.f).bind fun t313 => (if t313 = true then ((laws_fair.f kj3 l0 ([] : List Int)).bind fun t314 => (if t314 = true then ((laws_clean.f kj3 80 (([a1] : List ByteArray))).bind fun t318 => (if t318 = true then (if a2 < 0 then (laws_FnPrefixesCut.j1 kj3 l0 a1 a2 true) else (laws_FnPrefixesCut.j1 kj3 l0 a1 a2 (decide (a2 > (a1.size : Int))))) else (laws_FnPrefixesCut.j1 kj3 l0 a1 a2 true))) else (laws_FnPrefixesCut.j1 kj3 l0 a1 a2 true))) else (some false))) = some r := by rw [if_neg (show ¬ (false = true) by decide)] at H; exact H
        clear H
        have H := H1
        clear H1
        replace H := Option.bind_eq_some_iff.mp H
        obtain ⟨t313, A80, H⟩ := H
        replace H : (if t313 = true then ((laws_fair.f kj3 l0 ([] : List Int)).bind fun t314 => (if t314 = true then ((laws_clean.f kj3 80 (([a1] : List ByteArray))).bind fun t318 => (if t318 = true then (if a2 < 0 then (laws_FnPrefixesCut.j1 kj3 l0 a1 a2 true) else (laws_FnPrefixesCut.j1 kj3 l0 a1 a2 (decide (a2 > (a1.size : Int))))) else (laws_FnPrefixesCut.j1 kj3 l0 a1 a2 true))) else (laws_FnPrefixesCut.j1 kj3 l0 a1 a2 true))) else (some false)) = some r := H
        have A8 := Aside0.mk A80
        clear A80
        by_cases c9 : t313 = true
        · subst c9
          have H1 : ((laws_fair.f kj3 l0 ([] : List Int)).bind fun t314 => (if t314 = true then ((laws_clean.f kj3 80 (([a1] : List ByteArray))).bind fun t318 => (if t318 = true then (if a2 < 0 then (laws_FnPrefixesCut.j1 kj3 l0 a1 a2 true) else (laws_FnPrefixesCut.j1 kj3 l0 a1 a2 (decide (a2 > (a1.size : Int))))) else (laws_FnPrefixesCut.j1 kj3 l0 a1 a2 true))) else (laws_FnPrefixesCut.j1 kj3 l0 a1 a2 true))) = some r := by rw [if_pos rfl] at H; exact H
          clear H
          have H := H1
          clear H1
          have HC10 := Aside0.mk H
          clear H
          go_upto_region 5 with (first | ((with_reducible refine gate_callee (f := 10) rfl ?_); refine goesL_ (some 24) rfl rfl Try.func10 (by kernel_rfl) rfl #[] rfl (by (try simp only [List.map_toArray, List.map_cons, List.map_nil]); first | done | rfl | (simp only [List.length_drop, List.length_take]; rfl)) ?_; (with_reducible refine (laws_finds.calls  true _ A8.out).mono ?_); rintro e w11 ⟨rfl, hb⟩; refine ⟨_, rfl, ?_⟩; have n0_ := Aside0.mk (below_step (by repeat (first | (with_reducible first | exact HB.out | apply below_alloc | apply pw_below_drewN | apply below_drew1) | exact HB.out)) hb); clear HB; have HB := n0_; clear n0_; (try clear hb); (try clear hb2); (try clear hk); (try clear hi)))
          (try simp only [Act.put, List.setIfInBounds_toArray, List.set_cons_zero, List.set_cons_succ])
          go_cut [44] (fun v44 wc => ∃ (kq : Nat) (x44_9 : Bool), v44 = .bool x44_9 ∧ Aside0 (laws_FnPrefixesCut.j1 kq l0 a1 a2 x44_9 = some r) ∧ Aside0 (kq ≤ kj3) ∧ Aside0 (Below w.heap.size w wc))
          case first =>
            have H := HC10.out
            clear HC10
            replace H := Option.bind_eq_some_iff.mp H
            obtain ⟨t314, A120, H⟩ := H
            replace H : (if t314 = true then ((laws_clean.f kj3 80 (([a1] : List ByteArray))).bind fun t318 => (if t318 = true then (if a2 < 0 then (laws_FnPrefixesCut.j1 kj3 l0 a1 a2 true) else (laws_FnPrefixesCut.j1 kj3 l0 a1 a2 (decide (a2 > (a1.size : Int))))) else (laws_FnPrefixesCut.j1 kj3 l0 a1 a2 true))) else (laws_FnPrefixesCut.j1 kj3 l0 a1 a2 true)) = some r := H
            have A12 := Aside0.mk A120
            clear A120
            by_cases c13 : t314 = true
            · subst c13
              have H1 : ((laws_clean.f kj3 80 (([a1] : List ByteArray))).bind fun t318 => (if t318 = true then (if a2 < 0 then (laws_FnPrefixesCut.j1 kj3 l0 a1 a2 true) else (laws_FnPrefixesCut.j1 kj3 l0 a1 a2 (decide (a2 > (a1.size : Int))))) else (laws_FnPrefixesCut.j1 kj3 l0 a1 a2 true))) = some r := by rw [if_pos rfl] at H; exact H
              clear H
              have H := H1
              clear H1
              obtain ⟨y315, hy315⟩ : ∃ y_ : List ByteArray, y_ = (([a1] : List ByteArray)) := ⟨_, rfl⟩
              replace H : ((laws_clean.f kj3 80 y315).bind fun t318 => (if t318 = true then (if a2 < 0 then (laws_FnPrefixesCut.j1 kj3 l0 a1 a2 true) else (laws_FnPrefixesCut.j1 kj3 l0 a1 a2 (decide (a2 > (a1.size : Int))))) else (laws_FnPrefixesCut.j1 kj3 l0 a1 a2 true))) = some r := by first | (rw [hy315]; with_reducible exact H) | (have H2_ := (Option.bind_some _ _).symm.trans H; rw [hy315]; with_reducible exact H2_) | (have H2_ := (Option.bind_some _ _).symm.trans H; with_reducible exact H2_) | with_reducible exact H | (rw [hy315]; exact H) | exact H
              have Ny315 := Aside0.mk hy315
              clear hy315
              replace H := Option.bind_eq_some_iff.mp H
              obtain ⟨t318, A140, H⟩ := H
              replace H : (if t318 = true then (if a2 < 0 then (laws_FnPrefixesCut.j1 kj3 l0 a1 a2 true) else (laws_FnPrefixesCut.j1 kj3 l0 a1 a2 (decide (a2 > (a1.size : Int))))) else (laws_FnPrefixesCut.j1 kj3 l0 a1 a2 true)) = some r := H
              have A14 := Aside0.mk A140
              clear A140
              by_cases c15 : t318 = true
              · subst c15
                have H1 : (if a2 < 0 then (laws_FnPrefixesCut.j1 kj3 l0 a1 a2 true) else (laws_FnPrefixesCut.j1 kj3 l0 a1 a2 (decide (a2 > (a1.size : Int))))) = some r := by rw [if_pos rfl] at H; exact H
                clear H
                have H := H1
                clear H1
                by_cases c16 : a2 < 0
                · rw [if_pos c16] at H
                  have c16b0 : decide (a2 < 0) = true := decide_eq_true c16
                  clear c16
                  (first | rw [c16b0] | (simp only [i64_w, i32_w]; rw [c16b0]) | skip)
                  have H' := Aside0.mk H
                  clear H
                  go_wp2_with (first | ((with_reducible refine gate_callee (f := 11) rfl ?_); refine goesL_ (some 27) rfl rfl Try.func11 (by kernel_rfl) rfl #[.slice A0 l0.length c0, .slice none 0 0] rfl (by (try simp only [List.map_toArray, List.map_cons, List.map_nil]); first | done | rfl | (simp only [List.length_drop, List.length_take]; rfl)) ?_; (refine (laws_fair.calls kj3 _ _ l0 _ _ ([] : List Int) true _ ?side1 ?side2 ?side3 ?side4 A12.out).mono ?_); (case side1 => repeat (first | exact (Kd.C_below HR0.out HB.out) | (with_reducible refine Kd.C_alloc ?_ _) | (with_reducible refine Kd.C_drewN ?_ _) | (with_reducible refine Kd.C_drew ?_))); (case side2 => exact HC0.out); (case side3 => exact Kd.C_nil _ _); (case side4 => exact Nat.le_refl _); rintro e w17 ⟨rfl, hb⟩; refine ⟨_, rfl, ?_⟩; have n0_ := Aside0.mk (below_step (by repeat (first | (with_reducible first | exact HB.out | apply below_alloc | apply pw_below_drewN | apply below_drew1) | exact HB.out)) hb); clear HB; have HB := n0_; clear n0_; (try clear hb); (try clear hb2); (try clear hk); (try clear hi)) | ((with_reducible refine gate_dst (N := 31) rfl ?_); (try (refine gate_guard (by rfl) ?_; dsimp only)); refine Kd.R_lit Kd.string _ 9 ?hg (N := 31) ?hd (xs := ([a1] : List ByteArray)) (inner := [.string a1]) (ok := fun _ => True) (okp := fun _ => True) ?hr ?hp (fun _ hk => hk) trivial (Below.refl _ _) (Nat.le_refl _) (by simp) ?_; (case hd => rfl); (case hg => rfl); (case hr => first | (go_simp; done) | (go_simp; rfl)); (case hp => exact (Reps.one (show Kd.M Kd.string _ _ _ a1 [.string a1] from rfl) (Reps.none _ _))); intro v316 w18 ho19 hb hg_ hnew_; clear hg_ hnew_; (first | rw [← Ny315.out] at ho19 | (simp only [Int.reduceToNat] at ho19; rw [← Ny315.out] at ho19)); have n0_ := Aside0.mk (Kd.R_lower ho19 (below_size (by repeat (first | (with_reducible first | exact HB.out | apply below_alloc | apply pw_below_drewN | apply below_drew1) | exact HB.out)))); have n1_ := Aside0.mk (below_step (by repeat (first | (with_reducible first | exact HB.out | apply below_alloc | apply pw_below_drewN | apply below_drew1) | exact HB.out)) hb); clear HB; have HO317 := n0_; have HB := n1_; clear n0_ n1_; clear hb ho19; obtain ⟨Ao20, co20, eo20⟩ := Kd.R_slice HO317.out; subst eo20) | (go_at_call 12; (with_reducible refine (laws_clean.calls kj3 80 _ _ y315 true _ ?side1 ?side2 A14.out).mono ?_); (case side1 => repeat (first | exact (Kd.R_reads' HO317.out).2.2 | (with_reducible refine Kd.C_alloc ?_ _) | (with_reducible refine Kd.C_drewN ?_ _) | (with_reducible refine Kd.C_drew ?_))); (case side2 => exact (Kd.R_reads' HO317.out).2.1); rintro e w21 ⟨rfl, hb⟩; have n0_ := Aside0.mk (Kd.R_below (by (with_reducible repeat (first | apply Kd.R_alloc | apply Kd.R_drewN | apply Kd.R_drew)); exact HO317.out) hb); have n1_ := Aside0.mk (below_step (by repeat (first | (with_reducible first | exact HB.out | apply below_alloc | apply pw_below_drewN | apply below_drew1) | exact HB.out)) hb); clear HO317; clear HB; have HO317 := n0_; have HB := n1_; clear n0_ n1_; (try clear hb); (try clear hb2); (try clear hk); (try clear hi)))
                  go_meet
                  case rel => exact ⟨_, (true), (by first | rfl | (simp; done) | (simp [*]; done)), H', ⟨by have := HJ3.out; first | omega | exact Nat.le_refl _⟩, ⟨by repeat (first | (with_reducible first | exact HB.out | apply below_alloc | apply pw_below_drewN | apply below_drew1) | exact HB.out)⟩⟩
                · rw [if_neg c16] at H
                  have c16b0 : decide (a2 < 0) = false := decide_eq_false c16
                  clear c16
                  (first | rw [c16b0] | (simp only [i64_w, i32_w]; rw [c16b0]) | skip)
                  have H' := Aside0.mk H
                  clear H
                  go_wp2_with (first | ((with_reducible refine gate_callee (f := 11) rfl ?_); refine goesL_ (some 27) rfl rfl Try.func11 (by kernel_rfl) rfl #[.slice A0 l0.length c0, .slice none 0 0] rfl (by (try simp only [List.map_toArray, List.map_cons, List.map_nil]); first | done | rfl | (simp only [List.length_drop, List.length_take]; rfl)) ?_; (refine (laws_fair.calls kj3 _ _ l0 _ _ ([] : List Int) true _ ?side1 ?side2 ?side3 ?side4 A12.out).mono ?_); (case side1 => repeat (first | exact (Kd.C_below HR0.out HB.out) | (with_reducible refine Kd.C_alloc ?_ _) | (with_reducible refine Kd.C_drewN ?_ _) | (with_reducible refine Kd.C_drew ?_))); (case side2 => exact HC0.out); (case side3 => exact Kd.C_nil _ _); (case side4 => exact Nat.le_refl _); rintro e w22 ⟨rfl, hb⟩; refine ⟨_, rfl, ?_⟩; have n0_ := Aside0.mk (below_step (by repeat (first | (with_reducible first | exact HB.out | apply below_alloc | apply pw_below_drewN | apply below_drew1) | exact HB.out)) hb); clear HB; have HB := n0_; clear n0_; (try clear hb); (try clear hb2); (try clear hk); (try clear hi)) | ((with_reducible refine gate_dst (N := 31) rfl ?_); (try (refine gate_guard (by rfl) ?_; dsimp only)); refine Kd.R_lit Kd.string _ 9 ?hg (N := 31) ?hd (xs := ([a1] : List ByteArray)) (inner := [.string a1]) (ok := fun _ => True) (okp := fun _ => True) ?hr ?hp (fun _ hk => hk) trivial (Below.refl _ _) (Nat.le_refl _) (by simp) ?_; (case hd => rfl); (case hg => rfl); (case hr => first | (go_simp; done) | (go_simp; rfl)); (case hp => exact (Reps.one (show Kd.M Kd.string _ _ _ a1 [.string a1] from rfl) (Reps.none _ _))); intro v316 w23 ho24 hb hg_ hnew_; clear hg_ hnew_; (first | rw [← Ny315.out] at ho24 | (simp only [Int.reduceToNat] at ho24; rw [← Ny315.out] at ho24)); have n0_ := Aside0.mk (Kd.R_lower ho24 (below_size (by repeat (first | (with_reducible first | exact HB.out | apply below_alloc | apply pw_below_drewN | apply below_drew1) | exact HB.out)))); have n1_ := Aside0.mk (below_step (by repeat (first | (with_reducible first | exact HB.out | apply below_alloc | apply pw_below_drewN | apply below_drew1) | exact HB.out)) hb); clear HB; have HO317 := n0_; have HB := n1_; clear n0_ n1_; clear hb ho24; obtain ⟨Ao25, co25, eo25⟩ := Kd.R_slice HO317.out; subst eo25) | (go_at_call 12; (with_reducible refine (laws_clean.calls kj3 80 _ _ y315 true _ ?side1 ?side2 A14.out).mono ?_); (case side1 => repeat (first | exact (Kd.R_reads' HO317.out).2.2 | (with_reducible refine Kd.C_alloc ?_ _) | (with_reducible refine Kd.C_drewN ?_ _) | (with_reducible refine Kd.C_drew ?_))); (case side2 => exact (Kd.R_reads' HO317.out).2.1); rintro e w26 ⟨rfl, hb⟩; have n0_ := Aside0.mk (Kd.R_below (by (with_reducible repeat (first | apply Kd.R_alloc | apply Kd.R_drewN | apply Kd.R_drew)); exact HO317.out) hb); have n1_ := Aside0.mk (below_step (by repeat (first | (with_reducible first | exact HB.out | apply below_alloc | apply pw_below_drewN | apply below_drew1) | exact HB.out)) hb); clear HO317; clear HB; have HO317 := n0_; have HB := n1_; clear n0_ n1_; (try clear hb); (try clear hb2); (try clear hk); (try clear hi)))
                  go_meet
                  case rel => exact ⟨_, (decide (a2 > (a1.size : Int))), (by first | rfl | (simp; done) | (simp [*]; done)), H', ⟨by have := HJ3.out; first | omega | exact Nat.le_refl _⟩, ⟨by repeat (first | (with_reducible first | exact HB.out | apply below_alloc | apply pw_below_drewN | apply below_drew1) | exact HB.out)⟩⟩
              · replace c15 := Bool.eq_false_iff.mpr c15
                subst c15
                have H1 : (laws_FnPrefixesCut.j1 kj3 l0 a1 a2 true) = some r := by rw [if_neg (show ¬ (false = true) by decide)] at H; exact H
                clear H
                have H := H1
                clear H1
                have H' := Aside0.mk H
                clear H
                go_wp2_with (first | ((with_reducible refine gate_callee (f := 11) rfl ?_); refine goesL_ (some 27) rfl rfl Try.func11 (by kernel_rfl) rfl #[.slice A0 l0.length c0, .slice none 0 0] rfl (by (try simp only [List.map_toArray, List.map_cons, List.map_nil]); first | done | rfl | (simp only [List.length_drop, List.length_take]; rfl)) ?_; (refine (laws_fair.calls kj3 _ _ l0 _ _ ([] : List Int) true _ ?side1 ?side2 ?side3 ?side4 A12.out).mono ?_); (case side1 => repeat (first | exact (Kd.C_below HR0.out HB.out) | (with_reducible refine Kd.C_alloc ?_ _) | (with_reducible refine Kd.C_drewN ?_ _) | (with_reducible refine Kd.C_drew ?_))); (case side2 => exact HC0.out); (case side3 => exact Kd.C_nil _ _); (case side4 => exact Nat.le_refl _); rintro e w27 ⟨rfl, hb⟩; refine ⟨_, rfl, ?_⟩; have n0_ := Aside0.mk (below_step (by repeat (first | (with_reducible first | exact HB.out | apply below_alloc | apply pw_below_drewN | apply below_drew1) | exact HB.out)) hb); clear HB; have HB := n0_; clear n0_; (try clear hb); (try clear hb2); (try clear hk); (try clear hi)) | ((with_reducible refine gate_dst (N := 31) rfl ?_); (try (refine gate_guard (by rfl) ?_; dsimp only)); refine Kd.R_lit Kd.string _ 9 ?hg (N := 31) ?hd (xs := ([a1] : List ByteArray)) (inner := [.string a1]) (ok := fun _ => True) (okp := fun _ => True) ?hr ?hp (fun _ hk => hk) trivial (Below.refl _ _) (Nat.le_refl _) (by simp) ?_; (case hd => rfl); (case hg => rfl); (case hr => first | (go_simp; done) | (go_simp; rfl)); (case hp => exact (Reps.one (show Kd.M Kd.string _ _ _ a1 [.string a1] from rfl) (Reps.none _ _))); intro v316 w28 ho29 hb hg_ hnew_; clear hg_ hnew_; (first | rw [← Ny315.out] at ho29 | (simp only [Int.reduceToNat] at ho29; rw [← Ny315.out] at ho29)); have n0_ := Aside0.mk (Kd.R_lower ho29 (below_size (by repeat (first | (with_reducible first | exact HB.out | apply below_alloc | apply pw_below_drewN | apply below_drew1) | exact HB.out)))); have n1_ := Aside0.mk (below_step (by repeat (first | (with_reducible first | exact HB.out | apply below_alloc | apply pw_below_drewN | apply below_drew1) | exact HB.out)) hb); clear HB; have HO317 := n0_; have HB := n1_; clear n0_ n1_; clear hb ho29; obtain ⟨Ao30, co30, eo30⟩ := Kd.R_slice HO317.out; subst eo30) | (go_at_call 12; (with_reducible refine (laws_clean.calls kj3 80 _ _ y315 false _ ?side1 ?side2 A14.out).mono ?_); (case side1 => repeat (first | exact (Kd.R_reads' HO317.out).2.2 | (with_reducible refine Kd.C_alloc ?_ _) | (with_reducible refine Kd.C_drewN ?_ _) | (with_reducible refine Kd.C_drew ?_))); (case side2 => exact (Kd.R_reads' HO317.out).2.1); rintro e w31 ⟨rfl, hb⟩; have n0_ := Aside0.mk (Kd.R_below (by (with_reducible repeat (first | apply Kd.R_alloc | apply Kd.R_drewN | apply Kd.R_drew)); exact HO317.out) hb); have n1_ := Aside0.mk (below_step (by repeat (first | (with_reducible first | exact HB.out | apply below_alloc | apply pw_below_drewN | apply below_drew1) | exact HB.out)) hb); clear HO317; clear HB; have HO317 := n0_; have HB := n1_; clear n0_ n1_; (try clear hb); (try clear hb2); (try clear hk); (try clear hi)))
                go_meet
                case rel => exact ⟨_, (true), (by first | rfl | (simp; done) | (simp [*]; done)), H', ⟨by have := HJ3.out; first | omega | exact Nat.le_refl _⟩, ⟨by repeat (first | (with_reducible first | exact HB.out | apply below_alloc | apply pw_below_drewN | apply below_drew1) | exact HB.out)⟩⟩
            · replace c13 := Bool.eq_false_iff.mpr c13
              subst c13
              have H1 : (laws_FnPrefixesCut.j1 kj3 l0 a1 a2 true) = some r := by rw [if_neg (show ¬ (false = true) by decide)] at H; exact H
              clear H
              have H := H1
              clear H1
              have H' := Aside0.mk H
              clear H
              go_wp2_with (first | ((with_reducible refine gate_callee (f := 11) rfl ?_); refine goesL_ (some 27) rfl rfl Try.func11 (by kernel_rfl) rfl #[.slice A0 l0.length c0, .slice none 0 0] rfl (by (try simp only [List.map_toArray, List.map_cons, List.map_nil]); first | done | rfl | (simp only [List.length_drop, List.length_take]; rfl)) ?_; (refine (laws_fair.calls kj3 _ _ l0 _ _ ([] : List Int) false _ ?side1 ?side2 ?side3 ?side4 A12.out).mono ?_); (case side1 => repeat (first | exact (Kd.C_below HR0.out HB.out) | (with_reducible refine Kd.C_alloc ?_ _) | (with_reducible refine Kd.C_drewN ?_ _) | (with_reducible refine Kd.C_drew ?_))); (case side2 => exact HC0.out); (case side3 => exact Kd.C_nil _ _); (case side4 => exact Nat.le_refl _); rintro e w32 ⟨rfl, hb⟩; refine ⟨_, rfl, ?_⟩; have n0_ := Aside0.mk (below_step (by repeat (first | (with_reducible first | exact HB.out | apply below_alloc | apply pw_below_drewN | apply below_drew1) | exact HB.out)) hb); clear HB; have HB := n0_; clear n0_; (try clear hb); (try clear hb2); (try clear hk); (try clear hi)))
              go_meet
              case rel => exact ⟨_, (true), (by first | rfl | (simp; done) | (simp [*]; done)), H', ⟨by have := HJ3.out; first | omega | exact Nat.le_refl _⟩, ⟨by repeat (first | (with_reducible first | exact HB.out | apply below_alloc | apply pw_below_drewN | apply below_drew1) | exact HB.out)⟩⟩
          case rest =>
            clear HC10
            try clear c1
            try clear p2
            try clear c5
            try clear c6
            try clear c7
            try clear c9
            try clear c10
            try clear c11
            try clear c13
            try clear c15
            try clear c16
            try clear c16b0
            try clear p2
            obtain ⟨kq, x44_9, rfl, HA, HJ9, HB⟩ := hcut
            cases kq with
            | zero => exact absurd HA.out (by simp [laws_FnPrefixesCut.j1])
            | succ kj9 =>
              have H := HA.out
              clear HA
              simp only [laws_FnPrefixesCut.j1] at H
              by_cases c33 : x44_9 = true
              · subst c33
                have H1 : (some true) = some r := by rw [if_pos rfl] at H; exact H
                clear H
                have H := H1
                clear H1
                obtain rfl := Option.some.inj H
                go_wp2
                go_ret
                exact ⟨by first | rfl | (simp [errW_none, errW_some] <;> rfl) | (simp [*, errW_none, errW_some] <;> rfl), by repeat (first | (with_reducible first | exact HB.out | apply below_alloc | apply pw_below_drewN | apply below_drew1) | exact HB.out)⟩
              · replace c33 := Bool.eq_false_iff.mpr c33
                subst c33
                have H1 : (if 0 ≤ a2 then (if a2 ≤ (a1.size : Int) then ((laws_signs.f kj9 (a1.extract 0 (a2 : Int).toNat)).bind fun bt319 => (if bt319.2 = true then ((laws_numbered.f kj9 (l0.length : Int)).bind fun t323 => ((impl_TriePrefixes.f l0 t323 a1).bind fun bt326 => ((laws_numbered.f kj9 (l0.length : Int)).bind fun t333 => ((impl_TriePrefixes.f l0 t333 (a1.extract 0 (a2 : Int).toNat)).bind fun bt336 => (laws_FnPrefixesCut.l0 kj9 a2 bt326.1 bt326.2.1 bt326.2.2 bt336.1 bt336.2.1 bt336.2.2 0))))) else (some true))) else (none)) else (none)) = some r := by rw [if_neg (show ¬ (false = true) by decide)] at H; exact H
                clear H
                have H := H1
                clear H1
                by_cases c34 : 0 ≤ a2
                · rw [if_pos c34] at H
                  have c34b0 := eq_true c34
                  have c34b1 : decide (0 ≤ a2) = true := decide_eq_true c34
                  clear c34
                  by_cases c35 : a2 ≤ (a1.size : Int)
                  · rw [if_pos c35] at H
                    have c35b0 := eq_true c35
                    have c35b1 : decide (a2 ≤ (a1.size : Int)) = true := decide_eq_true c35
                    clear c35
                    replace H := Option.bind_eq_some_iff.mp H
                    obtain ⟨⟨t319, t320⟩, A360, H⟩ := H
                    replace H : (if t320 = true then ((laws_numbered.f kj9 (l0.length : Int)).bind fun t323 => ((impl_TriePrefixes.f l0 t323 a1).bind fun bt326 => ((laws_numbered.f kj9 (l0.length : Int)).bind fun t333 => ((impl_TriePrefixes.f l0 t333 (a1.extract 0 (a2 : Int).toNat)).bind fun bt336 => (laws_FnPrefixesCut.l0 kj9 a2 bt326.1 bt326.2.1 bt326.2.2 bt336.1 bt336.2.1 bt336.2.2 0))))) else (some true)) = some r := H
                    have A36 := Aside0.mk A360
                    clear A360
                    by_cases c37 : t320 = true
                    · subst c37
                      have H1 : ((laws_numbered.f kj9 (l0.length : Int)).bind fun t323 => ((impl_TriePrefixes.f l0 t323 a1).bind fun bt326 => ((laws_numbered.f kj9 (l0.length : Int)).bind fun t333 => ((impl_TriePrefixes.f l0 t333 (a1.extract 0 (a2 : Int).toNat)).bind fun bt336 => (laws_FnPrefixesCut.l0 kj9 a2 bt326.1 bt326.2.1 bt326.2.2 bt336.1 bt336.2.1 bt336.2.2 0))))) = some r := by rw [if_pos rfl] at H; exact H
                      clear H
                      have H := H1
                      clear H1
                      replace H := Option.bind_eq_some_iff.mp H
                      obtain ⟨t323, A380, H⟩ := H
                      replace H : ((impl_TriePrefixes.f l0 t323 a1).bind fun bt326 => ((laws_numbered.f kj9 (l0.length : Int)).bind fun t333 => ((impl_TriePrefixes.f l0 t333 (a1.extract 0 (a2 : Int).toNat)).bind fun bt336 => (laws_FnPrefixesCut.l0 kj9 a2 bt326.1 bt326.2.1 bt326.2.2 bt336.1 bt336.2.1 bt336.2.2 0)))) = some r := H
                      have A38 := Aside0.mk A380
                      clear A380
                      replace H := Option.bind_eq_some_iff.mp H
                      obtain ⟨⟨t326, t327, t328⟩, A390, H⟩ := H
                      replace H : ((laws_numbered.f kj9 (l0.length : Int)).bind fun t333 => ((impl_TriePrefixes.f l0 t333 (a1.extract 0 (a2 : Int).toNat)).bind fun bt336 => (laws_FnPrefixesCut.l0 kj9 a2 t326 t327 t328 bt336.1 bt336.2.1 bt336.2.2 0))) = some r := H
                      have A39 := Aside0.mk A390
                      clear A390
                      replace H := Option.bind_eq_some_iff.mp H
                      obtain ⟨t333, A400, H⟩ := H
                      replace H : ((impl_TriePrefixes.f l0 t333 (a1.extract 0 (a2 : Int).toNat)).bind fun bt336 => (laws_FnPrefixesCut.l0 kj9 a2 t326 t327 t328 bt336.1 bt336.2.1 bt336.2.2 0)) = some r := H
                      have A40 := Aside0.mk A400
                      clear A400
                      have c41b0 := eq_true (of_decide_eq_true (by first | (with_reducible assumption) | assumption) : 0 ≤ a2)
                      have c42b0 := eq_true (of_decide_eq_true (by first | (with_reducible assumption) | assumption) : a2 ≤ (a1.size : Int))
                      replace H := Option.bind_eq_some_iff.mp H
                      obtain ⟨⟨t336, t337, t338⟩, A430, H⟩ := H
                      replace H : (laws_FnPrefixesCut.l0 kj9 a2 t326 t327 t328 t336 t337 t338 0) = some r := H
                      have A43 := Aside0.mk A430
                      clear A430
                      have H' := Aside0.mk H
                      clear H
                      try go_wp2_with (first | ((with_reducible refine gate_callee (f := 15) rfl ?_); refine goesL_ (some 49) rfl rfl Try.func15 (by kernel_rfl) rfl #[.string (a1.extract 0 (a2 : Int).toNat)] rfl (by (try simp only [List.map_toArray, List.map_cons, List.map_nil]); first | done | rfl | (simp only [List.length_drop, List.length_take]; rfl)) ?_; (with_reducible refine (laws_signs.calls kj9 (a1.extract 0 (a2 : Int).toNat) t319 true _ A36.out).mono ?_); rintro e w44 ⟨v321, rfl, ho0, hb⟩; refine ⟨_, rfl, ?_⟩; have n0_ := Aside0.mk (Kd.R_lower ho0 (below_size (by repeat (first | (with_reducible first | exact HB.out | apply below_alloc | apply pw_below_drewN | apply below_drew1) | exact HB.out)))); have n1_ := Aside0.mk (below_step (by repeat (first | (with_reducible first | exact HB.out | apply below_alloc | apply pw_below_drewN | apply below_drew1) | exact HB.out)) hb); clear HB; have HO322 := n0_; have HB := n1_; clear n0_ n1_; (try clear hb); (try clear hb2); (try clear hk); (try clear hi); (try clear ho0)) | ((with_reducible refine gate_callee (f := 17) rfl ?_); refine goesL_ (some 58) rfl rfl Try.func17 (by kernel_rfl) rfl #[.int .i64 (l0.length : Int)] rfl (by (try simp only [List.map_toArray, List.map_cons, List.map_nil]); first | done | rfl | (simp only [List.length_drop, List.length_take]; rfl)) ?_; (with_reducible refine (laws_numbered.calls kj9 (l0.length : Int) t323 _ A38.out).mono ?_); rintro e w45 ⟨v324, rfl, ho0, hb⟩; refine ⟨_, rfl, ?_⟩; have n0_ := Aside0.mk (Kd.R_below (by (with_reducible repeat (first | apply Kd.R_alloc | apply Kd.R_drewN | apply Kd.R_drew)); exact HO322.out) hb); have n1_ := Aside0.mk (Kd.R_lower ho0 (below_size (by repeat (first | (with_reducible first | exact HB.out | apply below_alloc | apply pw_below_drewN | apply below_drew1) | exact HB.out)))); have n2_ := Aside0.mk (below_step (by repeat (first | (with_reducible first | exact HB.out | apply below_alloc | apply pw_below_drewN | apply below_drew1) | exact HB.out)) hb); clear HO322; clear HB; have HO322 := n0_; have HO325 := n1_; have HB := n2_; clear n0_ n1_ n2_; (try clear hb); (try clear hb2); (try clear hk); (try clear hi); (try clear ho0); obtain ⟨Ao46, co46, eo46⟩ := Kd.R_slice HO325.out; subst eo46) | ((with_reducible refine gate_callee (f := 16) rfl ?_); refine goesL_ (some 60) rfl rfl Try.func16 (by kernel_rfl) rfl #[.slice A0 l0.length c0, .slice Ao46 t323.length co46, .string a1] rfl (by (try simp only [List.map_toArray, List.map_cons, List.map_nil]); first | done | rfl | (simp only [List.length_drop, List.length_take]; rfl)) ?_; (with_reducible refine (impl_TriePrefixes.calls _ _ l0 _ _ t323 a1 t326 t327 t328 _ ?side1 ?side2 ?side3 ?side4 A39.out).mono ?_); (case side1 => repeat (first | exact (Kd.C_below HR0.out HB.out) | (with_reducible refine Kd.C_alloc ?_ _) | (with_reducible refine Kd.C_drewN ?_ _) | (with_reducible refine Kd.C_drew ?_))); (case side2 => exact HC0.out); (case side3 => repeat (first | exact (Kd.R_reads' HO325.out).2.2 | (with_reducible refine Kd.C_alloc ?_ _) | (with_reducible refine Kd.C_drewN ?_ _) | (with_reducible refine Kd.C_drew ?_))); (case side4 => exact (Kd.R_reads' HO325.out).2.1); rintro e w47 ⟨v329, v331, rfl, ho0, ho1, hb⟩; refine ⟨_, rfl, ?_⟩; have n0_ := Aside0.mk (Kd.R_below (by (with_reducible repeat (first | apply Kd.R_alloc | apply Kd.R_drewN | apply Kd.R_drew)); exact HO322.out) hb); have n1_ := Aside0.mk (Kd.R_mono (Kd.R_told (Kd.R_told (Kd.R_old (by (with_reducible repeat (first | apply Kd.R_alloc | apply Kd.R_drewN | apply Kd.R_drew)); exact HO325.out) hb) (by first | exact Kd.N_base ho0 | exact Kd.S_base ho0 | exact Kd.R_base ho0)) (by first | exact Kd.N_base ho1 | exact Kd.S_base ho1 | exact Kd.R_base ho1)) (fun _ h_ => h_.1)); have n2_ := Aside0.mk (Kd.R_lower (Kd.R_new' ho0 (Kd.R_lt (by (with_reducible repeat (first | apply Kd.R_alloc | apply Kd.R_drewN | apply Kd.R_drew)); exact HO325.out))) (below_size (by repeat (first | (with_reducible first | exact HB.out | apply below_alloc | apply pw_below_drewN | apply below_drew1) | exact HB.out)))); have n3_ := Aside0.mk (Kd.R_lower (Kd.R_new' ho1 (Kd.R_lt (by (with_reducible repeat (first | apply Kd.R_alloc | apply Kd.R_drewN | apply Kd.R_drew)); exact HO325.out))) (below_size (by repeat (first | (with_reducible first | exact HB.out | apply below_alloc | apply pw_below_drewN | apply below_drew1) | exact HB.out)))); have n4_ := Aside0.mk (below_step (by repeat (first | (with_reducible first | exact HB.out | apply below_alloc | apply pw_below_drewN | apply below_drew1) | exact HB.out)) hb); clear HO322; clear HO325; clear HB; have HO322 := n0_; have HO325 := n1_; have HO330 := n2_; have HO332 := n3_; have HB := n4_; clear n0_ n1_ n2_ n3_ n4_; (try clear hb); (try clear hb2); (try clear hk); (try clear hi); (try clear ho0); (try clear ho1)))
                      have n0_ := Aside0.mk (Kd.R_drew HO322.out)
                      have n1_ := Aside0.mk (Kd.R_drew HO325.out)
                      have n2_ := Aside0.mk (Kd.R_drew HO330.out)
                      have n3_ := Aside0.mk (Kd.R_drew HO332.out)
                      have n4_ := Aside0.mk (below_drew1 HB.out)
                      clear HO322
                      clear HO325
                      clear HO330
                      clear HO332
                      clear HB
                      have HO322 := n0_
                      have HO325 := n1_
                      have HO330 := n2_
                      have HO332 := n3_
                      have HB := n4_
                      clear n0_ n1_ n2_ n3_ n4_
                      refine start_ (n := 15) (S := fun w' => True) (ds := []) #[false, false, false, false, false, false, false, false, false, false, false, false, false, false, false] (by kernel_rfl) rfl rfl trivial (fun hHeld => ?_); refine with_tabW laws_FnPrefixesCut.tab11 laws_FnPrefixesCut.bits11 (fun HT_ HW_ => ?_)
                      generalize w47.drew = w48 at HO322 HO325 HO330 HO332 HB hHeld ⊢
                      refine pure_ (i := 0) (N := some 65) (v := ?_) (a' := ?_) #[true, false, false, false, false, false, false, false, false, false, false, false, false, false, false] rfl rfl (any_of HT_.out (by kernel_rfl)) (fun _ _ _ h => h) (Or.inl ⟨by rfl, ?_⟩) ?_ ?_
                      rotate_left
                      · intro w'
                        go_simp
                        with_reducible rfl
                      rotate_left
                      · simp only [Act.put, List.setIfInBounds_toArray, List.set_cons_zero, List.set_cons_succ, i64_w, i32_w]
                        rfl
                      refine pure_ (i := 1) (N := some 66) (v := ?_) (a' := ?_) #[true, true, false, false, false, false, false, false, false, false, false, false, false, false, false] rfl rfl (any_of HT_.out (by kernel_rfl)) (fun _ _ _ h => h) (Or.inl ⟨by rfl, ?_⟩) ?_ ?_
                      rotate_left
                      · intro w'
                        go_simp
                        with_reducible rfl
                      rotate_left
                      · simp only [Act.put, List.setIfInBounds_toArray, List.set_cons_zero, List.set_cons_succ, i64_w, i32_w]
                        rfl
                      refine pure_ (i := 2) (N := some 67) (v := ?_) (a' := ?_) #[true, true, true, false, false, false, false, false, false, false, false, false, false, false, false] rfl rfl (any_of HT_.out (by kernel_rfl)) (fun _ _ _ h => h) (Or.inl ⟨by rfl, ?_⟩) ?_ ?_
                      rotate_left
                      · intro w'
                        go_simp
                        with_reducible rfl
                      rotate_left
                      · simp only [Act.put, List.setIfInBounds_toArray, List.set_cons_zero, List.set_cons_succ, i64_w, i32_w]
                        rfl
                      refine pure_ (i := 4) (N := some 69) (v := ?_) (a' := ?_) #[true, true, true, false, true, false, false, false, false, false, false, false, false, false, false] rfl rfl (any_of HT_.out (by kernel_rfl)) (fun _ _ _ h => h) (Or.inl ⟨by rfl, ?_⟩) ?_ ?_
                      rotate_left
                      · intro w'
                        go_simp
                        with_reducible rfl
                      rotate_left
                      · simp only [Act.put, List.setIfInBounds_toArray, List.set_cons_zero, List.set_cons_succ, i64_w, i32_w]
                        rfl
                      refine pure_ (i := 5) (N := some 70) (v := ?_) (a' := ?_) #[true, true, true, false, true, true, false, false, false, false, false, false, false, false, false] rfl rfl (any_of HT_.out (by kernel_rfl)) (fun _ _ _ h => h) (Or.inl ⟨by rfl, ?_⟩) ?_ ?_
                      rotate_left
                      · intro w'
                        go_simp
                        with_reducible rfl
                      rotate_left
                      · simp only [Act.put, List.setIfInBounds_toArray, List.set_cons_zero, List.set_cons_succ, i64_w, i32_w]
                        rfl
                      refine pure_ (i := 6) (N := some 71) (v := ?_) (a' := ?_) #[true, true, true, false, true, true, true, false, false, false, false, false, false, false, false] rfl rfl (any_of HT_.out (by kernel_rfl)) (fun _ _ _ h => h) (Or.inl ⟨by rfl, ?_⟩) ?_ ?_
                      rotate_left
                      · intro w'
                        go_simp
                        with_reducible rfl
                      rotate_left
                      · simp only [Act.put, List.setIfInBounds_toArray, List.set_cons_zero, List.set_cons_succ, i64_w, i32_w]
                        rfl
                      refine one_ (i := 3) (N := some 68) #[true, true, true, true, true, true, true, false, false, false, false, false, false, false, false] rfl rfl (one_of HT_.out (by kernel_rfl)) (by decide) (fun K hK => ?_)
                      refine goes_ Try.func17 (by kernel_rfl) rfl #[.int .i64 (l0.length : Int)] (by rfl) rfl rfl (by (try simp only [List.map_toArray, List.map_cons, List.map_nil]); first | done | rfl | (simp only [List.length_drop, List.length_take]; rfl)) ?_
                      with_reducible refine (laws_numbered.calls kj9 (l0.length : Int) t333 _ A40.out).mono ?_
                      rintro e w49 ⟨v334, rfl, ho0, hb⟩
                      refine ⟨_, rfl, ?_⟩
                      have n0_ := Aside0.mk (Kd.R_below (by (with_reducible repeat (first | apply Kd.R_alloc | apply Kd.R_drewN | apply Kd.R_drew)); exact HO322.out) hb)
                      have n1_ := Aside0.mk (Kd.R_elder' (by (with_reducible repeat (first | apply Kd.R_alloc | apply Kd.R_drewN | apply Kd.R_drew)); exact HO325.out) (by first | exact Kd.N_base ho0 | exact Kd.S_base ho0 | exact Kd.R_base ho0) hb)
                      have n2_ := Aside0.mk (Kd.R_elder' (by (with_reducible repeat (first | apply Kd.R_alloc | apply Kd.R_drewN | apply Kd.R_drew)); exact HO330.out) (by first | exact Kd.N_base ho0 | exact Kd.S_base ho0 | exact Kd.R_base ho0) hb)
                      have n3_ := Aside0.mk (Kd.R_elder' (by (with_reducible repeat (first | apply Kd.R_alloc | apply Kd.R_drewN | apply Kd.R_drew)); exact HO332.out) (by first | exact Kd.N_base ho0 | exact Kd.S_base ho0 | exact Kd.R_base ho0) hb)
                      have n4_ := Aside0.mk (Kd.R_lower (Kd.R_new' (Kd.R_new' (Kd.R_new' ho0 (Kd.R_lt (by (with_reducible repeat (first | apply Kd.R_alloc | apply Kd.R_drewN | apply Kd.R_drew)); exact HO325.out))) (Kd.R_lt (by (with_reducible repeat (first | apply Kd.R_alloc | apply Kd.R_drewN | apply Kd.R_drew)); exact HO330.out))) (Kd.R_lt (by (with_reducible repeat (first | apply Kd.R_alloc | apply Kd.R_drewN | apply Kd.R_drew)); exact HO332.out))) (below_size (by repeat (first | (with_reducible first | exact HB.out | apply below_alloc | apply pw_below_drewN | apply below_drew1) | exact HB.out))))
                      have n5_ := Aside0.mk (below_step (by repeat (first | (with_reducible first | exact HB.out | apply below_alloc | apply pw_below_drewN | apply below_drew1) | exact HB.out)) hb)
                      clear HO322
                      clear HO325
                      clear HO330
                      clear HO332
                      clear HB
                      have HO322 := n0_
                      have HO325 := n1_
                      have HO330 := n2_
                      have HO332 := n3_
                      have HO335 := n4_
                      have HB := n5_
                      clear n0_ n1_ n2_ n3_ n4_ n5_
                      (try clear hb)
                      (try clear hb2)
                      (try clear hk)
                      (try clear hi)
                      (try clear ho0)
                      obtain ⟨Ao50, co50, eo50⟩ := Kd.R_slice HO335.out
                      (first | subst eo50 | (injection eo50 with f1_ f2_ f3_; have f4_ := f1_.symm; have f5_ := f3_.symm; clear f1_ f2_ f3_; subst f4_; subst f5_))
                      refine hK.out _ _ trivial (fun hHeld => ?_)
                      clear hK K
                      refine norm_ (a' := ?_) ?_ ?_
                      rotate_left
                      · show Act.put _ (some 68) _ = _
                        simp only [Act.put, List.setIfInBounds_toArray, List.set_cons_zero, List.set_cons_succ, i64_w, i32_w]
                        rfl
                      refine one_ (i := 7) (N := some 72) #[true, true, true, true, true, true, true, true, false, false, false, false, false, false, false] rfl rfl (one_of HT_.out (by kernel_rfl)) (by decide) (fun K hK => ?_)
                      refine goes_ Try.func16 (by kernel_rfl) rfl #[.slice A0 l0.length c0, .slice Ao50 t333.length co50, .string (a1.extract 0 (a2 : Int).toNat)] (by rfl) rfl rfl (by (try simp only [List.map_toArray, List.map_cons, List.map_nil]); first | done | rfl | (simp only [List.length_drop, List.length_take]; rfl)) ?_
                      with_reducible refine (impl_TriePrefixes.calls _ _ l0 _ _ t333 (a1.extract 0 (a2 : Int).toNat) t336 t337 t338 _ ?side1 ?side2 ?side3 ?side4 A43.out).mono ?_
                      (case side1 => repeat (first | exact (Kd.C_below HR0.out HB.out) | (with_reducible refine Kd.C_alloc ?_ _) | (with_reducible refine Kd.C_drewN ?_ _) | (with_reducible refine Kd.C_drew ?_)))
                      (case side2 => exact HC0.out)
                      (case side3 => repeat (first | exact (Kd.R_reads' HO335.out).2.2 | (with_reducible refine Kd.C_alloc ?_ _) | (with_reducible refine Kd.C_drewN ?_ _) | (with_reducible refine Kd.C_drew ?_)))
                      (case side4 => exact (Kd.R_reads' HO335.out).2.1)
                      rintro e w51 ⟨v339, v341, rfl, ho0, ho1, hb⟩
                      refine ⟨_, rfl, ?_⟩
                      have n0_ := Aside0.mk (Kd.R_below (by (with_reducible repeat (first | apply Kd.R_alloc | apply Kd.R_drewN | apply Kd.R_drew)); exact HO322.out) hb)
                      have n1_ := Aside0.mk (Kd.R_mono (Kd.R_told (Kd.R_told (Kd.R_old (by (with_reducible repeat (first | apply Kd.R_alloc | apply Kd.R_drewN | apply Kd.R_drew)); exact HO325.out) hb) (by first | exact Kd.N_base ho0 | exact Kd.S_base ho0 | exact Kd.R_base ho0)) (by first | exact Kd.N_base ho1 | exact Kd.S_base ho1 | exact Kd.R_base ho1)) (fun _ h_ => h_.1))
                      have n2_ := Aside0.mk (Kd.R_mono (Kd.R_told (Kd.R_told (Kd.R_old (by (with_reducible repeat (first | apply Kd.R_alloc | apply Kd.R_drewN | apply Kd.R_drew)); exact HO330.out) hb) (by first | exact Kd.N_base ho0 | exact Kd.S_base ho0 | exact Kd.R_base ho0)) (by first | exact Kd.N_base ho1 | exact Kd.S_base ho1 | exact Kd.R_base ho1)) (fun _ h_ => h_.1))
                      have n3_ := Aside0.mk (Kd.R_mono (Kd.R_told (Kd.R_told (Kd.R_old (by (with_reducible repeat (first | apply Kd.R_alloc | apply Kd.R_drewN | apply Kd.R_drew)); exact HO332.out) hb) (by first | exact Kd.N_base ho0 | exact Kd.S_base ho0 | exact Kd.R_base ho0)) (by first | exact Kd.N_base ho1 | exact Kd.S_base ho1 | exact Kd.R_base ho1)) (fun _ h_ => h_.1))
                      have n4_ := Aside0.mk (Kd.R_mono (Kd.R_told (Kd.R_told (Kd.R_old (by (with_reducible repeat (first | apply Kd.R_alloc | apply Kd.R_drewN | apply Kd.R_drew)); exact HO335.out) hb) (by first | exact Kd.N_base ho0 | exact Kd.S_base ho0 | exact Kd.R_base ho0)) (by first | exact Kd.N_base ho1 | exact Kd.S_base ho1 | exact Kd.R_base ho1)) (fun _ h_ => h_.1))
                      have n5_ := Aside0.mk (Kd.R_lower (Kd.R_new' (Kd.R_new' (Kd.R_new' (Kd.R_new' ho0 (Kd.R_lt (by (with_reducible repeat (first | apply Kd.R_alloc | apply Kd.R_drewN | apply Kd.R_drew)); exact HO325.out))) (Kd.R_lt (by (with_reducible repeat (first | apply Kd.R_alloc | apply Kd.R_drewN | apply Kd.R_drew)); exact HO330.out))) (Kd.R_lt (by (with_reducible repeat (first | apply Kd.R_alloc | apply Kd.R_drewN | apply Kd.R_drew)); exact HO332.out))) (Kd.R_lt (by (with_reducible repeat (first | apply Kd.R_alloc | apply Kd.R_drewN | apply Kd.R_drew)); exact HO335.out))) (below_size (by repeat (first | (with_reducible first | exact HB.out | apply below_alloc | apply pw_below_drewN | apply below_drew1) | exact HB.out))))
                      have n6_ := Aside0.mk (Kd.R_lower (Kd.R_new' (Kd.R_new' (Kd.R_new' (Kd.R_new' ho1 (Kd.R_lt (by (with_reducible repeat (first | apply Kd.R_alloc | apply Kd.R_drewN | apply Kd.R_drew)); exact HO325.out))) (Kd.R_lt (by (with_reducible repeat (first | apply Kd.R_alloc | apply Kd.R_drewN | apply Kd.R_drew)); exact HO330.out))) (Kd.R_lt (by (with_reducible repeat (first | apply Kd.R_alloc | apply Kd.R_drewN | apply Kd.R_drew)); exact HO332.out))) (Kd.R_lt (by (with_reducible repeat (first | apply Kd.R_alloc | apply Kd.R_drewN | apply Kd.R_drew)); exact HO335.out))) (below_size (by repeat (first | (with_reducible first | exact HB.out | apply below_alloc | apply pw_below_drewN | apply below_drew1) | exact HB.out))))
                      have n7_ := Aside0.mk (below_step (by repeat (first | (with_reducible first | exact HB.out | apply below_alloc | apply pw_below_drewN | apply below_drew1) | exact HB.out)) hb)
                      clear HO322
                      clear HO325
                      clear HO330
                      clear HO332
                      clear HO335
                      clear HB
                      have HO322 := n0_
                      have HO325 := n1_
                      have HO330 := n2_
                      have HO332 := n3_
                      have HO335 := n4_
                      have HO340 := n5_
                      have HO342 := n6_
                      have HB := n7_
                      clear n0_ n1_ n2_ n3_ n4_ n5_ n6_ n7_
                      (try clear hb)
                      (try clear hb2)
                      (try clear hk)
                      (try clear hi)
                      (try clear ho0)
                      (try clear ho1)
                      refine hK.out _ _ trivial (fun hHeld => ?_)
                      clear hK K
                      refine norm_ (a' := ?_) ?_ ?_
                      rotate_left
                      · show Act.put _ (some 72) _ = _
                        simp only [Act.put, List.setIfInBounds_toArray, List.set_cons_zero, List.set_cons_succ, i64_w, i32_w]
                        rfl
                      refine pure_ (i := 8) (N := some 64) (v := ?_) (a' := ?_) #[true, true, true, true, true, true, true, true, true, false, false, false, false, false, false] rfl rfl (any_of HT_.out (by kernel_rfl)) (fun _ _ _ h => h) (Or.inl ⟨by rfl, ?_⟩) ?_ ?_
                      rotate_left
                      · intro w'
                        go_simp
                        with_reducible rfl
                      rotate_left
                      · simp only [Act.put, List.setIfInBounds_toArray, List.set_cons_zero, List.set_cons_succ, i64_w, i32_w]
                        rfl
                      refine pure_ (i := 9) (N := some 73) (v := ?_) (a' := ?_) #[true, true, true, true, true, true, true, true, true, true, false, false, false, false, false] rfl rfl (any_of HT_.out (by kernel_rfl)) (fun _ _ _ h => h) (Or.inl ⟨by rfl, ?_⟩) ?_ ?_
                      rotate_left
                      · intro w'
                        go_simp
                        with_reducible rfl
                      rotate_left
                      · simp only [Act.put, List.setIfInBounds_toArray, List.set_cons_zero, List.set_cons_succ, i64_w, i32_w]
                        rfl
                      refine pure_ (i := 10) (N := some 74) (v := ?_) (a' := ?_) #[true, true, true, true, true, true, true, true, true, true, true, false, false, false, false] rfl rfl (any_of HT_.out (by kernel_rfl)) (fun _ _ _ h => h) (Or.inl ⟨by rfl, ?_⟩) ?_ ?_
                      rotate_left
                      · intro w'
                        go_simp
                        with_reducible rfl
                      rotate_left
                      · simp only [Act.put, List.setIfInBounds_toArray, List.set_cons_zero, List.set_cons_succ, i64_w, i32_w]
                        rfl
                      refine pure_ (i := 11) (N := some 75) (v := ?_) (a' := ?_) #[true, true, true, true, true, true, true, true, true, true, true, true, false, false, false] rfl rfl (any_of HT_.out (by kernel_rfl)) (fun _ _ _ h => h) (Or.inl ⟨by rfl, ?_⟩) ?_ ?_
                      rotate_left
                      · intro w'
                        go_simp
                        with_reducible rfl
                      rotate_left
                      · simp only [Act.put, List.setIfInBounds_toArray, List.set_cons_zero, List.set_cons_succ, i64_w, i32_w]
                        rfl
                      refine pure_ (i := 12) (N := some 12) (v := ?_) (a' := ?_) #[true, true, true, true, true, true, true, true, true, true, true, true, true, false, false] rfl rfl (any_of HT_.out (by kernel_rfl)) (fun _ _ _ h => h) (Or.inl ⟨by rfl, ?_⟩) ?_ ?_
                      rotate_left
                      · intro w'
                        go_simp
                        with_reducible rfl
                      rotate_left
                      · simp only [Act.put, List.setIfInBounds_toArray, List.set_cons_zero, List.set_cons_succ, i64_w, i32_w]
                        rfl
                      refine pure_ (i := 13) (N := some 13) (v := ?_) (a' := ?_) #[true, true, true, true, true, true, true, true, true, true, true, true, true, true, false] rfl rfl (any_of HT_.out (by kernel_rfl)) (fun _ _ _ h => h) (Or.inl ⟨by rfl, ?_⟩) ?_ ?_
                      rotate_left
                      · intro w'
                        go_simp
                        with_reducible rfl
                      rotate_left
                      · simp only [Act.put, List.setIfInBounds_toArray, List.set_cons_zero, List.set_cons_succ, i64_w, i32_w]
                        rfl
                      refine pure_ (i := 14) (N := some 14) (v := ?_) (a' := ?_) #[true, true, true, true, true, true, true, true, true, true, true, true, true, true, true] rfl rfl (any_of HT_.out (by kernel_rfl)) (fun _ _ _ h => h) (Or.inl ⟨by rfl, ?_⟩) ?_ ?_
                      rotate_left
                      · intro w'
                        go_simp
                        with_reducible rfl
                      rotate_left
                      · simp only [Act.put, List.setIfInBounds_toArray, List.set_cons_zero, List.set_cons_succ, i64_w, i32_w]
                        rfl
                      refine done_ (done_of HT_.out (by kernel_rfl)) ?_
                      try go_wp2
                      go_loopg [15] kj9 (fun kq v15 w' => ∃ (x15_3 : Int), v15 = .int .i64 x15_3 ∧ Aside0 (laws_FnPrefixesCut.l0 kq a2 t326 t327 t328 t336 t337 t338 x15_3 = some r) ∧ Aside0 (kq ≤ kj9) ∧ Aside0 (Kd.R (Kd.int .i64) 3 w' w.heap.size (fun k_ => some k_ ≠ (v331 : Value).ownBlock ∧ some k_ ≠ (v339 : Value).ownBlock ∧ some k_ ≠ (v341 : Value).ownBlock) v329 t326) ∧ Aside0 (Kd.R (Kd.int .i64) 3 w' w.heap.size (fun k_ => some k_ ≠ (v329 : Value).ownBlock ∧ some k_ ≠ (v339 : Value).ownBlock ∧ some k_ ≠ (v341 : Value).ownBlock) v331 t327) ∧ Aside0 (Kd.R (Kd.int .i64) 3 w' w.heap.size (fun k_ => some k_ ≠ (v329 : Value).ownBlock ∧ some k_ ≠ (v331 : Value).ownBlock ∧ some k_ ≠ (v341 : Value).ownBlock) v339 t336) ∧ Aside0 (Kd.R (Kd.int .i64) 3 w' w.heap.size (fun k_ => some k_ ≠ (v329 : Value).ownBlock ∧ some k_ ≠ (v331 : Value).ownBlock ∧ some k_ ≠ (v339 : Value).ownBlock) v341 t337) ∧ Aside0 (Below w.heap.size w w'))
                      case atStart => exact ⟨(0), (by first | rfl | (simp; done) | (simp [*]; done)), H', ⟨Nat.le_refl _⟩, ⟨by (with_reducible repeat (first | apply Kd.R_alloc | apply Kd.R_drewN | apply Kd.R_drew)); exact Kd.R_mono HO330.out (fun _ hk => ⟨hk.1.1.1.1, ⟨hk.1.2, hk.2⟩⟩)⟩, ⟨by (with_reducible repeat (first | apply Kd.R_alloc | apply Kd.R_drewN | apply Kd.R_drew)); exact Kd.R_mono HO332.out (fun _ hk => ⟨hk.1.1.1.1, ⟨hk.1.2, hk.2⟩⟩)⟩, ⟨by (with_reducible repeat (first | apply Kd.R_alloc | apply Kd.R_drewN | apply Kd.R_drew)); exact Kd.R_mono HO340.out (fun _ hk => ⟨hk.1.1.2, ⟨hk.1.2, hk.1.1.1.1⟩⟩)⟩, ⟨by (with_reducible repeat (first | apply Kd.R_alloc | apply Kd.R_drewN | apply Kd.R_drew)); exact Kd.R_mono HO342.out (fun _ hk => ⟨hk.1.1.2, ⟨hk.1.2, hk.1.1.1.1⟩⟩)⟩, ⟨by repeat (first | (with_reducible first | exact HB.out | apply below_alloc | apply pw_below_drewN | apply below_drew1) | exact HB.out)⟩⟩
                      case round =>
                        clear H'
                        try clear c1
                        try clear p2
                        try clear c3
                        try clear c4
                        try clear c5
                        try clear c6
                        try clear c7
                        try clear c9
                        try clear c10
                        try clear c11
                        try clear c13
                        try clear c15
                        try clear c16
                        try clear c16b0
                        try clear c17
                        try clear c33
                        try clear c34
                        try clear c34b0
                        try clear c34b1
                        try clear c35
                        try clear c35b0
                        try clear c35b1
                        try clear c37
                        try clear c41
                        try clear c41b0
                        try clear c42
                        try clear c42b0
                        try clear p2
                        obtain ⟨x15_3, rfl, HA, HK3, HO_9, HO_10, HO_12, HO_13, HB⟩ := hrel
                        cases gk with
                        | zero => exact absurd HA.out (by simp [laws_FnPrefixesCut.l0])
                        | succ k3 =>
                          have H := HA.out
                          clear HA
                          simp only [laws_FnPrefixesCut.l0] at H
                          by_cases c52 : x15_3 < (t327.length : Int)
                          · rw [if_pos c52] at H
                            have c52b0 : decide (x15_3 < (t327.length : Int)) = true := decide_eq_true c52
                            clear c52
                            by_cases c53 : 0 ≤ x15_3
                            · rw [if_pos c53] at H
                              have c53b0 : decide (0 ≤ x15_3) = true := decide_eq_true c53
                              clear c53
                              by_cases c54 : (rd t327 x15_3) ≤ a2
                              · rw [if_pos c54] at H
                                have c54b0 : decide ((rd t327 x15_3) ≤ a2) = true := decide_eq_true c54
                                clear c54
                                have H' := Aside0.mk H
                                clear H
                                obtain ⟨Ao55, co55, eo55⟩ := Kd.R_slice HO_10.out
                                subst eo55
                                have p343 : 0 ≤ (x15_3 : Int) := of_decide_eq_true (by first | (with_reducible assumption) | assumption)
                                have q343 : x15_3 < (t327.length : Int) := of_decide_eq_true (by first | (with_reducible assumption) | assumption)
                                obtain ⟨ad343, e343, hx343_0⟩ := Kd.at_int (Kd.R_reads' HO_10.out).2.2 x15_3 p343 q343
                                cases e343
                                replace p343 := eq_true p343
                                replace q343 := eq_true q343
                                go_wp2
                                go_roundg k3
                                case measure => have := HJ3.out; have := HJ9.out; have := HK3.out; omega
                                case rel => exact ⟨(wrap64 (x15_3 + 1)), (by first | rfl | (simp; done) | (simp [*]; done)), H', ⟨by have := HJ3.out; have := HJ9.out; have := HK3.out; omega⟩, ⟨by (with_reducible repeat (first | apply Kd.R_alloc | apply Kd.R_drewN | apply Kd.R_drew)); exact HO_9.out⟩, ⟨by (with_reducible repeat (first | apply Kd.R_alloc | apply Kd.R_drewN | apply Kd.R_drew)); exact HO_10.out⟩, ⟨by (with_reducible repeat (first | apply Kd.R_alloc | apply Kd.R_drewN | apply Kd.R_drew)); exact HO_12.out⟩, ⟨by (with_reducible repeat (first | apply Kd.R_alloc | apply Kd.R_drewN | apply Kd.R_drew)); exact HO_13.out⟩, ⟨by repeat (first | (with_reducible first | exact HB.out | apply below_alloc | apply pw_below_drewN | apply below_drew1) | exact HB.out)⟩⟩
                              · rw [if_neg c54] at H
                                have c54b0 : decide ((rd t327 x15_3) ≤ a2) = false := decide_eq_false c54
                                clear c54
                                by_cases c56 : t328 = true
                                · subst c56
                                  have H1 : (if t338 = true then (if x15_3 ≤ (t326.length : Int) then ((laws_sameInts.f k3 t336 (t326.take (x15_3 : Int).toNat)).bind fun t348 => (if t348 = true then (if x15_3 ≤ (t327.length : Int) then ((laws_sameInts.f k3 t337 (t327.take (x15_3 : Int).toNat)).bind fun t353 => (some t353)) else (none)) else (some false))) else (some false)) else (some false)) = some r := by rw [if_pos rfl] at H; exact H
                                  clear H
                                  have H := H1
                                  clear H1
                                  by_cases c57 : t338 = true
                                  · subst c57
                                    have H1 : (if x15_3 ≤ (t326.length : Int) then ((laws_sameInts.f k3 t336 (t326.take (x15_3 : Int).toNat)).bind fun t348 => (if t348 = true then (if x15_3 ≤ (t327.length : Int) then ((laws_sameInts.f k3 t337 (t327.take (x15_3 : Int).toNat)).bind fun t353 => (some t353)) else (none)) else (some false))) else (some false)) = some r := by rw [if_pos rfl] at H; exact H
                                    clear H
                                    have H := H1
                                    clear H1
                                    by_cases c58 : x15_3 ≤ (t326.length : Int)
                                    · rw [if_pos c58] at H
                                      have c58b0 : decide (x15_3 ≤ (t326.length : Int)) = true := decide_eq_true c58
                                      clear c58
                                      have c59b0 := eq_true (of_decide_eq_true (by first | (with_reducible assumption) | assumption) : 0 ≤ x15_3)
                                      have c60b0 := eq_true (of_decide_eq_true (by first | (with_reducible assumption) | assumption) : x15_3 ≤ (t326.length : Int))
                                      obtain ⟨y344, hy344⟩ : ∃ y_ : List Int, y_ = (t326.take (x15_3 : Int).toNat) := ⟨_, rfl⟩
                                      replace H : ((laws_sameInts.f k3 t336 y344).bind fun t348 => (if t348 = true then (if x15_3 ≤ (t327.length : Int) then ((laws_sameInts.f k3 t337 (t327.take (x15_3 : Int).toNat)).bind fun t353 => (some t353)) else (none)) else (some false))) = some r := by first | (rw [hy344]; with_reducible exact H) | (have H2_ := (Option.bind_some _ _).symm.trans H; rw [hy344]; with_reducible exact H2_) | (have H2_ := (Option.bind_some _ _).symm.trans H; with_reducible exact H2_) | with_reducible exact H | (rw [hy344]; exact H) | exact H
                                      have Ny344 := Aside0.mk hy344
                                      clear hy344
                                      replace H := Option.bind_eq_some_iff.mp H
                                      obtain ⟨t348, A610, H⟩ := H
                                      replace H : (if t348 = true then (if x15_3 ≤ (t327.length : Int) then ((laws_sameInts.f k3 t337 (t327.take (x15_3 : Int).toNat)).bind fun t353 => (some t353)) else (none)) else (some false)) = some r := H
                                      have A61 := Aside0.mk A610
                                      clear A610
                                      by_cases c62 : t348 = true
                                      · subst c62
                                        have H1 : (if x15_3 ≤ (t327.length : Int) then ((laws_sameInts.f k3 t337 (t327.take (x15_3 : Int).toNat)).bind fun t353 => (some t353)) else (none)) = some r := by rw [if_pos rfl] at H; exact H
                                        clear H
                                        have H := H1
                                        clear H1
                                        have c63b0 := eq_true (of_decide_eq_true (by first | (with_reducible assumption) | assumption) : 0 ≤ x15_3)
                                        by_cases c64 : x15_3 ≤ (t327.length : Int)
                                        · rw [if_pos c64] at H
                                          have c64b0 := eq_true c64
                                          have c64b1 : decide (x15_3 ≤ (t327.length : Int)) = true := decide_eq_true c64
                                          clear c64
                                          obtain ⟨y349, hy349⟩ : ∃ y_ : List Int, y_ = (t327.take (x15_3 : Int).toNat) := ⟨_, rfl⟩
                                          replace H : ((laws_sameInts.f k3 t337 y349).bind fun t353 => (some t353)) = some r := by first | (rw [hy349]; with_reducible exact H) | (have H2_ := (Option.bind_some _ _).symm.trans H; rw [hy349]; with_reducible exact H2_) | (have H2_ := (Option.bind_some _ _).symm.trans H; with_reducible exact H2_) | with_reducible exact H | (rw [hy349]; exact H) | exact H
                                          have Ny349 := Aside0.mk hy349
                                          clear hy349
                                          replace H := Option.bind_eq_some_iff.mp H
                                          obtain ⟨t353, A650, H⟩ := H
                                          replace H : (some t353) = some r := H
                                          have A65 := Aside0.mk A650
                                          clear A650
                                          obtain rfl := Option.some.inj H
                                          obtain ⟨Ao66, co66, eo66⟩ := Kd.R_slice HO_10.out
                                          subst eo66
                                          have p343 : 0 ≤ (x15_3 : Int) := of_decide_eq_true (by first | (with_reducible assumption) | assumption)
                                          have q343 : x15_3 < (t327.length : Int) := of_decide_eq_true (by first | (with_reducible assumption) | assumption)
                                          obtain ⟨ad343, e343, hx343_0⟩ := Kd.at_int (Kd.R_reads' HO_10.out).2.2 x15_3 p343 q343
                                          cases e343
                                          replace p343 := eq_true p343
                                          replace q343 := eq_true q343
                                          obtain ⟨Ao67, co67, eo67⟩ := Kd.R_slice HO_9.out
                                          subst eo67
                                          have q68 : (x15_3 : Int) ≤ ((t326.length : Int) : Int) := of_decide_eq_true (by first | (with_reducible assumption) | assumption)
                                          obtain ⟨i068, hi068, _, hsz68, _⟩ := info_parts info3
                                          have hroom68 : t326.length ≤ co67 := (Kd.R_reads' HO_9.out).2.1
                                          have hC68 : Kd.C (Kd.int .i64) _ Ao67 t326.length t326 := (Kd.R_reads' HO_9.out).2.2
                                          have hcut68 := cut_to (P := Try.prog) 23 3 .i64 Try.underlying23 hi068 Ao67 t326.length co67 x15_3 (of_decide_eq_true (by first | (with_reducible assumption) | assumption)) q68 hroom68
                                          have hr68 := Kd.C_take (m := (x15_3 : Int).toNat) hC68 (by omega)
                                          have hy68 : y344.length = (x15_3 : Int).toNat := (by rw [Ny344.out, List.length_take]; omega)
                                          rw [← Ny344.out] at hr68
                                          rw [← hy68] at hcut68
                                          have HR347 := Aside0.mk hr68
                                          have HC347 := Aside0.mk (show y344.length ≤ co67 from by omega)
                                          clear hr68 hC68 hroom68 hi068 hsz68
                                          have KY68 := Aside0.mk hy68
                                          clear hy68
                                          have KL68 := Aside0.mk (show (x15_3 : Int).toNat ≤ t326.length from by omega)
                                          replace q68 := eq_true q68
                                          obtain ⟨Ao69, co69, eo69⟩ := Kd.R_slice HO_12.out
                                          subst eo69
                                          go_wp2_with (first | (go_at_call 18; (with_reducible refine (laws_sameInts.calls k3 _ _ t336 _ _ y344 true _ ?side1 ?side2 ?side3 ?side4 A61.out).mono ?_); (case side1 => repeat (first | exact (Kd.R_reads' HO_12.out).2.2 | (with_reducible refine Kd.C_alloc ?_ _) | (with_reducible refine Kd.C_drewN ?_ _) | (with_reducible refine Kd.C_drew ?_))); (case side2 => exact (Kd.R_reads' HO_12.out).2.1); (case side3 => repeat (first | exact (by repeat (first | (with_reducible exact HR347.out) | (with_reducible refine Kd.C_alloc ?_ _) | (with_reducible refine Kd.C_drewN ?_ _) | (with_reducible refine Kd.C_drew ?_) | exact HR347.out)) | (with_reducible refine Kd.C_alloc ?_ _) | (with_reducible refine Kd.C_drewN ?_ _) | (with_reducible refine Kd.C_drew ?_))); (case side4 => exact HC347.out); rintro e w' ⟨rfl, ⟨nd, rfl⟩⟩; have q70 : (x15_3 : Int) ≤ ((t327.length : Int) : Int) := of_decide_eq_true (by first | (with_reducible assumption) | assumption); obtain ⟨i070, hi070, _, hsz70, _⟩ := info_parts info3; have hroom70 : t327.length ≤ co66 := (Kd.R_reads' HO_10.out).2.1; have hC70 : Kd.C (Kd.int .i64) _ (some ad343) t327.length t327 := (Kd.R_reads' HO_10.out).2.2; have hcut70 := cut_to (P := Try.prog) 23 3 .i64 Try.underlying23 hi070 (some ad343) t327.length co66 x15_3 (of_decide_eq_true (by first | (with_reducible assumption) | assumption)) q70 hroom70; have hr70 := Kd.C_take (m := (x15_3 : Int).toNat) hC70 (by omega); have hy70 : y349.length = (x15_3 : Int).toNat := (by rw [Ny349.out, List.length_take]; omega); rw [← Ny349.out] at hr70; rw [← hy70] at hcut70; have HR352 := Aside0.mk hr70; have HC352 := Aside0.mk (show y349.length ≤ co66 from by omega); clear hr70 hC70 hroom70 hi070 hsz70; have KY70 := Aside0.mk hy70; clear hy70; have KL70 := Aside0.mk (show (x15_3 : Int).toNat ≤ t327.length from by omega); replace q70 := eq_true q70; obtain ⟨Ao71, co71, eo71⟩ := Kd.R_slice HO_13.out; subst eo71) | (go_at_call 18; (with_reducible refine (laws_sameInts.calls k3 _ _ t337 _ _ y349 t353 _ ?side1 ?side2 ?side3 ?side4 A65.out).mono ?_); (case side1 => repeat (first | exact (Kd.R_reads' HO_13.out).2.2 | (with_reducible refine Kd.C_alloc ?_ _) | (with_reducible refine Kd.C_drewN ?_ _) | (with_reducible refine Kd.C_drew ?_))); (case side2 => exact (Kd.R_reads' HO_13.out).2.1); (case side3 => repeat (first | exact (by repeat (first | (with_reducible exact HR352.out) | (with_reducible refine Kd.C_alloc ?_ _) | (with_reducible refine Kd.C_drewN ?_ _) | (with_reducible refine Kd.C_drew ?_) | exact HR352.out)) | (with_reducible refine Kd.C_alloc ?_ _) | (with_reducible refine Kd.C_drewN ?_ _) | (with_reducible refine Kd.C_drew ?_))); (case side4 => exact HC352.out); rintro e w' ⟨rfl, ⟨nd, rfl⟩⟩))
                                          go_ret
                                          exact ⟨by first | rfl | (simp [errW_none, errW_some] <;> rfl) | (simp [*, errW_none, errW_some] <;> rfl), by repeat (first | (with_reducible first | exact HB.out | apply below_alloc | apply pw_below_drewN | apply below_drew1) | exact HB.out)⟩
                                        · rw [if_neg c64] at H
                                          exact absurd H (by simp)
                                      · replace c62 := Bool.eq_false_iff.mpr c62
                                        subst c62
                                        have H1 : (some false) = some r := by rw [if_neg (show ¬ (false = true) by decide)] at H; exact H
                                        clear H
                                        have H := H1
                                        clear H1
                                        obtain rfl := Option.some.inj H
                                        obtain ⟨Ao72, co72, eo72⟩ := Kd.R_slice HO_10.out
                                        subst eo72
                                        have p343 : 0 ≤ (x15_3 : Int) := of_decide_eq_true (by first | (with_reducible assumption) | assumption)
                                        have q343 : x15_3 < (t327.length : Int) := of_decide_eq_true (by first | (with_reducible assumption) | assumption)
                                        obtain ⟨ad343, e343, hx343_0⟩ := Kd.at_int (Kd.R_reads' HO_10.out).2.2 x15_3 p343 q343
                                        cases e343
                                        replace p343 := eq_true p343
                                        replace q343 := eq_true q343
                                        obtain ⟨Ao73, co73, eo73⟩ := Kd.R_slice HO_9.out
                                        subst eo73
                                        have q74 : (x15_3 : Int) ≤ ((t326.length : Int) : Int) := of_decide_eq_true (by first | (with_reducible assumption) | assumption)
                                        obtain ⟨i074, hi074, _, hsz74, _⟩ := info_parts info3
                                        have hroom74 : t326.length ≤ co73 := (Kd.R_reads' HO_9.out).2.1
                                        have hC74 : Kd.C (Kd.int .i64) _ Ao73 t326.length t326 := (Kd.R_reads' HO_9.out).2.2
                                        have hcut74 := cut_to (P := Try.prog) 23 3 .i64 Try.underlying23 hi074 Ao73 t326.length co73 x15_3 (of_decide_eq_true (by first | (with_reducible assumption) | assumption)) q74 hroom74
                                        have hr74 := Kd.C_take (m := (x15_3 : Int).toNat) hC74 (by omega)
                                        have hy74 : y344.length = (x15_3 : Int).toNat := (by rw [Ny344.out, List.length_take]; omega)
                                        rw [← Ny344.out] at hr74
                                        rw [← hy74] at hcut74
                                        have HR347 := Aside0.mk hr74
                                        have HC347 := Aside0.mk (show y344.length ≤ co73 from by omega)
                                        clear hr74 hC74 hroom74 hi074 hsz74
                                        have KY74 := Aside0.mk hy74
                                        clear hy74
                                        have KL74 := Aside0.mk (show (x15_3 : Int).toNat ≤ t326.length from by omega)
                                        replace q74 := eq_true q74
                                        obtain ⟨Ao75, co75, eo75⟩ := Kd.R_slice HO_12.out
                                        subst eo75
                                        go_wp2_with (first | (go_at_call 18; (with_reducible refine (laws_sameInts.calls k3 _ _ t336 _ _ y344 false _ ?side1 ?side2 ?side3 ?side4 A61.out).mono ?_); (case side1 => repeat (first | exact (Kd.R_reads' HO_12.out).2.2 | (with_reducible refine Kd.C_alloc ?_ _) | (with_reducible refine Kd.C_drewN ?_ _) | (with_reducible refine Kd.C_drew ?_))); (case side2 => exact (Kd.R_reads' HO_12.out).2.1); (case side3 => repeat (first | exact (by repeat (first | (with_reducible exact HR347.out) | (with_reducible refine Kd.C_alloc ?_ _) | (with_reducible refine Kd.C_drewN ?_ _) | (with_reducible refine Kd.C_drew ?_) | exact HR347.out)) | (with_reducible refine Kd.C_alloc ?_ _) | (with_reducible refine Kd.C_drewN ?_ _) | (with_reducible refine Kd.C_drew ?_))); (case side4 => exact HC347.out); rintro e w' ⟨rfl, ⟨nd, rfl⟩⟩))
                                        go_ret
                                        exact ⟨by first | rfl | (simp [errW_none, errW_some] <;> rfl) | (simp [*, errW_none, errW_some] <;> rfl), by repeat (first | (with_reducible first | exact HB.out | apply below_alloc | apply pw_below_drewN | apply below_drew1) | exact HB.out)⟩
                                    · rw [if_neg c58] at H
                                      have c58b0 : decide (x15_3 ≤ (t326.length : Int)) = false := decide_eq_false c58
                                      clear c58
                                      obtain rfl := Option.some.inj H
                                      obtain ⟨Ao76, co76, eo76⟩ := Kd.R_slice HO_10.out
                                      subst eo76
                                      have p343 : 0 ≤ (x15_3 : Int) := of_decide_eq_true (by first | (with_reducible assumption) | assumption)
                                      have q343 : x15_3 < (t327.length : Int) := of_decide_eq_true (by first | (with_reducible assumption) | assumption)
                                      obtain ⟨ad343, e343, hx343_0⟩ := Kd.at_int (Kd.R_reads' HO_10.out).2.2 x15_3 p343 q343
                                      cases e343
                                      replace p343 := eq_true p343
                                      replace q343 := eq_true q343
                                      obtain ⟨Ao77, co77, eo77⟩ := Kd.R_slice HO_9.out
                                      subst eo77
                                      go_wp2
                                      go_ret
                                      exact ⟨by first | rfl | (simp [errW_none, errW_some] <;> rfl) | (simp [*, errW_none, errW_some] <;> rfl), by repeat (first | (with_reducible first | exact HB.out | apply below_alloc | apply pw_below_drewN | apply below_drew1) | exact HB.out)⟩
                                  · replace c57 := Bool.eq_false_iff.mpr c57
                                    subst c57
                                    have H1 : (some false) = some r := by rw [if_neg (show ¬ (false = true) by decide)] at H; exact H
                                    clear H
                                    have H := H1
                                    clear H1
                                    obtain rfl := Option.some.inj H
                                    obtain ⟨Ao78, co78, eo78⟩ := Kd.R_slice HO_10.out
                                    subst eo78
                                    have p343 : 0 ≤ (x15_3 : Int) := of_decide_eq_true (by first | (with_reducible assumption) | assumption)
                                    have q343 : x15_3 < (t327.length : Int) := of_decide_eq_true (by first | (with_reducible assumption) | assumption)
                                    obtain ⟨ad343, e343, hx343_0⟩ := Kd.at_int (Kd.R_reads' HO_10.out).2.2 x15_3 p343 q343
                                    cases e343
                                    replace p343 := eq_true p343
                                    replace q343 := eq_true q343
                                    go_wp2
                                    go_ret
                                    exact ⟨by first | rfl | (simp [errW_none, errW_some] <;> rfl) | (simp [*, errW_none, errW_some] <;> rfl), by repeat (first | (with_reducible first | exact HB.out | apply below_alloc | apply pw_below_drewN | apply below_drew1) | exact HB.out)⟩
                                · replace c56 := Bool.eq_false_iff.mpr c56
                                  subst c56
                                  have H1 : (some false) = some r := by rw [if_neg (show ¬ (false = true) by decide)] at H; exact H
                                  clear H
                                  have H := H1
                                  clear H1
                                  obtain rfl := Option.some.inj H
                                  obtain ⟨Ao79, co79, eo79⟩ := Kd.R_slice HO_10.out
                                  subst eo79
                                  have p343 : 0 ≤ (x15_3 : Int) := of_decide_eq_true (by first | (with_reducible assumption) | assumption)
                                  have q343 : x15_3 < (t327.length : Int) := of_decide_eq_true (by first | (with_reducible assumption) | assumption)
                                  obtain ⟨ad343, e343, hx343_0⟩ := Kd.at_int (Kd.R_reads' HO_10.out).2.2 x15_3 p343 q343
                                  cases e343
                                  replace p343 := eq_true p343
                                  replace q343 := eq_true q343
                                  go_wp2
                                  go_ret
                                  exact ⟨by first | rfl | (simp [errW_none, errW_some] <;> rfl) | (simp [*, errW_none, errW_some] <;> rfl), by repeat (first | (with_reducible first | exact HB.out | apply below_alloc | apply pw_below_drewN | apply below_drew1) | exact HB.out)⟩
                            · rw [if_neg c53] at H
                              exact absurd H (by simp)
                          · rw [if_neg c52] at H
                            have c52b0 : decide (x15_3 < (t327.length : Int)) = false := decide_eq_false c52
                            clear c52
                            by_cases c80 : t328 = true
                            · subst c80
                              have H1 : (if t338 = true then (if x15_3 ≤ (t326.length : Int) then (if 0 ≤ x15_3 then ((laws_sameInts.f k3 t336 (t326.take (x15_3 : Int).toNat)).bind fun t358 => (if t358 = true then (if x15_3 ≤ (t327.length : Int) then ((laws_sameInts.f k3 t337 (t327.take (x15_3 : Int).toNat)).bind fun t363 => (some t363)) else (none)) else (some false))) else (none)) else (some false)) else (some false)) = some r := by rw [if_pos rfl] at H; exact H
                              clear H
                              have H := H1
                              clear H1
                              by_cases c81 : t338 = true
                              · subst c81
                                have H1 : (if x15_3 ≤ (t326.length : Int) then (if 0 ≤ x15_3 then ((laws_sameInts.f k3 t336 (t326.take (x15_3 : Int).toNat)).bind fun t358 => (if t358 = true then (if x15_3 ≤ (t327.length : Int) then ((laws_sameInts.f k3 t337 (t327.take (x15_3 : Int).toNat)).bind fun t363 => (some t363)) else (none)) else (some false))) else (none)) else (some false)) = some r := by rw [if_pos rfl] at H; exact H
                                clear H
                                have H := H1
                                clear H1
                                by_cases c82 : x15_3 ≤ (t326.length : Int)
                                · rw [if_pos c82] at H
                                  have c82b0 : decide (x15_3 ≤ (t326.length : Int)) = true := decide_eq_true c82
                                  clear c82
                                  by_cases c83 : 0 ≤ x15_3
                                  · rw [if_pos c83] at H
                                    have c83b0 := eq_true c83
                                    have c83b1 : decide (0 ≤ x15_3) = true := decide_eq_true c83
                                    clear c83
                                    have c84b0 := eq_true (of_decide_eq_true (by first | (with_reducible assumption) | assumption) : x15_3 ≤ (t326.length : Int))
                                    obtain ⟨y354, hy354⟩ : ∃ y_ : List Int, y_ = (t326.take (x15_3 : Int).toNat) := ⟨_, rfl⟩
                                    replace H : ((laws_sameInts.f k3 t336 y354).bind fun t358 => (if t358 = true then (if x15_3 ≤ (t327.length : Int) then ((laws_sameInts.f k3 t337 (t327.take (x15_3 : Int).toNat)).bind fun t363 => (some t363)) else (none)) else (some false))) = some r := by first | (rw [hy354]; with_reducible exact H) | (have H2_ := (Option.bind_some _ _).symm.trans H; rw [hy354]; with_reducible exact H2_) | (have H2_ := (Option.bind_some _ _).symm.trans H; with_reducible exact H2_) | with_reducible exact H | (rw [hy354]; exact H) | exact H
                                    have Ny354 := Aside0.mk hy354
                                    clear hy354
                                    replace H := Option.bind_eq_some_iff.mp H
                                    obtain ⟨t358, A850, H⟩ := H
                                    replace H : (if t358 = true then (if x15_3 ≤ (t327.length : Int) then ((laws_sameInts.f k3 t337 (t327.take (x15_3 : Int).toNat)).bind fun t363 => (some t363)) else (none)) else (some false)) = some r := H
                                    have A85 := Aside0.mk A850
                                    clear A850
                                    by_cases c86 : t358 = true
                                    · subst c86
                                      have H1 : (if x15_3 ≤ (t327.length : Int) then ((laws_sameInts.f k3 t337 (t327.take (x15_3 : Int).toNat)).bind fun t363 => (some t363)) else (none)) = some r := by rw [if_pos rfl] at H; exact H
                                      clear H
                                      have H := H1
                                      clear H1
                                      have c87b0 := eq_true (of_decide_eq_true (by first | (with_reducible assumption) | assumption) : 0 ≤ x15_3)
                                      by_cases c88 : x15_3 ≤ (t327.length : Int)
                                      · rw [if_pos c88] at H
                                        have c88b0 := eq_true c88
                                        have c88b1 : decide (x15_3 ≤ (t327.length : Int)) = true := decide_eq_true c88
                                        clear c88
                                        obtain ⟨y359, hy359⟩ : ∃ y_ : List Int, y_ = (t327.take (x15_3 : Int).toNat) := ⟨_, rfl⟩
                                        replace H : ((laws_sameInts.f k3 t337 y359).bind fun t363 => (some t363)) = some r := by first | (rw [hy359]; with_reducible exact H) | (have H2_ := (Option.bind_some _ _).symm.trans H; rw [hy359]; with_reducible exact H2_) | (have H2_ := (Option.bind_some _ _).symm.trans H; with_reducible exact H2_) | with_reducible exact H | (rw [hy359]; exact H) | exact H
                                        have Ny359 := Aside0.mk hy359
                                        clear hy359
                                        replace H := Option.bind_eq_some_iff.mp H
                                        obtain ⟨t363, A890, H⟩ := H
                                        replace H : (some t363) = some r := H
                                        have A89 := Aside0.mk A890
                                        clear A890
                                        obtain rfl := Option.some.inj H
                                        obtain ⟨Ao90, co90, eo90⟩ := Kd.R_slice HO_10.out
                                        subst eo90
                                        obtain ⟨Ao91, co91, eo91⟩ := Kd.R_slice HO_9.out
                                        subst eo91
                                        have q92 : (x15_3 : Int) ≤ ((t326.length : Int) : Int) := of_decide_eq_true (by first | (with_reducible assumption) | assumption)
                                        obtain ⟨i092, hi092, _, hsz92, _⟩ := info_parts info3
                                        have hroom92 : t326.length ≤ co91 := (Kd.R_reads' HO_9.out).2.1
                                        have hC92 : Kd.C (Kd.int .i64) _ Ao91 t326.length t326 := (Kd.R_reads' HO_9.out).2.2
                                        have hcut92 := cut_to (P := Try.prog) 23 3 .i64 Try.underlying23 hi092 Ao91 t326.length co91 x15_3 (of_decide_eq_true (by first | (with_reducible assumption) | assumption)) q92 hroom92
                                        have hr92 := Kd.C_take (m := (x15_3 : Int).toNat) hC92 (by omega)
                                        have hy92 : y354.length = (x15_3 : Int).toNat := (by rw [Ny354.out, List.length_take]; omega)
                                        rw [← Ny354.out] at hr92
                                        rw [← hy92] at hcut92
                                        have HR357 := Aside0.mk hr92
                                        have HC357 := Aside0.mk (show y354.length ≤ co91 from by omega)
                                        clear hr92 hC92 hroom92 hi092 hsz92
                                        have KY92 := Aside0.mk hy92
                                        clear hy92
                                        have KL92 := Aside0.mk (show (x15_3 : Int).toNat ≤ t326.length from by omega)
                                        replace q92 := eq_true q92
                                        obtain ⟨Ao93, co93, eo93⟩ := Kd.R_slice HO_12.out
                                        subst eo93
                                        go_wp2_with (first | (go_at_call 18; (with_reducible refine (laws_sameInts.calls k3 _ _ t336 _ _ y354 true _ ?side1 ?side2 ?side3 ?side4 A85.out).mono ?_); (case side1 => repeat (first | exact (Kd.R_reads' HO_12.out).2.2 | (with_reducible refine Kd.C_alloc ?_ _) | (with_reducible refine Kd.C_drewN ?_ _) | (with_reducible refine Kd.C_drew ?_))); (case side2 => exact (Kd.R_reads' HO_12.out).2.1); (case side3 => repeat (first | exact (by repeat (first | (with_reducible exact HR357.out) | (with_reducible refine Kd.C_alloc ?_ _) | (with_reducible refine Kd.C_drewN ?_ _) | (with_reducible refine Kd.C_drew ?_) | exact HR357.out)) | (with_reducible refine Kd.C_alloc ?_ _) | (with_reducible refine Kd.C_drewN ?_ _) | (with_reducible refine Kd.C_drew ?_))); (case side4 => exact HC357.out); rintro e w' ⟨rfl, ⟨nd, rfl⟩⟩; have q94 : (x15_3 : Int) ≤ ((t327.length : Int) : Int) := of_decide_eq_true (by first | (with_reducible assumption) | assumption); obtain ⟨i094, hi094, _, hsz94, _⟩ := info_parts info3; have hroom94 : t327.length ≤ co90 := (Kd.R_reads' HO_10.out).2.1; have hC94 : Kd.C (Kd.int .i64) _ Ao90 t327.length t327 := (Kd.R_reads' HO_10.out).2.2; have hcut94 := cut_to (P := Try.prog) 23 3 .i64 Try.underlying23 hi094 Ao90 t327.length co90 x15_3 (of_decide_eq_true (by first | (with_reducible assumption) | assumption)) q94 hroom94; have hr94 := Kd.C_take (m := (x15_3 : Int).toNat) hC94 (by omega); have hy94 : y359.length = (x15_3 : Int).toNat := (by rw [Ny359.out, List.length_take]; omega); rw [← Ny359.out] at hr94; rw [← hy94] at hcut94; have HR362 := Aside0.mk hr94; have HC362 := Aside0.mk (show y359.length ≤ co90 from by omega); clear hr94 hC94 hroom94 hi094 hsz94; have KY94 := Aside0.mk hy94; clear hy94; have KL94 := Aside0.mk (show (x15_3 : Int).toNat ≤ t327.length from by omega); replace q94 := eq_true q94; obtain ⟨Ao95, co95, eo95⟩ := Kd.R_slice HO_13.out; subst eo95) | (go_at_call 18; (with_reducible refine (laws_sameInts.calls k3 _ _ t337 _ _ y359 t363 _ ?side1 ?side2 ?side3 ?side4 A89.out).mono ?_); (case side1 => repeat (first | exact (Kd.R_reads' HO_13.out).2.2 | (with_reducible refine Kd.C_alloc ?_ _) | (with_reducible refine Kd.C_drewN ?_ _) | (with_reducible refine Kd.C_drew ?_))); (case side2 => exact (Kd.R_reads' HO_13.out).2.1); (case side3 => repeat (first | exact (by repeat (first | (with_reducible exact HR362.out) | (with_reducible refine Kd.C_alloc ?_ _) | (with_reducible refine Kd.C_drewN ?_ _) | (with_reducible refine Kd.C_drew ?_) | exact HR362.out)) | (with_reducible refine Kd.C_alloc ?_ _) | (with_reducible refine Kd.C_drewN ?_ _) | (with_reducible refine Kd.C_drew ?_))); (case side4 => exact HC362.out); rintro e w' ⟨rfl, ⟨nd, rfl⟩⟩))
                                        go_ret
                                        exact ⟨by first | rfl | (simp [errW_none, errW_some] <;> rfl) | (simp [*, errW_none, errW_some] <;> rfl), by repeat (first | (with_reducible first | exact HB.out | apply below_alloc | apply pw_below_drewN | apply below_drew1) | exact HB.out)⟩
                                      · rw [if_neg c88] at H
                                        exact absurd H (by simp)
                                    · replace c86 := Bool.eq_false_iff.mpr c86
                                      subst c86
                                      have H1 : (some false) = some r := by rw [if_neg (show ¬ (false = true) by decide)] at H; exact H
                                      clear H
                                      have H := H1
                                      clear H1
                                      obtain rfl := Option.some.inj H
                                      obtain ⟨Ao96, co96, eo96⟩ := Kd.R_slice HO_10.out
                                      subst eo96
                                      obtain ⟨Ao97, co97, eo97⟩ := Kd.R_slice HO_9.out
                                      subst eo97
                                      have q98 : (x15_3 : Int) ≤ ((t326.length : Int) : Int) := of_decide_eq_true (by first | (with_reducible assumption) | assumption)
                                      obtain ⟨i098, hi098, _, hsz98, _⟩ := info_parts info3
                                      have hroom98 : t326.length ≤ co97 := (Kd.R_reads' HO_9.out).2.1
                                      have hC98 : Kd.C (Kd.int .i64) _ Ao97 t326.length t326 := (Kd.R_reads' HO_9.out).2.2
                                      have hcut98 := cut_to (P := Try.prog) 23 3 .i64 Try.underlying23 hi098 Ao97 t326.length co97 x15_3 (of_decide_eq_true (by first | (with_reducible assumption) | assumption)) q98 hroom98
                                      have hr98 := Kd.C_take (m := (x15_3 : Int).toNat) hC98 (by omega)
                                      have hy98 : y354.length = (x15_3 : Int).toNat := (by rw [Ny354.out, List.length_take]; omega)
                                      rw [← Ny354.out] at hr98
                                      rw [← hy98] at hcut98
                                      have HR357 := Aside0.mk hr98
                                      have HC357 := Aside0.mk (show y354.length ≤ co97 from by omega)
                                      clear hr98 hC98 hroom98 hi098 hsz98
                                      have KY98 := Aside0.mk hy98
                                      clear hy98
                                      have KL98 := Aside0.mk (show (x15_3 : Int).toNat ≤ t326.length from by omega)
                                      replace q98 := eq_true q98
                                      obtain ⟨Ao99, co99, eo99⟩ := Kd.R_slice HO_12.out
                                      subst eo99
                                      go_wp2_with (first | (go_at_call 18; (with_reducible refine (laws_sameInts.calls k3 _ _ t336 _ _ y354 false _ ?side1 ?side2 ?side3 ?side4 A85.out).mono ?_); (case side1 => repeat (first | exact (Kd.R_reads' HO_12.out).2.2 | (with_reducible refine Kd.C_alloc ?_ _) | (with_reducible refine Kd.C_drewN ?_ _) | (with_reducible refine Kd.C_drew ?_))); (case side2 => exact (Kd.R_reads' HO_12.out).2.1); (case side3 => repeat (first | exact (by repeat (first | (with_reducible exact HR357.out) | (with_reducible refine Kd.C_alloc ?_ _) | (with_reducible refine Kd.C_drewN ?_ _) | (with_reducible refine Kd.C_drew ?_) | exact HR357.out)) | (with_reducible refine Kd.C_alloc ?_ _) | (with_reducible refine Kd.C_drewN ?_ _) | (with_reducible refine Kd.C_drew ?_))); (case side4 => exact HC357.out); rintro e w' ⟨rfl, ⟨nd, rfl⟩⟩))
                                      go_ret
                                      exact ⟨by first | rfl | (simp [errW_none, errW_some] <;> rfl) | (simp [*, errW_none, errW_some] <;> rfl), by repeat (first | (with_reducible first | exact HB.out | apply below_alloc | apply pw_below_drewN | apply below_drew1) | exact HB.out)⟩
                                  · rw [if_neg c83] at H
                                    exact absurd H (by simp)
                                · rw [if_neg c82] at H
                                  have c82b0 : decide (x15_3 ≤ (t326.length : Int)) = false := decide_eq_false c82
                                  clear c82
                                  obtain rfl := Option.some.inj H
                                  obtain ⟨Ao100, co100, eo100⟩ := Kd.R_slice HO_10.out
                                  subst eo100
                                  obtain ⟨Ao101, co101, eo101⟩ := Kd.R_slice HO_9.out
                                  subst eo101
                                  go_wp2
                                  go_ret
                                  exact ⟨by first | rfl | (simp [errW_none, errW_some] <;> rfl) | (simp [*, errW_none, errW_some] <;> rfl), by repeat (first | (with_reducible first | exact HB.out | apply below_alloc | apply pw_below_drewN | apply below_drew1) | exact HB.out)⟩
                              · replace c81 := Bool.eq_false_iff.mpr c81
                                subst c81
                                have H1 : (some false) = some r := by rw [if_neg (show ¬ (false = true) by decide)] at H; exact H
                                clear H
                                have H := H1
                                clear H1
                                obtain rfl := Option.some.inj H
                                obtain ⟨Ao102, co102, eo102⟩ := Kd.R_slice HO_10.out
                                subst eo102
                                go_wp2
                                go_ret
                                exact ⟨by first | rfl | (simp [errW_none, errW_some] <;> rfl) | (simp [*, errW_none, errW_some] <;> rfl), by repeat (first | (with_reducible first | exact HB.out | apply below_alloc | apply pw_below_drewN | apply below_drew1) | exact HB.out)⟩
                            · replace c80 := Bool.eq_false_iff.mpr c80
                              subst c80
                              have H1 : (some false) = some r := by rw [if_neg (show ¬ (false = true) by decide)] at H; exact H
                              clear H
                              have H := H1
                              clear H1
                              obtain rfl := Option.some.inj H
                              obtain ⟨Ao103, co103, eo103⟩ := Kd.R_slice HO_10.out
                              subst eo103
                              go_wp2
                              go_ret
                              exact ⟨by first | rfl | (simp [errW_none, errW_some] <;> rfl) | (simp [*, errW_none, errW_some] <;> rfl), by repeat (first | (with_reducible first | exact HB.out | apply below_alloc | apply pw_below_drewN | apply below_drew1) | exact HB.out)⟩
                    · replace c37 := Bool.eq_false_iff.mpr c37
                      subst c37
                      have H1 : (some true) = some r := by rw [if_neg (show ¬ (false = true) by decide)] at H; exact H
                      clear H
                      have H := H1
                      clear H1
                      obtain rfl := Option.some.inj H
                      go_wp2_with (first | ((with_reducible refine gate_callee (f := 15) rfl ?_); refine goesL_ (some 49) rfl rfl Try.func15 (by kernel_rfl) rfl #[.string (a1.extract 0 (a2 : Int).toNat)] rfl (by (try simp only [List.map_toArray, List.map_cons, List.map_nil]); first | done | rfl | (simp only [List.length_drop, List.length_take]; rfl)) ?_; (with_reducible refine (laws_signs.calls kj9 (a1.extract 0 (a2 : Int).toNat) t319 false _ A36.out).mono ?_); rintro e w104 ⟨v321, rfl, ho0, hb⟩; refine ⟨_, rfl, ?_⟩; have n0_ := Aside0.mk (Kd.R_lower ho0 (below_size (by repeat (first | (with_reducible first | exact HB.out | apply below_alloc | apply pw_below_drewN | apply below_drew1) | exact HB.out)))); have n1_ := Aside0.mk (below_step (by repeat (first | (with_reducible first | exact HB.out | apply below_alloc | apply pw_below_drewN | apply below_drew1) | exact HB.out)) hb); clear HB; have HO322 := n0_; have HB := n1_; clear n0_ n1_; (try clear hb); (try clear hb2); (try clear hk); (try clear hi); (try clear ho0)))
                      go_ret
                      exact ⟨by first | rfl | (simp [errW_none, errW_some] <;> rfl) | (simp [*, errW_none, errW_some] <;> rfl), by repeat (first | (with_reducible first | exact HB.out | apply below_alloc | apply pw_below_drewN | apply below_drew1) | exact HB.out)⟩
                  · rw [if_neg c35] at H
                    exact absurd H (by simp)
                · rw [if_neg c34] at H
                  exact absurd H (by simp)
        · replace c9 := Bool.eq_false_iff.mpr c9
          subst c9
          have H1 : (some false) = some r := by rw [if_neg (show ¬ (false = true) by decide)] at H; exact H
          clear H
          have H := H1
          clear H1
          obtain rfl := Option.some.inj H
          go_wp2_with (first | ((with_reducible refine gate_callee (f := 10) rfl ?_); refine goesL_ (some 24) rfl rfl Try.func10 (by kernel_rfl) rfl #[] rfl (by (try simp only [List.map_toArray, List.map_cons, List.map_nil]); first | done | rfl | (simp only [List.length_drop, List.length_take]; rfl)) ?_; (with_reducible refine (laws_finds.calls  false _ A8.out).mono ?_); rintro e w105 ⟨rfl, hb⟩; refine ⟨_, rfl, ?_⟩; have n0_ := Aside0.mk (below_step (by repeat (first | (with_reducible first | exact HB.out | apply below_alloc | apply pw_below_drewN | apply below_drew1) | exact HB.out)) hb); clear HB; have HB := n0_; clear n0_; (try clear hb); (try clear hb2); (try clear hk); (try clear hi)))
          go_ret
          exact ⟨by first | rfl | (simp [errW_none, errW_some] <;> rfl) | (simp [*, errW_none, errW_some] <;> rfl), by repeat (first | (with_reducible first | exact HB.out | apply below_alloc | apply pw_below_drewN | apply below_drew1) | exact HB.out)⟩

end Go.Proofs.Ytddcjmdcpkmnjaa.P
