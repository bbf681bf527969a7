-- PRINTED by print.py (a twelfth state) out of the translation. Not trusted: Lean checks it.
import Derived.Test.YtddcjmdcpkmnjaaP0
import Derived.Test.YtddcjmdcpkmnjaaP9
import Derived.Test.YtddcjmdcpkmnjaaP10
import Derived.Test.YtddcjmdcpkmnjaaP11
import Derived.Test.YtddcjmdcpkmnjaaP12
import Derived.Test.YtddcjmdcpkmnjaaP13
import Derived.Test.YtddcjmdcpkmnjaaETrA
namespace Go.Proofs.Ytddcjmdcpkmnjaa.P
open Go.RowKit Go.Proofs.YtddcjmdcpkmnjaaW.PrintWords Go.Proofs.YtddcjmdcpkmnjaaW.PrintLast Go.Proofs.YtddcjmdcpkmnjaaW.PrintMore
attribute [local go_sem] max2_int min2_int max_two min_two max_three min_three max_four min_four   -- for this text's walks alone
set_option linter.unusedVariables false
set_option linter.unusedSimpArgs false

/-! ### laws_FnTrieFind: function 3 -/
mutual
def laws_FnTrieFind.j0 : Nat → List ByteArray → List Int → ByteArray → Bool → Option (Bool)
  | 0, _, _, _, _ => none
  | k + 1, x0, x1, x2, x24 => if x24 = true then (some true) else ((laws_finds.f).bind fun t269 => (if t269 = true then ((laws_fair.f k x0 x1).bind fun t270 => (if t270 = true then (if (x1.length : Int) = 0 then (laws_FnTrieFind.j1 k x0 x1 x2 true) else ((laws_clean.f k 80 (([x2] : List ByteArray))).bind fun t274 => (if t274 = true then ((laws_ahead.f k x0 x2).bind fun t275 => (laws_FnTrieFind.j1 k x0 x1 x2 t275)) else (laws_FnTrieFind.j1 k x0 x1 x2 true)))) else (laws_FnTrieFind.j1 k x0 x1 x2 true))) else (some false)))
def laws_FnTrieFind.j1 : Nat → List ByteArray → List Int → ByteArray → Bool → Option (Bool)
  | 0, _, _, _, _ => none
  | k + 1, x0, x1, x2, x46 => if x46 = true then (some true) else ((impl_TrieFind.f x0 x1 x2).bind fun bt276 => (laws_FnTrieFind.l0 k x1 x2 bt276.1 bt276.2.1 bt276.2.2 x0 (x0.length : Int) 0))
def laws_FnTrieFind.l0 : Nat → List Int → ByteArray → Int → Bool → Bool → List ByteArray → Int → Int → Option (Bool)
  | 0, _, _, _, _, _, _, _, _ => none
  | k + 1, x1, x2, x7, x8, x9, x55, x56, x57 => if x57 < x56 then (if 0 ≤ x57 then (if x57 < (x55.length : Int) then (if (rdOf ByteArray.empty x55 x57).toList = x2.toList then (if x9 = true then (if x8 = true then (if x57 < (x1.length : Int) then (some (x7 == (rd x1 x57))) else (none)) else (some false)) else (some false)) else (laws_FnTrieFind.l0 k x1 x2 x7 x8 x9 x55 x56 (wrap64 (x57 + 1)))) else (none)) else (none)) else (if x9 = true then (some (!x8)) else (some false))
end
def laws_FnTrieFind.f (k : Nat) (l0 : List ByteArray) (l1 : List Int) (a2 : ByteArray) : Option (Bool) := (laws_zzFits4.f k l0).bind fun t268 => (if t268 = true then (if (l1.length : Int) > 2147483647 then (laws_FnTrieFind.j0 k l0 l1 a2 true) else (laws_FnTrieFind.j0 k l0 l1 a2 (decide ((a2.size : Int) > 2147483647)))) else (laws_FnTrieFind.j0 k l0 l1 a2 true))
theorem laws_FnTrieFind.mono_l : ∀ k, (∀ y0 y1 y2 y3, LeO (laws_FnTrieFind.j0 k y0 y1 y2 y3) (laws_FnTrieFind.j0 (k + 1) y0 y1 y2 y3)) ∧ (∀ y0 y1 y2 y3, LeO (laws_FnTrieFind.j1 k y0 y1 y2 y3) (laws_FnTrieFind.j1 (k + 1) y0 y1 y2 y3)) ∧ (∀ y0 y1 y2 y3 y4 y5 y6 y7, LeO (laws_FnTrieFind.l0 k y0 y1 y2 y3 y4 y5 y6 y7) (laws_FnTrieFind.l0 (k + 1) y0 y1 y2 y3 y4 y5 y6 y7))
  | 0 => ⟨fun _ _ _ _ r h => by simp [laws_FnTrieFind.j0] at h, fun _ _ _ _ r h => by simp [laws_FnTrieFind.j1] at h, fun _ _ _ _ _ _ _ _ r h => by simp [laws_FnTrieFind.l0] at h⟩
  | k + 1 => by
    obtain ⟨ih0, ih1, ih2⟩ := laws_FnTrieFind.mono_l k
    refine ⟨?_, ?_, ?_⟩
    · intro y0 y1 y2 y3
      unfold laws_FnTrieFind.j0
      repeat' first
      | (with_reducible exact ih0 _ _ _ _)
      | (with_reducible exact ih1 _ _ _ _)
      | (with_reducible exact ih2 _ _ _ _ _ _ _ _)
      | (with_reducible exact laws_ahead.mono _ _ _)
      | (with_reducible exact laws_clean.mono _ _ _)
      | (with_reducible exact laws_fair.mono _ _ _)
      | (with_reducible exact laws_zzFits4.mono _ _)
      | (with_reducible exact LeO.refl _)
      | (with_reducible exact LeO.none _)
      | (with_reducible refine LeO.ite ?_ ?_)
      | (with_reducible refine LeO.bind ?_ (fun _ => ?_))
      | exact ih0 _ _ _ _
      | exact ih1 _ _ _ _
      | exact ih2 _ _ _ _ _ _ _ _
      | exact laws_ahead.mono _ _ _
      | exact laws_clean.mono _ _ _
      | exact laws_fair.mono _ _ _
      | exact laws_zzFits4.mono _ _
      | exact LeO.none _
      | refine LeO.ite ?_ ?_
      | refine LeO.bind ?_ (fun _ => ?_)
    · intro y0 y1 y2 y3
      unfold laws_FnTrieFind.j1
      repeat' first
      | (with_reducible exact ih0 _ _ _ _)
      | (with_reducible exact ih1 _ _ _ _)
      | (with_reducible exact ih2 _ _ _ _ _ _ _ _)
      | (with_reducible exact laws_ahead.mono _ _ _)
      | (with_reducible exact laws_clean.mono _ _ _)
      | (with_reducible exact laws_fair.mono _ _ _)
      | (with_reducible exact laws_zzFits4.mono _ _)
      | (with_reducible exact LeO.refl _)
      | (with_reducible exact LeO.none _)
      | (with_reducible refine LeO.ite ?_ ?_)
      | (with_reducible refine LeO.bind ?_ (fun _ => ?_))
      | exact ih0 _ _ _ _
      | exact ih1 _ _ _ _
      | exact ih2 _ _ _ _ _ _ _ _
      | exact laws_ahead.mono _ _ _
      | exact laws_clean.mono _ _ _
      | exact laws_fair.mono _ _ _
      | exact laws_zzFits4.mono _ _
      | exact LeO.none _
      | refine LeO.ite ?_ ?_
      | refine LeO.bind ?_ (fun _ => ?_)
    · intro y0 y1 y2 y3 y4 y5 y6 y7
      unfold laws_FnTrieFind.l0
      repeat' first
      | (with_reducible exact ih0 _ _ _ _)
      | (with_reducible exact ih1 _ _ _ _)
      | (with_reducible exact ih2 _ _ _ _ _ _ _ _)
      | (with_reducible exact laws_ahead.mono _ _ _)
      | (with_reducible exact laws_clean.mono _ _ _)
      | (with_reducible exact laws_fair.mono _ _ _)
      | (with_reducible exact laws_zzFits4.mono _ _)
      | (with_reducible exact LeO.refl _)
      | (with_reducible exact LeO.none _)
      | (with_reducible refine LeO.ite ?_ ?_)
      | (with_reducible refine LeO.bind ?_ (fun _ => ?_))
      | exact ih0 _ _ _ _
      | exact ih1 _ _ _ _
      | exact ih2 _ _ _ _ _ _ _ _
      | exact laws_ahead.mono _ _ _
      | exact laws_clean.mono _ _ _
      | exact laws_fair.mono _ _ _
      | exact laws_zzFits4.mono _ _
      | exact LeO.none _
      | refine LeO.ite ?_ ?_
      | refine LeO.bind ?_ (fun _ => ?_)
theorem laws_FnTrieFind.mono : ∀ a0 a1 a2 k, LeO (laws_FnTrieFind.f k a0 a1 a2) (laws_FnTrieFind.f (k + 1) a0 a1 a2) := by
  intro a0 a1 a2 k
  obtain ⟨ih0, ih1, ih2⟩ := laws_FnTrieFind.mono_l k
  unfold laws_FnTrieFind.f
  repeat' first
      | (with_reducible exact ih0 _ _ _ _)
      | (with_reducible exact ih1 _ _ _ _)
      | (with_reducible exact ih2 _ _ _ _ _ _ _ _)
      | (with_reducible exact laws_ahead.mono _ _ _)
      | (with_reducible exact laws_clean.mono _ _ _)
      | (with_reducible exact laws_fair.mono _ _ _)
      | (with_reducible exact laws_zzFits4.mono _ _)
      | (with_reducible exact LeO.refl _)
      | (with_reducible exact LeO.none _)
      | (with_reducible refine LeO.ite ?_ ?_)
      | (with_reducible refine LeO.bind ?_ (fun _ => ?_))
      | exact ih0 _ _ _ _
      | exact ih1 _ _ _ _
      | exact ih2 _ _ _ _ _ _ _ _
      | exact laws_ahead.mono _ _ _
      | exact laws_clean.mono _ _ _
      | exact laws_fair.mono _ _ _
      | exact laws_zzFits4.mono _ _
      | exact LeO.none _
      | refine LeO.ite ?_ ?_
      | refine LeO.bind ?_ (fun _ => ?_)
set_option maxHeartbeats 8000000 in
set_option maxRecDepth 100000 in
theorem laws_FnTrieFind.calls (k : Nat) (A0 : Option Addr) (c0 : Nat) (l0 : List ByteArray) (A1 : Option Addr) (c1 : Nat) (l1 : List Int) (a2 : ByteArray) (r : Bool) (w : World) (hr0 : Kd.C Kd.string w A0 l0.length l0) (hc0 : l0.length ≤ c0) (hr1 : Kd.C (Kd.int .i64) w A1 l1.length l1) (hc1 : l1.length ≤ c1) (h : laws_FnTrieFind.f k l0 l1 a2 = some r) :
    Calls Try.prog 3 #[.slice A0 l0.length c0, .slice A1 l1.length c1, .string a2] w fun e w' => e = .returned (.bool r) ∧ Below w.heap.size w w' := by
  have HR0 := Aside0.mk hr0
  have HC0 := Aside0.mk hc0
  clear hr0 hc0
  have HR1 := Aside0.mk hr1
  have HC1 := Aside0.mk hc1
  clear hr1 hc1
  have HB := Aside0.mk (Below.refl w.heap.size w)
  have H : ((laws_zzFits4.f k l0).bind fun t268 => (if t268 = true then (if (l1.length : Int) > 2147483647 then (laws_FnTrieFind.j0 k l0 l1 a2 true) else (laws_FnTrieFind.j0 k l0 l1 a2 (decide ((a2.size : Int) > 2147483647)))) else (laws_FnTrieFind.j0 k l0 l1 a2 true))) = some r := h
  clear h
  have HC4 := Aside0.mk H
  clear H
  go_enter Try.func3, Try.ntmps3
  go_upto_region 1 with (fail)
  go_cut [24] (fun v24 wc => ∃ (kq : Nat) (x24_3 : Bool), v24 = .bool x24_3 ∧ Aside0 (laws_FnTrieFind.j0 kq l0 l1 a2 x24_3 = some r) ∧ Aside0 (kq ≤ k) ∧ Aside0 (Below w.heap.size w wc))
  case first =>
    have H := HC4.out
    clear HC4
    replace H := Option.bind_eq_some_iff.mp H
    obtain ⟨t268, A50, H⟩ := H
    replace H : (if t268 = true then (if (l1.length : Int) > 2147483647 then (laws_FnTrieFind.j0 k l0 l1 a2 true) else (laws_FnTrieFind.j0 k l0 l1 a2 (decide ((a2.size : Int) > 2147483647)))) else (laws_FnTrieFind.j0 k l0 l1 a2 true)) = some r := H
    have A5 := Aside0.mk A50
    clear A50
    by_cases c6 : t268 = true
    · subst c6
      have H1 : (if (l1.length : Int) > 2147483647 then (laws_FnTrieFind.j0 k l0 l1 a2 true) else (laws_FnTrieFind.j0 k l0 l1 a2 (decide ((a2.size : Int) > 2147483647)))) = some r := by rw [if_pos rfl] at H; exact H
      clear H
      have H := H1
      clear H1
      by_cases c7 : (l1.length : Int) > 2147483647
      · rw [if_pos c7] at H
        have c7b0 : decide (2147483647 < (l1.length : Int)) = true := decide_eq_true c7
        have c7b1 : decide (2147483647 < l1.length) = true := decide_eq_true (by omega)
        clear c7
        (first | rw [c7b0] | (simp only [i64_w, i32_w]; rw [c7b0]) | skip)
        have H' := Aside0.mk H
        clear H
        go_wp2_with (first | ((with_reducible refine gate_callee (f := 9) rfl ?_); refine goesL_ (some 13) rfl rfl Try.func9 (by kernel_rfl) rfl #[.slice A0 l0.length c0] rfl (by (try simp only [List.map_toArray, List.map_cons, List.map_nil]); first | done | rfl | (simp only [List.length_drop, List.length_take]; rfl)) ?_; (with_reducible refine (laws_zzFits4.calls k _ _ l0 true _ ?side1 ?side2 A5.out).mono ?_); (case side1 => repeat (first | exact (Kd.C_below HR0.out HB.out) | (with_reducible refine Kd.C_alloc ?_ _) | (with_reducible refine Kd.C_drewN ?_ _) | (with_reducible refine Kd.C_drew ?_))); (case side2 => exact HC0.out); rintro e w' ⟨rfl, ⟨nd, rfl⟩⟩; refine ⟨_, rfl, ?_⟩))
        go_meet
        case rel => exact ⟨_, (true), (by first | rfl | (simp; done) | (simp [*]; done)), H', ⟨by first | omega | exact Nat.le_refl _⟩, ⟨by repeat (first | (with_reducible first | exact HB.out | apply below_alloc | apply pw_below_drewN | apply below_drew1) | exact HB.out)⟩⟩
      · rw [if_neg c7] at H
        have c7b0 : decide (2147483647 < (l1.length : Int)) = false := decide_eq_false c7
        have c7b1 : decide (2147483647 < l1.length) = false := decide_eq_false (by omega)
        clear c7
        (first | rw [c7b0] | (simp only [i64_w, i32_w]; rw [c7b0]) | skip)
        have H' := Aside0.mk H
        clear H
        go_wp2_with (first | ((with_reducible refine gate_callee (f := 9) rfl ?_); refine goesL_ (some 13) rfl rfl Try.func9 (by kernel_rfl) rfl #[.slice A0 l0.length c0] rfl (by (try simp only [List.map_toArray, List.map_cons, List.map_nil]); first | done | rfl | (simp only [List.length_drop, List.length_take]; rfl)) ?_; (with_reducible refine (laws_zzFits4.calls k _ _ l0 true _ ?side1 ?side2 A5.out).mono ?_); (case side1 => repeat (first | exact (Kd.C_below HR0.out HB.out) | (with_reducible refine Kd.C_alloc ?_ _) | (with_reducible refine Kd.C_drewN ?_ _) | (with_reducible refine Kd.C_drew ?_))); (case side2 => exact HC0.out); rintro e w' ⟨rfl, ⟨nd, rfl⟩⟩; refine ⟨_, rfl, ?_⟩))
        go_meet
        case rel => exact ⟨_, (decide ((a2.size : Int) > 2147483647)), (by first | rfl | (simp; done) | (simp [*]; done)), H', ⟨by first | omega | exact Nat.le_refl _⟩, ⟨by repeat (first | (with_reducible first | exact HB.out | apply below_alloc | apply pw_below_drewN | apply below_drew1) | exact HB.out)⟩⟩
    · replace c6 := Bool.eq_false_iff.mpr c6
      subst c6
      have H1 : (laws_FnTrieFind.j0 k l0 l1 a2 true) = some r := by rw [if_neg (show ¬ (false = true) by decide)] at H; exact H
      clear H
      have H := H1
      clear H1
      have H' := Aside0.mk H
      clear H
      go_wp2_with (first | ((with_reducible refine gate_callee (f := 9) rfl ?_); refine goesL_ (some 13) rfl rfl Try.func9 (by kernel_rfl) rfl #[.slice A0 l0.length c0] rfl (by (try simp only [List.map_toArray, List.map_cons, List.map_nil]); first | done | rfl | (simp only [List.length_drop, List.length_take]; rfl)) ?_; (with_reducible refine (laws_zzFits4.calls k _ _ l0 false _ ?side1 ?side2 A5.out).mono ?_); (case side1 => repeat (first | exact (Kd.C_below HR0.out HB.out) | (with_reducible refine Kd.C_alloc ?_ _) | (with_reducible refine Kd.C_drewN ?_ _) | (with_reducible refine Kd.C_drew ?_))); (case side2 => exact HC0.out); rintro e w' ⟨rfl, ⟨nd, rfl⟩⟩; refine ⟨_, rfl, ?_⟩))
      go_meet
      case rel => exact ⟨_, (true), (by first | rfl | (simp; done) | (simp [*]; done)), H', ⟨by first | omega | exact Nat.le_refl _⟩, ⟨by repeat (first | (with_reducible first | exact HB.out | apply below_alloc | apply pw_below_drewN | apply below_drew1) | exact HB.out)⟩⟩
  case rest =>
    clear HC4
    try clear c1
    try clear p2
    try clear c3
    try clear c6
    try clear c7
    try clear c7b0
    try clear c7b1
    obtain ⟨kq, x24_3, rfl, HA, HJ3, HB⟩ := hcut
    cases kq with
    | zero => exact absurd HA.out (by simp [laws_FnTrieFind.j0])
    | succ kj3 =>
      have H := HA.out
      clear HA
      simp only [laws_FnTrieFind.j0] at H
      by_cases c8 : x24_3 = true
      · subst c8
        have H1 : (some true) = some r := by rw [if_pos rfl] at H; exact H
        clear H
        have H := H1
        clear H1
        obtain rfl := Option.some.inj H
        go_wp2
        go_ret
        exact ⟨by first | rfl | (simp [errW_none, errW_some] <;> rfl) | (simp [*, errW_none, errW_some] <;> rfl), by repeat (first | (with_reducible first | exact HB.out | apply below_alloc | apply pw_below_drewN | apply below_drew1) | exact HB.out)⟩
      · replace c8 := Bool.eq_false_iff.mpr c8
        subst c8
        have H1 : ((laws_finds.f).bind fun t269 => (if t269 = true then ((laws_fair.f kj3 l0 l1).bind fun t270 => (if t270 = true then (if (l1.length : Int) = 0 then (laws_FnTrieFind.j1 kj3 l0 l1 a2 true) else ((laws_clean.f kj3 80 (([a2] : List ByteArray))).bind fun t274 => (if t274 = true then ((laws_ahead.f kj3 l0 a2).bind fun t275 => (laws_FnTrieFind.j1 kj3 l0 l1 a2 t275)) else (laws_FnTrieFind.j1 kj3 l0 l1 a2 true)))) else (laws_FnTrieFind.j1 kj3 l0 l1 a2 true))) else (some false))) = some r := by rw [if_neg (show ¬ (false = true) by decide)] at H; exact H
        clear H
        have H := H1
        clear H1
        replace H := Option.bind_eq_some_iff.mp H
        obtain ⟨t269, A90, H⟩ := H
        replace H : (if t269 = true then ((laws_fair.f kj3 l0 l1).bind fun t270 => (if t270 = true then (if (l1.length : Int) = 0 then (laws_FnTrieFind.j1 kj3 l0 l1 a2 true) else ((laws_clean.f kj3 80 (([a2] : List ByteArray))).bind fun t274 => (if t274 = true then ((laws_ahead.f kj3 l0 a2).bind fun t275 => (laws_FnTrieFind.j1 kj3 l0 l1 a2 t275)) else (laws_FnTrieFind.j1 kj3 l0 l1 a2 true)))) else (laws_FnTrieFind.j1 kj3 l0 l1 a2 true))) else (some false)) = some r := H
        have A9 := Aside0.mk A90
        clear A90
        by_cases c10 : t269 = true
        · subst c10
          have H1 : ((laws_fair.f kj3 l0 l1).bind fun t270 => (if t270 = true then (if (l1.length : Int) = 0 then (laws_FnTrieFind.j1 kj3 l0 l1 a2 true) else ((laws_clean.f kj3 80 (([a2] : List ByteArray))).bind fun t274 => (if t274 = true then ((laws_ahead.f kj3 l0 a2).bind fun t275 => (laws_FnTrieFind.j1 kj3 l0 l1 a2 t275)) else (laws_FnTrieFind.j1 kj3 l0 l1 a2 true)))) else (laws_FnTrieFind.j1 kj3 l0 l1 a2 true))) = some r := by rw [if_pos rfl] at H; exact H
          clear H
          have H := H1
          clear H1
          have HC11 := Aside0.mk H
          clear H
          go_upto_region 5 with (first | ((with_reducible refine gate_callee (f := 10) rfl ?_); refine goesL_ (some 25) rfl rfl Try.func10 (by kernel_rfl) rfl #[] rfl (by (try simp only [List.map_toArray, List.map_cons, List.map_nil]); first | done | rfl | (simp only [List.length_drop, List.length_take]; rfl)) ?_; (with_reducible refine (laws_finds.calls  true _ A9.out).mono ?_); rintro e w12 ⟨rfl, hb⟩; refine ⟨_, rfl, ?_⟩; have n0_ := Aside0.mk (below_step (by repeat (first | (with_reducible first | exact HB.out | apply below_alloc | apply pw_below_drewN | apply below_drew1) | exact HB.out)) hb); clear HB; have HB := n0_; clear n0_; (try clear hb); (try clear hb2); (try clear hk); (try clear hi)))
          (try simp only [Act.put, List.setIfInBounds_toArray, List.set_cons_zero, List.set_cons_succ])
          go_cut [46] (fun v46 wc => ∃ (kq : Nat) (x46_10 : Bool), v46 = .bool x46_10 ∧ Aside0 (laws_FnTrieFind.j1 kq l0 l1 a2 x46_10 = some r) ∧ Aside0 (kq ≤ kj3) ∧ Aside0 (Below w.heap.size w wc))
          case first =>
            have H := HC11.out
            clear HC11
            replace H := Option.bind_eq_some_iff.mp H
            obtain ⟨t270, A130, H⟩ := H
            replace H : (if t270 = true then (if (l1.length : Int) = 0 then (laws_FnTrieFind.j1 kj3 l0 l1 a2 true) else ((laws_clean.f kj3 80 (([a2] : List ByteArray))).bind fun t274 => (if t274 = true then ((laws_ahead.f kj3 l0 a2).bind fun t275 => (laws_FnTrieFind.j1 kj3 l0 l1 a2 t275)) else (laws_FnTrieFind.j1 kj3 l0 l1 a2 true)))) else (laws_FnTrieFind.j1 kj3 l0 l1 a2 true)) = some r := H
            have A13 := Aside0.mk A130
            clear A130
            by_cases c14 : t270 = true
            · subst c14
              have H1 : (if (l1.length : Int) = 0 then (laws_FnTrieFind.j1 kj3 l0 l1 a2 true) else ((laws_clean.f kj3 80 (([a2] : List ByteArray))).bind fun t274 => (if t274 = true then ((laws_ahead.f kj3 l0 a2).bind fun t275 => (laws_FnTrieFind.j1 kj3 l0 l1 a2 t275)) else (laws_FnTrieFind.j1 kj3 l0 l1 a2 true)))) = some r := by rw [if_pos rfl] at H; exact H
              clear H
              have H := H1
              clear H1
              by_cases c15 : (l1.length : Int) = 0
              · rw [if_pos c15] at H
                have c15b0 : ((l1.length : Int) == 0) = true := beq_iff_eq.mpr c15
                have c15b1 : ((l1.length : Int) != 0) = false := bne_eq_false_iff_eq.mpr c15
                clear c15
                (first | rw [c15b0] | (simp only [i64_w, i32_w]; rw [c15b0]) | skip)
                have H' := Aside0.mk H
                clear H
                go_wp2_with (first | ((with_reducible refine gate_callee (f := 11) rfl ?_); refine goesL_ (some 29) rfl rfl Try.func11 (by kernel_rfl) rfl #[.slice A0 l0.length c0, .slice A1 l1.length c1] rfl (by (try simp only [List.map_toArray, List.map_cons, List.map_nil]); first | done | rfl | (simp only [List.length_drop, List.length_take]; rfl)) ?_; (with_reducible refine (laws_fair.calls kj3 _ _ l0 _ _ l1 true _ ?side1 ?side2 ?side3 ?side4 A13.out).mono ?_); (case side1 => repeat (first | exact (Kd.C_below HR0.out HB.out) | (with_reducible refine Kd.C_alloc ?_ _) | (with_reducible refine Kd.C_drewN ?_ _) | (with_reducible refine Kd.C_drew ?_))); (case side2 => exact HC0.out); (case side3 => repeat (first | exact (Kd.C_below HR1.out HB.out) | (with_reducible refine Kd.C_alloc ?_ _) | (with_reducible refine Kd.C_drewN ?_ _) | (with_reducible refine Kd.C_drew ?_))); (case side4 => exact HC1.out); rintro e w16 ⟨rfl, hb⟩; refine ⟨_, rfl, ?_⟩; have n0_ := Aside0.mk (below_step (by repeat (first | (with_reducible first | exact HB.out | apply below_alloc | apply pw_below_drewN | apply below_drew1) | exact HB.out)) hb); clear HB; have HB := n0_; clear n0_; (try clear hb); (try clear hb2); (try clear hk); (try clear hi)))
                go_meet
                case rel => exact ⟨_, (true), (by first | rfl | (simp; done) | (simp [*]; done)), H', ⟨by have := HJ3.out; first | omega | exact Nat.le_refl _⟩, ⟨by repeat (first | (with_reducible first | exact HB.out | apply below_alloc | apply pw_below_drewN | apply below_drew1) | exact HB.out)⟩⟩
              · rw [if_neg c15] at H
                have c15b0 : ((l1.length : Int) == 0) = false := beq_eq_false_iff_ne.mpr c15
                have c15b1 : ((l1.length : Int) != 0) = true := bne_iff_ne.mpr c15
                have c15b2 : ¬ (l1 = []) := fun h_ => c15 (by rw [h_]; rfl)
                (first | rw [c15b0] | (simp only [i64_w, i32_w]; rw [c15b0]) | skip)
                obtain ⟨y271, hy271⟩ : ∃ y_ : List ByteArray, y_ = (([a2] : List ByteArray)) := ⟨_, rfl⟩
                replace H : ((laws_clean.f kj3 80 y271).bind fun t274 => (if t274 = true then ((laws_ahead.f kj3 l0 a2).bind fun t275 => (laws_FnTrieFind.j1 kj3 l0 l1 a2 t275)) else (laws_FnTrieFind.j1 kj3 l0 l1 a2 true))) = some r := by first | (rw [hy271]; with_reducible exact H) | (have H2_ := (Option.bind_some _ _).symm.trans H; rw [hy271]; with_reducible exact H2_) | (have H2_ := (Option.bind_some _ _).symm.trans H; with_reducible exact H2_) | with_reducible exact H | (rw [hy271]; exact H) | exact H
                have Ny271 := Aside0.mk hy271
                clear hy271
                replace H := Option.bind_eq_some_iff.mp H
                obtain ⟨t274, A170, H⟩ := H
                replace H : (if t274 = true then ((laws_ahead.f kj3 l0 a2).bind fun t275 => (laws_FnTrieFind.j1 kj3 l0 l1 a2 t275)) else (laws_FnTrieFind.j1 kj3 l0 l1 a2 true)) = some r := H
                have A17 := Aside0.mk A170
                clear A170
                by_cases c18 : t274 = true
                · subst c18
                  have H1 : ((laws_ahead.f kj3 l0 a2).bind fun t275 => (laws_FnTrieFind.j1 kj3 l0 l1 a2 t275)) = some r := by rw [if_pos rfl] at H; exact H
                  clear H
                  have H := H1
                  clear H1
                  replace H := Option.bind_eq_some_iff.mp H
                  obtain ⟨t275, A190, H⟩ := H
                  replace H : (laws_FnTrieFind.j1 kj3 l0 l1 a2 t275) = some r := H
                  have A19 := Aside0.mk A190
                  clear A190
                  have H' := Aside0.mk H
                  clear H
                  go_wp2_with (first | ((with_reducible refine gate_callee (f := 11) rfl ?_); refine goesL_ (some 29) rfl rfl Try.func11 (by kernel_rfl) rfl #[.slice A0 l0.length c0, .slice A1 l1.length c1] rfl (by (try simp only [List.map_toArray, List.map_cons, List.map_nil]); first | done | rfl | (simp only [List.length_drop, List.length_take]; rfl)) ?_; (with_reducible refine (laws_fair.calls kj3 _ _ l0 _ _ l1 true _ ?side1 ?side2 ?side3 ?side4 A13.out).mono ?_); (case side1 => repeat (first | exact (Kd.C_below HR0.out HB.out) | (with_reducible refine Kd.C_alloc ?_ _) | (with_reducible refine Kd.C_drewN ?_ _) | (with_reducible refine Kd.C_drew ?_))); (case side2 => exact HC0.out); (case side3 => repeat (first | exact (Kd.C_below HR1.out HB.out) | (with_reducible refine Kd.C_alloc ?_ _) | (with_reducible refine Kd.C_drewN ?_ _) | (with_reducible refine Kd.C_drew ?_))); (case side4 => exact HC1.out); rintro e w20 ⟨rfl, hb⟩; refine ⟨_, rfl, ?_⟩; have n0_ := Aside0.mk (below_step (by repeat (first | (with_reducible first | exact HB.out | apply below_alloc | apply pw_below_drewN | apply below_drew1) | exact HB.out)) hb); clear HB; have HB := n0_; clear n0_; (try clear hb); (try clear hb2); (try clear hk); (try clear hi)) | ((with_reducible refine gate_dst (N := 38) rfl ?_); (try (refine gate_guard (by rfl) ?_; dsimp only)); refine Kd.R_lit Kd.string _ 9 ?hg (N := 38) ?hd (xs := ([a2] : List ByteArray)) (inner := [.string a2]) (ok := fun _ => True) (okp := fun _ => True) ?hr ?hp (fun _ hk => hk) trivial (Below.refl _ _) (Nat.le_refl _) (by simp) ?_; (case hd => rfl); (case hg => rfl); (case hr => first | (go_simp; done) | (go_simp; rfl)); (case hp => exact (Reps.one (show Kd.M Kd.string _ _ _ a2 [.string a2] from rfl) (Reps.none _ _))); intro v272 w21 ho22 hb hg_ hnew_; clear hg_ hnew_; (first | rw [← Ny271.out] at ho22 | (simp only [Int.reduceToNat] at ho22; rw [← Ny271.out] at ho22)); have n0_ := Aside0.mk (Kd.R_lower ho22 (below_size (by repeat (first | (with_reducible first | exact HB.out | apply below_alloc | apply pw_below_drewN | apply below_drew1) | exact HB.out)))); have n1_ := Aside0.mk (below_step (by repeat (first | (with_reducible first | exact HB.out | apply below_alloc | apply pw_below_drewN | apply below_drew1) | exact HB.out)) hb); clear HB; have HO273 := n0_; have HB := n1_; clear n0_ n1_; clear hb ho22; obtain ⟨Ao23, co23, eo23⟩ := Kd.R_slice HO273.out; subst eo23) | (go_at_call 12; (with_reducible refine (laws_clean.calls kj3 80 _ _ y271 true _ ?side1 ?side2 A17.out).mono ?_); (case side1 => repeat (first | exact (Kd.R_reads' HO273.out).2.2 | (with_reducible refine Kd.C_alloc ?_ _) | (with_reducible refine Kd.C_drewN ?_ _) | (with_reducible refine Kd.C_drew ?_))); (case side2 => exact (Kd.R_reads' HO273.out).2.1); rintro e w24 ⟨rfl, hb⟩; have n0_ := Aside0.mk (Kd.R_below (by (with_reducible repeat (first | apply Kd.R_alloc | apply Kd.R_drewN | apply Kd.R_drew)); exact HO273.out) hb); have n1_ := Aside0.mk (below_step (by repeat (first | (with_reducible first | exact HB.out | apply below_alloc | apply pw_below_drewN | apply below_drew1) | exact HB.out)) hb); clear HO273; clear HB; have HO273 := n0_; have HB := n1_; clear n0_ n1_; (try clear hb); (try clear hb2); (try clear hk); (try clear hi)) | (go_at_call 13; (with_reducible refine (laws_ahead.calls kj3 _ _ l0 a2 t275 _ ?side1 ?side2 A19.out).mono ?_); (case side1 => repeat (first | exact (Kd.C_below HR0.out HB.out) | (with_reducible refine Kd.C_alloc ?_ _) | (with_reducible refine Kd.C_drewN ?_ _) | (with_reducible refine Kd.C_drew ?_))); (case side2 => exact HC0.out); rintro e w' ⟨rfl, ⟨nd, rfl⟩⟩))
                  go_meet
                  case rel => exact ⟨_, (t275), (by first | rfl | (simp; done) | (simp [*]; done)), H', ⟨by have := HJ3.out; first | omega | exact Nat.le_refl _⟩, ⟨by repeat (first | (with_reducible first | exact HB.out | apply below_alloc | apply pw_below_drewN | apply below_drew1) | exact HB.out)⟩⟩
                · replace c18 := Bool.eq_false_iff.mpr c18
                  subst c18
                  have H1 : (laws_FnTrieFind.j1 kj3 l0 l1 a2 true) = some r := by rw [if_neg (show ¬ (false = true) by decide)] at H; exact H
                  clear H
                  have H := H1
                  clear H1
                  have H' := Aside0.mk H
                  clear H
                  go_wp2_with (first | ((with_reducible refine gate_callee (f := 11) rfl ?_); refine goesL_ (some 29) rfl rfl Try.func11 (by kernel_rfl) rfl #[.slice A0 l0.length c0, .slice A1 l1.length c1] rfl (by (try simp only [List.map_toArray, List.map_cons, List.map_nil]); first | done | rfl | (simp only [List.length_drop, List.length_take]; rfl)) ?_; (with_reducible refine (laws_fair.calls kj3 _ _ l0 _ _ l1 true _ ?side1 ?side2 ?side3 ?side4 A13.out).mono ?_); (case side1 => repeat (first | exact (Kd.C_below HR0.out HB.out) | (with_reducible refine Kd.C_alloc ?_ _) | (with_reducible refine Kd.C_drewN ?_ _) | (with_reducible refine Kd.C_drew ?_))); (case side2 => exact HC0.out); (case side3 => repeat (first | exact (Kd.C_below HR1.out HB.out) | (with_reducible refine Kd.C_alloc ?_ _) | (with_reducible refine Kd.C_drewN ?_ _) | (with_reducible refine Kd.C_drew ?_))); (case side4 => exact HC1.out); rintro e w25 ⟨rfl, hb⟩; refine ⟨_, rfl, ?_⟩; have n0_ := Aside0.mk (below_step (by repeat (first | (with_reducible first | exact HB.out | apply below_alloc | apply pw_below_drewN | apply below_drew1) | exact HB.out)) hb); clear HB; have HB := n0_; clear n0_; (try clear hb); (try clear hb2); (try clear hk); (try clear hi)) | ((with_reducible refine gate_dst (N := 38) rfl ?_); (try (refine gate_guard (by rfl) ?_; dsimp only)); refine Kd.R_lit Kd.string _ 9 ?hg (N := 38) ?hd (xs := ([a2] : List ByteArray)) (inner := [.string a2]) (ok := fun _ => True) (okp := fun _ => True) ?hr ?hp (fun _ hk => hk) trivial (Below.refl _ _) (Nat.le_refl _) (by simp) ?_; (case hd => rfl); (case hg => rfl); (case hr => first | (go_simp; done) | (go_simp; rfl)); (case hp => exact (Reps.one (show Kd.M Kd.string _ _ _ a2 [.string a2] from rfl) (Reps.none _ _))); intro v272 w26 ho27 hb hg_ hnew_; clear hg_ hnew_; (first | rw [← Ny271.out] at ho27 | (simp only [Int.reduceToNat] at ho27; rw [← Ny271.out] at ho27)); have n0_ := Aside0.mk (Kd.R_lower ho27 (below_size (by repeat (first | (with_reducible first | exact HB.out | apply below_alloc | apply pw_below_drewN | apply below_drew1) | exact HB.out)))); have n1_ := Aside0.mk (below_step (by repeat (first | (with_reducible first | exact HB.out | apply below_alloc | apply pw_below_drewN | apply below_drew1) | exact HB.out)) hb); clear HB; have HO273 := n0_; have HB := n1_; clear n0_ n1_; clear hb ho27; obtain ⟨Ao28, co28, eo28⟩ := Kd.R_slice HO273.out; subst eo28) | (go_at_call 12; (with_reducible refine (laws_clean.calls kj3 80 _ _ y271 false _ ?side1 ?side2 A17.out).mono ?_); (case side1 => repeat (first | exact (Kd.R_reads' HO273.out).2.2 | (with_reducible refine Kd.C_alloc ?_ _) | (with_reducible refine Kd.C_drewN ?_ _) | (with_reducible refine Kd.C_drew ?_))); (case side2 => exact (Kd.R_reads' HO273.out).2.1); rintro e w29 ⟨rfl, hb⟩; have n0_ := Aside0.mk (Kd.R_below (by (with_reducible repeat (first | apply Kd.R_alloc | apply Kd.R_drewN | apply Kd.R_drew)); exact HO273.out) hb); have n1_ := Aside0.mk (below_step (by repeat (first | (with_reducible first | exact HB.out | apply below_alloc | apply pw_below_drewN | apply below_drew1) | exact HB.out)) hb); clear HO273; clear HB; have HO273 := n0_; have HB := n1_; clear n0_ n1_; (try clear hb); (try clear hb2); (try clear hk); (try clear hi)))
                  go_meet
                  case rel => exact ⟨_, (true), (by first | rfl | (simp; done) | (simp [*]; done)), H', ⟨by have := HJ3.out; first | omega | exact Nat.le_refl _⟩, ⟨by repeat (first | (with_reducible first | exact HB.out | apply below_alloc | apply pw_below_drewN | apply below_drew1) | exact HB.out)⟩⟩
            · replace c14 := Bool.eq_false_iff.mpr c14
              subst c14
              have H1 : (laws_FnTrieFind.j1 kj3 l0 l1 a2 true) = some r := by rw [if_neg (show ¬ (false = true) by decide)] at H; exact H
              clear H
              have H := H1
              clear H1
              have H' := Aside0.mk H
              clear H
              go_wp2_with (first | ((with_reducible refine gate_callee (f := 11) rfl ?_); refine goesL_ (some 29) rfl rfl Try.func11 (by kernel_rfl) rfl #[.slice A0 l0.length c0, .slice A1 l1.length c1] rfl (by (try simp only [List.map_toArray, List.map_cons, List.map_nil]); first | done | rfl | (simp only [List.length_drop, List.length_take]; rfl)) ?_; (with_reducible refine (laws_fair.calls kj3 _ _ l0 _ _ l1 false _ ?side1 ?side2 ?side3 ?side4 A13.out).mono ?_); (case side1 => repeat (first | exact (Kd.C_below HR0.out HB.out) | (with_reducible refine Kd.C_alloc ?_ _) | (with_reducible refine Kd.C_drewN ?_ _) | (with_reducible refine Kd.C_drew ?_))); (case side2 => exact HC0.out); (case side3 => repeat (first | exact (Kd.C_below HR1.out HB.out) | (with_reducible refine Kd.C_alloc ?_ _) | (with_reducible refine Kd.C_drewN ?_ _) | (with_reducible refine Kd.C_drew ?_))); (case side4 => exact HC1.out); rintro e w30 ⟨rfl, hb⟩; refine ⟨_, rfl, ?_⟩; have n0_ := Aside0.mk (below_step (by repeat (first | (with_reducible first | exact HB.out | apply below_alloc | apply pw_below_drewN | apply below_drew1) | exact HB.out)) hb); clear HB; have HB := n0_; clear n0_; (try clear hb); (try clear hb2); (try clear hk); (try clear hi)))
              go_meet
              case rel => exact ⟨_, (true), (by first | rfl | (simp; done) | (simp [*]; done)), H', ⟨by have := HJ3.out; first | omega | exact Nat.le_refl _⟩, ⟨by repeat (first | (with_reducible first | exact HB.out | apply below_alloc | apply pw_below_drewN | apply below_drew1) | exact HB.out)⟩⟩
          case rest =>
            clear HC11
            try clear c1
            try clear p2
            try clear c3
            try clear c6
            try clear c7
            try clear c7b0
            try clear c7b1
            try clear c8
            try clear c9
            try clear c10
            try clear c11
            try clear c14
            try clear c15
            try clear c15b0
            try clear c15b1
            try clear c15b2
            try clear c18
            try clear p2
            obtain ⟨kq, x46_10, rfl, HA, HJ10, HB⟩ := hcut
            cases kq with
            | zero => exact absurd HA.out (by simp [laws_FnTrieFind.j1])
            | succ kj10 =>
              have H := HA.out
              clear HA
              simp only [laws_FnTrieFind.j1] at H
              by_cases c31 : x46_10 = true
              · subst c31
                have H1 : (some true) = some r := by rw [if_pos rfl] at H; exact H
                clear H
                have H := H1
                clear H1
                obtain rfl := Option.some.inj H
                go_wp2
                go_ret
                exact ⟨by first | rfl | (simp [errW_none, errW_some] <;> rfl) | (simp [*, errW_none, errW_some] <;> rfl), by repeat (first | (with_reducible first | exact HB.out | apply below_alloc | apply pw_below_drewN | apply below_drew1) | exact HB.out)⟩
              · replace c31 := Bool.eq_false_iff.mpr c31
                subst c31
                have H1 : ((impl_TrieFind.f l0 l1 a2).bind fun bt276 => (laws_FnTrieFind.l0 kj10 l1 a2 bt276.1 bt276.2.1 bt276.2.2 l0 (l0.length : Int) 0)) = some r := by rw [if_neg (show ¬ (false = true) by decide)] at H; exact H
                clear H
                have H := H1
                clear H1
                replace H := Option.bind_eq_some_iff.mp H
                obtain ⟨⟨t276, t277, t278⟩, A320, H⟩ := H
                replace H : (laws_FnTrieFind.l0 kj10 l1 a2 t276 t277 t278 l0 (l0.length : Int) 0) = some r := H
                have A32 := Aside0.mk A320
                clear A320
                have H' := Aside0.mk H
                clear H
                go_wp2_with (first | ((with_reducible refine gate_callee (f := 14) rfl ?_); refine goesL_ (some 51) rfl rfl Try.func14 (by kernel_rfl) rfl #[.slice A0 l0.length c0, .slice A1 l1.length c1, .string a2] rfl (by (try simp only [List.map_toArray, List.map_cons, List.map_nil]); first | done | rfl | (simp only [List.length_drop, List.length_take]; rfl)) ?_; (with_reducible refine (impl_TrieFind.calls _ _ l0 _ _ l1 a2 t276 t277 t278 _ ?side1 ?side2 ?side3 ?side4 A32.out).mono ?_); (case side1 => repeat (first | exact (Kd.C_below HR0.out HB.out) | (with_reducible refine Kd.C_alloc ?_ _) | (with_reducible refine Kd.C_drewN ?_ _) | (with_reducible refine Kd.C_drew ?_))); (case side2 => exact HC0.out); (case side3 => repeat (first | exact (Kd.C_below HR1.out HB.out) | (with_reducible refine Kd.C_alloc ?_ _) | (with_reducible refine Kd.C_drewN ?_ _) | (with_reducible refine Kd.C_drew ?_))); (case side4 => exact HC1.out); rintro e w33 ⟨rfl, hb⟩; refine ⟨_, rfl, ?_⟩; have n0_ := Aside0.mk (below_step (by repeat (first | (with_reducible first | exact HB.out | apply below_alloc | apply pw_below_drewN | apply below_drew1) | exact HB.out)) hb); clear HB; have HB := n0_; clear n0_; (try clear hb); (try clear hb2); (try clear hk); (try clear hi)))
                go_loopg [57] kj10 (fun kq v57 w' => ∃ (x57_3 : Int), v57 = .int .i64 x57_3 ∧ Aside0 (laws_FnTrieFind.l0 kq l1 a2 t276 t277 t278 l0 (l0.length : Int) x57_3 = some r) ∧ Aside0 (kq ≤ kj10) ∧ Aside0 (Below w.heap.size w w'))
                case atStart => exact ⟨(0), (by first | rfl | (simp; done) | (simp [*]; done)), H', ⟨Nat.le_refl _⟩, ⟨by repeat (first | (with_reducible first | exact HB.out | apply below_alloc | apply pw_below_drewN | apply below_drew1) | exact HB.out)⟩⟩
                case round =>
                  clear H'
                  try clear c1
                  try clear p2
                  try clear c3
                  try clear c6
                  try clear c7
                  try clear c7b0
                  try clear c7b1
                  try clear c8
                  try clear c9
                  try clear c10
                  try clear c11
                  try clear c14
                  try clear c15
                  try clear c15b0
                  try clear c15b1
                  try clear c15b2
                  try clear c18
                  try clear c31
                  try clear p2
                  obtain ⟨x57_3, rfl, HA, HK3, HB⟩ := hrel
                  cases gk with
                  | zero => exact absurd HA.out (by simp [laws_FnTrieFind.l0])
                  | succ k3 =>
                    have H := HA.out
                    clear HA
                    simp only [laws_FnTrieFind.l0] at H
                    by_cases c34 : x57_3 < (l0.length : Int)
                    · rw [if_pos c34] at H
                      have c34b0 : decide (x57_3 < (l0.length : Int)) = true := decide_eq_true c34
                      clear c34
                      by_cases c35 : 0 ≤ x57_3
                      · rw [if_pos c35] at H
                        have c35b0 : decide (0 ≤ x57_3) = true := decide_eq_true c35
                        clear c35
                        by_cases c36 : x57_3 < (l0.length : Int)
                        · rw [if_pos c36] at H
                          have c36b0 : decide (x57_3 < (l0.length : Int)) = true := decide_eq_true c36
                          clear c36
                          by_cases c37 : (rdOf ByteArray.empty l0 x57_3).toList = a2.toList
                          · rw [if_pos c37] at H
                            have c37b0 : ((rdOf ByteArray.empty l0 x57_3).toList == a2.toList) = true := beq_iff_eq.mpr c37
                            have c37b1 : ((rdOf ByteArray.empty l0 x57_3).toList != a2.toList) = false := bne_eq_false_iff_eq.mpr c37
                            clear c37
                            by_cases c38 : t278 = true
                            · subst c38
                              have H1 : (if t277 = true then (if x57_3 < (l1.length : Int) then (some (t276 == (rd l1 x57_3))) else (none)) else (some false)) = some r := by rw [if_pos rfl] at H; exact H
                              clear H
                              have H := H1
                              clear H1
                              by_cases c39 : t277 = true
                              · subst c39
                                have H1 : (if x57_3 < (l1.length : Int) then (some (t276 == (rd l1 x57_3))) else (none)) = some r := by rw [if_pos rfl] at H; exact H
                                clear H
                                have H := H1
                                clear H1
                                by_cases c40 : x57_3 < (l1.length : Int)
                                · rw [if_pos c40] at H
                                  have c40b0 : decide (x57_3 < (l1.length : Int)) = true := decide_eq_true c40
                                  clear c40
                                  obtain rfl := Option.some.inj H
                                  have p279 : 0 ≤ (x57_3 : Int) := of_decide_eq_true (by first | (with_reducible assumption) | assumption)
                                  have q279 : x57_3 < (l0.length : Int) := of_decide_eq_true (by first | (with_reducible assumption) | assumption)
                                  obtain ⟨ad279, e279, hx279_0⟩ := Kd.at_string HR0.out x57_3 p279 q279
                                  cases e279
                                  first | (replace hx279_0 := (HB.out.cell (World.block_lt_of_cell? w _ hx279_0)).trans hx279_0) | skip
                                  replace p279 := eq_true p279
                                  replace q279 := eq_true q279
                                  have p280 : 0 ≤ (x57_3 : Int) := of_decide_eq_true (by first | (with_reducible assumption) | assumption)
                                  have q280 : x57_3 < (l1.length : Int) := of_decide_eq_true (by first | (with_reducible assumption) | assumption)
                                  obtain ⟨ad280, e280, hx280_0⟩ := Kd.at_int HR1.out x57_3 p280 q280
                                  cases e280
                                  first | (replace hx280_0 := (HB.out.cell (World.block_lt_of_cell? w _ hx280_0)).trans hx280_0) | skip
                                  replace p280 := eq_true p280
                                  replace q280 := eq_true q280
                                  go_wp2
                                  go_ret
                                  exact ⟨by first | rfl | (simp [errW_none, errW_some] <;> rfl) | (simp [*, errW_none, errW_some] <;> rfl), by repeat (first | (with_reducible first | exact HB.out | apply below_alloc | apply pw_below_drewN | apply below_drew1) | exact HB.out)⟩
                                · rw [if_neg c40] at H
                                  exact absurd H (by simp)
                              · replace c39 := Bool.eq_false_iff.mpr c39
                                subst c39
                                have H1 : (some false) = some r := by rw [if_neg (show ¬ (false = true) by decide)] at H; exact H
                                clear H
                                have H := H1
                                clear H1
                                obtain rfl := Option.some.inj H
                                have p279 : 0 ≤ (x57_3 : Int) := of_decide_eq_true (by first | (with_reducible assumption) | assumption)
                                have q279 : x57_3 < (l0.length : Int) := of_decide_eq_true (by first | (with_reducible assumption) | assumption)
                                obtain ⟨ad279, e279, hx279_0⟩ := Kd.at_string HR0.out x57_3 p279 q279
                                cases e279
                                first | (replace hx279_0 := (HB.out.cell (World.block_lt_of_cell? w _ hx279_0)).trans hx279_0) | skip
                                replace p279 := eq_true p279
                                replace q279 := eq_true q279
                                go_wp2
                                go_ret
                                exact ⟨by first | rfl | (simp [errW_none, errW_some] <;> rfl) | (simp [*, errW_none, errW_some] <;> rfl), by repeat (first | (with_reducible first | exact HB.out | apply below_alloc | apply pw_below_drewN | apply below_drew1) | exact HB.out)⟩
                            · replace c38 := Bool.eq_false_iff.mpr c38
                              subst c38
                              have H1 : (some false) = some r := by rw [if_neg (show ¬ (false = true) by decide)] at H; exact H
                              clear H
                              have H := H1
                              clear H1
                              obtain rfl := Option.some.inj H
                              have p279 : 0 ≤ (x57_3 : Int) := of_decide_eq_true (by first | (with_reducible assumption) | assumption)
                              have q279 : x57_3 < (l0.length : Int) := of_decide_eq_true (by first | (with_reducible assumption) | assumption)
                              obtain ⟨ad279, e279, hx279_0⟩ := Kd.at_string HR0.out x57_3 p279 q279
                              cases e279
                              first | (replace hx279_0 := (HB.out.cell (World.block_lt_of_cell? w _ hx279_0)).trans hx279_0) | skip
                              replace p279 := eq_true p279
                              replace q279 := eq_true q279
                              go_wp2
                              go_ret
                              exact ⟨by first | rfl | (simp [errW_none, errW_some] <;> rfl) | (simp [*, errW_none, errW_some] <;> rfl), by repeat (first | (with_reducible first | exact HB.out | apply below_alloc | apply pw_below_drewN | apply below_drew1) | exact HB.out)⟩
                          · rw [if_neg c37] at H
                            have c37b0 : ((rdOf ByteArray.empty l0 x57_3).toList == a2.toList) = false := beq_eq_false_iff_ne.mpr c37
                            have c37b1 : ((rdOf ByteArray.empty l0 x57_3).toList != a2.toList) = true := bne_iff_ne.mpr c37
                            have H' := Aside0.mk H
                            clear H
                            have p279 : 0 ≤ (x57_3 : Int) := of_decide_eq_true (by first | (with_reducible assumption) | assumption)
                            have q279 : x57_3 < (l0.length : Int) := of_decide_eq_true (by first | (with_reducible assumption) | assumption)
                            obtain ⟨ad279, e279, hx279_0⟩ := Kd.at_string HR0.out x57_3 p279 q279
                            cases e279
                            first | (replace hx279_0 := (HB.out.cell (World.block_lt_of_cell? w _ hx279_0)).trans hx279_0) | skip
                            replace p279 := eq_true p279
                            replace q279 := eq_true q279
                            go_wp2
                            go_roundg k3
                            case measure => have := HJ3.out; have := HJ10.out; have := HK3.out; omega
                            case rel => exact ⟨(wrap64 (x57_3 + 1)), (by first | rfl | (simp; done) | (simp [*]; done)), H', ⟨by have := HJ3.out; have := HJ10.out; have := HK3.out; omega⟩, ⟨by repeat (first | (with_reducible first | exact HB.out | apply below_alloc | apply pw_below_drewN | apply below_drew1) | exact HB.out)⟩⟩
                        · rw [if_neg c36] at H
                          exact absurd H (by simp)
                      · rw [if_neg c35] at H
                        exact absurd H (by simp)
                    · rw [if_neg c34] at H
                      have c34b0 : decide (x57_3 < (l0.length : Int)) = false := decide_eq_false c34
                      clear c34
                      by_cases c41 : t278 = true
                      · subst c41
                        have H1 : (some (!t277)) = some r := by rw [if_pos rfl] at H; exact H
                        clear H
                        have H := H1
                        clear H1
                        obtain rfl := Option.some.inj H
                        go_wp2
                        go_ret
                        exact ⟨by first | rfl | (simp [errW_none, errW_some] <;> rfl) | (simp [*, errW_none, errW_some] <;> rfl), by repeat (first | (with_reducible first | exact HB.out | apply below_alloc | apply pw_below_drewN | apply below_drew1) | exact HB.out)⟩
                      · replace c41 := Bool.eq_false_iff.mpr c41
                        subst c41
                        have H1 : (some false) = some r := by rw [if_neg (show ¬ (false = true) by decide)] at H; exact H
                        clear H
                        have H := H1
                        clear H1
                        obtain rfl := Option.some.inj H
                        go_wp2
                        go_ret
                        exact ⟨by first | rfl | (simp [errW_none, errW_some] <;> rfl) | (simp [*, errW_none, errW_some] <;> rfl), by repeat (first | (with_reducible first | exact HB.out | apply below_alloc | apply pw_below_drewN | apply below_drew1) | exact HB.out)⟩
        · replace c10 := Bool.eq_false_iff.mpr c10
          subst c10
          have H1 : (some false) = some r := by rw [if_neg (show ¬ (false = true) by decide)] at H; exact H
          clear H
          have H := H1
          clear H1
          obtain rfl := Option.some.inj H
          go_wp2_with (first | ((with_reducible refine gate_callee (f := 10) rfl ?_); refine goesL_ (some 25) rfl rfl Try.func10 (by kernel_rfl) rfl #[] rfl (by (try simp only [List.map_toArray, List.map_cons, List.map_nil]); first | done | rfl | (simp only [List.length_drop, List.length_take]; rfl)) ?_; (with_reducible refine (laws_finds.calls  false _ A9.out).mono ?_); rintro e w42 ⟨rfl, hb⟩; refine ⟨_, rfl, ?_⟩; have n0_ := Aside0.mk (below_step (by repeat (first | (with_reducible first | exact HB.out | apply below_alloc | apply pw_below_drewN | apply below_drew1) | exact HB.out)) hb); clear HB; have HB := n0_; clear n0_; (try clear hb); (try clear hb2); (try clear hk); (try clear hi)))
          go_ret
          exact ⟨by first | rfl | (simp [errW_none, errW_some] <;> rfl) | (simp [*, errW_none, errW_some] <;> rfl), by repeat (first | (with_reducible first | exact HB.out | apply below_alloc | apply pw_below_drewN | apply below_drew1) | exact HB.out)⟩

end Go.Proofs.Ytddcjmdcpkmnjaa.P
