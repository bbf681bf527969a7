-- PRINTED by print.py (a twelfth state) out of the translation. Not trusted: Lean checks it.
import Derived.Test.YtddcjmdcpkmnjaaP0
import Derived.Test.YtddcjmdcpkmnjaaP9
import Derived.Test.YtddcjmdcpkmnjaaP12
import Derived.Test.YtddcjmdcpkmnjaaP13
import Derived.Test.YtddcjmdcpkmnjaaP18
import Derived.Test.YtddcjmdcpkmnjaaP20
import Derived.Test.YtddcjmdcpkmnjaaP22
import Derived.Test.YtddcjmdcpkmnjaaMIx
namespace Go.Proofs.Ytddcjmdcpkmnjaa.P
open Go.RowKit Go.Proofs.YtddcjmdcpkmnjaaW.PrintWords Go.Proofs.YtddcjmdcpkmnjaaW.PrintLast Go.Proofs.YtddcjmdcpkmnjaaW.PrintMore
attribute [local go_sem] max2_int min2_int max_two min_two max_three min_three max_four min_four   -- for this text's walks alone
set_option linter.unusedVariables false
set_option linter.unusedSimpArgs false

/-! ### laws_FnIndexSearch: function 6 -/
mutual
def laws_FnIndexSearch.j0 : Nat → List ByteArray → ByteArray → Bool → Option (Bool)
  | 0, _, _, _ => none
  | k + 1, x0, x1, x22 => if x22 = true then (some true) else ((impl_IndexSearch.f (([(⟨#[97]⟩ : ByteArray), (⟨#[97]⟩ : ByteArray)] : List ByteArray)) (⟨#[97]⟩ : ByteArray)).bind fun bt375 => (if bt375.2 = true then ((laws_sameInts.f k bt375.1 (([0, 1] : List Int))).bind fun t382 => (laws_FnIndexSearch.j1 k x0 x1 (!t382))) else (laws_FnIndexSearch.j1 k x0 x1 true)))
def laws_FnIndexSearch.j1 : Nat → List ByteArray → ByteArray → Bool → Option (Bool)
  | 0, _, _, _ => none
  | k + 1, x0, x1, x35 => if x35 = true then (some false) else ((laws_rising.f k x0).bind fun t383 => (if t383 = true then ((laws_clean.f k 80 (([x1] : List ByteArray))).bind fun t387 => (laws_FnIndexSearch.j2 k x0 x1 (!t387))) else (laws_FnIndexSearch.j2 k x0 x1 true)))
def laws_FnIndexSearch.j2 : Nat → List ByteArray → ByteArray → Bool → Option (Bool)
  | 0, _, _, _ => none
  | k + 1, x0, x1, x44 => if x44 = true then (some true) else ((impl_IndexSearch.f x0 x1).bind fun bt388 => ((impl_IndexPrefixes.f x0 x1).bind fun bt392 => (if bt388.2 = true then (if bt392.2.2 = true then ((laws_ahead.f k x0 x1).bind fun t399 => (if t399 = true then (laws_FnIndexSearch.j3 k x0 x1 bt392.1 bt392.2.1 ((bt392.1.length : Int) != (bt392.2.1.length : Int))) else ((laws_places.f k x0 x1).bind fun t400 => ((laws_sameInts.f k bt388.1 t400).bind fun t403 => (if t403 = true then (laws_FnIndexSearch.j3 k x0 x1 bt392.1 bt392.2.1 ((bt392.1.length : Int) != (bt392.2.1.length : Int))) else (laws_FnIndexSearch.j3 k x0 x1 bt392.1 bt392.2.1 true)))))) else (laws_FnIndexSearch.j3 k x0 x1 bt392.1 bt392.2.1 true)) else (laws_FnIndexSearch.j3 k x0 x1 bt392.1 bt392.2.1 true))))
def laws_FnIndexSearch.j3 : Nat → List ByteArray → ByteArray → List Int → List (List Int) → Bool → Option (Bool)
  | 0, _, _, _, _, _ => none
  | k + 1, x0, x1, x9, x10, x84 => if x84 = true then (some false) else (laws_FnIndexSearch.l0 k x0 x1 x9 x10 0 1)
def laws_FnIndexSearch.l0 : Nat → List ByteArray → ByteArray → List Int → List (List Int) → Int → Int → Option (Bool)
  | 0, _, _, _, _, _, _ => none
  | k + 1, x0, x1, x9, x10, x12, x13 => if x13 ≤ (x1.size : Int) then (if 0 ≤ x13 then ((laws_places.f k x0 (x1.extract 0 (x13 : Int).toNat)).bind fun t404 => (if (t404.length : Int) = 0 then (laws_FnIndexSearch.l0 k x0 x1 x9 x10 x12 (wrap64 (x13 + 1))) else (if x12 ≥ (x9.length : Int) then (some false) else (if 0 ≤ x12 then (if x12 < (x9.length : Int) then (if (rd x9 x12) = x13 then (if x12 < (x10.length : Int) then ((laws_sameInts.f k (rd_L3 x10 x12) t404).bind fun t409 => (if t409 = true then (laws_FnIndexSearch.l0 k x0 x1 x9 x10 (wrap64 (x12 + 1)) (wrap64 (x13 + 1))) else (some false))) else (none)) else (some false)) else (none)) else (none))))) else (none)) else (some (x12 == (x9.length : Int)))
end
def laws_FnIndexSearch.f (k : Nat) (l0 : List ByteArray) (a1 : ByteArray) : Option (Bool) := (laws_zzFits4.f k l0).bind fun t371 => (if t371 = true then (laws_FnIndexSearch.j0 k l0 a1 (decide ((a1.size : Int) > 2147483647))) else (laws_FnIndexSearch.j0 k l0 a1 true))
theorem laws_FnIndexSearch.mono_l : ∀ k, (∀ y0 y1 y2, LeO (laws_FnIndexSearch.j0 k y0 y1 y2) (laws_FnIndexSearch.j0 (k + 1) y0 y1 y2)) ∧ (∀ y0 y1 y2, LeO (laws_FnIndexSearch.j1 k y0 y1 y2) (laws_FnIndexSearch.j1 (k + 1) y0 y1 y2)) ∧ (∀ y0 y1 y2, LeO (laws_FnIndexSearch.j2 k y0 y1 y2) (laws_FnIndexSearch.j2 (k + 1) y0 y1 y2)) ∧ (∀ y0 y1 y2 y3 y4, LeO (laws_FnIndexSearch.j3 k y0 y1 y2 y3 y4) (laws_FnIndexSearch.j3 (k + 1) y0 y1 y2 y3 y4)) ∧ (∀ y0 y1 y2 y3 y4 y5, LeO (laws_FnIndexSearch.l0 k y0 y1 y2 y3 y4 y5) (laws_FnIndexSearch.l0 (k + 1) y0 y1 y2 y3 y4 y5))
  | 0 => ⟨fun _ _ _ r h => by simp [laws_FnIndexSearch.j0] at h, fun _ _ _ r h => by simp [laws_FnIndexSearch.j1] at h, fun _ _ _ r h => by simp [laws_FnIndexSearch.j2] at h, fun _ _ _ _ _ r h => by simp [laws_FnIndexSearch.j3] at h, fun _ _ _ _ _ _ r h => by simp [laws_FnIndexSearch.l0] at h⟩
  | k + 1 => by
    obtain ⟨ih0, ih1, ih2, ih3, ih4⟩ := laws_FnIndexSearch.mono_l k
    refine ⟨?_, ?_, ?_, ?_, ?_⟩
    · intro y0 y1 y2
      unfold laws_FnIndexSearch.j0
      repeat' first
      | (with_reducible exact ih0 _ _ _)
      | (with_reducible exact ih1 _ _ _)
      | (with_reducible exact ih2 _ _ _)
      | (with_reducible exact ih3 _ _ _ _ _)
      | (with_reducible exact ih4 _ _ _ _ _ _)
      | (with_reducible exact laws_ahead.mono _ _ _)
      | (with_reducible exact laws_clean.mono _ _ _)
      | (with_reducible exact laws_places.mono _ _ _)
      | (with_reducible exact laws_rising.mono _ _)
      | (with_reducible exact laws_sameInts.mono _ _ _)
      | (with_reducible exact laws_zzFits4.mono _ _)
      | (with_reducible exact LeO.refl _)
      | (with_reducible exact LeO.none _)
      | (with_reducible refine LeO.ite ?_ ?_)
      | (with_reducible refine LeO.bind ?_ (fun _ => ?_))
      | exact ih0 _ _ _
      | exact ih1 _ _ _
      | exact ih2 _ _ _
      | exact ih3 _ _ _ _ _
      | exact ih4 _ _ _ _ _ _
      | exact laws_ahead.mono _ _ _
      | exact laws_clean.mono _ _ _
      | exact laws_places.mono _ _ _
      | exact laws_rising.mono _ _
      | exact laws_sameInts.mono _ _ _
      | exact laws_zzFits4.mono _ _
      | exact LeO.none _
      | refine LeO.ite ?_ ?_
      | refine LeO.bind ?_ (fun _ => ?_)
    · intro y0 y1 y2
      unfold laws_FnIndexSearch.j1
      repeat' first
      | (with_reducible exact ih0 _ _ _)
      | (with_reducible exact ih1 _ _ _)
      | (with_reducible exact ih2 _ _ _)
      | (with_reducible exact ih3 _ _ _ _ _)
      | (with_reducible exact ih4 _ _ _ _ _ _)
      | (with_reducible exact laws_ahead.mono _ _ _)
      | (with_reducible exact laws_clean.mono _ _ _)
      | (with_reducible exact laws_places.mono _ _ _)
      | (with_reducible exact laws_rising.mono _ _)
      | (with_reducible exact laws_sameInts.mono _ _ _)
      | (with_reducible exact laws_zzFits4.mono _ _)
      | (with_reducible exact LeO.refl _)
      | (with_reducible exact LeO.none _)
      | (with_reducible refine LeO.ite ?_ ?_)
      | (with_reducible refine LeO.bind ?_ (fun _ => ?_))
      | exact ih0 _ _ _
      | exact ih1 _ _ _
      | exact ih2 _ _ _
      | exact ih3 _ _ _ _ _
      | exact ih4 _ _ _ _ _ _
      | exact laws_ahead.mono _ _ _
      | exact laws_clean.mono _ _ _
      | exact laws_places.mono _ _ _
      | exact laws_rising.mono _ _
      | exact laws_sameInts.mono _ _ _
      | exact laws_zzFits4.mono _ _
      | exact LeO.none _
      | refine LeO.ite ?_ ?_
      | refine LeO.bind ?_ (fun _ => ?_)
    · intro y0 y1 y2
      unfold laws_FnIndexSearch.j2
      repeat' first
      | (with_reducible exact ih0 _ _ _)
      | (with_reducible exact ih1 _ _ _)
      | (with_reducible exact ih2 _ _ _)
      | (with_reducible exact ih3 _ _ _ _ _)
      | (with_reducible exact ih4 _ _ _ _ _ _)
      | (with_reducible exact laws_ahead.mono _ _ _)
      | (with_reducible exact laws_clean.mono _ _ _)
      | (with_reducible exact laws_places.mono _ _ _)
      | (with_reducible exact laws_rising.mono _ _)
      | (with_reducible exact laws_sameInts.mono _ _ _)
      | (with_reducible exact laws_zzFits4.mono _ _)
      | (with_reducible exact LeO.refl _)
      | (with_reducible exact LeO.none _)
      | (with_reducible refine LeO.ite ?_ ?_)
      | (with_reducible refine LeO.bind ?_ (fun _ => ?_))
      | exact ih0 _ _ _
      | exact ih1 _ _ _
      | exact ih2 _ _ _
      | exact ih3 _ _ _ _ _
      | exact ih4 _ _ _ _ _ _
      | exact laws_ahead.mono _ _ _
      | exact laws_clean.mono _ _ _
      | exact laws_places.mono _ _ _
      | exact laws_rising.mono _ _
      | exact laws_sameInts.mono _ _ _
      | exact laws_zzFits4.mono _ _
      | exact LeO.none _
      | refine LeO.ite ?_ ?_
      | refine LeO.bind ?_ (fun _ => ?_)
    · intro y0 y1 y2 y3 y4
      unfold laws_FnIndexSearch.j3
      repeat' first
      | (with_reducible exact ih0 _ _ _)
      | (with_reducible exact ih1 _ _ _)
      | (with_reducible exact ih2 _ _ _)
      | (with_reducible exact ih3 _ _ _ _ _)
      | (with_reducible exact ih4 _ _ _ _ _ _)
      | (with_reducible exact laws_ahead.mono _ _ _)
      | (with_reducible exact laws_clean.mono _ _ _)
      | (with_reducible exact laws_places.mono _ _ _)
      | (with_reducible exact laws_rising.mono _ _)
      | (with_reducible exact laws_sameInts.mono _ _ _)
      | (with_reducible exact laws_zzFits4.mono _ _)
      | (with_reducible exact LeO.refl _)
      | (with_reducible exact LeO.none _)
      | (with_reducible refine LeO.ite ?_ ?_)
      | (with_reducible refine LeO.bind ?_ (fun _ => ?_))
      | exact ih0 _ _ _
      | exact ih1 _ _ _
      | exact ih2 _ _ _
      | exact ih3 _ _ _ _ _
      | exact ih4 _ _ _ _ _ _
      | exact laws_ahead.mono _ _ _
      | exact laws_clean.mono _ _ _
      | exact laws_places.mono _ _ _
      | exact laws_rising.mono _ _
      | exact laws_sameInts.mono _ _ _
      | exact laws_zzFits4.mono _ _
      | exact LeO.none _
      | refine LeO.ite ?_ ?_
      | refine LeO.bind ?_ (fun _ => ?_)
    · intro y0 y1 y2 y3 y4 y5
      unfold laws_FnIndexSearch.l0
      repeat' first
      | (with_reducible exact ih0 _ _ _)
      | (with_reducible exact ih1 _ _ _)
      | (with_reducible exact ih2 _ _ _)
      | (with_reducible exact ih3 _ _ _ _ _)
      | (with_reducible exact ih4 _ _ _ _ _ _)
      | (with_reducible exact laws_ahead.mono _ _ _)
      | (with_reducible exact laws_clean.mono _ _ _)
      | (with_reducible exact laws_places.mono _ _ _)
      | (with_reducible exact laws_rising.mono _ _)
      | (with_reducible exact laws_sameInts.mono _ _ _)
      | (with_reducible exact laws_zzFits4.mono _ _)
      | (with_reducible exact LeO.refl _)
      | (with_reducible exact LeO.none _)
      | (with_reducible refine LeO.ite ?_ ?_)
      | (with_reducible refine LeO.bind ?_ (fun _ => ?_))
      | exact ih0 _ _ _
      | exact ih1 _ _ _
      | exact ih2 _ _ _
      | exact ih3 _ _ _ _ _
      | exact ih4 _ _ _ _ _ _
      | exact laws_ahead.mono _ _ _
      | exact laws_clean.mono _ _ _
      | exact laws_places.mono _ _ _
      | exact laws_rising.mono _ _
      | exact laws_sameInts.mono _ _ _
      | exact laws_zzFits4.mono _ _
      | exact LeO.none _
      | refine LeO.ite ?_ ?_
      | refine LeO.bind ?_ (fun _ => ?_)
theorem laws_FnIndexSearch.mono : ∀ a0 a1 k, LeO (laws_FnIndexSearch.f k a0 a1) (laws_FnIndexSearch.f (k + 1) a0 a1) := by
  intro a0 a1 k
  obtain ⟨ih0, ih1, ih2, ih3, ih4⟩ := laws_FnIndexSearch.mono_l k
  unfold laws_FnIndexSearch.f
  repeat' first
      | (with_reducible exact ih0 _ _ _)
      | (with_reducible exact ih1 _ _ _)
      | (with_reducible exact ih2 _ _ _)
      | (with_reducible exact ih3 _ _ _ _ _)
      | (with_reducible exact ih4 _ _ _ _ _ _)
      | (with_reducible exact laws_ahead.mono _ _ _)
      | (with_reducible exact laws_clean.mono _ _ _)
      | (with_reducible exact laws_places.mono _ _ _)
      | (with_reducible exact laws_rising.mono _ _)
      | (with_reducible exact laws_sameInts.mono _ _ _)
      | (with_reducible exact laws_zzFits4.mono _ _)
      | (with_reducible exact LeO.refl _)
      | (with_reducible exact LeO.none _)
      | (with_reducible refine LeO.ite ?_ ?_)
      | (with_reducible refine LeO.bind ?_ (fun _ => ?_))
      | exact ih0 _ _ _
      | exact ih1 _ _ _
      | exact ih2 _ _ _
      | exact ih3 _ _ _ _ _
      | exact ih4 _ _ _ _ _ _
      | exact laws_ahead.mono _ _ _
      | exact laws_clean.mono _ _ _
      | exact laws_places.mono _ _ _
      | exact laws_rising.mono _ _
      | exact laws_sameInts.mono _ _ _
      | exact laws_zzFits4.mono _ _
      | exact LeO.none _
      | refine LeO.ite ?_ ?_
      | refine LeO.bind ?_ (fun _ => ?_)
set_option maxHeartbeats 8000000 in
set_option maxRecDepth 100000 in
theorem laws_FnIndexSearch.calls (k : Nat) (A0 : Option Addr) (c0 : Nat) (l0 : List ByteArray) (a1 : ByteArray) (r : Bool) (w : World) (hr0 : Kd.C Kd.string w A0 l0.length l0) (hc0 : l0.length ≤ c0) (h : laws_FnIndexSearch.f k l0 a1 = some r) :
    Calls Try.prog 6 #[.slice A0 l0.length c0, .string a1] w fun e w' => e = .returned (.bool r) ∧ Below w.heap.size w w' := by
  have HR0 := Aside0.mk hr0
  have HC0 := Aside0.mk hc0
  clear hr0 hc0
  have HB := Aside0.mk (Below.refl w.heap.size w)
  have H : ((laws_zzFits4.f k l0).bind fun t371 => (if t371 = true then (laws_FnIndexSearch.j0 k l0 a1 (decide ((a1.size : Int) > 2147483647))) else (laws_FnIndexSearch.j0 k l0 a1 true))) = some r := h
  clear h
  have HC3 := Aside0.mk H
  clear H
  go_enter Try.func6, Try.ntmps6
  go_upto_region 1 with (fail)
  go_cut [22] (fun v22 wc => ∃ (kq : Nat) (x22_2 : Bool), v22 = .bool x22_2 ∧ Aside0 (laws_FnIndexSearch.j0 kq l0 a1 x22_2 = some r) ∧ Aside0 (kq ≤ k) ∧ Aside0 (Below w.heap.size w wc))
  case first =>
    have H := HC3.out
    clear HC3
    replace H := Option.bind_eq_some_iff.mp H
    obtain ⟨t371, A40, H⟩ := H
    replace H : (if t371 = true then (laws_FnIndexSearch.j0 k l0 a1 (decide ((a1.size : Int) > 2147483647))) else (laws_FnIndexSearch.j0 k l0 a1 true)) = some r := H
    have A4 := Aside0.mk A40
    clear A40
    by_cases c5 : t371 = true
    · subst c5
      have H1 : (laws_FnIndexSearch.j0 k l0 a1 (decide ((a1.size : Int) > 2147483647))) = some r := by rw [if_pos rfl] at H; exact H
      clear H
      have H := H1
      clear H1
      have H' := Aside0.mk H
      clear H
      go_wp2_with (first | ((with_reducible refine gate_callee (f := 9) rfl ?_); refine goesL_ (some 16) rfl rfl Try.func9 (by kernel_rfl) rfl #[.slice A0 l0.length c0] rfl (by (try simp only [List.map_toArray, List.map_cons, List.map_nil]); first | done | rfl | (simp only [List.length_drop, List.length_take]; rfl)) ?_; (with_reducible refine (laws_zzFits4.calls k _ _ l0 true _ ?side1 ?side2 A4.out).mono ?_); (case side1 => repeat (first | exact (Kd.C_below HR0.out HB.out) | (with_reducible refine Kd.C_alloc ?_ _) | (with_reducible refine Kd.C_drewN ?_ _) | (with_reducible refine Kd.C_drew ?_))); (case side2 => exact HC0.out); rintro e w' ⟨rfl, ⟨nd, rfl⟩⟩; refine ⟨_, rfl, ?_⟩))
      go_meet
      case rel => exact ⟨_, (decide ((a1.size : Int) > 2147483647)), (by first | rfl | (simp; done) | (simp [*]; done)), H', ⟨by first | omega | exact Nat.le_refl _⟩, ⟨by repeat (first | (with_reducible first | exact HB.out | apply below_alloc | apply pw_below_drewN | apply below_drew1) | exact HB.out)⟩⟩
    · replace c5 := Bool.eq_false_iff.mpr c5
      subst c5
      have H1 : (laws_FnIndexSearch.j0 k l0 a1 true) = some r := by rw [if_neg (show ¬ (false = true) by decide)] at H; exact H
      clear H
      have H := H1
      clear H1
      have H' := Aside0.mk H
      clear H
      go_wp2_with (first | ((with_reducible refine gate_callee (f := 9) rfl ?_); refine goesL_ (some 16) rfl rfl Try.func9 (by kernel_rfl) rfl #[.slice A0 l0.length c0] rfl (by (try simp only [List.map_toArray, List.map_cons, List.map_nil]); first | done | rfl | (simp only [List.length_drop, List.length_take]; rfl)) ?_; (with_reducible refine (laws_zzFits4.calls k _ _ l0 false _ ?side1 ?side2 A4.out).mono ?_); (case side1 => repeat (first | exact (Kd.C_below HR0.out HB.out) | (with_reducible refine Kd.C_alloc ?_ _) | (with_reducible refine Kd.C_drewN ?_ _) | (with_reducible refine Kd.C_drew ?_))); (case side2 => exact HC0.out); rintro e w' ⟨rfl, ⟨nd, rfl⟩⟩; refine ⟨_, rfl, ?_⟩))
      go_meet
      case rel => exact ⟨_, (true), (by first | rfl | (simp; done) | (simp [*]; done)), H', ⟨by first | omega | exact Nat.le_refl _⟩, ⟨by repeat (first | (with_reducible first | exact HB.out | apply below_alloc | apply pw_below_drewN | apply below_drew1) | exact HB.out)⟩⟩
  case rest =>
    clear HC3
    try clear p2
    try clear c5
    obtain ⟨kq, x22_2, rfl, HA, HJ2, HB⟩ := hcut
    cases kq with
    | zero => exact absurd HA.out (by simp [laws_FnIndexSearch.j0])
    | succ kj2 =>
      have H := HA.out
      clear HA
      simp only [laws_FnIndexSearch.j0] at H
      by_cases c6 : x22_2 = true
      · subst c6
        have H1 : (some true) = some r := by rw [if_pos rfl] at H; exact H
        clear H
        have H := H1
        clear H1
        obtain rfl := Option.some.inj H
        go_wp2
        go_ret
        exact ⟨by first | rfl | (simp [errW_none, errW_some] <;> rfl) | (simp [*, errW_none, errW_some] <;> rfl), by repeat (first | (with_reducible first | exact HB.out | apply below_alloc | apply pw_below_drewN | apply below_drew1) | exact HB.out)⟩
      · replace c6 := Bool.eq_false_iff.mpr c6
        subst c6
        have H1 : ((impl_IndexSearch.f (([(⟨#[97]⟩ : ByteArray), (⟨#[97]⟩ : ByteArray)] : List ByteArray)) (⟨#[97]⟩ : ByteArray)).bind fun bt375 => (if bt375.2 = true then ((laws_sameInts.f kj2 bt375.1 (([0, 1] : List Int))).bind fun t382 => (laws_FnIndexSearch.j1 kj2 l0 a1 (!t382))) else (laws_FnIndexSearch.j1 kj2 l0 a1 true))) = some r := by rw [if_neg (show ¬ (false = true) by decide)] at H; exact H
        clear H
        have H := H1
        clear H1
        obtain ⟨y372, hy372⟩ : ∃ y_ : List ByteArray, y_ = (([(⟨#[97]⟩ : ByteArray), (⟨#[97]⟩ : ByteArray)] : List ByteArray)) := ⟨_, rfl⟩
        replace H : ((impl_IndexSearch.f y372 (⟨#[97]⟩ : ByteArray)).bind fun bt375 => (if bt375.2 = true then ((laws_sameInts.f kj2 bt375.1 (([0, 1] : List Int))).bind fun t382 => (laws_FnIndexSearch.j1 kj2 l0 a1 (!t382))) else (laws_FnIndexSearch.j1 kj2 l0 a1 true))) = some r := by first | (rw [hy372]; with_reducible exact H) | (have H2_ := (Option.bind_some _ _).symm.trans H; rw [hy372]; with_reducible exact H2_) | (have H2_ := (Option.bind_some _ _).symm.trans H; with_reducible exact H2_) | with_reducible exact H | (rw [hy372]; exact H) | exact H
        have Ny372 := Aside0.mk hy372
        clear hy372
        replace H := Option.bind_eq_some_iff.mp H
        obtain ⟨⟨t375, t376⟩, A70, H⟩ := H
        replace H : (if t376 = true then ((laws_sameInts.f kj2 t375 (([0, 1] : List Int))).bind fun t382 => (laws_FnIndexSearch.j1 kj2 l0 a1 (!t382))) else (laws_FnIndexSearch.j1 kj2 l0 a1 true)) = some r := H
        have A7 := Aside0.mk A70
        clear A70
        have HC8 := Aside0.mk H
        clear H
        go_upto_region 4 with (first | ((with_reducible refine gate_dst (N := 24) rfl ?_); (try (refine gate_guard (by rfl) ?_; dsimp only)); refine Kd.R_lit Kd.string _ 9 ?hg (N := 24) ?hd (xs := ([(⟨#[97]⟩ : ByteArray), (⟨#[97]⟩ : ByteArray)] : List ByteArray)) (inner := [.string (⟨#[97]⟩ : ByteArray), .string (⟨#[97]⟩ : ByteArray)]) (ok := fun _ => True) (okp := fun _ => True) ?hr ?hp (fun _ hk => hk) trivial (Below.refl _ _) (Nat.le_refl _) (by simp) ?_; (case hd => rfl); (case hg => rfl); (case hr => first | (go_simp; done) | (go_simp; rfl)); (case hp => exact (Reps.one (show Kd.M Kd.string _ _ _ (⟨#[97]⟩ : ByteArray) [.string (⟨#[97]⟩ : ByteArray)] from rfl) (Reps.one (show Kd.M Kd.string _ _ _ (⟨#[97]⟩ : ByteArray) [.string (⟨#[97]⟩ : ByteArray)] from rfl) (Reps.none _ _)))); intro v373 w9 ho10 hb hg_ hnew_; clear hg_ hnew_; (first | rw [← Ny372.out] at ho10 | (simp only [Int.reduceToNat] at ho10; rw [← Ny372.out] at ho10)); have n0_ := Aside0.mk (Kd.R_lower ho10 (below_size (by repeat (first | (with_reducible first | exact HB.out | apply below_alloc | apply pw_below_drewN | apply below_drew1) | exact HB.out)))); have n1_ := Aside0.mk (below_step (by repeat (first | (with_reducible first | exact HB.out | apply below_alloc | apply pw_below_drewN | apply below_drew1) | exact HB.out)) hb); clear HB; have HO374 := n0_; have HB := n1_; clear n0_ n1_; clear hb ho10; obtain ⟨Ao11, co11, eo11⟩ := Kd.R_slice HO374.out; subst eo11) | ((with_reducible refine gate_callee (f := 19) rfl ?_); refine goesL_ (some 25) rfl rfl Try.func19 (by kernel_rfl) rfl #[.slice Ao11 y372.length co11, .string (⟨#[97]⟩ : ByteArray)] rfl (by (try simp only [List.map_toArray, List.map_cons, List.map_nil]); first | done | rfl | (simp only [List.length_drop, List.length_take]; rfl)) ?_; (with_reducible refine (impl_IndexSearch.calls _ _ y372 (⟨#[97]⟩ : ByteArray) t375 t376 _ ?side1 ?side2 A7.out).mono ?_); (case side1 => repeat (first | exact (Kd.R_reads' HO374.out).2.2 | (with_reducible refine Kd.C_alloc ?_ _) | (with_reducible refine Kd.C_drewN ?_ _) | (with_reducible refine Kd.C_drew ?_))); (case side2 => exact (Kd.R_reads' HO374.out).2.1); rintro e w12 ⟨v377, rfl, ho0, hb⟩; refine ⟨_, rfl, ?_⟩; have n0_ := Aside0.mk (Kd.R_below (by (with_reducible repeat (first | apply Kd.R_alloc | apply Kd.R_drewN | apply Kd.R_drew)); exact HO374.out) hb); have n1_ := Aside0.mk (Kd.R_lower ho0 (below_size (by repeat (first | (with_reducible first | exact HB.out | apply below_alloc | apply pw_below_drewN | apply below_drew1) | exact HB.out)))); have n2_ := Aside0.mk (below_step (by repeat (first | (with_reducible first | exact HB.out | apply below_alloc | apply pw_below_drewN | apply below_drew1) | exact HB.out)) hb); clear HO374; clear HB; have HO374 := n0_; have HO378 := n1_; have HB := n2_; clear n0_ n1_ n2_; (try clear hb); (try clear hb2); (try clear hk); (try clear hi); (try clear ho0)))
        (try simp only [Act.put, List.setIfInBounds_toArray, List.set_cons_zero, List.set_cons_succ])
        go_cut [35] (fun v35 wc => ∃ (kq : Nat) (x35_7 : Bool), v35 = .bool x35_7 ∧ Aside0 (laws_FnIndexSearch.j1 kq l0 a1 x35_7 = some r) ∧ Aside0 (kq ≤ kj2) ∧ Aside0 (Below w.heap.size w wc))
        case first =>
          have H := HC8.out
          clear HC8
          by_cases c13 : t376 = true
          · subst c13
            have H1 : ((laws_sameInts.f kj2 t375 (([0, 1] : List Int))).bind fun t382 => (laws_FnIndexSearch.j1 kj2 l0 a1 (!t382))) = some r := by rw [if_pos rfl] at H; exact H
            clear H
            have H := H1
            clear H1
            obtain ⟨y379, hy379⟩ : ∃ y_ : List Int, y_ = (([0, 1] : List Int)) := ⟨_, rfl⟩
            replace H : ((laws_sameInts.f kj2 t375 y379).bind fun t382 => (laws_FnIndexSearch.j1 kj2 l0 a1 (!t382))) = some r := by first | (rw [hy379]; with_reducible exact H) | (have H2_ := (Option.bind_some _ _).symm.trans H; rw [hy379]; with_reducible exact H2_) | (have H2_ := (Option.bind_some _ _).symm.trans H; with_reducible exact H2_) | with_reducible exact H | (rw [hy379]; exact H) | exact H
            have Ny379 := Aside0.mk hy379
            clear hy379
            replace H := Option.bind_eq_some_iff.mp H
            obtain ⟨t382, A140, H⟩ := H
            replace H : (laws_FnIndexSearch.j1 kj2 l0 a1 (!t382)) = some r := H
            have A14 := Aside0.mk A140
            clear A140
            have H' := Aside0.mk H
            clear H
            go_wp2_with (first | ((with_reducible refine gate_dst (N := 32) rfl ?_); (try (refine gate_guard (by rfl) ?_; dsimp only)); refine Kd.R_lit (Kd.int .i64) _ 3 ?hg (N := 32) ?hd (xs := ([0, 1] : List Int)) (inner := [.int .i64 0, .int .i64 1]) (ok := fun _ => True) (okp := fun _ => True) ?hr ?hp (fun _ hk => hk) trivial (Below.refl _ _) (Nat.le_refl _) (by simp) ?_; (case hd => rfl); (case hg => rfl); (case hr => first | (go_simp; done) | (go_simp; rfl)); (case hp => exact (Reps.one (show Kd.M (Kd.int .i64) _ _ _ 0 [.int .i64 0] from rfl) (Reps.one (show Kd.M (Kd.int .i64) _ _ _ 1 [.int .i64 1] from rfl) (Reps.none _ _)))); intro v380 w15 ho16 hb hg_ hnew_; clear hg_ hnew_; (first | rw [← Ny379.out] at ho16 | (simp only [Int.reduceToNat] at ho16; rw [← Ny379.out] at ho16)); have n0_ := Aside0.mk (Kd.R_below (by (with_reducible repeat (first | apply Kd.R_alloc | apply Kd.R_drewN | apply Kd.R_drew)); exact HO374.out) hb); have n1_ := Aside0.mk (Kd.R_elder' (by (with_reducible repeat (first | apply Kd.R_alloc | apply Kd.R_drewN | apply Kd.R_drew)); exact HO378.out) (by first | exact Kd.N_base ho16 | exact Kd.S_base ho16 | exact Kd.R_base ho16) hb); have n2_ := Aside0.mk (Kd.R_lower (Kd.R_new' ho16 (Kd.R_lt (by (with_reducible repeat (first | apply Kd.R_alloc | apply Kd.R_drewN | apply Kd.R_drew)); exact HO378.out))) (below_size (by repeat (first | (with_reducible first | exact HB.out | apply below_alloc | apply pw_below_drewN | apply below_drew1) | exact HB.out)))); have n3_ := Aside0.mk (below_step (by repeat (first | (with_reducible first | exact HB.out | apply below_alloc | apply pw_below_drewN | apply below_drew1) | exact HB.out)) hb); clear HO374; clear HO378; clear HB; have HO374 := n0_; have HO378 := n1_; have HO381 := n2_; have HB := n3_; clear n0_ n1_ n2_ n3_; clear hb ho16; obtain ⟨Ao17, co17, eo17⟩ := Kd.R_slice HO378.out; subst eo17; obtain ⟨Ao18, co18, eo18⟩ := Kd.R_slice HO381.out; subst eo18) | (go_at_call 18; (with_reducible refine (laws_sameInts.calls kj2 _ _ t375 _ _ y379 t382 _ ?side1 ?side2 ?side3 ?side4 A14.out).mono ?_); (case side1 => repeat (first | exact (Kd.R_reads' HO378.out).2.2 | (with_reducible refine Kd.C_alloc ?_ _) | (with_reducible refine Kd.C_drewN ?_ _) | (with_reducible refine Kd.C_drew ?_))); (case side2 => exact (Kd.R_reads' HO378.out).2.1); (case side3 => repeat (first | exact (Kd.R_reads' HO381.out).2.2 | (with_reducible refine Kd.C_alloc ?_ _) | (with_reducible refine Kd.C_drewN ?_ _) | (with_reducible refine Kd.C_drew ?_))); (case side4 => exact (Kd.R_reads' HO381.out).2.1); rintro e w' ⟨rfl, ⟨nd, rfl⟩⟩))
            go_meet
            case rel => exact ⟨_, (!t382), (by first | rfl | (simp; done) | (simp [*]; done)), H', ⟨by have := HJ2.out; first | omega | exact Nat.le_refl _⟩, ⟨by repeat (first | (with_reducible first | exact HB.out | apply below_alloc | apply pw_below_drewN | apply below_drew1) | exact HB.out)⟩⟩
          · replace c13 := Bool.eq_false_iff.mpr c13
            subst c13
            have H1 : (laws_FnIndexSearch.j1 kj2 l0 a1 true) = some r := by rw [if_neg (show ¬ (false = true) by decide)] at H; exact H
            clear H
            have H := H1
            clear H1
            have H' := Aside0.mk H
            clear H
            go_wp2
            go_meet
            case rel => exact ⟨_, (true), (by first | rfl | (simp; done) | (simp [*]; done)), H', ⟨by have := HJ2.out; first | omega | exact Nat.le_refl _⟩, ⟨by repeat (first | (with_reducible first | exact HB.out | apply below_alloc | apply pw_below_drewN | apply below_drew1) | exact HB.out)⟩⟩
        case rest =>
          clear HC8
          try clear c1
          try clear p2
          try clear c5
          try clear c6
          try clear c9
          try clear c13
          try clear p2
          obtain ⟨kq, x35_7, rfl, HA, HJ7, HB⟩ := hcut
          cases kq with
          | zero => exact absurd HA.out (by simp [laws_FnIndexSearch.j1])
          | succ kj7 =>
            have H := HA.out
            clear HA
            simp only [laws_FnIndexSearch.j1] at H
            by_cases c19 : x35_7 = true
            · subst c19
              have H1 : (some false) = some r := by rw [if_pos rfl] at H; exact H
              clear H
              have H := H1
              clear H1
              obtain rfl := Option.some.inj H
              go_wp2
              go_ret
              exact ⟨by first | rfl | (simp [errW_none, errW_some] <;> rfl) | (simp [*, errW_none, errW_some] <;> rfl), by repeat (first | (with_reducible first | exact HB.out | apply below_alloc | apply pw_below_drewN | apply below_drew1) | exact HB.out)⟩
            · replace c19 := Bool.eq_false_iff.mpr c19
              subst c19
              have H1 : ((laws_rising.f kj7 l0).bind fun t383 => (if t383 = true then ((laws_clean.f kj7 80 (([a1] : List ByteArray))).bind fun t387 => (laws_FnIndexSearch.j2 kj7 l0 a1 (!t387))) else (laws_FnIndexSearch.j2 kj7 l0 a1 true))) = some r := by rw [if_neg (show ¬ (false = true) by decide)] at H; exact H
              clear H
              have H := H1
              clear H1
              have HC20 := Aside0.mk H
              clear H
              go_upto_region 6 with (fail)
              go_cut [44] (fun v44 wc => ∃ (kq : Nat) (x44_19 : Bool), v44 = .bool x44_19 ∧ Aside0 (laws_FnIndexSearch.j2 kq l0 a1 x44_19 = some r) ∧ Aside0 (kq ≤ kj7) ∧ Aside0 (Below w.heap.size w wc))
              case first =>
                have H := HC20.out
                clear HC20
                replace H := Option.bind_eq_some_iff.mp H
                obtain ⟨t383, A210, H⟩ := H
                replace H : (if t383 = true then ((laws_clean.f kj7 80 (([a1] : List ByteArray))).bind fun t387 => (laws_FnIndexSearch.j2 kj7 l0 a1 (!t387))) else (laws_FnIndexSearch.j2 kj7 l0 a1 true)) = some r := H
                have A21 := Aside0.mk A210
                clear A210
                by_cases c22 : t383 = true
                · subst c22
                  have H1 : ((laws_clean.f kj7 80 (([a1] : List ByteArray))).bind fun t387 => (laws_FnIndexSearch.j2 kj7 l0 a1 (!t387))) = some r := by rw [if_pos rfl] at H; exact H
                  clear H
                  have H := H1
                  clear H1
                  obtain ⟨y384, hy384⟩ : ∃ y_ : List ByteArray, y_ = (([a1] : List ByteArray)) := ⟨_, rfl⟩
                  replace H : ((laws_clean.f kj7 80 y384).bind fun t387 => (laws_FnIndexSearch.j2 kj7 l0 a1 (!t387))) = some r := by first | (rw [hy384]; with_reducible exact H) | (have H2_ := (Option.bind_some _ _).symm.trans H; rw [hy384]; with_reducible exact H2_) | (have H2_ := (Option.bind_some _ _).symm.trans H; with_reducible exact H2_) | with_reducible exact H | (rw [hy384]; exact H) | exact H
                  have Ny384 := Aside0.mk hy384
                  clear hy384
                  replace H := Option.bind_eq_some_iff.mp H
                  obtain ⟨t387, A230, H⟩ := H
                  replace H : (laws_FnIndexSearch.j2 kj7 l0 a1 (!t387)) = some r := H
                  have A23 := Aside0.mk A230
                  clear A230
                  have H' := Aside0.mk H
                  clear H
                  go_wp2_with (first | ((with_reducible refine gate_callee (f := 20) rfl ?_); refine goesL_ (some 37) rfl rfl Try.func20 (by kernel_rfl) rfl #[.slice A0 l0.length c0] rfl (by (try simp only [List.map_toArray, List.map_cons, List.map_nil]); first | done | rfl | (simp only [List.length_drop, List.length_take]; rfl)) ?_; (with_reducible refine (laws_rising.calls kj7 _ _ l0 true _ ?side1 ?side2 A21.out).mono ?_); (case side1 => repeat (first | exact (Kd.C_below HR0.out HB.out) | (with_reducible refine Kd.C_alloc ?_ _) | (with_reducible refine Kd.C_drewN ?_ _) | (with_reducible refine Kd.C_drew ?_))); (case side2 => exact HC0.out); rintro e w24 ⟨rfl, hb⟩; refine ⟨_, rfl, ?_⟩; have n0_ := Aside0.mk (below_step (by repeat (first | (with_reducible first | exact HB.out | apply below_alloc | apply pw_below_drewN | apply below_drew1) | exact HB.out)) hb); clear HB; have HB := n0_; clear n0_; (try clear hb); (try clear hb2); (try clear hk); (try clear hi)) | ((with_reducible refine gate_dst (N := 41) rfl ?_); (try (refine gate_guard (by rfl) ?_; dsimp only)); refine Kd.R_lit Kd.string _ 9 ?hg (N := 41) ?hd (xs := ([a1] : List ByteArray)) (inner := [.string a1]) (ok := fun _ => True) (okp := fun _ => True) ?hr ?hp (fun _ hk => hk) trivial (Below.refl _ _) (Nat.le_refl _) (by simp) ?_; (case hd => rfl); (case hg => rfl); (case hr => first | (go_simp; done) | (go_simp; rfl)); (case hp => exact (Reps.one (show Kd.M Kd.string _ _ _ a1 [.string a1] from rfl) (Reps.none _ _))); intro v385 w25 ho26 hb hg_ hnew_; clear hg_ hnew_; (first | rw [← Ny384.out] at ho26 | (simp only [Int.reduceToNat] at ho26; rw [← Ny384.out] at ho26)); have n0_ := Aside0.mk (Kd.R_lower ho26 (below_size (by repeat (first | (with_reducible first | exact HB.out | apply below_alloc | apply pw_below_drewN | apply below_drew1) | exact HB.out)))); have n1_ := Aside0.mk (below_step (by repeat (first | (with_reducible first | exact HB.out | apply below_alloc | apply pw_below_drewN | apply below_drew1) | exact HB.out)) hb); clear HB; have HO386 := n0_; have HB := n1_; clear n0_ n1_; clear hb ho26; obtain ⟨Ao27, co27, eo27⟩ := Kd.R_slice HO386.out; subst eo27) | (go_at_call 12; (with_reducible refine (laws_clean.calls kj7 80 _ _ y384 t387 _ ?side1 ?side2 A23.out).mono ?_); (case side1 => repeat (first | exact (Kd.R_reads' HO386.out).2.2 | (with_reducible refine Kd.C_alloc ?_ _) | (with_reducible refine Kd.C_drewN ?_ _) | (with_reducible refine Kd.C_drew ?_))); (case side2 => exact (Kd.R_reads' HO386.out).2.1); rintro e w28 ⟨rfl, hb⟩; have n0_ := Aside0.mk (Kd.R_below (by (with_reducible repeat (first | apply Kd.R_alloc | apply Kd.R_drewN | apply Kd.R_drew)); exact HO386.out) hb); have n1_ := Aside0.mk (below_step (by repeat (first | (with_reducible first | exact HB.out | apply below_alloc | apply pw_below_drewN | apply below_drew1) | exact HB.out)) hb); clear HO386; clear HB; have HO386 := n0_; have HB := n1_; clear n0_ n1_; (try clear hb); (try clear hb2); (try clear hk); (try clear hi)))
                  go_meet
                  case rel => exact ⟨_, (!t387), (by first | rfl | (simp; done) | (simp [*]; done)), H', ⟨by have := HJ2.out; have := HJ7.out; first | omega | exact Nat.le_refl _⟩, ⟨by repeat (first | (with_reducible first | exact HB.out | apply below_alloc | apply pw_below_drewN | apply below_drew1) | exact HB.out)⟩⟩
                · replace c22 := Bool.eq_false_iff.mpr c22
                  subst c22
                  have H1 : (laws_FnIndexSearch.j2 kj7 l0 a1 true) = some r := by rw [if_neg (show ¬ (false = true) by decide)] at H; exact H
                  clear H
                  have H := H1
                  clear H1
                  have H' := Aside0.mk H
                  clear H
                  go_wp2_with (first | ((with_reducible refine gate_callee (f := 20) rfl ?_); refine goesL_ (some 37) rfl rfl Try.func20 (by kernel_rfl) rfl #[.slice A0 l0.length c0] rfl (by (try simp only [List.map_toArray, List.map_cons, List.map_nil]); first | done | rfl | (simp only [List.length_drop, List.length_take]; rfl)) ?_; (with_reducible refine (laws_rising.calls kj7 _ _ l0 false _ ?side1 ?side2 A21.out).mono ?_); (case side1 => repeat (first | exact (Kd.C_below HR0.out HB.out) | (with_reducible refine Kd.C_alloc ?_ _) | (with_reducible refine Kd.C_drewN ?_ _) | (with_reducible refine Kd.C_drew ?_))); (case side2 => exact HC0.out); rintro e w29 ⟨rfl, hb⟩; refine ⟨_, rfl, ?_⟩; have n0_ := Aside0.mk (below_step (by repeat (first | (with_reducible first | exact HB.out | apply below_alloc | apply pw_below_drewN | apply below_drew1) | exact HB.out)) hb); clear HB; have HB := n0_; clear n0_; (try clear hb); (try clear hb2); (try clear hk); (try clear hi)))
                  go_meet
                  case rel => exact ⟨_, (true), (by first | rfl | (simp; done) | (simp [*]; done)), H', ⟨by have := HJ2.out; have := HJ7.out; first | omega | exact Nat.le_refl _⟩, ⟨by repeat (first | (with_reducible first | exact HB.out | apply below_alloc | apply pw_below_drewN | apply below_drew1) | exact HB.out)⟩⟩
              case rest =>
                clear HC20
                try clear c1
                try clear c2
                try clear p2
                try clear c5
                try clear c6
                try clear c9
                try clear c13
                try clear c19
                try clear c20
                try clear c22
                try clear p2
                obtain ⟨kq, x44_19, rfl, HA, HJ19, HB⟩ := hcut
                cases kq with
                | zero => exact absurd HA.out (by simp [laws_FnIndexSearch.j2])
                | succ kj19 =>
                  have H := HA.out
                  clear HA
                  simp only [laws_FnIndexSearch.j2] at H
                  by_cases c30 : x44_19 = true
                  · subst c30
                    have H1 : (some true) = some r := by rw [if_pos rfl] at H; exact H
                    clear H
                    have H := H1
                    clear H1
                    obtain rfl := Option.some.inj H
                    go_wp2
                    go_ret
                    exact ⟨by first | rfl | (simp [errW_none, errW_some] <;> rfl) | (simp [*, errW_none, errW_some] <;> rfl), by repeat (first | (with_reducible first | exact HB.out | apply below_alloc | apply pw_below_drewN | apply below_drew1) | exact HB.out)⟩
                  · replace c30 := Bool.eq_false_iff.mpr c30
                    subst c30
                    have H1 : ((impl_IndexSearch.f l0 a1).bind fun bt388 => ((impl_IndexPrefixes.f l0 a1).bind fun bt392 => (if bt388.2 = true then (if bt392.2.2 = true then ((laws_ahead.f kj19 l0 a1).bind fun t399 => (if t399 = true then (laws_FnIndexSearch.j3 kj19 l0 a1 bt392.1 bt392.2.1 ((bt392.1.length : Int) != (bt392.2.1.length : Int))) else ((laws_places.f kj19 l0 a1).bind fun t400 => ((laws_sameInts.f kj19 bt388.1 t400).bind fun t403 => (if t403 = true then (laws_FnIndexSearch.j3 kj19 l0 a1 bt392.1 bt392.2.1 ((bt392.1.length : Int) != (bt392.2.1.length : Int))) else (laws_FnIndexSearch.j3 kj19 l0 a1 bt392.1 bt392.2.1 true)))))) else (laws_FnIndexSearch.j3 kj19 l0 a1 bt392.1 bt392.2.1 true)) else (laws_FnIndexSearch.j3 kj19 l0 a1 bt392.1 bt392.2.1 true)))) = some r := by rw [if_neg (show ¬ (false = true) by decide)] at H; exact H
                    clear H
                    have H := H1
                    clear H1
                    replace H := Option.bind_eq_some_iff.mp H
                    obtain ⟨⟨t388, t389⟩, A310, H⟩ := H
                    replace H : ((impl_IndexPrefixes.f l0 a1).bind fun bt392 => (if t389 = true then (if bt392.2.2 = true then ((laws_ahead.f kj19 l0 a1).bind fun t399 => (if t399 = true then (laws_FnIndexSearch.j3 kj19 l0 a1 bt392.1 bt392.2.1 ((bt392.1.length : Int) != (bt392.2.1.length : Int))) else ((laws_places.f kj19 l0 a1).bind fun t400 => ((laws_sameInts.f kj19 t388 t400).bind fun t403 => (if t403 = true then (laws_FnIndexSearch.j3 kj19 l0 a1 bt392.1 bt392.2.1 ((bt392.1.length : Int) != (bt392.2.1.length : Int))) else (laws_FnIndexSearch.j3 kj19 l0 a1 bt392.1 bt392.2.1 true)))))) else (laws_FnIndexSearch.j3 kj19 l0 a1 bt392.1 bt392.2.1 true)) else (laws_FnIndexSearch.j3 kj19 l0 a1 bt392.1 bt392.2.1 true))) = some r := H
                    have A31 := Aside0.mk A310
                    clear A310
                    replace H := Option.bind_eq_some_iff.mp H
                    obtain ⟨⟨t392, t393, t394⟩, A320, H⟩ := H
                    replace H : (if t389 = true then (if t394 = true then ((laws_ahead.f kj19 l0 a1).bind fun t399 => (if t399 = true then (laws_FnIndexSearch.j3 kj19 l0 a1 t392 t393 ((t392.length : Int) != (t393.length : Int))) else ((laws_places.f kj19 l0 a1).bind fun t400 => ((laws_sameInts.f kj19 t388 t400).bind fun t403 => (if t403 = true then (laws_FnIndexSearch.j3 kj19 l0 a1 t392 t393 ((t392.length : Int) != (t393.length : Int))) else (laws_FnIndexSearch.j3 kj19 l0 a1 t392 t393 true)))))) else (laws_FnIndexSearch.j3 kj19 l0 a1 t392 t393 true)) else (laws_FnIndexSearch.j3 kj19 l0 a1 t392 t393 true)) = some r := H
                    have A32 := Aside0.mk A320
                    clear A320
                    have HC33 := Aside0.mk H
                    clear H
                    go_upto_region 10 with (first | ((with_reducible refine gate_callee (f := 19) rfl ?_); refine goesL_ (some 48) rfl rfl Try.func19 (by kernel_rfl) rfl #[.slice A0 l0.length c0, .string a1] rfl (by (try simp only [List.map_toArray, List.map_cons, List.map_nil]); first | done | rfl | (simp only [List.length_drop, List.length_take]; rfl)) ?_; (with_reducible refine (impl_IndexSearch.calls _ _ l0 a1 t388 t389 _ ?side1 ?side2 A31.out).mono ?_); (case side1 => repeat (first | exact (Kd.C_below HR0.out HB.out) | (with_reducible refine Kd.C_alloc ?_ _) | (with_reducible refine Kd.C_drewN ?_ _) | (with_reducible refine Kd.C_drew ?_))); (case side2 => exact HC0.out); rintro e w34 ⟨v390, rfl, ho0, hb⟩; refine ⟨_, rfl, ?_⟩; have n0_ := Aside0.mk (Kd.R_lower ho0 (below_size (by repeat (first | (with_reducible first | exact HB.out | apply below_alloc | apply pw_below_drewN | apply below_drew1) | exact HB.out)))); have n1_ := Aside0.mk (below_step (by repeat (first | (with_reducible first | exact HB.out | apply below_alloc | apply pw_below_drewN | apply below_drew1) | exact HB.out)) hb); clear HB; have HO391 := n0_; have HB := n1_; clear n0_ n1_; (try clear hb); (try clear hb2); (try clear hk); (try clear hi); (try clear ho0)) | ((with_reducible refine gate_callee (f := 21) rfl ?_); refine goesL_ (some 54) rfl rfl Try.func21 (by kernel_rfl) rfl #[.slice A0 l0.length c0, .string a1] rfl (by (try simp only [List.map_toArray, List.map_cons, List.map_nil]); first | done | rfl | (simp only [List.length_drop, List.length_take]; rfl)) ?_; (with_reducible refine (impl_IndexPrefixes.calls _ _ l0 a1 t392 t393 t394 _ ?side1 ?side2 A32.out).mono ?_); (case side1 => repeat (first | exact (Kd.C_below HR0.out HB.out) | (with_reducible refine Kd.C_alloc ?_ _) | (with_reducible refine Kd.C_drewN ?_ _) | (with_reducible refine Kd.C_drew ?_))); (case side2 => exact HC0.out); rintro e w35 ⟨v395, v397, rfl, ho0, ho1, hb⟩; refine ⟨_, rfl, ?_⟩; have n0_ := Aside0.mk (Kd.R_elder' (by (with_reducible repeat (first | apply Kd.R_alloc | apply Kd.R_drewN | apply Kd.R_drew)); exact HO391.out) (by first | exact Kd.N_base ho0 | exact Kd.S_base ho0 | exact Kd.R_base ho0) hb); have n1_ := Aside0.mk (Kd.R_lower (Kd.R_new' ho0 (Kd.R_lt (by (with_reducible repeat (first | apply Kd.R_alloc | apply Kd.R_drewN | apply Kd.R_drew)); exact HO391.out))) (below_size (by repeat (first | (with_reducible first | exact HB.out | apply below_alloc | apply pw_below_drewN | apply below_drew1) | exact HB.out)))); have n2_ := Aside0.mk (Kd.S_lower (Kd.S_new' ho1 (Kd.R_lt (by (with_reducible repeat (first | apply Kd.R_alloc | apply Kd.R_drewN | apply Kd.R_drew)); exact HO391.out))) (below_size (by repeat (first | (with_reducible first | exact HB.out | apply below_alloc | apply pw_below_drewN | apply below_drew1) | exact HB.out)))); have n3_ := Aside0.mk (below_step (by repeat (first | (with_reducible first | exact HB.out | apply below_alloc | apply pw_below_drewN | apply below_drew1) | exact HB.out)) hb); clear HO391; clear HB; have HO391 := n0_; have HO396 := n1_; have HO398 := n2_; have HB := n3_; clear n0_ n1_ n2_ n3_; (try clear hb); (try clear hb2); (try clear hk); (try clear hi); (try clear ho0); (try clear ho1)))
                    (try simp only [Act.put, List.setIfInBounds_toArray, List.set_cons_zero, List.set_cons_succ])
                    go_cut [84] (fun v84 wc => ∃ (kq : Nat) (x84_32 : Bool), v84 = .bool x84_32 ∧ Aside0 (laws_FnIndexSearch.j3 kq l0 a1 t392 t393 x84_32 = some r) ∧ Aside0 (kq ≤ kj19) ∧ Aside0 (Kd.R (Kd.int .i64) 3 wc w.heap.size (fun _ => True) v395 t392) ∧ Aside0 (Kd.S (Kd.slice 3 (Kd.int .i64)) 23 wc w.heap.size (fun k_ => some k_ ≠ (v395 : Value).ownBlock) v397 t393) ∧ Aside0 (Below w.heap.size w wc))
                    case first =>
                      have H := HC33.out
                      clear HC33
                      by_cases c36 : t389 = true
                      · subst c36
                        have H1 : (if t394 = true then ((laws_ahead.f kj19 l0 a1).bind fun t399 => (if t399 = true then (laws_FnIndexSearch.j3 kj19 l0 a1 t392 t393 ((t392.length : Int) != (t393.length : Int))) else ((laws_places.f kj19 l0 a1).bind fun t400 => ((laws_sameInts.f kj19 t388 t400).bind fun t403 => (if t403 = true then (laws_FnIndexSearch.j3 kj19 l0 a1 t392 t393 ((t392.length : Int) != (t393.length : Int))) else (laws_FnIndexSearch.j3 kj19 l0 a1 t392 t393 true)))))) else (laws_FnIndexSearch.j3 kj19 l0 a1 t392 t393 true)) = some r := by rw [if_pos rfl] at H; exact H
                        clear H
                        have H := H1
                        clear H1
                        by_cases c37 : t394 = true
                        · subst c37
                          have H1 : ((laws_ahead.f kj19 l0 a1).bind fun t399 => (if t399 = true then (laws_FnIndexSearch.j3 kj19 l0 a1 t392 t393 ((t392.length : Int) != (t393.length : Int))) else ((laws_places.f kj19 l0 a1).bind fun t400 => ((laws_sameInts.f kj19 t388 t400).bind fun t403 => (if t403 = true then (laws_FnIndexSearch.j3 kj19 l0 a1 t392 t393 ((t392.length : Int) != (t393.length : Int))) else (laws_FnIndexSearch.j3 kj19 l0 a1 t392 t393 true)))))) = some r := by rw [if_pos rfl] at H; exact H
                          clear H
                          have H := H1
                          clear H1
                          replace H := Option.bind_eq_some_iff.mp H
                          obtain ⟨t399, A380, H⟩ := H
                          replace H : (if t399 = true then (laws_FnIndexSearch.j3 kj19 l0 a1 t392 t393 ((t392.length : Int) != (t393.length : Int))) else ((laws_places.f kj19 l0 a1).bind fun t400 => ((laws_sameInts.f kj19 t388 t400).bind fun t403 => (if t403 = true then (laws_FnIndexSearch.j3 kj19 l0 a1 t392 t393 ((t392.length : Int) != (t393.length : Int))) else (laws_FnIndexSearch.j3 kj19 l0 a1 t392 t393 true))))) = some r := H
                          have A38 := Aside0.mk A380
                          clear A380
                          by_cases c39 : t399 = true
                          · subst c39
                            have H1 : (laws_FnIndexSearch.j3 kj19 l0 a1 t392 t393 ((t392.length : Int) != (t393.length : Int))) = some r := by rw [if_pos rfl] at H; exact H
                            clear H
                            have H := H1
                            clear H1
                            have H' := Aside0.mk H
                            clear H
                            go_wp2_with (first | (go_at_call 13; (with_reducible refine (laws_ahead.calls kj19 _ _ l0 a1 true _ ?side1 ?side2 A38.out).mono ?_); (case side1 => repeat (first | exact (Kd.C_below HR0.out HB.out) | (with_reducible refine Kd.C_alloc ?_ _) | (with_reducible refine Kd.C_drewN ?_ _) | (with_reducible refine Kd.C_drew ?_))); (case side2 => exact HC0.out); rintro e w' ⟨rfl, ⟨nd, rfl⟩⟩; obtain ⟨Ao40, co40, eo40⟩ := Kd.R_slice HO396.out; subst eo40; obtain ⟨Ao41, co41, eo41⟩ := Kd.S_slice HO398.out; subst eo41))
                            go_meet
                            case rel => exact ⟨_, (((t392.length : Int) != (t393.length : Int))), (by first | rfl | (simp; done) | (simp [*]; done)), H', ⟨by have := HJ2.out; have := HJ7.out; have := HJ19.out; first | omega | exact Nat.le_refl _⟩, ⟨by (with_reducible repeat (first | apply Kd.R_alloc | apply Kd.R_drewN | apply Kd.R_drew)); exact Kd.R_mono HO396.out (fun _ hk => trivial)⟩, ⟨by (with_reducible repeat (first | apply Kd.S_alloc | apply Kd.S_drewN | apply Kd.S_drew)); exact Kd.S_mono HO398.out (fun _ hk => hk.1)⟩, ⟨by repeat (first | (with_reducible first | exact HB.out | apply below_alloc | apply pw_below_drewN | apply below_drew1) | exact HB.out)⟩⟩
                          · replace c39 := Bool.eq_false_iff.mpr c39
                            subst c39
                            have H1 : ((laws_places.f kj19 l0 a1).bind fun t400 => ((laws_sameInts.f kj19 t388 t400).bind fun t403 => (if t403 = true then (laws_FnIndexSearch.j3 kj19 l0 a1 t392 t393 ((t392.length : Int) != (t393.length : Int))) else (laws_FnIndexSearch.j3 kj19 l0 a1 t392 t393 true)))) = some r := by rw [if_neg (show ¬ (false = true) by decide)] at H; exact H
                            clear H
                            have H := H1
                            clear H1
                            replace H := Option.bind_eq_some_iff.mp H
                            obtain ⟨t400, A420, H⟩ := H
                            replace H : ((laws_sameInts.f kj19 t388 t400).bind fun t403 => (if t403 = true then (laws_FnIndexSearch.j3 kj19 l0 a1 t392 t393 ((t392.length : Int) != (t393.length : Int))) else (laws_FnIndexSearch.j3 kj19 l0 a1 t392 t393 true))) = some r := H
                            have A42 := Aside0.mk A420
                            clear A420
                            replace H := Option.bind_eq_some_iff.mp H
                            obtain ⟨t403, A430, H⟩ := H
                            replace H : (if t403 = true then (laws_FnIndexSearch.j3 kj19 l0 a1 t392 t393 ((t392.length : Int) != (t393.length : Int))) else (laws_FnIndexSearch.j3 kj19 l0 a1 t392 t393 true)) = some r := H
                            have A43 := Aside0.mk A430
                            clear A430
                            by_cases c44 : t403 = true
                            · subst c44
                              have H1 : (laws_FnIndexSearch.j3 kj19 l0 a1 t392 t393 ((t392.length : Int) != (t393.length : Int))) = some r := by rw [if_pos rfl] at H; exact H
                              clear H
                              have H := H1
                              clear H1
                              have H' := Aside0.mk H
                              clear H
                              go_wp2_with (first | (go_at_call 13; (with_reducible refine (laws_ahead.calls kj19 _ _ l0 a1 false _ ?side1 ?side2 A38.out).mono ?_); (case side1 => repeat (first | exact (Kd.C_below HR0.out HB.out) | (with_reducible refine Kd.C_alloc ?_ _) | (with_reducible refine Kd.C_drewN ?_ _) | (with_reducible refine Kd.C_drew ?_))); (case side2 => exact HC0.out); rintro e w' ⟨rfl, ⟨nd, rfl⟩⟩) | (go_at_call 22; (with_reducible refine (laws_places.calls kj19 _ _ l0 a1 t400 _ ?side1 ?side2 A42.out).mono ?_); (case side1 => repeat (first | exact (Kd.C_below HR0.out (by repeat (first | (with_reducible first | exact HB.out | apply below_alloc | apply pw_below_drewN | apply below_drew1) | exact HB.out))) | (with_reducible refine Kd.C_alloc ?_ _) | (with_reducible refine Kd.C_drewN ?_ _) | (with_reducible refine Kd.C_drew ?_))); (case side2 => exact HC0.out); rintro e w45 ⟨v401, rfl, ho0, hb⟩; have n0_ := Aside0.mk (Kd.R_elder' (by (with_reducible repeat (first | apply Kd.R_alloc | apply Kd.R_drewN | apply Kd.R_drew)); exact HO391.out) (by first | exact Kd.N_base ho0 | exact Kd.S_base ho0 | exact Kd.R_base ho0) hb); have n1_ := Aside0.mk (Kd.R_elder' (by (with_reducible repeat (first | apply Kd.R_alloc | apply Kd.R_drewN | apply Kd.R_drew)); exact HO396.out) (by first | exact Kd.N_base ho0 | exact Kd.S_base ho0 | exact Kd.R_base ho0) hb); have n2_ := Aside0.mk (Kd.S_elder' (by (with_reducible repeat (first | apply Kd.S_alloc | apply Kd.S_drewN | apply Kd.S_drew)); exact HO398.out) (by first | exact Kd.N_base ho0 | exact Kd.S_base ho0 | exact Kd.R_base ho0) hb); have n3_ := Aside0.mk (Kd.R_lower (Kd.R_new' (Kd.R_new' ho0 (Kd.R_lt (by (with_reducible repeat (first | apply Kd.R_alloc | apply Kd.R_drewN | apply Kd.R_drew)); exact HO391.out))) (Kd.R_lt (by (with_reducible repeat (first | apply Kd.R_alloc | apply Kd.R_drewN | apply Kd.R_drew)); exact HO396.out))) (below_size (by repeat (first | (with_reducible first | exact HB.out | apply below_alloc | apply pw_below_drewN | apply below_drew1) | exact HB.out)))); have n4_ := Aside0.mk (below_step (by repeat (first | (with_reducible first | exact HB.out | apply below_alloc | apply pw_below_drewN | apply below_drew1) | exact HB.out)) hb); clear HO391; clear HO396; clear HO398; clear HB; have HO391 := n0_; have HO396 := n1_; have HO398 := n2_; have HO402 := n3_; have HB := n4_; clear n0_ n1_ n2_ n3_ n4_; (try clear hb); (try clear hb2); (try clear hk); (try clear hi); (try clear ho0); obtain ⟨Ao46, co46, eo46⟩ := Kd.R_slice HO391.out; subst eo46; obtain ⟨Ao47, co47, eo47⟩ := Kd.R_slice HO402.out; subst eo47) | (go_at_call 18; (with_reducible refine (laws_sameInts.calls kj19 _ _ t388 _ _ t400 true _ ?side1 ?side2 ?side3 ?side4 A43.out).mono ?_); (case side1 => repeat (first | exact (Kd.R_reads' HO391.out).2.2 | (with_reducible refine Kd.C_alloc ?_ _) | (with_reducible refine Kd.C_drewN ?_ _) | (with_reducible refine Kd.C_drew ?_))); (case side2 => exact (Kd.R_reads' HO391.out).2.1); (case side3 => repeat (first | exact (Kd.R_reads' HO402.out).2.2 | (with_reducible refine Kd.C_alloc ?_ _) | (with_reducible refine Kd.C_drewN ?_ _) | (with_reducible refine Kd.C_drew ?_))); (case side4 => exact (Kd.R_reads' HO402.out).2.1); rintro e w' ⟨rfl, ⟨nd, rfl⟩⟩; obtain ⟨Ao48, co48, eo48⟩ := Kd.R_slice HO396.out; subst eo48; obtain ⟨Ao49, co49, eo49⟩ := Kd.S_slice HO398.out; subst eo49))
                              go_meet
                              case rel => exact ⟨_, (((t392.length : Int) != (t393.length : Int))), (by first | rfl | (simp; done) | (simp [*]; done)), H', ⟨by have := HJ2.out; have := HJ7.out; have := HJ19.out; first | omega | exact Nat.le_refl _⟩, ⟨by (with_reducible repeat (first | apply Kd.R_alloc | apply Kd.R_drewN | apply Kd.R_drew)); exact Kd.R_mono HO396.out (fun _ hk => trivial)⟩, ⟨by (with_reducible repeat (first | apply Kd.S_alloc | apply Kd.S_drewN | apply Kd.S_drew)); exact Kd.S_mono HO398.out (fun _ hk => hk.1.1)⟩, ⟨by repeat (first | (with_reducible first | exact HB.out | apply below_alloc | apply pw_below_drewN | apply below_drew1) | exact HB.out)⟩⟩
                            · replace c44 := Bool.eq_false_iff.mpr c44
                              subst c44
                              have H1 : (laws_FnIndexSearch.j3 kj19 l0 a1 t392 t393 true) = some r := by rw [if_neg (show ¬ (false = true) by decide)] at H; exact H
                              clear H
                              have H := H1
                              clear H1
                              have H' := Aside0.mk H
                              clear H
                              go_wp2_with (first | (go_at_call 13; (with_reducible refine (laws_ahead.calls kj19 _ _ l0 a1 false _ ?side1 ?side2 A38.out).mono ?_); (case side1 => repeat (first | exact (Kd.C_below HR0.out HB.out) | (with_reducible refine Kd.C_alloc ?_ _) | (with_reducible refine Kd.C_drewN ?_ _) | (with_reducible refine Kd.C_drew ?_))); (case side2 => exact HC0.out); rintro e w' ⟨rfl, ⟨nd, rfl⟩⟩) | (go_at_call 22; (with_reducible refine (laws_places.calls kj19 _ _ l0 a1 t400 _ ?side1 ?side2 A42.out).mono ?_); (case side1 => repeat (first | exact (Kd.C_below HR0.out (by repeat (first | (with_reducible first | exact HB.out | apply below_alloc | apply pw_below_drewN | apply below_drew1) | exact HB.out))) | (with_reducible refine Kd.C_alloc ?_ _) | (with_reducible refine Kd.C_drewN ?_ _) | (with_reducible refine Kd.C_drew ?_))); (case side2 => exact HC0.out); rintro e w50 ⟨v401, rfl, ho0, hb⟩; have n0_ := Aside0.mk (Kd.R_elder' (by (with_reducible repeat (first | apply Kd.R_alloc | apply Kd.R_drewN | apply Kd.R_drew)); exact HO391.out) (by first | exact Kd.N_base ho0 | exact Kd.S_base ho0 | exact Kd.R_base ho0) hb); have n1_ := Aside0.mk (Kd.R_elder' (by (with_reducible repeat (first | apply Kd.R_alloc | apply Kd.R_drewN | apply Kd.R_drew)); exact HO396.out) (by first | exact Kd.N_base ho0 | exact Kd.S_base ho0 | exact Kd.R_base ho0) hb); have n2_ := Aside0.mk (Kd.S_elder' (by (with_reducible repeat (first | apply Kd.S_alloc | apply Kd.S_drewN | apply Kd.S_drew)); exact HO398.out) (by first | exact Kd.N_base ho0 | exact Kd.S_base ho0 | exact Kd.R_base ho0) hb); have n3_ := Aside0.mk (Kd.R_lower (Kd.R_new' (Kd.R_new' ho0 (Kd.R_lt (by (with_reducible repeat (first | apply Kd.R_alloc | apply Kd.R_drewN | apply Kd.R_drew)); exact HO391.out))) (Kd.R_lt (by (with_reducible repeat (first | apply Kd.R_alloc | apply Kd.R_drewN | apply Kd.R_drew)); exact HO396.out))) (below_size (by repeat (first | (with_reducible first | exact HB.out | apply below_alloc | apply pw_below_drewN | apply below_drew1) | exact HB.out)))); have n4_ := Aside0.mk (below_step (by repeat (first | (with_reducible first | exact HB.out | apply below_alloc | apply pw_below_drewN | apply below_drew1) | exact HB.out)) hb); clear HO391; clear HO396; clear HO398; clear HB; have HO391 := n0_; have HO396 := n1_; have HO398 := n2_; have HO402 := n3_; have HB := n4_; clear n0_ n1_ n2_ n3_ n4_; (try clear hb); (try clear hb2); (try clear hk); (try clear hi); (try clear ho0); obtain ⟨Ao51, co51, eo51⟩ := Kd.R_slice HO391.out; subst eo51; obtain ⟨Ao52, co52, eo52⟩ := Kd.R_slice HO402.out; subst eo52) | (go_at_call 18; (with_reducible refine (laws_sameInts.calls kj19 _ _ t388 _ _ t400 false _ ?side1 ?side2 ?side3 ?side4 A43.out).mono ?_); (case side1 => repeat (first | exact (Kd.R_reads' HO391.out).2.2 | (with_reducible refine Kd.C_alloc ?_ _) | (with_reducible refine Kd.C_drewN ?_ _) | (with_reducible refine Kd.C_drew ?_))); (case side2 => exact (Kd.R_reads' HO391.out).2.1); (case side3 => repeat (first | exact (Kd.R_reads' HO402.out).2.2 | (with_reducible refine Kd.C_alloc ?_ _) | (with_reducible refine Kd.C_drewN ?_ _) | (with_reducible refine Kd.C_drew ?_))); (case side4 => exact (Kd.R_reads' HO402.out).2.1); rintro e w' ⟨rfl, ⟨nd, rfl⟩⟩))
                              go_meet
                              case rel => exact ⟨_, (true), (by first | rfl | (simp; done) | (simp [*]; done)), H', ⟨by have := HJ2.out; have := HJ7.out; have := HJ19.out; first | omega | exact Nat.le_refl _⟩, ⟨by (with_reducible repeat (first | apply Kd.R_alloc | apply Kd.R_drewN | apply Kd.R_drew)); exact Kd.R_mono HO396.out (fun _ hk => trivial)⟩, ⟨by (with_reducible repeat (first | apply Kd.S_alloc | apply Kd.S_drewN | apply Kd.S_drew)); exact Kd.S_mono HO398.out (fun _ hk => hk.1.1)⟩, ⟨by repeat (first | (with_reducible first | exact HB.out | apply below_alloc | apply pw_below_drewN | apply below_drew1) | exact HB.out)⟩⟩
                        · replace c37 := Bool.eq_false_iff.mpr c37
                          subst c37
                          have H1 : (laws_FnIndexSearch.j3 kj19 l0 a1 t392 t393 true) = some r := by rw [if_neg (show ¬ (false = true) by decide)] at H; exact H
                          clear H
                          have H := H1
                          clear H1
                          have H' := Aside0.mk H
                          clear H
                          go_wp2
                          go_meet
                          case rel => exact ⟨_, (true), (by first | rfl | (simp; done) | (simp [*]; done)), H', ⟨by have := HJ2.out; have := HJ7.out; have := HJ19.out; first | omega | exact Nat.le_refl _⟩, ⟨by (with_reducible repeat (first | apply Kd.R_alloc | apply Kd.R_drewN | apply Kd.R_drew)); exact Kd.R_mono HO396.out (fun _ hk => trivial)⟩, ⟨by (with_reducible repeat (first | apply Kd.S_alloc | apply Kd.S_drewN | apply Kd.S_drew)); exact Kd.S_mono HO398.out (fun _ hk => hk.1)⟩, ⟨by repeat (first | (with_reducible first | exact HB.out | apply below_alloc | apply pw_below_drewN | apply below_drew1) | exact HB.out)⟩⟩
                      · replace c36 := Bool.eq_false_iff.mpr c36
                        subst c36
                        have H1 : (laws_FnIndexSearch.j3 kj19 l0 a1 t392 t393 true) = some r := by rw [if_neg (show ¬ (false = true) by decide)] at H; exact H
                        clear H
                        have H := H1
                        clear H1
                        have H' := Aside0.mk H
                        clear H
                        go_wp2
                        go_meet
                        case rel => exact ⟨_, (true), (by first | rfl | (simp; done) | (simp [*]; done)), H', ⟨by have := HJ2.out; have := HJ7.out; have := HJ19.out; first | omega | exact Nat.le_refl _⟩, ⟨by (with_reducible repeat (first | apply Kd.R_alloc | apply Kd.R_drewN | apply Kd.R_drew)); exact Kd.R_mono HO396.out (fun _ hk => trivial)⟩, ⟨by (with_reducible repeat (first | apply Kd.S_alloc | apply Kd.S_drewN | apply Kd.S_drew)); exact Kd.S_mono HO398.out (fun _ hk => hk.1)⟩, ⟨by repeat (first | (with_reducible first | exact HB.out | apply below_alloc | apply pw_below_drewN | apply below_drew1) | exact HB.out)⟩⟩
                    case rest =>
                      clear HC33
                      try clear c1
                      try clear c2
                      try clear p2
                      try clear c3
                      try clear c4
                      try clear c5
                      try clear c6
                      try clear c9
                      try clear c13
                      try clear c19
                      try clear c20
                      try clear c21
                      try clear c22
                      try clear c30
                      try clear c36
                      try clear c37
                      try clear c39
                      try clear c44
                      try clear p2
                      obtain ⟨kq, x84_32, rfl, HA, HJ32, HO_9, HO_10, HB⟩ := hcut
                      cases kq with
                      | zero => exact absurd HA.out (by simp [laws_FnIndexSearch.j3])
                      | succ kj32 =>
                        have H := HA.out
                        clear HA
                        simp only [laws_FnIndexSearch.j3] at H
                        by_cases c53 : x84_32 = true
                        · subst c53
                          have H1 : (some false) = some r := by rw [if_pos rfl] at H; exact H
                          clear H
                          have H := H1
                          clear H1
                          obtain rfl := Option.some.inj H
                          go_wp2
                          go_ret
                          exact ⟨by first | rfl | (simp [errW_none, errW_some] <;> rfl) | (simp [*, errW_none, errW_some] <;> rfl), by repeat (first | (with_reducible first | exact HB.out | apply below_alloc | apply pw_below_drewN | apply below_drew1) | exact HB.out)⟩
                        · replace c53 := Bool.eq_false_iff.mpr c53
                          subst c53
                          have H1 : (laws_FnIndexSearch.l0 kj32 l0 a1 t392 t393 0 1) = some r := by rw [if_neg (show ¬ (false = true) by decide)] at H; exact H
                          clear H
                          have H := H1
                          clear H1
                          have H' := Aside0.mk H
                          clear H
                          go_wp2
                          go_loopg [12, 13] kj32 (fun kq v12 v13 w' => ∃ (x12_5 : Int) (x13_5 : Int), v12 = .int .i64 x12_5 ∧ v13 = .int .i64 x13_5 ∧ Aside0 (laws_FnIndexSearch.l0 kq l0 a1 t392 t393 x12_5 x13_5 = some r) ∧ Aside0 (kq ≤ kj32) ∧ Aside0 (Kd.R (Kd.int .i64) 3 w' w.heap.size (fun _ => True) v395 t392) ∧ Aside0 (Kd.S (Kd.slice 3 (Kd.int .i64)) 23 w' w.heap.size (fun k_ => some k_ ≠ (v395 : Value).ownBlock) v397 t393) ∧ Aside0 (Below w.heap.size w w'))
                          case atStart => exact ⟨(0), (1), (by first | rfl | (simp; done) | (simp [*]; done)), (by first | rfl | (simp; done) | (simp [*]; done)), H', ⟨Nat.le_refl _⟩, ⟨by (with_reducible repeat (first | apply Kd.R_alloc | apply Kd.R_drewN | apply Kd.R_drew)); exact HO_9.out⟩, ⟨by (with_reducible repeat (first | apply Kd.S_alloc | apply Kd.S_drewN | apply Kd.S_drew)); exact HO_10.out⟩, ⟨by repeat (first | (with_reducible first | exact HB.out | apply below_alloc | apply pw_below_drewN | apply below_drew1) | exact HB.out)⟩⟩
                          case round =>
                            clear H'
                            try clear c1
                            try clear c2
                            try clear p2
                            try clear c3
                            try clear c4
                            try clear c5
                            try clear c6
                            try clear c9
                            try clear c13
                            try clear c19
                            try clear c20
                            try clear c21
                            try clear c22
                            try clear c30
                            try clear c36
                            try clear c37
                            try clear c39
                            try clear c44
                            try clear c53
                            try clear p2
                            obtain ⟨x12_5, x13_5, rfl, rfl, HA, HK5, HO_9, HO_10, HB⟩ := hrel
                            cases gk with
                            | zero => exact absurd HA.out (by simp [laws_FnIndexSearch.l0])
                            | succ k5 =>
                              have H := HA.out
                              clear HA
                              simp only [laws_FnIndexSearch.l0] at H
                              by_cases c54 : x13_5 ≤ (a1.size : Int)
                              · rw [if_pos c54] at H
                                have c54b0 : decide (x13_5 ≤ (a1.size : Int)) = true := decide_eq_true c54
                                clear c54
                                by_cases c55 : 0 ≤ x13_5
                                · rw [if_pos c55] at H
                                  have c55b0 := eq_true c55
                                  have c55b1 : decide (0 ≤ x13_5) = true := decide_eq_true c55
                                  clear c55
                                  have c56b0 := eq_true (of_decide_eq_true (by first | (with_reducible assumption) | assumption) : x13_5 ≤ (a1.size : Int))
                                  replace H := Option.bind_eq_some_iff.mp H
                                  obtain ⟨t404, A570, H⟩ := H
                                  replace H : (if (t404.length : Int) = 0 then (laws_FnIndexSearch.l0 k5 l0 a1 t392 t393 x12_5 (wrap64 (x13_5 + 1))) else (if x12_5 ≥ (t392.length : Int) then (some false) else (if 0 ≤ x12_5 then (if x12_5 < (t392.length : Int) then (if (rd t392 x12_5) = x13_5 then (if x12_5 < (t393.length : Int) then ((laws_sameInts.f k5 (rd_L3 t393 x12_5) t404).bind fun t409 => (if t409 = true then (laws_FnIndexSearch.l0 k5 l0 a1 t392 t393 (wrap64 (x12_5 + 1)) (wrap64 (x13_5 + 1))) else (some false))) else (none)) else (some false)) else (none)) else (none)))) = some r := H
                                  have A57 := Aside0.mk A570
                                  clear A570
                                  by_cases c58 : (t404.length : Int) = 0
                                  · rw [if_pos c58] at H
                                    have c58b0 : ((t404.length : Int) == 0) = true := beq_iff_eq.mpr c58
                                    have c58b1 : ((t404.length : Int) != 0) = false := bne_eq_false_iff_eq.mpr c58
                                    clear c58
                                    have H' := Aside0.mk H
                                    clear H
                                    go_wp2_with (first | ((with_reducible refine gate_callee (f := 22) rfl ?_); refine goesL_ (some 95) rfl rfl Try.func22 (by kernel_rfl) rfl #[.slice A0 l0.length c0, .string (a1.extract 0 (x13_5 : Int).toNat)] rfl (by (try simp only [List.map_toArray, List.map_cons, List.map_nil]); first | done | rfl | (simp only [List.length_drop, List.length_take]; rfl)) ?_; (with_reducible refine (laws_places.calls k5 _ _ l0 (a1.extract 0 (x13_5 : Int).toNat) t404 _ ?side1 ?side2 A57.out).mono ?_); (case side1 => repeat (first | exact (Kd.C_below HR0.out HB.out) | (with_reducible refine Kd.C_alloc ?_ _) | (with_reducible refine Kd.C_drewN ?_ _) | (with_reducible refine Kd.C_drew ?_))); (case side2 => exact HC0.out); rintro e w59 ⟨v405, rfl, ho0, hb⟩; refine ⟨_, rfl, ?_⟩; have n0_ := Aside0.mk (Kd.R_elder' (by (with_reducible repeat (first | apply Kd.R_alloc | apply Kd.R_drewN | apply Kd.R_drew)); exact HO_9.out) (by first | exact Kd.N_base ho0 | exact Kd.S_base ho0 | exact Kd.R_base ho0) hb); have n1_ := Aside0.mk (Kd.S_elder' (by (with_reducible repeat (first | apply Kd.S_alloc | apply Kd.S_drewN | apply Kd.S_drew)); exact HO_10.out) (by first | exact Kd.N_base ho0 | exact Kd.S_base ho0 | exact Kd.R_base ho0) hb); have n2_ := Aside0.mk (Kd.R_lower (Kd.R_new' ho0 (Kd.R_lt (by (with_reducible repeat (first | apply Kd.R_alloc | apply Kd.R_drewN | apply Kd.R_drew)); exact HO_9.out))) (below_size (by repeat (first | (with_reducible first | exact HB.out | apply below_alloc | apply pw_below_drewN | apply below_drew1) | exact HB.out)))); have n3_ := Aside0.mk (below_step (by repeat (first | (with_reducible first | exact HB.out | apply below_alloc | apply pw_below_drewN | apply below_drew1) | exact HB.out)) hb); clear HO_9; clear HO_10; clear HB; have HO_9 := n0_; have HO_10 := n1_; have HO406 := n2_; have HB := n3_; clear n0_ n1_ n2_ n3_; (try clear hb); (try clear hb2); (try clear hk); (try clear hi); (try clear ho0); obtain ⟨Ao60, co60, eo60⟩ := Kd.R_slice HO406.out; subst eo60))
                                    go_roundg k5
                                    case measure => have := HJ2.out; have := HJ7.out; have := HJ19.out; have := HJ32.out; have := HK5.out; omega
                                    case rel => exact ⟨(x12_5), (wrap64 (x13_5 + 1)), (by first | rfl | (simp; done) | (simp [*]; done)), (by first | rfl | (simp; done) | (simp [*]; done)), H', ⟨by have := HJ2.out; have := HJ7.out; have := HJ19.out; have := HJ32.out; have := HK5.out; omega⟩, ⟨by (with_reducible repeat (first | apply Kd.R_alloc | apply Kd.R_drewN | apply Kd.R_drew)); exact Kd.R_mono HO_9.out (fun _ hk => trivial)⟩, ⟨by (with_reducible repeat (first | apply Kd.S_alloc | apply Kd.S_drewN | apply Kd.S_drew)); exact Kd.S_mono HO_10.out (fun _ hk => hk.1)⟩, ⟨by repeat (first | (with_reducible first | exact HB.out | apply below_alloc | apply pw_below_drewN | apply below_drew1) | exact HB.out)⟩⟩
                                  · rw [if_neg c58] at H
                                    have c58b0 : ((t404.length : Int) == 0) = false := beq_eq_false_iff_ne.mpr c58
                                    have c58b1 : ((t404.length : Int) != 0) = true := bne_iff_ne.mpr c58
                                    have c58b2 : ¬ (t404 = []) := fun h_ => c58 (by rw [h_]; rfl)
                                    by_cases c61 : x12_5 ≥ (t392.length : Int)
                                    · rw [if_pos c61] at H
                                      have c61b0 : decide ((t392.length : Int) ≤ x12_5) = true := decide_eq_true c61
                                      clear c61
                                      obtain rfl := Option.some.inj H
                                      go_wp2_with (first | ((with_reducible refine gate_callee (f := 22) rfl ?_); refine goesL_ (some 95) rfl rfl Try.func22 (by kernel_rfl) rfl #[.slice A0 l0.length c0, .string (a1.extract 0 (x13_5 : Int).toNat)] rfl (by (try simp only [List.map_toArray, List.map_cons, List.map_nil]); first | done | rfl | (simp only [List.length_drop, List.length_take]; rfl)) ?_; (with_reducible refine (laws_places.calls k5 _ _ l0 (a1.extract 0 (x13_5 : Int).toNat) t404 _ ?side1 ?side2 A57.out).mono ?_); (case side1 => repeat (first | exact (Kd.C_below HR0.out HB.out) | (with_reducible refine Kd.C_alloc ?_ _) | (with_reducible refine Kd.C_drewN ?_ _) | (with_reducible refine Kd.C_drew ?_))); (case side2 => exact HC0.out); rintro e w62 ⟨v405, rfl, ho0, hb⟩; refine ⟨_, rfl, ?_⟩; have n0_ := Aside0.mk (Kd.R_elder' (by (with_reducible repeat (first | apply Kd.R_alloc | apply Kd.R_drewN | apply Kd.R_drew)); exact HO_9.out) (by first | exact Kd.N_base ho0 | exact Kd.S_base ho0 | exact Kd.R_base ho0) hb); have n1_ := Aside0.mk (Kd.S_elder' (by (with_reducible repeat (first | apply Kd.S_alloc | apply Kd.S_drewN | apply Kd.S_drew)); exact HO_10.out) (by first | exact Kd.N_base ho0 | exact Kd.S_base ho0 | exact Kd.R_base ho0) hb); have n2_ := Aside0.mk (Kd.R_lower (Kd.R_new' ho0 (Kd.R_lt (by (with_reducible repeat (first | apply Kd.R_alloc | apply Kd.R_drewN | apply Kd.R_drew)); exact HO_9.out))) (below_size (by repeat (first | (with_reducible first | exact HB.out | apply below_alloc | apply pw_below_drewN | apply below_drew1) | exact HB.out)))); have n3_ := Aside0.mk (below_step (by repeat (first | (with_reducible first | exact HB.out | apply below_alloc | apply pw_below_drewN | apply below_drew1) | exact HB.out)) hb); clear HO_9; clear HO_10; clear HB; have HO_9 := n0_; have HO_10 := n1_; have HO406 := n2_; have HB := n3_; clear n0_ n1_ n2_ n3_; (try clear hb); (try clear hb2); (try clear hk); (try clear hi); (try clear ho0); obtain ⟨Ao63, co63, eo63⟩ := Kd.R_slice HO406.out; subst eo63; obtain ⟨Ao64, co64, eo64⟩ := Kd.R_slice HO_9.out; subst eo64))
                                      go_ret
                                      exact ⟨by first | rfl | (simp [errW_none, errW_some] <;> rfl) | (simp [*, errW_none, errW_some] <;> rfl), by repeat (first | (with_reducible first | exact HB.out | apply below_alloc | apply pw_below_drewN | apply below_drew1) | exact HB.out)⟩
                                    · rw [if_neg c61] at H
                                      have c61b0 : decide ((t392.length : Int) ≤ x12_5) = false := decide_eq_false c61
                                      clear c61
                                      by_cases c65 : 0 ≤ x12_5
                                      · rw [if_pos c65] at H
                                        have c65b0 : decide (0 ≤ x12_5) = true := decide_eq_true c65
                                        clear c65
                                        by_cases c66 : x12_5 < (t392.length : Int)
                                        · rw [if_pos c66] at H
                                          have c66b0 : decide (x12_5 < (t392.length : Int)) = true := decide_eq_true c66
                                          clear c66
                                          by_cases c67 : (rd t392 x12_5) = x13_5
                                          · rw [if_pos c67] at H
                                            have c67b0 : ((rd t392 x12_5) == x13_5) = true := beq_iff_eq.mpr c67
                                            have c67b1 : ((rd t392 x12_5) != x13_5) = false := bne_eq_false_iff_eq.mpr c67
                                            clear c67
                                            by_cases c68 : x12_5 < (t393.length : Int)
                                            · rw [if_pos c68] at H
                                              have c68b0 : decide (x12_5 < (t393.length : Int)) = true := decide_eq_true c68
                                              clear c68
                                              replace H := Option.bind_eq_some_iff.mp H
                                              obtain ⟨t409, A690, H⟩ := H
                                              replace H : (if t409 = true then (laws_FnIndexSearch.l0 k5 l0 a1 t392 t393 (wrap64 (x12_5 + 1)) (wrap64 (x13_5 + 1))) else (some false)) = some r := H
                                              have A69 := Aside0.mk A690
                                              clear A690
                                              by_cases c70 : t409 = true
                                              · subst c70
                                                have H1 : (laws_FnIndexSearch.l0 k5 l0 a1 t392 t393 (wrap64 (x12_5 + 1)) (wrap64 (x13_5 + 1))) = some r := by rw [if_pos rfl] at H; exact H
                                                clear H
                                                have H := H1
                                                clear H1
                                                have H' := Aside0.mk H
                                                clear H
                                                go_wp2_with (first | ((with_reducible refine gate_callee (f := 22) rfl ?_); refine goesL_ (some 95) rfl rfl Try.func22 (by kernel_rfl) rfl #[.slice A0 l0.length c0, .string (a1.extract 0 (x13_5 : Int).toNat)] rfl (by (try simp only [List.map_toArray, List.map_cons, List.map_nil]); first | done | rfl | (simp only [List.length_drop, List.length_take]; rfl)) ?_; (with_reducible refine (laws_places.calls k5 _ _ l0 (a1.extract 0 (x13_5 : Int).toNat) t404 _ ?side1 ?side2 A57.out).mono ?_); (case side1 => repeat (first | exact (Kd.C_below HR0.out HB.out) | (with_reducible refine Kd.C_alloc ?_ _) | (with_reducible refine Kd.C_drewN ?_ _) | (with_reducible refine Kd.C_drew ?_))); (case side2 => exact HC0.out); rintro e w71 ⟨v405, rfl, ho0, hb⟩; refine ⟨_, rfl, ?_⟩; have n0_ := Aside0.mk (Kd.R_elder' (by (with_reducible repeat (first | apply Kd.R_alloc | apply Kd.R_drewN | apply Kd.R_drew)); exact HO_9.out) (by first | exact Kd.N_base ho0 | exact Kd.S_base ho0 | exact Kd.R_base ho0) hb); have n1_ := Aside0.mk (Kd.S_elder' (by (with_reducible repeat (first | apply Kd.S_alloc | apply Kd.S_drewN | apply Kd.S_drew)); exact HO_10.out) (by first | exact Kd.N_base ho0 | exact Kd.S_base ho0 | exact Kd.R_base ho0) hb); have n2_ := Aside0.mk (Kd.R_lower (Kd.R_new' ho0 (Kd.R_lt (by (with_reducible repeat (first | apply Kd.R_alloc | apply Kd.R_drewN | apply Kd.R_drew)); exact HO_9.out))) (below_size (by repeat (first | (with_reducible first | exact HB.out | apply below_alloc | apply pw_below_drewN | apply below_drew1) | exact HB.out)))); have n3_ := Aside0.mk (below_step (by repeat (first | (with_reducible first | exact HB.out | apply below_alloc | apply pw_below_drewN | apply below_drew1) | exact HB.out)) hb); clear HO_9; clear HO_10; clear HB; have HO_9 := n0_; have HO_10 := n1_; have HO406 := n2_; have HB := n3_; clear n0_ n1_ n2_ n3_; (try clear hb); (try clear hb2); (try clear hk); (try clear hi); (try clear ho0); obtain ⟨Ao72, co72, eo72⟩ := Kd.R_slice HO406.out; subst eo72; obtain ⟨Ao73, co73, eo73⟩ := Kd.R_slice HO_9.out; subst eo73; have p407 : 0 ≤ (x12_5 : Int) := of_decide_eq_true (by first | (with_reducible assumption) | assumption); have q407 : x12_5 < (t392.length : Int) := of_decide_eq_true (by first | (with_reducible assumption) | assumption); obtain ⟨ad407, e407, hx407_0⟩ := Kd.at_int (Kd.R_reads' HO_9.out).2.2 x12_5 p407 q407; cases e407; replace p407 := eq_true p407; replace q407 := eq_true q407; obtain ⟨Ao74, co74, eo74⟩ := Kd.S_slice HO_10.out; subst eo74; have p408 : 0 ≤ (x12_5 : Int) := of_decide_eq_true (by first | (with_reducible assumption) | assumption); have q408 : x12_5 < (t393.length : Int) := of_decide_eq_true (by first | (with_reducible assumption) | assumption); obtain ⟨ad408, A408_0, c408_0, e408, hx408_0, hl408_0, hi408_0⟩ := at_L3 (Kd.S_reads' HO_10.out).2.2 x12_5 p408 q408; cases e408; obtain ⟨ce408, hce408, hMe408, hcc408⟩ := Kd.S_get HO_10.out [] x12_5 p408 (by first | exact q408 | exact of_decide_eq_true (by first | (with_reducible assumption) | assumption) | (have e_ := (Kd.S_reads' HO_10.out).1; omega)); obtain ⟨ve408_0, rfl, ge408_0⟩ := hMe408; have hv408_0 := hcc408 0 _ rfl; rw [Nat.add_zero, show ((Kd.slice 3 (Kd.int .i64))).sz = 1 from rfl, Nat.mul_one] at hv408_0; replace hv408_0 := Option.some.inj (hv408_0.symm.trans hx408_0); rw [hv408_0] at ge408_0; have HL408_0 := Aside0.mk (show Kd.R (Kd.int .i64) 3 _ _ _ _ (rd_L3 t393 x12_5) from ge408_0); clear hv408_0 ge408_0; clear hcc408 hce408; have HR408_0 := Aside0.mk hi408_0; have HC408_0 := Aside0.mk hl408_0; clear hi408_0 hl408_0; replace p408 := eq_true p408; replace q408 := eq_true q408) | (go_at_call 18; (with_reducible refine (laws_sameInts.calls k5 _ _ (rd_L3 t393 x12_5) _ _ t404 true _ ?side1 ?side2 ?side3 ?side4 A69.out).mono ?_); (case side1 => repeat (first | exact (by repeat (first | (with_reducible exact HR408_0.out) | (with_reducible refine Kd.C_alloc ?_ _) | (with_reducible refine Kd.C_drewN ?_ _) | (with_reducible refine Kd.C_drew ?_) | exact HR408_0.out)) | (with_reducible refine Kd.C_alloc ?_ _) | (with_reducible refine Kd.C_drewN ?_ _) | (with_reducible refine Kd.C_drew ?_))); (case side2 => exact HC408_0.out); (case side3 => repeat (first | exact (Kd.R_reads' HO406.out).2.2 | (with_reducible refine Kd.C_alloc ?_ _) | (with_reducible refine Kd.C_drewN ?_ _) | (with_reducible refine Kd.C_drew ?_))); (case side4 => exact (Kd.R_reads' HO406.out).2.1); rintro e w' ⟨rfl, ⟨nd, rfl⟩⟩))
                                                go_roundg k5
                                                case measure => have := HJ2.out; have := HJ7.out; have := HJ19.out; have := HJ32.out; have := HK5.out; omega
                                                case rel => exact ⟨(wrap64 (x12_5 + 1)), (wrap64 (x13_5 + 1)), (by first | rfl | (simp; done) | (simp [*]; done)), (by first | rfl | (simp; done) | (simp [*]; done)), H', ⟨by have := HJ2.out; have := HJ7.out; have := HJ19.out; have := HJ32.out; have := HK5.out; omega⟩, ⟨by (with_reducible repeat (first | apply Kd.R_alloc | apply Kd.R_drewN | apply Kd.R_drew)); exact Kd.R_mono HO_9.out (fun _ hk => trivial)⟩, ⟨by (with_reducible repeat (first | apply Kd.S_alloc | apply Kd.S_drewN | apply Kd.S_drew)); exact Kd.S_mono HO_10.out (fun _ hk => hk.1)⟩, ⟨by repeat (first | (with_reducible first | exact HB.out | apply below_alloc | apply pw_below_drewN | apply below_drew1) | exact HB.out)⟩⟩
                                              · replace c70 := Bool.eq_false_iff.mpr c70
                                                subst c70
                                                have H1 : (some false) = some r := by rw [if_neg (show ¬ (false = true) by decide)] at H; exact H
                                                clear H
                                                have H := H1
                                                clear H1
                                                obtain rfl := Option.some.inj H
                                                go_wp2_with (first | ((with_reducible refine gate_callee (f := 22) rfl ?_); refine goesL_ (some 95) rfl rfl Try.func22 (by kernel_rfl) rfl #[.slice A0 l0.length c0, .string (a1.extract 0 (x13_5 : Int).toNat)] rfl (by (try simp only [List.map_toArray, List.map_cons, List.map_nil]); first | done | rfl | (simp only [List.length_drop, List.length_take]; rfl)) ?_; (with_reducible refine (laws_places.calls k5 _ _ l0 (a1.extract 0 (x13_5 : Int).toNat) t404 _ ?side1 ?side2 A57.out).mono ?_); (case side1 => repeat (first | exact (Kd.C_below HR0.out HB.out) | (with_reducible refine Kd.C_alloc ?_ _) | (with_reducible refine Kd.C_drewN ?_ _) | (with_reducible refine Kd.C_drew ?_))); (case side2 => exact HC0.out); rintro e w75 ⟨v405, rfl, ho0, hb⟩; refine ⟨_, rfl, ?_⟩; have n0_ := Aside0.mk (Kd.R_elder' (by (with_reducible repeat (first | apply Kd.R_alloc | apply Kd.R_drewN | apply Kd.R_drew)); exact HO_9.out) (by first | exact Kd.N_base ho0 | exact Kd.S_base ho0 | exact Kd.R_base ho0) hb); have n1_ := Aside0.mk (Kd.S_elder' (by (with_reducible repeat (first | apply Kd.S_alloc | apply Kd.S_drewN | apply Kd.S_drew)); exact HO_10.out) (by first | exact Kd.N_base ho0 | exact Kd.S_base ho0 | exact Kd.R_base ho0) hb); have n2_ := Aside0.mk (Kd.R_lower (Kd.R_new' ho0 (Kd.R_lt (by (with_reducible repeat (first | apply Kd.R_alloc | apply Kd.R_drewN | apply Kd.R_drew)); exact HO_9.out))) (below_size (by repeat (first | (with_reducible first | exact HB.out | apply below_alloc | apply pw_below_drewN | apply below_drew1) | exact HB.out)))); have n3_ := Aside0.mk (below_step (by repeat (first | (with_reducible first | exact HB.out | apply below_alloc | apply pw_below_drewN | apply below_drew1) | exact HB.out)) hb); clear HO_9; clear HO_10; clear HB; have HO_9 := n0_; have HO_10 := n1_; have HO406 := n2_; have HB := n3_; clear n0_ n1_ n2_ n3_; (try clear hb); (try clear hb2); (try clear hk); (try clear hi); (try clear ho0); obtain ⟨Ao76, co76, eo76⟩ := Kd.R_slice HO406.out; subst eo76; obtain ⟨Ao77, co77, eo77⟩ := Kd.R_slice HO_9.out; subst eo77; have p407 : 0 ≤ (x12_5 : Int) := of_decide_eq_true (by first | (with_reducible assumption) | assumption); have q407 : x12_5 < (t392.length : Int) := of_decide_eq_true (by first | (with_reducible assumption) | assumption); obtain ⟨ad407, e407, hx407_0⟩ := Kd.at_int (Kd.R_reads' HO_9.out).2.2 x12_5 p407 q407; cases e407; replace p407 := eq_true p407; replace q407 := eq_true q407; obtain ⟨Ao78, co78, eo78⟩ := Kd.S_slice HO_10.out; subst eo78; have p408 : 0 ≤ (x12_5 : Int) := of_decide_eq_true (by first | (with_reducible assumption) | assumption); have q408 : x12_5 < (t393.length : Int) := of_decide_eq_true (by first | (with_reducible assumption) | assumption); obtain ⟨ad408, A408_0, c408_0, e408, hx408_0, hl408_0, hi408_0⟩ := at_L3 (Kd.S_reads' HO_10.out).2.2 x12_5 p408 q408; cases e408; obtain ⟨ce408, hce408, hMe408, hcc408⟩ := Kd.S_get HO_10.out [] x12_5 p408 (by first | exact q408 | exact of_decide_eq_true (by first | (with_reducible assumption) | assumption) | (have e_ := (Kd.S_reads' HO_10.out).1; omega)); obtain ⟨ve408_0, rfl, ge408_0⟩ := hMe408; have hv408_0 := hcc408 0 _ rfl; rw [Nat.add_zero, show ((Kd.slice 3 (Kd.int .i64))).sz = 1 from rfl, Nat.mul_one] at hv408_0; replace hv408_0 := Option.some.inj (hv408_0.symm.trans hx408_0); rw [hv408_0] at ge408_0; have HL408_0 := Aside0.mk (show Kd.R (Kd.int .i64) 3 _ _ _ _ (rd_L3 t393 x12_5) from ge408_0); clear hv408_0 ge408_0; clear hcc408 hce408; have HR408_0 := Aside0.mk hi408_0; have HC408_0 := Aside0.mk hl408_0; clear hi408_0 hl408_0; replace p408 := eq_true p408; replace q408 := eq_true q408) | (go_at_call 18; (with_reducible refine (laws_sameInts.calls k5 _ _ (rd_L3 t393 x12_5) _ _ t404 false _ ?side1 ?side2 ?side3 ?side4 A69.out).mono ?_); (case side1 => repeat (first | exact (by repeat (first | (with_reducible exact HR408_0.out) | (with_reducible refine Kd.C_alloc ?_ _) | (with_reducible refine Kd.C_drewN ?_ _) | (with_reducible refine Kd.C_drew ?_) | exact HR408_0.out)) | (with_reducible refine Kd.C_alloc ?_ _) | (with_reducible refine Kd.C_drewN ?_ _) | (with_reducible refine Kd.C_drew ?_))); (case side2 => exact HC408_0.out); (case side3 => repeat (first | exact (Kd.R_reads' HO406.out).2.2 | (with_reducible refine Kd.C_alloc ?_ _) | (with_reducible refine Kd.C_drewN ?_ _) | (with_reducible refine Kd.C_drew ?_))); (case side4 => exact (Kd.R_reads' HO406.out).2.1); rintro e w' ⟨rfl, ⟨nd, rfl⟩⟩))
                                                go_ret
                                                exact ⟨by first | rfl | (simp [errW_none, errW_some] <;> rfl) | (simp [*, errW_none, errW_some] <;> rfl), by repeat (first | (with_reducible first | exact HB.out | apply below_alloc | apply pw_below_drewN | apply below_drew1) | exact HB.out)⟩
                                            · rw [if_neg c68] at H
                                              exact absurd H (by simp)
                                          · rw [if_neg c67] at H
                                            have c67b0 : ((rd t392 x12_5) == x13_5) = false := beq_eq_false_iff_ne.mpr c67
                                            have c67b1 : ((rd t392 x12_5) != x13_5) = true := bne_iff_ne.mpr c67
                                            obtain rfl := Option.some.inj H
                                            go_wp2_with (first | ((with_reducible refine gate_callee (f := 22) rfl ?_); refine goesL_ (some 95) rfl rfl Try.func22 (by kernel_rfl) rfl #[.slice A0 l0.length c0, .string (a1.extract 0 (x13_5 : Int).toNat)] rfl (by (try simp only [List.map_toArray, List.map_cons, List.map_nil]); first | done | rfl | (simp only [List.length_drop, List.length_take]; rfl)) ?_; (with_reducible refine (laws_places.calls k5 _ _ l0 (a1.extract 0 (x13_5 : Int).toNat) t404 _ ?side1 ?side2 A57.out).mono ?_); (case side1 => repeat (first | exact (Kd.C_below HR0.out HB.out) | (with_reducible refine Kd.C_alloc ?_ _) | (with_reducible refine Kd.C_drewN ?_ _) | (with_reducible refine Kd.C_drew ?_))); (case side2 => exact HC0.out); rintro e w79 ⟨v405, rfl, ho0, hb⟩; refine ⟨_, rfl, ?_⟩; have n0_ := Aside0.mk (Kd.R_elder' (by (with_reducible repeat (first | apply Kd.R_alloc | apply Kd.R_drewN | apply Kd.R_drew)); exact HO_9.out) (by first | exact Kd.N_base ho0 | exact Kd.S_base ho0 | exact Kd.R_base ho0) hb); have n1_ := Aside0.mk (Kd.S_elder' (by (with_reducible repeat (first | apply Kd.S_alloc | apply Kd.S_drewN | apply Kd.S_drew)); exact HO_10.out) (by first | exact Kd.N_base ho0 | exact Kd.S_base ho0 | exact Kd.R_base ho0) hb); have n2_ := Aside0.mk (Kd.R_lower (Kd.R_new' ho0 (Kd.R_lt (by (with_reducible repeat (first | apply Kd.R_alloc | apply Kd.R_drewN | apply Kd.R_drew)); exact HO_9.out))) (below_size (by repeat (first | (with_reducible first | exact HB.out | apply below_alloc | apply pw_below_drewN | apply below_drew1) | exact HB.out)))); have n3_ := Aside0.mk (below_step (by repeat (first | (with_reducible first | exact HB.out | apply below_alloc | apply pw_below_drewN | apply below_drew1) | exact HB.out)) hb); clear HO_9; clear HO_10; clear HB; have HO_9 := n0_; have HO_10 := n1_; have HO406 := n2_; have HB := n3_; clear n0_ n1_ n2_ n3_; (try clear hb); (try clear hb2); (try clear hk); (try clear hi); (try clear ho0); obtain ⟨Ao80, co80, eo80⟩ := Kd.R_slice HO406.out; subst eo80; obtain ⟨Ao81, co81, eo81⟩ := Kd.R_slice HO_9.out; subst eo81; have p407 : 0 ≤ (x12_5 : Int) := of_decide_eq_true (by first | (with_reducible assumption) | assumption); have q407 : x12_5 < (t392.length : Int) := of_decide_eq_true (by first | (with_reducible assumption) | assumption); obtain ⟨ad407, e407, hx407_0⟩ := Kd.at_int (Kd.R_reads' HO_9.out).2.2 x12_5 p407 q407; cases e407; replace p407 := eq_true p407; replace q407 := eq_true q407))
                                            go_ret
                                            exact ⟨by first | rfl | (simp [errW_none, errW_some] <;> rfl) | (simp [*, errW_none, errW_some] <;> rfl), by repeat (first | (with_reducible first | exact HB.out | apply below_alloc | apply pw_below_drewN | apply below_drew1) | exact HB.out)⟩
                                        · rw [if_neg c66] at H
                                          exact absurd H (by simp)
                                      · rw [if_neg c65] at H
                                        exact absurd H (by simp)
                                · rw [if_neg c55] at H
                                  exact absurd H (by simp)
                              · rw [if_neg c54] at H
                                have c54b0 : decide (x13_5 ≤ (a1.size : Int)) = false := decide_eq_false c54
                                clear c54
                                obtain rfl := Option.some.inj H
                                obtain ⟨Ao82, co82, eo82⟩ := Kd.R_slice HO_9.out
                                subst eo82
                                go_wp2
                                go_ret
                                exact ⟨by first | rfl | (simp [errW_none, errW_some] <;> rfl) | (simp [*, errW_none, errW_some] <;> rfl), by repeat (first | (with_reducible first | exact HB.out | apply below_alloc | apply pw_below_drewN | apply below_drew1) | exact HB.out)⟩

end Go.Proofs.Ytddcjmdcpkmnjaa.P
