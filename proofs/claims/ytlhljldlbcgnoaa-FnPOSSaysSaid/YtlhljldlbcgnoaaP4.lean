-- PRINTED by print.py (a twelfth state) out of the translation. Not trusted: Lean checks it.
import Derived.Test.YtlhljldlbcgnoaaP0
import Derived.Test.YtlhljldlbcgnoaaP9
import Derived.Test.YtlhljldlbcgnoaaP11
import Derived.Test.YtlhljldlbcgnoaaP12
import Derived.Test.YtlhljldlbcgnoaaP13
import Derived.Test.YtlhljldlbcgnoaaP14
import Derived.Test.YtlhljldlbcgnoaaEPosC
namespace Go.Proofs.Ytlhljldlbcgnoaa.P
open Go.RowKit Go.Proofs.YtlhljldlbcgnoaaW.PrintWords Go.Proofs.YtlhljldlbcgnoaaW.PrintLast Go.Proofs.YtlhljldlbcgnoaaW.PrintMore
attribute [local go_sem] max2_int min2_int max_two min_two max_three min_three max_four min_four   -- for this text's walks alone
set_option linter.unusedVariables false
set_option linter.unusedSimpArgs false

/-! ### laws_FnPOSSays: function 4 -/
mutual
def laws_FnPOSSays.j0 : Nat → List (List ByteArray) → Bool → Option (Bool)
  | 0, _, _ => none
  | k + 1, x0, x30 => if x30 = true then (some false) else (if (x0.length : Int) > 10 then (some true) else (laws_FnPOSSays.l0 k x0 x0 (x0.length : Int) 0))
def laws_FnPOSSays.l0 : Nat → List (List ByteArray) → List (List ByteArray) → Int → Int → Option (Bool)
  | 0, _, _, _, _ => none
  | k + 1, x0, x34, x35, x36 => if x36 < x35 then (if 0 ≤ x36 then (if x36 < (x34.length : Int) then (if ((rd_L1 x34 x36).length : Int) > 6 then (laws_FnPOSSays.j2 k x0 (rd_L1 x34 x36) x34 x35 x36 true) else ((laws_clean.f k 40 (rd_L1 x34 x36)).bind fun t200 => (laws_FnPOSSays.j2 k x0 (rd_L1 x34 x36) x34 x35 x36 (!t200)))) else (none)) else (none)) else ((impl_POSIDs.f x0).bind fun bt202 => ((spec_POSIDs.f k x0).bind fun bt208 => (if (bt202.1.length : Int) = (bt208.1.length : Int) then ((laws_sameTexts.f k bt202.2 bt208.2).bind fun t214 => (laws_FnPOSSays.j4 k bt202.1 bt208.1 (!t214))) else (laws_FnPOSSays.j4 k bt202.1 bt208.1 true))))
def laws_FnPOSSays.j2 : Nat → List (List ByteArray) → List ByteArray → List (List ByteArray) → Int → Int → Bool → Option (Bool)
  | 0, _, _, _, _, _, _ => none
  | k + 1, x0, x6, x34, x35, x36, x47 => if x47 = true then (some true) else (laws_FnPOSSays.l1 k x0 x34 x35 x36 x6 (x6.length : Int) 0)
def laws_FnPOSSays.l1 : Nat → List (List ByteArray) → List (List ByteArray) → Int → Int → List ByteArray → Int → Int → Option (Bool)
  | 0, _, _, _, _, _, _, _ => none
  | k + 1, x0, x34, x35, x36, x48, x49, x50 => if x50 < x49 then (if 0 ≤ x50 then (if x50 < (x48.length : Int) then (if (rdOf ByteArray.empty x48 x50).toList = ([] : List UInt8) then (some true) else (laws_FnPOSSays.l1 k x0 x34 x35 x36 x48 x49 (wrap64 (x50 + 1)))) else (none)) else (none)) else (laws_FnPOSSays.l0 k x0 x34 x35 (wrap64 (x36 + 1)))
def laws_FnPOSSays.j4 : Nat → List (List Int) → List (List Int) → Bool → Option (Bool)
  | 0, _, _, _ => none
  | k + 1, x9, x11, x78 => if x78 = true then (some false) else (laws_FnPOSSays.l2 k x9 x11 (x9.length : Int) 0)
def laws_FnPOSSays.l2 : Nat → List (List Int) → List (List Int) → Int → Int → Option (Bool)
  | 0, _, _, _, _ => none
  | k + 1, x9, x11, x80, x81 => if x81 < x80 then (if 0 ≤ x81 then (if x81 < (x9.length : Int) then (if x81 < (x11.length : Int) then ((laws_sameInts.f k (rd_L4 x9 x81) (rd_L4 x11 x81)).bind fun t217 => (if t217 = true then (laws_FnPOSSays.l2 k x9 x11 x80 (wrap64 (x81 + 1))) else (some false))) else (none)) else (none)) else (none)) else (some true)
end
def laws_FnPOSSays.f (k : Nat) (l0 : List (List ByteArray)) : Option (Bool) := (laws_zzFits9.f k l0).bind fun t186 => (if t186 = true then ((impl_POSIDs.f (([(([(⟨#[120]⟩ : ByteArray)] : List ByteArray))] : List (List ByteArray)))).bind fun bt193 => (if (bt193.1.length : Int) = 1 then (laws_FnPOSSays.j0 k l0 ((bt193.2.length : Int) != 2)) else (laws_FnPOSSays.j0 k l0 true))) else (some true))
theorem laws_FnPOSSays.mono_l : ∀ k, (∀ y0 y1, LeO (laws_FnPOSSays.j0 k y0 y1) (laws_FnPOSSays.j0 (k + 1) y0 y1)) ∧ (∀ y0 y1 y2 y3, LeO (laws_FnPOSSays.l0 k y0 y1 y2 y3) (laws_FnPOSSays.l0 (k + 1) y0 y1 y2 y3)) ∧ (∀ y0 y1 y2 y3 y4 y5, LeO (laws_FnPOSSays.j2 k y0 y1 y2 y3 y4 y5) (laws_FnPOSSays.j2 (k + 1) y0 y1 y2 y3 y4 y5)) ∧ (∀ y0 y1 y2 y3 y4 y5 y6, LeO (laws_FnPOSSays.l1 k y0 y1 y2 y3 y4 y5 y6) (laws_FnPOSSays.l1 (k + 1) y0 y1 y2 y3 y4 y5 y6)) ∧ (∀ y0 y1 y2, LeO (laws_FnPOSSays.j4 k y0 y1 y2) (laws_FnPOSSays.j4 (k + 1) y0 y1 y2)) ∧ (∀ y0 y1 y2 y3, LeO (laws_FnPOSSays.l2 k y0 y1 y2 y3) (laws_FnPOSSays.l2 (k + 1) y0 y1 y2 y3))
  | 0 => ⟨fun _ _ r h => by simp [laws_FnPOSSays.j0] at h, fun _ _ _ _ r h => by simp [laws_FnPOSSays.l0] at h, fun _ _ _ _ _ _ r h => by simp [laws_FnPOSSays.j2] at h, fun _ _ _ _ _ _ _ r h => by simp [laws_FnPOSSays.l1] at h, fun _ _ _ r h => by simp [laws_FnPOSSays.j4] at h, fun _ _ _ _ r h => by simp [laws_FnPOSSays.l2] at h⟩
  | k + 1 => by
    obtain ⟨ih0, ih1, ih2, ih3, ih4, ih5⟩ := laws_FnPOSSays.mono_l k
    refine ⟨?_, ?_, ?_, ?_, ?_, ?_⟩
    · intro y0 y1
      unfold laws_FnPOSSays.j0
      repeat' first
      | (with_reducible exact ih0 _ _)
      | (with_reducible exact ih1 _ _ _ _)
      | (with_reducible exact ih2 _ _ _ _ _ _)
      | (with_reducible exact ih3 _ _ _ _ _ _ _)
      | (with_reducible exact ih4 _ _ _)
      | (with_reducible exact ih5 _ _ _ _)
      | (with_reducible exact laws_clean.mono _ _ _)
      | (with_reducible exact laws_sameInts.mono _ _ _)
      | (with_reducible exact laws_sameTexts.mono _ _ _)
      | (with_reducible exact laws_zzFits9.mono _ _)
      | (with_reducible exact spec_POSIDs.mono _ _)
      | (with_reducible exact LeO.refl _)
      | (with_reducible exact LeO.none _)
      | (with_reducible refine LeO.ite ?_ ?_)
      | (with_reducible refine LeO.bind ?_ (fun _ => ?_))
      | exact ih0 _ _
      | exact ih1 _ _ _ _
      | exact ih2 _ _ _ _ _ _
      | exact ih3 _ _ _ _ _ _ _
      | exact ih4 _ _ _
      | exact ih5 _ _ _ _
      | exact laws_clean.mono _ _ _
      | exact laws_sameInts.mono _ _ _
      | exact laws_sameTexts.mono _ _ _
      | exact laws_zzFits9.mono _ _
      | exact spec_POSIDs.mono _ _
      | exact LeO.none _
      | refine LeO.ite ?_ ?_
      | refine LeO.bind ?_ (fun _ => ?_)
    · intro y0 y1 y2 y3
      unfold laws_FnPOSSays.l0
      repeat' first
      | (with_reducible exact ih0 _ _)
      | (with_reducible exact ih1 _ _ _ _)
      | (with_reducible exact ih2 _ _ _ _ _ _)
      | (with_reducible exact ih3 _ _ _ _ _ _ _)
      | (with_reducible exact ih4 _ _ _)
      | (with_reducible exact ih5 _ _ _ _)
      | (with_reducible exact laws_clean.mono _ _ _)
      | (with_reducible exact laws_sameInts.mono _ _ _)
      | (with_reducible exact laws_sameTexts.mono _ _ _)
      | (with_reducible exact laws_zzFits9.mono _ _)
      | (with_reducible exact spec_POSIDs.mono _ _)
      | (with_reducible exact LeO.refl _)
      | (with_reducible exact LeO.none _)
      | (with_reducible refine LeO.ite ?_ ?_)
      | (with_reducible refine LeO.bind ?_ (fun _ => ?_))
      | exact ih0 _ _
      | exact ih1 _ _ _ _
      | exact ih2 _ _ _ _ _ _
      | exact ih3 _ _ _ _ _ _ _
      | exact ih4 _ _ _
      | exact ih5 _ _ _ _
      | exact laws_clean.mono _ _ _
      | exact laws_sameInts.mono _ _ _
      | exact laws_sameTexts.mono _ _ _
      | exact laws_zzFits9.mono _ _
      | exact spec_POSIDs.mono _ _
      | exact LeO.none _
      | refine LeO.ite ?_ ?_
      | refine LeO.bind ?_ (fun _ => ?_)
    · intro y0 y1 y2 y3 y4 y5
      unfold laws_FnPOSSays.j2
      repeat' first
      | (with_reducible exact ih0 _ _)
      | (with_reducible exact ih1 _ _ _ _)
      | (with_reducible exact ih2 _ _ _ _ _ _)
      | (with_reducible exact ih3 _ _ _ _ _ _ _)
      | (with_reducible exact ih4 _ _ _)
      | (with_reducible exact ih5 _ _ _ _)
      | (with_reducible exact laws_clean.mono _ _ _)
      | (with_reducible exact laws_sameInts.mono _ _ _)
      | (with_reducible exact laws_sameTexts.mono _ _ _)
      | (with_reducible exact laws_zzFits9.mono _ _)
      | (with_reducible exact spec_POSIDs.mono _ _)
      | (with_reducible exact LeO.refl _)
      | (with_reducible exact LeO.none _)
      | (with_reducible refine LeO.ite ?_ ?_)
      | (with_reducible refine LeO.bind ?_ (fun _ => ?_))
      | exact ih0 _ _
      | exact ih1 _ _ _ _
      | exact ih2 _ _ _ _ _ _
      | exact ih3 _ _ _ _ _ _ _
      | exact ih4 _ _ _
      | exact ih5 _ _ _ _
      | exact laws_clean.mono _ _ _
      | exact laws_sameInts.mono _ _ _
      | exact laws_sameTexts.mono _ _ _
      | exact laws_zzFits9.mono _ _
      | exact spec_POSIDs.mono _ _
      | exact LeO.none _
      | refine LeO.ite ?_ ?_
      | refine LeO.bind ?_ (fun _ => ?_)
    · intro y0 y1 y2 y3 y4 y5 y6
      unfold laws_FnPOSSays.l1
      repeat' first
      | (with_reducible exact ih0 _ _)
      | (with_reducible exact ih1 _ _ _ _)
      | (with_reducible exact ih2 _ _ _ _ _ _)
      | (with_reducible exact ih3 _ _ _ _ _ _ _)
      | (with_reducible exact ih4 _ _ _)
      | (with_reducible exact ih5 _ _ _ _)
      | (with_reducible exact laws_clean.mono _ _ _)
      | (with_reducible exact laws_sameInts.mono _ _ _)
      | (with_reducible exact laws_sameTexts.mono _ _ _)
      | (with_reducible exact laws_zzFits9.mono _ _)
      | (with_reducible exact spec_POSIDs.mono _ _)
      | (with_reducible exact LeO.refl _)
      | (with_reducible exact LeO.none _)
      | (with_reducible refine LeO.ite ?_ ?_)
      | (with_reducible refine LeO.bind ?_ (fun _ => ?_))
      | exact ih0 _ _
      | exact ih1 _ _ _ _
      | exact ih2 _ _ _ _ _ _
      | exact ih3 _ _ _ _ _ _ _
      | exact ih4 _ _ _
      | exact ih5 _ _ _ _
      | exact laws_clean.mono _ _ _
      | exact laws_sameInts.mono _ _ _
      | exact laws_sameTexts.mono _ _ _
      | exact laws_zzFits9.mono _ _
      | exact spec_POSIDs.mono _ _
      | exact LeO.none _
      | refine LeO.ite ?_ ?_
      | refine LeO.bind ?_ (fun _ => ?_)
    · intro y0 y1 y2
      unfold laws_FnPOSSays.j4
      repeat' first
      | (with_reducible exact ih0 _ _)
      | (with_reducible exact ih1 _ _ _ _)
      | (with_reducible exact ih2 _ _ _ _ _ _)
      | (with_reducible exact ih3 _ _ _ _ _ _ _)
      | (with_reducible exact ih4 _ _ _)
      | (with_reducible exact ih5 _ _ _ _)
      | (with_reducible exact laws_clean.mono _ _ _)
      | (with_reducible exact laws_sameInts.mono _ _ _)
      | (with_reducible exact laws_sameTexts.mono _ _ _)
      | (with_reducible exact laws_zzFits9.mono _ _)
      | (with_reducible exact spec_POSIDs.mono _ _)
      | (with_reducible exact LeO.refl _)
      | (with_reducible exact LeO.none _)
      | (with_reducible refine LeO.ite ?_ ?_)
      | (with_reducible refine LeO.bind ?_ (fun _ => ?_))
      | exact ih0 _ _
      | exact ih1 _ _ _ _
      | exact ih2 _ _ _ _ _ _
      | exact ih3 _ _ _ _ _ _ _
      | exact ih4 _ _ _
      | exact ih5 _ _ _ _
      | exact laws_clean.mono _ _ _
      | exact laws_sameInts.mono _ _ _
      | exact laws_sameTexts.mono _ _ _
      | exact laws_zzFits9.mono _ _
      | exact spec_POSIDs.mono _ _
      | exact LeO.none _
      | refine LeO.ite ?_ ?_
      | refine LeO.bind ?_ (fun _ => ?_)
    · intro y0 y1 y2 y3
      unfold laws_FnPOSSays.l2
      repeat' first
      | (with_reducible exact ih0 _ _)
      | (with_reducible exact ih1 _ _ _ _)
      | (with_reducible exact ih2 _ _ _ _ _ _)
      | (with_reducible exact ih3 _ _ _ _ _ _ _)
      | (with_reducible exact ih4 _ _ _)
      | (with_reducible exact ih5 _ _ _ _)
      | (with_reducible exact laws_clean.mono _ _ _)
      | (with_reducible exact laws_sameInts.mono _ _ _)
      | (with_reducible exact laws_sameTexts.mono _ _ _)
      | (with_reducible exact laws_zzFits9.mono _ _)
      | (with_reducible exact spec_POSIDs.mono _ _)
      | (with_reducible exact LeO.refl _)
      | (with_reducible exact LeO.none _)
      | (with_reducible refine LeO.ite ?_ ?_)
      | (with_reducible refine LeO.bind ?_ (fun _ => ?_))
      | exact ih0 _ _
      | exact ih1 _ _ _ _
      | exact ih2 _ _ _ _ _ _
      | exact ih3 _ _ _ _ _ _ _
      | exact ih4 _ _ _
      | exact ih5 _ _ _ _
      | exact laws_clean.mono _ _ _
      | exact laws_sameInts.mono _ _ _
      | exact laws_sameTexts.mono _ _ _
      | exact laws_zzFits9.mono _ _
      | exact spec_POSIDs.mono _ _
      | exact LeO.none _
      | refine LeO.ite ?_ ?_
      | refine LeO.bind ?_ (fun _ => ?_)
theorem laws_FnPOSSays.mono : ∀ a0 k, LeO (laws_FnPOSSays.f k a0) (laws_FnPOSSays.f (k + 1) a0) := by
  intro a0 k
  obtain ⟨ih0, ih1, ih2, ih3, ih4, ih5⟩ := laws_FnPOSSays.mono_l k
  unfold laws_FnPOSSays.f
  repeat' first
      | (with_reducible exact ih0 _ _)
      | (with_reducible exact ih1 _ _ _ _)
      | (with_reducible exact ih2 _ _ _ _ _ _)
      | (with_reducible exact ih3 _ _ _ _ _ _ _)
      | (with_reducible exact ih4 _ _ _)
      | (with_reducible exact ih5 _ _ _ _)
      | (with_reducible exact laws_clean.mono _ _ _)
      | (with_reducible exact laws_sameInts.mono _ _ _)
      | (with_reducible exact laws_sameTexts.mono _ _ _)
      | (with_reducible exact laws_zzFits9.mono _ _)
      | (with_reducible exact spec_POSIDs.mono _ _)
      | (with_reducible exact LeO.refl _)
      | (with_reducible exact LeO.none _)
      | (with_reducible refine LeO.ite ?_ ?_)
      | (with_reducible refine LeO.bind ?_ (fun _ => ?_))
      | exact ih0 _ _
      | exact ih1 _ _ _ _
      | exact ih2 _ _ _ _ _ _
      | exact ih3 _ _ _ _ _ _ _
      | exact ih4 _ _ _
      | exact ih5 _ _ _ _
      | exact laws_clean.mono _ _ _
      | exact laws_sameInts.mono _ _ _
      | exact laws_sameTexts.mono _ _ _
      | exact laws_zzFits9.mono _ _
      | exact spec_POSIDs.mono _ _
      | exact LeO.none _
      | refine LeO.ite ?_ ?_
      | refine LeO.bind ?_ (fun _ => ?_)
set_option maxHeartbeats 8000000 in
set_option maxRecDepth 100000 in
theorem laws_FnPOSSays.calls (k : Nat) (A0 : Option Addr) (c0 : Nat) (l0 : List (List ByteArray)) (r : Bool) (w : World) (hr0 : Kd.C (Kd.slice 9 Kd.string) w A0 l0.length l0) (hc0 : l0.length ≤ c0) (h : laws_FnPOSSays.f k l0 = some r) :
    Calls Try.prog 4 #[.slice A0 l0.length c0] w fun e w' => e = .returned (.bool r) ∧ Below w.heap.size w w' := by
  have HR0 := Aside0.mk hr0
  have HC0 := Aside0.mk hc0
  clear hr0 hc0
  have HB := Aside0.mk (Below.refl w.heap.size w)
  have H : ((laws_zzFits9.f k l0).bind fun t186 => (if t186 = true then ((impl_POSIDs.f (([(([(⟨#[120]⟩ : ByteArray)] : List ByteArray))] : List (List ByteArray)))).bind fun bt193 => (if (bt193.1.length : Int) = 1 then (laws_FnPOSSays.j0 k l0 ((bt193.2.length : Int) != 2)) else (laws_FnPOSSays.j0 k l0 true))) else (some true))) = some r := h
  clear h
  replace H := Option.bind_eq_some_iff.mp H
  obtain ⟨t186, A20, H⟩ := H
  replace H : (if t186 = true then ((impl_POSIDs.f (([(([(⟨#[120]⟩ : ByteArray)] : List ByteArray))] : List (List ByteArray)))).bind fun bt193 => (if (bt193.1.length : Int) = 1 then (laws_FnPOSSays.j0 k l0 ((bt193.2.length : Int) != 2)) else (laws_FnPOSSays.j0 k l0 true))) else (some true)) = some r := H
  have A2 := Aside0.mk A20
  clear A20
  by_cases c3 : t186 = true
  · subst c3
    have H1 : ((impl_POSIDs.f (([(([(⟨#[120]⟩ : ByteArray)] : List ByteArray))] : List (List ByteArray)))).bind fun bt193 => (if (bt193.1.length : Int) = 1 then (laws_FnPOSSays.j0 k l0 ((bt193.2.length : Int) != 2)) else (laws_FnPOSSays.j0 k l0 true))) = some r := by rw [if_pos rfl] at H; exact H
    clear H
    have H := H1
    clear H1
    obtain ⟨y187, hy187⟩ : ∃ y_ : List ByteArray, y_ = (([(⟨#[120]⟩ : ByteArray)] : List ByteArray)) := ⟨_, rfl⟩
    replace H : ((impl_POSIDs.f (([y187] : List (List ByteArray)))).bind fun bt193 => (if (bt193.1.length : Int) = 1 then (laws_FnPOSSays.j0 k l0 ((bt193.2.length : Int) != 2)) else (laws_FnPOSSays.j0 k l0 true))) = some r := by first | (rw [hy187]; with_reducible exact H) | (have H2_ := (Option.bind_some _ _).symm.trans H; rw [hy187]; with_reducible exact H2_) | (have H2_ := (Option.bind_some _ _).symm.trans H; with_reducible exact H2_) | with_reducible exact H | (rw [hy187]; exact H) | exact H
    have Ny187 := Aside0.mk hy187
    clear hy187
    obtain ⟨y190, hy190⟩ : ∃ y_ : List (List ByteArray), y_ = (([y187] : List (List ByteArray))) := ⟨_, rfl⟩
    replace H : ((impl_POSIDs.f y190).bind fun bt193 => (if (bt193.1.length : Int) = 1 then (laws_FnPOSSays.j0 k l0 ((bt193.2.length : Int) != 2)) else (laws_FnPOSSays.j0 k l0 true))) = some r := by first | (rw [hy190]; with_reducible exact H) | (have H2_ := (Option.bind_some _ _).symm.trans H; rw [hy190]; with_reducible exact H2_) | (have H2_ := (Option.bind_some _ _).symm.trans H; with_reducible exact H2_) | with_reducible exact H | (rw [hy190]; exact H) | exact H
    have Ny190 := Aside0.mk hy190
    clear hy190
    replace H := Option.bind_eq_some_iff.mp H
    obtain ⟨⟨t193, t194⟩, A40, H⟩ := H
    replace H : (if (t193.length : Int) = 1 then (laws_FnPOSSays.j0 k l0 ((t194.length : Int) != 2)) else (laws_FnPOSSays.j0 k l0 true)) = some r := H
    have A4 := Aside0.mk A40
    clear A40
    have HC5 := Aside0.mk H
    clear H
    go_enter Try.func4, Try.ntmps4
    go_upto_region 4 with (first | (go_at_call 9; (with_reducible refine (laws_zzFits9.calls k _ _ l0 true _ ?side1 ?side2 A2.out).mono ?_); (case side1 => repeat (first | exact HR0.out | (with_reducible refine Kd.C_alloc ?_ _) | (with_reducible refine Kd.C_drewN ?_ _) | (with_reducible refine Kd.C_drew ?_))); (case side2 => exact HC0.out); rintro e w' ⟨rfl, ⟨nd, rfl⟩⟩; (try first | exact ⟨rfl, _, World.drewN_drewN _ _ _⟩ | exact ⟨rfl, _, Eq.trans (World.drewN_drewN _ _ _) (congrArg (World.drewN _) (Nat.add_assoc _ _ _))⟩)) | ((with_reducible refine gate_dst (N := 18) rfl ?_); (try (refine gate_guard (by rfl) ?_; dsimp only)); refine Kd.R_lit Kd.string _ 9 ?hg (N := 18) ?hd (xs := ([(⟨#[120]⟩ : ByteArray)] : List ByteArray)) (inner := [.string (⟨#[120]⟩ : ByteArray)]) (ok := fun _ => True) (okp := fun _ => True) ?hr ?hp (fun _ hk => hk) trivial (Below.refl _ _) (Nat.le_refl _) (by simp) ?_; (case hd => rfl); (case hg => rfl); (case hr => first | (go_simp; done) | (go_simp; rfl)); (case hp => exact (Reps.one (show Kd.M Kd.string _ _ _ (⟨#[120]⟩ : ByteArray) [.string (⟨#[120]⟩ : ByteArray)] from rfl) (Reps.none _ _))); intro v188 w6 ho7 hb hg_ hnew_; clear hg_ hnew_; (first | rw [← Ny187.out] at ho7 | (simp only [Int.reduceToNat] at ho7; rw [← Ny187.out] at ho7)); have n0_ := Aside0.mk (Kd.R_lower ho7 (below_size (by repeat (first | (with_reducible first | exact HB.out | apply below_alloc | apply pw_below_drewN | apply below_drew1) | exact HB.out)))); have n1_ := Aside0.mk (below_step (by repeat (first | (with_reducible first | exact HB.out | apply below_alloc | apply pw_below_drewN | apply below_drew1) | exact HB.out)) hb); clear HB; have HO189 := n0_; have HB := n1_; clear n0_ n1_; clear hb ho7; obtain ⟨Ao8, co8, eo8⟩ := Kd.R_slice HO189.out; subst eo8) | ((with_reducible refine gate_dst (N := 19) rfl ?_); (try (refine gate_guard (by rfl) ?_; dsimp only)); refine Kd.N_lit (Kd.slice 9 Kd.string) _ 25 ?hg (N' := 19) ?hd (xs := ([y187] : List (List ByteArray))) (inner := [.slice Ao8 y187.length co8]) (ok := (fun _ => True)) (okp := (fun _ => True)) ?hr ?hp (fun _ hk => hk) ((show ∀ k_, w6.heap.size ≤ k_ → (fun _ => True) k_ from fun k_ hk => trivial) _ (Nat.le_refl _)) (Below.refl _ _) (Nat.le_refl _) (by simp) ?_; (case hd => rfl); (case hg => rfl); (case hr => first | (go_simp; done) | (go_simp; rfl)); (case hp => exact (Reps.one (show Kd.FK (Kd.slice 9 Kd.string) _ _ y187 [.slice Ao8 y187.length co8] from (Kd.FK_slice_mk (Kd.R_reads' (Kd.R_mono (ok' := (fun _ => True)) (HO189.out) (fun k_ hk => trivial))).2.1 (Kd.R_F (Kd.R_mono (ok' := (fun _ => True)) (HO189.out) (fun k_ hk => trivial))))) (Reps.none _ _))); intro v191 w9 ho10 hb hg_ hnew_; clear hg_ hnew_; (first | rw [← Ny190.out] at ho10 | (simp only [Int.reduceToNat] at ho10; rw [← Ny190.out] at ho10)); have n0_ := Aside0.mk (Kd.N_lower ho10 (below_size (by repeat (first | (with_reducible first | exact HB.out | apply below_alloc | apply pw_below_drewN | apply below_drew1) | exact HB.out)))); have n1_ := Aside0.mk (below_step (by repeat (first | (with_reducible first | exact HB.out | apply below_alloc | apply pw_below_drewN | apply below_drew1) | exact HB.out)) hb); clear HB; clear HO189; have HO192 := n0_; have HB := n1_; clear n0_ n1_; clear hb ho10; obtain ⟨Ao11, co11, eo11⟩ := Kd.N_slice HO192.out; subst eo11) | (go_at_call 10; (with_reducible refine (impl_POSIDs.calls _ _ y190 t193 t194 _ ?side1 ?side2 A4.out).mono ?_); (case side1 => repeat (first | exact (Kd.N_reads' HO192.out).2.2 | (with_reducible refine Kd.C_alloc ?_ _) | (with_reducible refine Kd.C_drewN ?_ _) | (with_reducible refine Kd.C_drew ?_))); (case side2 => exact (Kd.N_reads' HO192.out).2.1); rintro e w12 ⟨v195, v197, rfl, ho0, ho1, hb⟩; have n0_ := Aside0.mk (Kd.N_mono (Kd.N_told (Kd.N_told (Kd.N_old (by (with_reducible repeat (first | apply Kd.N_alloc | apply Kd.N_drewN | apply Kd.N_drew)); exact HO192.out) hb) (by first | exact Kd.N_base ho0 | exact Kd.S_base ho0 | exact Kd.R_base ho0)) (by first | exact Kd.N_base ho1 | exact Kd.S_base ho1 | exact Kd.R_base ho1)) (fun _ h_ => h_.1)); have n1_ := Aside0.mk (Kd.N_lower (Kd.N_mono (ok' := fun k_ => some k_ ≠ (v197 : Value).ownBlock ∧ some k_ ≠ (.slice Ao11 y190.length co11 : Value).ownBlock) (Kd.S_N (Kd.S_bound (Kd.S_apart' ho0 (Kd.R_typed ho1) (by decide)))) (fun k_ hk_ => ⟨hk_.1.2, (Kd.fresh' (Kd.N_lt (by (with_reducible repeat (first | apply Kd.N_alloc | apply Kd.N_drewN | apply Kd.N_drew)); exact HO192.out)) k_ hk_.2.1)⟩)) (below_size (by repeat (first | (with_reducible first | exact HB.out | apply below_alloc | apply pw_below_drewN | apply below_drew1) | exact HB.out)))); have n2_ := Aside0.mk (Kd.R_lower ho1 (below_size (by repeat (first | (with_reducible first | exact HB.out | apply below_alloc | apply pw_below_drewN | apply below_drew1) | exact HB.out)))); have n3_ := Aside0.mk (below_step (by repeat (first | (with_reducible first | exact HB.out | apply below_alloc | apply pw_below_drewN | apply below_drew1) | exact HB.out)) hb); clear HO192; clear HB; have HO192 := n0_; have HO196 := n1_; have HO198 := n2_; have HB := n3_; clear n0_ n1_ n2_ n3_; (try clear hb); (try clear hb2); (try clear hk); (try clear hi); (try clear ho0); (try clear ho1)))
    repeat (go_quiet (first | (go_at_call 9; (with_reducible refine (laws_zzFits9.calls k _ _ l0 true _ ?side1 ?side2 A2.out).mono ?_); (case side1 => repeat (first | exact HR0.out | (with_reducible refine Kd.C_alloc ?_ _) | (with_reducible refine Kd.C_drewN ?_ _) | (with_reducible refine Kd.C_drew ?_))); (case side2 => exact HC0.out); rintro e w' ⟨rfl, ⟨nd, rfl⟩⟩; (try first | exact ⟨rfl, _, World.drewN_drewN _ _ _⟩ | exact ⟨rfl, _, Eq.trans (World.drewN_drewN _ _ _) (congrArg (World.drewN _) (Nat.add_assoc _ _ _))⟩)) | ((with_reducible refine gate_dst (N := 18) rfl ?_); (try (refine gate_guard (by rfl) ?_; dsimp only)); refine Kd.R_lit Kd.string _ 9 ?hg (N := 18) ?hd (xs := ([(⟨#[120]⟩ : ByteArray)] : List ByteArray)) (inner := [.string (⟨#[120]⟩ : ByteArray)]) (ok := fun _ => True) (okp := fun _ => True) ?hr ?hp (fun _ hk => hk) trivial (Below.refl _ _) (Nat.le_refl _) (by simp) ?_; (case hd => rfl); (case hg => rfl); (case hr => first | (go_simp; done) | (go_simp; rfl)); (case hp => exact (Reps.one (show Kd.M Kd.string _ _ _ (⟨#[120]⟩ : ByteArray) [.string (⟨#[120]⟩ : ByteArray)] from rfl) (Reps.none _ _))); intro v188 w6 ho7 hb hg_ hnew_; clear hg_ hnew_; (first | rw [← Ny187.out] at ho7 | (simp only [Int.reduceToNat] at ho7; rw [← Ny187.out] at ho7)); have n0_ := Aside0.mk (Kd.R_lower ho7 (below_size (by repeat (first | (with_reducible first | exact HB.out | apply below_alloc | apply pw_below_drewN | apply below_drew1) | exact HB.out)))); have n1_ := Aside0.mk (below_step (by repeat (first | (with_reducible first | exact HB.out | apply below_alloc | apply pw_below_drewN | apply below_drew1) | exact HB.out)) hb); clear HB; have HO189 := n0_; have HB := n1_; clear n0_ n1_; clear hb ho7; obtain ⟨Ao8, co8, eo8⟩ := Kd.R_slice HO189.out; subst eo8) | ((with_reducible refine gate_dst (N := 19) rfl ?_); (try (refine gate_guard (by rfl) ?_; dsimp only)); refine Kd.N_lit (Kd.slice 9 Kd.string) _ 25 ?hg (N' := 19) ?hd (xs := ([y187] : List (List ByteArray))) (inner := [.slice Ao8 y187.length co8]) (ok := (fun _ => True)) (okp := (fun _ => True)) ?hr ?hp (fun _ hk => hk) ((show ∀ k_, w6.heap.size ≤ k_ → (fun _ => True) k_ from fun k_ hk => trivial) _ (Nat.le_refl _)) (Below.refl _ _) (Nat.le_refl _) (by simp) ?_; (case hd => rfl); (case hg => rfl); (case hr => first | (go_simp; done) | (go_simp; rfl)); (case hp => exact (Reps.one (show Kd.FK (Kd.slice 9 Kd.string) _ _ y187 [.slice Ao8 y187.length co8] from (Kd.FK_slice_mk (Kd.R_reads' (Kd.R_mono (ok' := (fun _ => True)) (HO189.out) (fun k_ hk => trivial))).2.1 (Kd.R_F (Kd.R_mono (ok' := (fun _ => True)) (HO189.out) (fun k_ hk => trivial))))) (Reps.none _ _))); intro v191 w9 ho10 hb hg_ hnew_; clear hg_ hnew_; (first | rw [← Ny190.out] at ho10 | (simp only [Int.reduceToNat] at ho10; rw [← Ny190.out] at ho10)); have n0_ := Aside0.mk (Kd.N_lower ho10 (below_size (by repeat (first | (with_reducible first | exact HB.out | apply below_alloc | apply pw_below_drewN | apply below_drew1) | exact HB.out)))); have n1_ := Aside0.mk (below_step (by repeat (first | (with_reducible first | exact HB.out | apply below_alloc | apply pw_below_drewN | apply below_drew1) | exact HB.out)) hb); clear HB; clear HO189; have HO192 := n0_; have HB := n1_; clear n0_ n1_; clear hb ho10; obtain ⟨Ao11, co11, eo11⟩ := Kd.N_slice HO192.out; subst eo11) | (go_at_call 10; (with_reducible refine (impl_POSIDs.calls _ _ y190 t193 t194 _ ?side1 ?side2 A4.out).mono ?_); (case side1 => repeat (first | exact (Kd.N_reads' HO192.out).2.2 | (with_reducible refine Kd.C_alloc ?_ _) | (with_reducible refine Kd.C_drewN ?_ _) | (with_reducible refine Kd.C_drew ?_))); (case side2 => exact (Kd.N_reads' HO192.out).2.1); rintro e w12 ⟨v195, v197, rfl, ho0, ho1, hb⟩; have n0_ := Aside0.mk (Kd.N_mono (Kd.N_told (Kd.N_told (Kd.N_old (by (with_reducible repeat (first | apply Kd.N_alloc | apply Kd.N_drewN | apply Kd.N_drew)); exact HO192.out) hb) (by first | exact Kd.N_base ho0 | exact Kd.S_base ho0 | exact Kd.R_base ho0)) (by first | exact Kd.N_base ho1 | exact Kd.S_base ho1 | exact Kd.R_base ho1)) (fun _ h_ => h_.1)); have n1_ := Aside0.mk (Kd.N_lower (Kd.N_mono (ok' := fun k_ => some k_ ≠ (v197 : Value).ownBlock ∧ some k_ ≠ (.slice Ao11 y190.length co11 : Value).ownBlock) (Kd.S_N (Kd.S_bound (Kd.S_apart' ho0 (Kd.R_typed ho1) (by decide)))) (fun k_ hk_ => ⟨hk_.1.2, (Kd.fresh' (Kd.N_lt (by (with_reducible repeat (first | apply Kd.N_alloc | apply Kd.N_drewN | apply Kd.N_drew)); exact HO192.out)) k_ hk_.2.1)⟩)) (below_size (by repeat (first | (with_reducible first | exact HB.out | apply below_alloc | apply pw_below_drewN | apply below_drew1) | exact HB.out)))); have n2_ := Aside0.mk (Kd.R_lower ho1 (below_size (by repeat (first | (with_reducible first | exact HB.out | apply below_alloc | apply pw_below_drewN | apply below_drew1) | exact HB.out)))); have n3_ := Aside0.mk (below_step (by repeat (first | (with_reducible first | exact HB.out | apply below_alloc | apply pw_below_drewN | apply below_drew1) | exact HB.out)) hb); clear HO192; clear HB; have HO192 := n0_; have HO196 := n1_; have HO198 := n2_; have HB := n3_; clear n0_ n1_ n2_ n3_; (try clear hb); (try clear hb2); (try clear hk); (try clear hi); (try clear ho0); (try clear ho1))); go_upto_region 4 with (first | (go_at_call 9; (with_reducible refine (laws_zzFits9.calls k _ _ l0 true _ ?side1 ?side2 A2.out).mono ?_); (case side1 => repeat (first | exact HR0.out | (with_reducible refine Kd.C_alloc ?_ _) | (with_reducible refine Kd.C_drewN ?_ _) | (with_reducible refine Kd.C_drew ?_))); (case side2 => exact HC0.out); rintro e w' ⟨rfl, ⟨nd, rfl⟩⟩; (try first | exact ⟨rfl, _, World.drewN_drewN _ _ _⟩ | exact ⟨rfl, _, Eq.trans (World.drewN_drewN _ _ _) (congrArg (World.drewN _) (Nat.add_assoc _ _ _))⟩)) | ((with_reducible refine gate_dst (N := 18) rfl ?_); (try (refine gate_guard (by rfl) ?_; dsimp only)); refine Kd.R_lit Kd.string _ 9 ?hg (N := 18) ?hd (xs := ([(⟨#[120]⟩ : ByteArray)] : List ByteArray)) (inner := [.string (⟨#[120]⟩ : ByteArray)]) (ok := fun _ => True) (okp := fun _ => True) ?hr ?hp (fun _ hk => hk) trivial (Below.refl _ _) (Nat.le_refl _) (by simp) ?_; (case hd => rfl); (case hg => rfl); (case hr => first | (go_simp; done) | (go_simp; rfl)); (case hp => exact (Reps.one (show Kd.M Kd.string _ _ _ (⟨#[120]⟩ : ByteArray) [.string (⟨#[120]⟩ : ByteArray)] from rfl) (Reps.none _ _))); intro v188 w6 ho7 hb hg_ hnew_; clear hg_ hnew_; (first | rw [← Ny187.out] at ho7 | (simp only [Int.reduceToNat] at ho7; rw [← Ny187.out] at ho7)); have n0_ := Aside0.mk (Kd.R_lower ho7 (below_size (by repeat (first | (with_reducible first | exact HB.out | apply below_alloc | apply pw_below_drewN | apply below_drew1) | exact HB.out)))); have n1_ := Aside0.mk (below_step (by repeat (first | (with_reducible first | exact HB.out | apply below_alloc | apply pw_below_drewN | apply below_drew1) | exact HB.out)) hb); clear HB; have HO189 := n0_; have HB := n1_; clear n0_ n1_; clear hb ho7; obtain ⟨Ao8, co8, eo8⟩ := Kd.R_slice HO189.out; subst eo8) | ((with_reducible refine gate_dst (N := 19) rfl ?_); (try (refine gate_guard (by rfl) ?_; dsimp only)); refine Kd.N_lit (Kd.slice 9 Kd.string) _ 25 ?hg (N' := 19) ?hd (xs := ([y187] : List (List ByteArray))) (inner := [.slice Ao8 y187.length co8]) (ok := (fun _ => True)) (okp := (fun _ => True)) ?hr ?hp (fun _ hk => hk) ((show ∀ k_, w6.heap.size ≤ k_ → (fun _ => True) k_ from fun k_ hk => trivial) _ (Nat.le_refl _)) (Below.refl _ _) (Nat.le_refl _) (by simp) ?_; (case hd => rfl); (case hg => rfl); (case hr => first | (go_simp; done) | (go_simp; rfl)); (case hp => exact (Reps.one (show Kd.FK (Kd.slice 9 Kd.string) _ _ y187 [.slice Ao8 y187.length co8] from (Kd.FK_slice_mk (Kd.R_reads' (Kd.R_mono (ok' := (fun _ => True)) (HO189.out) (fun k_ hk => trivial))).2.1 (Kd.R_F (Kd.R_mono (ok' := (fun _ => True)) (HO189.out) (fun k_ hk => trivial))))) (Reps.none _ _))); intro v191 w9 ho10 hb hg_ hnew_; clear hg_ hnew_; (first | rw [← Ny190.out] at ho10 | (simp only [Int.reduceToNat] at ho10; rw [← Ny190.out] at ho10)); have n0_ := Aside0.mk (Kd.N_lower ho10 (below_size (by repeat (first | (with_reducible first | exact HB.out | apply below_alloc | apply pw_below_drewN | apply below_drew1) | exact HB.out)))); have n1_ := Aside0.mk (below_step (by repeat (first | (with_reducible first | exact HB.out | apply below_alloc | apply pw_below_drewN | apply below_drew1) | exact HB.out)) hb); clear HB; clear HO189; have HO192 := n0_; have HB := n1_; clear n0_ n1_; clear hb ho10; obtain ⟨Ao11, co11, eo11⟩ := Kd.N_slice HO192.out; subst eo11) | (go_at_call 10; (with_reducible refine (impl_POSIDs.calls _ _ y190 t193 t194 _ ?side1 ?side2 A4.out).mono ?_); (case side1 => repeat (first | exact (Kd.N_reads' HO192.out).2.2 | (with_reducible refine Kd.C_alloc ?_ _) | (with_reducible refine Kd.C_drewN ?_ _) | (with_reducible refine Kd.C_drew ?_))); (case side2 => exact (Kd.N_reads' HO192.out).2.1); rintro e w12 ⟨v195, v197, rfl, ho0, ho1, hb⟩; have n0_ := Aside0.mk (Kd.N_mono (Kd.N_told (Kd.N_told (Kd.N_old (by (with_reducible repeat (first | apply Kd.N_alloc | apply Kd.N_drewN | apply Kd.N_drew)); exact HO192.out) hb) (by first | exact Kd.N_base ho0 | exact Kd.S_base ho0 | exact Kd.R_base ho0)) (by first | exact Kd.N_base ho1 | exact Kd.S_base ho1 | exact Kd.R_base ho1)) (fun _ h_ => h_.1)); have n1_ := Aside0.mk (Kd.N_lower (Kd.N_mono (ok' := fun k_ => some k_ ≠ (v197 : Value).ownBlock ∧ some k_ ≠ (.slice Ao11 y190.length co11 : Value).ownBlock) (Kd.S_N (Kd.S_bound (Kd.S_apart' ho0 (Kd.R_typed ho1) (by decide)))) (fun k_ hk_ => ⟨hk_.1.2, (Kd.fresh' (Kd.N_lt (by (with_reducible repeat (first | apply Kd.N_alloc | apply Kd.N_drewN | apply Kd.N_drew)); exact HO192.out)) k_ hk_.2.1)⟩)) (below_size (by repeat (first | (with_reducible first | exact HB.out | apply below_alloc | apply pw_below_drewN | apply below_drew1) | exact HB.out)))); have n2_ := Aside0.mk (Kd.R_lower ho1 (below_size (by repeat (first | (with_reducible first | exact HB.out | apply below_alloc | apply pw_below_drewN | apply below_drew1) | exact HB.out)))); have n3_ := Aside0.mk (below_step (by repeat (first | (with_reducible first | exact HB.out | apply below_alloc | apply pw_below_drewN | apply below_drew1) | exact HB.out)) hb); clear HO192; clear HB; have HO192 := n0_; have HO196 := n1_; have HO198 := n2_; have HB := n3_; clear n0_ n1_ n2_ n3_; (try clear hb); (try clear hb2); (try clear hk); (try clear hi); (try clear ho0); (try clear ho1))))
    (try simp only [Act.put, List.setIfInBounds_toArray, List.set_cons_zero, List.set_cons_succ])
    go_cut [30] (fun v30 wc => ∃ (kq : Nat) (x30_4 : Bool), v30 = .bool x30_4 ∧ Aside0 (laws_FnPOSSays.j0 kq l0 x30_4 = some r) ∧ Aside0 (kq ≤ k) ∧ Aside0 (Below w.heap.size w wc))
    case first =>
      have H := HC5.out
      clear HC5
      by_cases c13 : (t193.length : Int) = 1
      · rw [if_pos c13] at H
        have c13b0 : ((t193.length : Int) == 1) = true := beq_iff_eq.mpr c13
        have c13b1 : ((t193.length : Int) != 1) = false := bne_eq_false_iff_eq.mpr c13
        clear c13
        (first | rw [c13b0] | (simp only [i64_w, i32_w]; rw [c13b0]) | skip)
        have H' := Aside0.mk H
        clear H
        obtain ⟨Ao14, co14, eo14⟩ := Kd.N_slice HO196.out
        subst eo14
        obtain ⟨Ao15, co15, eo15⟩ := Kd.R_slice HO198.out
        subst eo15
        go_wp2
        repeat (go_quiet (fail); try go_wp2)
        go_meet
        case rel => exact ⟨_, (((t194.length : Int) != 2)), (by first | rfl | (simp; done) | (simp [*]; done)), H', ⟨by first | omega | exact Nat.le_refl _⟩, ⟨by repeat (first | (with_reducible first | exact HB.out | apply below_alloc | apply pw_below_drewN | apply below_drew1) | exact HB.out)⟩⟩
      · rw [if_neg c13] at H
        have c13b0 : ((t193.length : Int) == 1) = false := beq_eq_false_iff_ne.mpr c13
        have c13b1 : ((t193.length : Int) != 1) = true := bne_iff_ne.mpr c13
        (first | rw [c13b0] | (simp only [i64_w, i32_w]; rw [c13b0]) | skip)
        have H' := Aside0.mk H
        clear H
        obtain ⟨Ao16, co16, eo16⟩ := Kd.N_slice HO196.out
        subst eo16
        go_wp2
        repeat (go_quiet (fail); try go_wp2)
        go_meet
        case rel => exact ⟨_, (true), (by first | rfl | (simp; done) | (simp [*]; done)), H', ⟨by first | omega | exact Nat.le_refl _⟩, ⟨by repeat (first | (with_reducible first | exact HB.out | apply below_alloc | apply pw_below_drewN | apply below_drew1) | exact HB.out)⟩⟩
    case rest =>
      clear HC5
      try clear c1
      try clear p2
      try clear c3
      try clear c4
      try clear c13
      try clear c13b0
      try clear c13b1
      obtain ⟨kq, x30_4, rfl, HA, HJ4, HB⟩ := hcut
      cases kq with
      | zero => exact absurd HA.out (by simp [laws_FnPOSSays.j0])
      | succ kj4 =>
        have H := HA.out
        clear HA
        simp only [laws_FnPOSSays.j0] at H
        by_cases c17 : x30_4 = true
        · subst c17
          have H1 : (some false) = some r := by rw [if_pos rfl] at H; exact H
          clear H
          have H := H1
          clear H1
          obtain rfl := Option.some.inj H
          go_wp2
          repeat (go_quiet (fail); try go_wp2)
          go_ret
          exact ⟨by first | rfl | (simp [errW_none, errW_some] <;> rfl) | (simp [*, errW_none, errW_some] <;> rfl), by repeat (first | (with_reducible first | exact HB.out | apply below_alloc | apply pw_below_drewN | apply below_drew1) | exact HB.out)⟩
        · replace c17 := Bool.eq_false_iff.mpr c17
          subst c17
          have H1 : (if (l0.length : Int) > 10 then (some true) else (laws_FnPOSSays.l0 kj4 l0 l0 (l0.length : Int) 0)) = some r := by rw [if_neg (show ¬ (false = true) by decide)] at H; exact H
          clear H
          have H := H1
          clear H1
          by_cases c18 : (l0.length : Int) > 10
          · rw [if_pos c18] at H
            have c18b0 : decide (10 < (l0.length : Int)) = true := decide_eq_true c18
            have c18b1 : decide (10 < l0.length) = true := decide_eq_true (by omega)
            clear c18
            obtain rfl := Option.some.inj H
            go_wp2
            repeat (go_quiet (fail); try go_wp2)
            go_ret
            exact ⟨by first | rfl | (simp [errW_none, errW_some] <;> rfl) | (simp [*, errW_none, errW_some] <;> rfl), by repeat (first | (with_reducible first | exact HB.out | apply below_alloc | apply pw_below_drewN | apply below_drew1) | exact HB.out)⟩
          · rw [if_neg c18] at H
            have c18b0 : decide (10 < (l0.length : Int)) = false := decide_eq_false c18
            have c18b1 : decide (10 < l0.length) = false := decide_eq_false (by omega)
            clear c18
            have H' := Aside0.mk H
            clear H
            go_wp2
            repeat (go_quiet (fail); try go_wp2)
            go_loopg [36] kj4 (fun kq v36 w' => ∃ (x36_2 : Int), v36 = .int .i64 x36_2 ∧ Aside0 (laws_FnPOSSays.l0 kq l0 l0 (l0.length : Int) x36_2 = some r) ∧ Aside0 (kq ≤ kj4) ∧ Aside0 (Below w.heap.size w w'))
            case atStart => exact ⟨(0), (by first | rfl | (simp; done) | (simp [*]; done)), H', ⟨Nat.le_refl _⟩, ⟨by repeat (first | (with_reducible first | exact HB.out | apply below_alloc | apply pw_below_drewN | apply below_drew1) | exact HB.out)⟩⟩
            case round =>
              clear H'
              try clear c1
              try clear p2
              try clear c3
              try clear c4
              try clear c13
              try clear c13b0
              try clear c13b1
              try clear c17
              try clear c18
              try clear c18b0
              try clear c18b1
              try clear p2
              obtain ⟨x36_2, rfl, HA, HK2, HB⟩ := hrel
              cases gk with
              | zero => exact absurd HA.out (by simp [laws_FnPOSSays.l0])
              | succ k2 =>
                have H := HA.out
                clear HA
                simp only [laws_FnPOSSays.l0] at H
                by_cases c19 : x36_2 < (l0.length : Int)
                · rw [if_pos c19] at H
                  have c19b0 : decide (x36_2 < (l0.length : Int)) = true := decide_eq_true c19
                  clear c19
                  by_cases c20 : 0 ≤ x36_2
                  · rw [if_pos c20] at H
                    have c20b0 : decide (0 ≤ x36_2) = true := decide_eq_true c20
                    clear c20
                    by_cases c21 : x36_2 < (l0.length : Int)
                    · rw [if_pos c21] at H
                      have c21b0 : decide (x36_2 < (l0.length : Int)) = true := decide_eq_true c21
                      clear c21
                      have HC22 := Aside0.mk H
                      clear H
                      have p199 : 0 ≤ (x36_2 : Int) := of_decide_eq_true (by first | (with_reducible assumption) | assumption)
                      have q199 : x36_2 < (l0.length : Int) := of_decide_eq_true (by first | (with_reducible assumption) | assumption)
                      obtain ⟨ad199, A199_0, c199_0, e199, hx199_0, hl199_0, hi199_0⟩ := at_L1 HR0.out x36_2 p199 q199
                      cases e199
                      replace hx199_0 := (HB.out.cell (World.block_lt_of_cell? w _ hx199_0)).trans hx199_0
                      have HR199_0 := Aside0.mk hi199_0
                      have HC199_0 := Aside0.mk hl199_0
                      clear hi199_0 hl199_0
                      replace p199 := eq_true p199
                      replace q199 := eq_true q199
                      go_upto_region 11 with (fail)
                      repeat (go_quiet (fail); go_upto_region 11 with (fail))
                      go_cut [47] (fun v47 wc => ∃ (kq : Nat) (x47_21 : Bool), v47 = .bool x47_21 ∧ Aside0 (laws_FnPOSSays.j2 kq l0 (rd_L1 l0 x36_2) l0 (l0.length : Int) x36_2 x47_21 = some r) ∧ Aside0 (kq ≤ k2) ∧ Aside0 (Below w.heap.size w wc))
                      case first =>
                        have H := HC22.out
                        clear HC22
                        by_cases c23 : ((rd_L1 l0 x36_2).length : Int) > 6
                        · rw [if_pos c23] at H
                          have c23b0 : decide (6 < ((rd_L1 l0 x36_2).length : Int)) = true := decide_eq_true c23
                          have c23b1 : decide (6 < (rd_L1 l0 x36_2).length) = true := decide_eq_true (by omega)
                          clear c23
                          (first | rw [c23b0] | (simp only [i64_w, i32_w]; rw [c23b0]) | skip)
                          have H' := Aside0.mk H
                          clear H
                          go_wp2
                          repeat (go_quiet (fail); try go_wp2)
                          go_meet
                          case rel => exact ⟨_, (true), (by first | rfl | (simp; done) | (simp [*]; done)), H', ⟨by have := HJ4.out; have := HK2.out; first | omega | exact Nat.le_refl _⟩, ⟨by repeat (first | (with_reducible first | exact HB.out | apply below_alloc | apply pw_below_drewN | apply below_drew1) | exact HB.out)⟩⟩
                        · rw [if_neg c23] at H
                          have c23b0 : decide (6 < ((rd_L1 l0 x36_2).length : Int)) = false := decide_eq_false c23
                          have c23b1 : decide (6 < (rd_L1 l0 x36_2).length) = false := decide_eq_false (by omega)
                          clear c23
                          (first | rw [c23b0] | (simp only [i64_w, i32_w]; rw [c23b0]) | skip)
                          replace H := Option.bind_eq_some_iff.mp H
                          obtain ⟨t200, A240, H⟩ := H
                          replace H : (laws_FnPOSSays.j2 k2 l0 (rd_L1 l0 x36_2) l0 (l0.length : Int) x36_2 (!t200)) = some r := H
                          have A24 := Aside0.mk A240
                          clear A240
                          have H' := Aside0.mk H
                          clear H
                          go_wp2_with (first | (go_at_call 11; (with_reducible refine (laws_clean.calls k2 40 _ _ (rd_L1 l0 x36_2) t200 _ ?side1 ?side2 A24.out).mono ?_); (case side1 => repeat (first | exact (Kd.C_below HR199_0.out HB.out) | (with_reducible refine Kd.C_alloc ?_ _) | (with_reducible refine Kd.C_drewN ?_ _) | (with_reducible refine Kd.C_drew ?_))); (case side2 => exact HC199_0.out); rintro e w25 ⟨rfl, hb⟩; have n0_ := Aside0.mk (below_step (by repeat (first | (with_reducible first | exact HB.out | apply below_alloc | apply pw_below_drewN | apply below_drew1) | exact HB.out)) hb); clear HB; have HB := n0_; clear n0_; (try clear hb); (try clear hb2); (try clear hk); (try clear hi)))
                          repeat (go_quiet (first | (go_at_call 11; (with_reducible refine (laws_clean.calls k2 40 _ _ (rd_L1 l0 x36_2) t200 _ ?side1 ?side2 A24.out).mono ?_); (case side1 => repeat (first | exact (Kd.C_below HR199_0.out HB.out) | (with_reducible refine Kd.C_alloc ?_ _) | (with_reducible refine Kd.C_drewN ?_ _) | (with_reducible refine Kd.C_drew ?_))); (case side2 => exact HC199_0.out); rintro e w25 ⟨rfl, hb⟩; have n0_ := Aside0.mk (below_step (by repeat (first | (with_reducible first | exact HB.out | apply below_alloc | apply pw_below_drewN | apply below_drew1) | exact HB.out)) hb); clear HB; have HB := n0_; clear n0_; (try clear hb); (try clear hb2); (try clear hk); (try clear hi))); try go_wp2_with (first | (go_at_call 11; (with_reducible refine (laws_clean.calls k2 40 _ _ (rd_L1 l0 x36_2) t200 _ ?side1 ?side2 A24.out).mono ?_); (case side1 => repeat (first | exact (Kd.C_below HR199_0.out HB.out) | (with_reducible refine Kd.C_alloc ?_ _) | (with_reducible refine Kd.C_drewN ?_ _) | (with_reducible refine Kd.C_drew ?_))); (case side2 => exact HC199_0.out); rintro e w25 ⟨rfl, hb⟩; have n0_ := Aside0.mk (below_step (by repeat (first | (with_reducible first | exact HB.out | apply below_alloc | apply pw_below_drewN | apply below_drew1) | exact HB.out)) hb); clear HB; have HB := n0_; clear n0_; (try clear hb); (try clear hb2); (try clear hk); (try clear hi))))
                          go_meet
                          case rel => exact ⟨_, (!t200), (by first | rfl | (simp; done) | (simp [*]; done)), H', ⟨by have := HJ4.out; have := HK2.out; first | omega | exact Nat.le_refl _⟩, ⟨by repeat (first | (with_reducible first | exact HB.out | apply below_alloc | apply pw_below_drewN | apply below_drew1) | exact HB.out)⟩⟩
                      case rest =>
                        clear HC22
                        try clear c1
                        try clear p1
                        try clear q1
                        try clear hx1
                        try clear c2
                        try clear p2
                        try clear c3
                        try clear c4
                        try clear c13
                        try clear c13b0
                        try clear c13b1
                        try clear c17
                        try clear c18
                        try clear c18b0
                        try clear c18b1
                        try clear c19
                        try clear c19b0
                        try clear p19
                        try clear q19
                        try clear hx19
                        try clear c20
                        try clear c20b0
                        try clear c21
                        try clear c21b0
                        try clear c23
                        try clear c23b0
                        try clear c23b1
                        try clear hx199_0
                        try clear p199
                        try clear p2
                        try clear q199
                        obtain ⟨kq, x47_21, rfl, HA, HJ21, HB⟩ := hcut
                        cases kq with
                        | zero => exact absurd HA.out (by simp [laws_FnPOSSays.j2])
                        | succ kj21 =>
                          have H := HA.out
                          clear HA
                          simp only [laws_FnPOSSays.j2] at H
                          by_cases c26 : x47_21 = true
                          · subst c26
                            have H1 : (some true) = some r := by rw [if_pos rfl] at H; exact H
                            clear H
                            have H := H1
                            clear H1
                            obtain rfl := Option.some.inj H
                            go_wp2
                            repeat (go_quiet (fail); try go_wp2)
                            go_ret
                            exact ⟨by first | rfl | (simp [errW_none, errW_some] <;> rfl) | (simp [*, errW_none, errW_some] <;> rfl), by repeat (first | (with_reducible first | exact HB.out | apply below_alloc | apply pw_below_drewN | apply below_drew1) | exact HB.out)⟩
                          · replace c26 := Bool.eq_false_iff.mpr c26
                            subst c26
                            have H1 : (laws_FnPOSSays.l1 kj21 l0 l0 (l0.length : Int) x36_2 (rd_L1 l0 x36_2) ((rd_L1 l0 x36_2).length : Int) 0) = some r := by rw [if_neg (show ¬ (false = true) by decide)] at H; exact H
                            clear H
                            have H := H1
                            clear H1
                            have H' := Aside0.mk H
                            clear H
                            go_wp2
                            repeat (go_quiet (fail); try go_wp2)
                            go_loopg [50] kj21 (fun kq v50 w' => ∃ (x50_4 : Int), v50 = .int .i64 x50_4 ∧ Aside0 (laws_FnPOSSays.l1 kq l0 l0 (l0.length : Int) x36_2 (rd_L1 l0 x36_2) ((rd_L1 l0 x36_2).length : Int) x50_4 = some r) ∧ Aside0 (kq ≤ kj21) ∧ Aside0 (Below w.heap.size w w'))
                            case atStart => exact ⟨(0), (by first | rfl | (simp; done) | (simp [*]; done)), H', ⟨Nat.le_refl _⟩, ⟨by repeat (first | (with_reducible first | exact HB.out | apply below_alloc | apply pw_below_drewN | apply below_drew1) | exact HB.out)⟩⟩
                            case round =>
                              clear H'
                              try clear c1
                              try clear p1
                              try clear q1
                              try clear hx1
                              try clear c2
                              try clear p2
                              try clear c3
                              try clear c4
                              try clear c13
                              try clear c13b0
                              try clear c13b1
                              try clear c17
                              try clear c18
                              try clear c18b0
                              try clear c18b1
                              try clear c19
                              try clear c19b0
                              try clear p19
                              try clear q19
                              try clear hx19
                              try clear c20
                              try clear c20b0
                              try clear c21
                              try clear c21b0
                              try clear c23
                              try clear c23b0
                              try clear c23b1
                              try clear c26
                              try clear hx199_0
                              try clear p1
                              try clear p19
                              try clear p199
                              try clear p2
                              try clear q1
                              try clear q19
                              try clear q199
                              obtain ⟨x50_4, rfl, HA, HK4, HB⟩ := hrel
                              cases gk with
                              | zero => exact absurd HA.out (by simp [laws_FnPOSSays.l1])
                              | succ k4 =>
                                have H := HA.out
                                clear HA
                                simp only [laws_FnPOSSays.l1] at H
                                by_cases c27 : x50_4 < ((rd_L1 l0 x36_2).length : Int)
                                · rw [if_pos c27] at H
                                  have c27b0 : decide (x50_4 < ((rd_L1 l0 x36_2).length : Int)) = true := decide_eq_true c27
                                  clear c27
                                  by_cases c28 : 0 ≤ x50_4
                                  · rw [if_pos c28] at H
                                    have c28b0 : decide (0 ≤ x50_4) = true := decide_eq_true c28
                                    clear c28
                                    by_cases c29 : x50_4 < ((rd_L1 l0 x36_2).length : Int)
                                    · rw [if_pos c29] at H
                                      have c29b0 : decide (x50_4 < ((rd_L1 l0 x36_2).length : Int)) = true := decide_eq_true c29
                                      clear c29
                                      by_cases c30 : (rdOf ByteArray.empty (rd_L1 l0 x36_2) x50_4).toList = ([] : List UInt8)
                                      · rw [if_pos c30] at H
                                        have c30b0 : ((rdOf ByteArray.empty (rd_L1 l0 x36_2) x50_4).toList == ([] : List UInt8)) = true := beq_iff_eq.mpr c30
                                        have c30b1 : ((rdOf ByteArray.empty (rd_L1 l0 x36_2) x50_4).toList != ([] : List UInt8)) = false := bne_eq_false_iff_eq.mpr c30
                                        clear c30
                                        obtain rfl := Option.some.inj H
                                        have p201 : 0 ≤ (x50_4 : Int) := of_decide_eq_true (by first | (with_reducible assumption) | assumption)
                                        have q201 : x50_4 < ((rd_L1 l0 x36_2).length : Int) := of_decide_eq_true (by first | (with_reducible assumption) | assumption)
                                        obtain ⟨ad201, e201, hx201_0⟩ := Kd.at_string HR199_0.out x50_4 p201 q201
                                        cases e201
                                        replace hx201_0 := (HB.out.cell (World.block_lt_of_cell? w _ hx201_0)).trans hx201_0
                                        replace p201 := eq_true p201
                                        replace q201 := eq_true q201
                                        go_wp2
                                        repeat (go_quiet (fail); try go_wp2)
                                        go_ret
                                        exact ⟨by first | rfl | (simp [errW_none, errW_some] <;> rfl) | (simp [*, errW_none, errW_some] <;> rfl), by repeat (first | (with_reducible first | exact HB.out | apply below_alloc | apply pw_below_drewN | apply below_drew1) | exact HB.out)⟩
                                      · rw [if_neg c30] at H
                                        have c30b0 : ((rdOf ByteArray.empty (rd_L1 l0 x36_2) x50_4).toList == ([] : List UInt8)) = false := beq_eq_false_iff_ne.mpr c30
                                        have c30b1 : ((rdOf ByteArray.empty (rd_L1 l0 x36_2) x50_4).toList != ([] : List UInt8)) = true := bne_iff_ne.mpr c30
                                        have H' := Aside0.mk H
                                        clear H
                                        have p201 : 0 ≤ (x50_4 : Int) := of_decide_eq_true (by first | (with_reducible assumption) | assumption)
                                        have q201 : x50_4 < ((rd_L1 l0 x36_2).length : Int) := of_decide_eq_true (by first | (with_reducible assumption) | assumption)
                                        obtain ⟨ad201, e201, hx201_0⟩ := Kd.at_string HR199_0.out x50_4 p201 q201
                                        cases e201
                                        replace hx201_0 := (HB.out.cell (World.block_lt_of_cell? w _ hx201_0)).trans hx201_0
                                        replace p201 := eq_true p201
                                        replace q201 := eq_true q201
                                        go_wp2
                                        repeat (go_quiet (fail); try go_wp2)
                                        go_roundg k4
                                        case measure => have := HJ4.out; have := HK2.out; have := HJ21.out; have := HK4.out; omega
                                        case rel => exact ⟨(wrap64 (x50_4 + 1)), (by first | rfl | (simp; done) | (simp [*]; done)), H', ⟨by have := HJ4.out; have := HK2.out; have := HJ21.out; have := HK4.out; omega⟩, ⟨by repeat (first | (with_reducible first | exact HB.out | apply below_alloc | apply pw_below_drewN | apply below_drew1) | exact HB.out)⟩⟩
                                    · rw [if_neg c29] at H
                                      exact absurd H (by simp)
                                  · rw [if_neg c28] at H
                                    exact absurd H (by simp)
                                · rw [if_neg c27] at H
                                  have c27b0 : decide (x50_4 < ((rd_L1 l0 x36_2).length : Int)) = false := decide_eq_false c27
                                  clear c27
                                  have H' := Aside0.mk H
                                  clear H
                                  go_wp2
                                  repeat (go_quiet (fail); try go_wp2)
                                  go_roundg k4
                                  case measure => have := HJ4.out; have := HK2.out; have := HJ21.out; have := HK4.out; omega
                                  case rel => exact ⟨(wrap64 (x36_2 + 1)), (by first | rfl | (simp; done) | (simp [*]; done)), H', ⟨by have := HJ4.out; have := HK2.out; have := HJ21.out; have := HK4.out; omega⟩, ⟨by repeat (first | (with_reducible first | exact HB.out | apply below_alloc | apply pw_below_drewN | apply below_drew1) | exact HB.out)⟩⟩
                    · rw [if_neg c21] at H
                      exact absurd H (by simp)
                  · rw [if_neg c20] at H
                    exact absurd H (by simp)
                · rw [if_neg c19] at H
                  have c19b0 : decide (x36_2 < (l0.length : Int)) = false := decide_eq_false c19
                  clear c19
                  replace H := Option.bind_eq_some_iff.mp H
                  obtain ⟨⟨t202, t203⟩, A310, H⟩ := H
                  replace H : ((spec_POSIDs.f k2 l0).bind fun bt208 => (if (t202.length : Int) = (bt208.1.length : Int) then ((laws_sameTexts.f k2 t203 bt208.2).bind fun t214 => (laws_FnPOSSays.j4 k2 t202 bt208.1 (!t214))) else (laws_FnPOSSays.j4 k2 t202 bt208.1 true))) = some r := H
                  have A31 := Aside0.mk A310
                  clear A310
                  replace H := Option.bind_eq_some_iff.mp H
                  obtain ⟨⟨t208, t209⟩, A320, H⟩ := H
                  replace H : (if (t202.length : Int) = (t208.length : Int) then ((laws_sameTexts.f k2 t203 t209).bind fun t214 => (laws_FnPOSSays.j4 k2 t202 t208 (!t214))) else (laws_FnPOSSays.j4 k2 t202 t208 true)) = some r := H
                  have A32 := Aside0.mk A320
                  clear A320
                  have HC33 := Aside0.mk H
                  clear H
                  go_upto_region 22 with (first | (go_at_call 10; (with_reducible refine (impl_POSIDs.calls _ _ l0 t202 t203 _ ?side1 ?side2 A31.out).mono ?_); (case side1 => repeat (first | exact (Kd.C_below HR0.out HB.out) | (with_reducible refine Kd.C_alloc ?_ _) | (with_reducible refine Kd.C_drewN ?_ _) | (with_reducible refine Kd.C_drew ?_))); (case side2 => exact HC0.out); rintro e w34 ⟨v204, v206, rfl, ho0, ho1, hb⟩; have n0_ := Aside0.mk (Kd.N_lower (Kd.N_mono (ok' := fun k_ => some k_ ≠ (v206 : Value).ownBlock) (Kd.S_N (Kd.S_bound (Kd.S_apart' ho0 (Kd.R_typed ho1) (by decide)))) (fun k_ hk_ => hk_.1.2)) (below_size (by repeat (first | (with_reducible first | exact HB.out | apply below_alloc | apply pw_below_drewN | apply below_drew1) | exact HB.out)))); have n1_ := Aside0.mk (Kd.R_lower ho1 (below_size (by repeat (first | (with_reducible first | exact HB.out | apply below_alloc | apply pw_below_drewN | apply below_drew1) | exact HB.out)))); have n2_ := Aside0.mk (below_step (by repeat (first | (with_reducible first | exact HB.out | apply below_alloc | apply pw_below_drewN | apply below_drew1) | exact HB.out)) hb); clear HB; have HO205 := n0_; have HO207 := n1_; have HB := n2_; clear n0_ n1_ n2_; (try clear hb); (try clear hb2); (try clear hk); (try clear hi); (try clear ho0); (try clear ho1)) | (go_at_call 12; (with_reducible refine (spec_POSIDs.calls k2 _ _ l0 t208 t209 _ ?side1 ?side2 A32.out).mono ?_); (case side1 => repeat (first | exact (Kd.C_below HR0.out HB.out) | (with_reducible refine Kd.C_alloc ?_ _) | (with_reducible refine Kd.C_drewN ?_ _) | (with_reducible refine Kd.C_drew ?_))); (case side2 => exact HC0.out); rintro e w35 ⟨v210, v212, rfl, ho0, ho1, hb⟩; have n0_ := Aside0.mk (Kd.N_mono (Kd.N_told (Kd.N_told (Kd.N_old (by (with_reducible repeat (first | apply Kd.N_alloc | apply Kd.N_drewN | apply Kd.N_drew)); exact HO205.out) hb) (by first | exact Kd.N_base ho0 | exact Kd.S_base ho0 | exact Kd.R_base ho0)) (by first | exact Kd.N_base ho1 | exact Kd.S_base ho1 | exact Kd.R_base ho1)) (fun _ h_ => h_.1)); have n1_ := Aside0.mk (Kd.R_elder' (by (with_reducible repeat (first | apply Kd.R_alloc | apply Kd.R_drewN | apply Kd.R_drew)); exact HO207.out) (by first | exact Kd.N_base ho1 | exact Kd.S_base ho1 | exact Kd.R_base ho1) hb); have n2_ := Aside0.mk (Kd.N_lower (Kd.N_mono (ok' := fun k_ => some k_ ≠ (v212 : Value).ownBlock ∧ some k_ ≠ (v204 : Value).ownBlock ∧ some k_ ≠ (v206 : Value).ownBlock) (Kd.S_N (Kd.S_bound (Kd.S_apart' ho0 (Kd.R_typed ho1) (by decide)))) (fun k_ hk_ => ⟨hk_.1.2, (Kd.fresh' (Kd.N_lt (by (with_reducible repeat (first | apply Kd.N_alloc | apply Kd.N_drewN | apply Kd.N_drew)); exact HO205.out)) k_ hk_.2.1), (Kd.fresh' (Kd.R_lt (by (with_reducible repeat (first | apply Kd.R_alloc | apply Kd.R_drewN | apply Kd.R_drew)); exact HO207.out)) k_ hk_.2.1)⟩)) (below_size (by repeat (first | (with_reducible first | exact HB.out | apply below_alloc | apply pw_below_drewN | apply below_drew1) | exact HB.out)))); have n3_ := Aside0.mk (Kd.R_lower (Kd.R_new' ho1 (Kd.R_lt (by (with_reducible repeat (first | apply Kd.R_alloc | apply Kd.R_drewN | apply Kd.R_drew)); exact HO207.out))) (below_size (by repeat (first | (with_reducible first | exact HB.out | apply below_alloc | apply pw_below_drewN | apply below_drew1) | exact HB.out)))); have n4_ := Aside0.mk (below_step (by repeat (first | (with_reducible first | exact HB.out | apply below_alloc | apply pw_below_drewN | apply below_drew1) | exact HB.out)) hb); clear HO205; clear HO207; clear HB; have HO205 := n0_; have HO207 := n1_; have HO211 := n2_; have HO213 := n3_; have HB := n4_; clear n0_ n1_ n2_ n3_ n4_; (try clear hb); (try clear hb2); (try clear hk); (try clear hi); (try clear ho0); (try clear ho1)))
                  repeat (go_quiet (first | (go_at_call 10; (with_reducible refine (impl_POSIDs.calls _ _ l0 t202 t203 _ ?side1 ?side2 A31.out).mono ?_); (case side1 => repeat (first | exact (Kd.C_below HR0.out HB.out) | (with_reducible refine Kd.C_alloc ?_ _) | (with_reducible refine Kd.C_drewN ?_ _) | (with_reducible refine Kd.C_drew ?_))); (case side2 => exact HC0.out); rintro e w34 ⟨v204, v206, rfl, ho0, ho1, hb⟩; have n0_ := Aside0.mk (Kd.N_lower (Kd.N_mono (ok' := fun k_ => some k_ ≠ (v206 : Value).ownBlock) (Kd.S_N (Kd.S_bound (Kd.S_apart' ho0 (Kd.R_typed ho1) (by decide)))) (fun k_ hk_ => hk_.1.2)) (below_size (by repeat (first | (with_reducible first | exact HB.out | apply below_alloc | apply pw_below_drewN | apply below_drew1) | exact HB.out)))); have n1_ := Aside0.mk (Kd.R_lower ho1 (below_size (by repeat (first | (with_reducible first | exact HB.out | apply below_alloc | apply pw_below_drewN | apply below_drew1) | exact HB.out)))); have n2_ := Aside0.mk (below_step (by repeat (first | (with_reducible first | exact HB.out | apply below_alloc | apply pw_below_drewN | apply below_drew1) | exact HB.out)) hb); clear HB; have HO205 := n0_; have HO207 := n1_; have HB := n2_; clear n0_ n1_ n2_; (try clear hb); (try clear hb2); (try clear hk); (try clear hi); (try clear ho0); (try clear ho1)) | (go_at_call 12; (with_reducible refine (spec_POSIDs.calls k2 _ _ l0 t208 t209 _ ?side1 ?side2 A32.out).mono ?_); (case side1 => repeat (first | exact (Kd.C_below HR0.out HB.out) | (with_reducible refine Kd.C_alloc ?_ _) | (with_reducible refine Kd.C_drewN ?_ _) | (with_reducible refine Kd.C_drew ?_))); (case side2 => exact HC0.out); rintro e w35 ⟨v210, v212, rfl, ho0, ho1, hb⟩; have n0_ := Aside0.mk (Kd.N_mono (Kd.N_told (Kd.N_told (Kd.N_old (by (with_reducible repeat (first | apply Kd.N_alloc | apply Kd.N_drewN | apply Kd.N_drew)); exact HO205.out) hb) (by first | exact Kd.N_base ho0 | exact Kd.S_base ho0 | exact Kd.R_base ho0)) (by first | exact Kd.N_base ho1 | exact Kd.S_base ho1 | exact Kd.R_base ho1)) (fun _ h_ => h_.1)); have n1_ := Aside0.mk (Kd.R_elder' (by (with_reducible repeat (first | apply Kd.R_alloc | apply Kd.R_drewN | apply Kd.R_drew)); exact HO207.out) (by first | exact Kd.N_base ho1 | exact Kd.S_base ho1 | exact Kd.R_base ho1) hb); have n2_ := Aside0.mk (Kd.N_lower (Kd.N_mono (ok' := fun k_ => some k_ ≠ (v212 : Value).ownBlock ∧ some k_ ≠ (v204 : Value).ownBlock ∧ some k_ ≠ (v206 : Value).ownBlock) (Kd.S_N (Kd.S_bound (Kd.S_apart' ho0 (Kd.R_typed ho1) (by decide)))) (fun k_ hk_ => ⟨hk_.1.2, (Kd.fresh' (Kd.N_lt (by (with_reducible repeat (first | apply Kd.N_alloc | apply Kd.N_drewN | apply Kd.N_drew)); exact HO205.out)) k_ hk_.2.1), (Kd.fresh' (Kd.R_lt (by (with_reducible repeat (first | apply Kd.R_alloc | apply Kd.R_drewN | apply Kd.R_drew)); exact HO207.out)) k_ hk_.2.1)⟩)) (below_size (by repeat (first | (with_reducible first | exact HB.out | apply below_alloc | apply pw_below_drewN | apply below_drew1) | exact HB.out)))); have n3_ := Aside0.mk (Kd.R_lower (Kd.R_new' ho1 (Kd.R_lt (by (with_reducible repeat (first | apply Kd.R_alloc | apply Kd.R_drewN | apply Kd.R_drew)); exact HO207.out))) (below_size (by repeat (first | (with_reducible first | exact HB.out | apply below_alloc | apply pw_below_drewN | apply below_drew1) | exact HB.out)))); have n4_ := Aside0.mk (below_step (by repeat (first | (with_reducible first | exact HB.out | apply below_alloc | apply pw_below_drewN | apply below_drew1) | exact HB.out)) hb); clear HO205; clear HO207; clear HB; have HO205 := n0_; have HO207 := n1_; have HO211 := n2_; have HO213 := n3_; have HB := n4_; clear n0_ n1_ n2_ n3_ n4_; (try clear hb); (try clear hb2); (try clear hk); (try clear hi); (try clear ho0); (try clear ho1))); go_upto_region 22 with (first | (go_at_call 10; (with_reducible refine (impl_POSIDs.calls _ _ l0 t202 t203 _ ?side1 ?side2 A31.out).mono ?_); (case side1 => repeat (first | exact (Kd.C_below HR0.out HB.out) | (with_reducible refine Kd.C_alloc ?_ _) | (with_reducible refine Kd.C_drewN ?_ _) | (with_reducible refine Kd.C_drew ?_))); (case side2 => exact HC0.out); rintro e w34 ⟨v204, v206, rfl, ho0, ho1, hb⟩; have n0_ := Aside0.mk (Kd.N_lower (Kd.N_mono (ok' := fun k_ => some k_ ≠ (v206 : Value).ownBlock) (Kd.S_N (Kd.S_bound (Kd.S_apart' ho0 (Kd.R_typed ho1) (by decide)))) (fun k_ hk_ => hk_.1.2)) (below_size (by repeat (first | (with_reducible first | exact HB.out | apply below_alloc | apply pw_below_drewN | apply below_drew1) | exact HB.out)))); have n1_ := Aside0.mk (Kd.R_lower ho1 (below_size (by repeat (first | (with_reducible first | exact HB.out | apply below_alloc | apply pw_below_drewN | apply below_drew1) | exact HB.out)))); have n2_ := Aside0.mk (below_step (by repeat (first | (with_reducible first | exact HB.out | apply below_alloc | apply pw_below_drewN | apply below_drew1) | exact HB.out)) hb); clear HB; have HO205 := n0_; have HO207 := n1_; have HB := n2_; clear n0_ n1_ n2_; (try clear hb); (try clear hb2); (try clear hk); (try clear hi); (try clear ho0); (try clear ho1)) | (go_at_call 12; (with_reducible refine (spec_POSIDs.calls k2 _ _ l0 t208 t209 _ ?side1 ?side2 A32.out).mono ?_); (case side1 => repeat (first | exact (Kd.C_below HR0.out HB.out) | (with_reducible refine Kd.C_alloc ?_ _) | (with_reducible refine Kd.C_drewN ?_ _) | (with_reducible refine Kd.C_drew ?_))); (case side2 => exact HC0.out); rintro e w35 ⟨v210, v212, rfl, ho0, ho1, hb⟩; have n0_ := Aside0.mk (Kd.N_mono (Kd.N_told (Kd.N_told (Kd.N_old (by (with_reducible repeat (first | apply Kd.N_alloc | apply Kd.N_drewN | apply Kd.N_drew)); exact HO205.out) hb) (by first | exact Kd.N_base ho0 | exact Kd.S_base ho0 | exact Kd.R_base ho0)) (by first | exact Kd.N_base ho1 | exact Kd.S_base ho1 | exact Kd.R_base ho1)) (fun _ h_ => h_.1)); have n1_ := Aside0.mk (Kd.R_elder' (by (with_reducible repeat (first | apply Kd.R_alloc | apply Kd.R_drewN | apply Kd.R_drew)); exact HO207.out) (by first | exact Kd.N_base ho1 | exact Kd.S_base ho1 | exact Kd.R_base ho1) hb); have n2_ := Aside0.mk (Kd.N_lower (Kd.N_mono (ok' := fun k_ => some k_ ≠ (v212 : Value).ownBlock ∧ some k_ ≠ (v204 : Value).ownBlock ∧ some k_ ≠ (v206 : Value).ownBlock) (Kd.S_N (Kd.S_bound (Kd.S_apart' ho0 (Kd.R_typed ho1) (by decide)))) (fun k_ hk_ => ⟨hk_.1.2, (Kd.fresh' (Kd.N_lt (by (with_reducible repeat (first | apply Kd.N_alloc | apply Kd.N_drewN | apply Kd.N_drew)); exact HO205.out)) k_ hk_.2.1), (Kd.fresh' (Kd.R_lt (by (with_reducible repeat (first | apply Kd.R_alloc | apply Kd.R_drewN | apply Kd.R_drew)); exact HO207.out)) k_ hk_.2.1)⟩)) (below_size (by repeat (first | (with_reducible first | exact HB.out | apply below_alloc | apply pw_below_drewN | apply below_drew1) | exact HB.out)))); have n3_ := Aside0.mk (Kd.R_lower (Kd.R_new' ho1 (Kd.R_lt (by (with_reducible repeat (first | apply Kd.R_alloc | apply Kd.R_drewN | apply Kd.R_drew)); exact HO207.out))) (below_size (by repeat (first | (with_reducible first | exact HB.out | apply below_alloc | apply pw_below_drewN | apply below_drew1) | exact HB.out)))); have n4_ := Aside0.mk (below_step (by repeat (first | (with_reducible first | exact HB.out | apply below_alloc | apply pw_below_drewN | apply below_drew1) | exact HB.out)) hb); clear HO205; clear HO207; clear HB; have HO205 := n0_; have HO207 := n1_; have HO211 := n2_; have HO213 := n3_; have HB := n4_; clear n0_ n1_ n2_ n3_ n4_; (try clear hb); (try clear hb2); (try clear hk); (try clear hi); (try clear ho0); (try clear ho1))))
                  (try simp only [Act.put, List.setIfInBounds_toArray, List.set_cons_zero, List.set_cons_succ])
                  go_cut [78] (fun v78 wc => ∃ (kq : Nat) (x78_32 : Bool), v78 = .bool x78_32 ∧ Aside0 (laws_FnPOSSays.j4 kq t202 t208 x78_32 = some r) ∧ Aside0 (kq ≤ k2) ∧ Aside0 (Kd.N (Kd.slice 3 (Kd.int .i64)) 28 wc w.heap.size (fun k_ => some k_ ≠ (v210 : Value).ownBlock) v204 t202) ∧ Aside0 (Kd.N (Kd.slice 3 (Kd.int .i64)) 28 wc w.heap.size (fun k_ => some k_ ≠ (v204 : Value).ownBlock) v210 t208) ∧ Aside0 (Below w.heap.size w wc))
                  case first =>
                    have H := HC33.out
                    clear HC33
                    by_cases c36 : (t202.length : Int) = (t208.length : Int)
                    · rw [if_pos c36] at H
                      have c36b0 : ((t202.length : Int) == (t208.length : Int)) = true := beq_iff_eq.mpr c36
                      have c36b1 : ((t202.length : Int) != (t208.length : Int)) = false := bne_eq_false_iff_eq.mpr c36
                      have c36b2 : (t202.length == t208.length) = true := by first | simpa using c36 | (simp at c36 ⊢; omega)
                      clear c36
                      (first | rw [c36b0] | (simp only [i64_w, i32_w]; rw [c36b0]) | skip)
                      replace H := Option.bind_eq_some_iff.mp H
                      obtain ⟨t214, A370, H⟩ := H
                      replace H : (laws_FnPOSSays.j4 k2 t202 t208 (!t214)) = some r := H
                      have A37 := Aside0.mk A370
                      clear A370
                      have H' := Aside0.mk H
                      clear H
                      obtain ⟨Ao38, co38, eo38⟩ := Kd.N_slice HO205.out
                      subst eo38
                      obtain ⟨Ao39, co39, eo39⟩ := Kd.N_slice HO211.out
                      subst eo39
                      obtain ⟨Ao40, co40, eo40⟩ := Kd.R_slice HO207.out
                      subst eo40
                      obtain ⟨Ao41, co41, eo41⟩ := Kd.R_slice HO213.out
                      subst eo41
                      go_wp2_with (first | (go_at_call 13; (with_reducible refine (laws_sameTexts.calls k2 _ _ t203 _ _ t209 t214 _ ?side1 ?side2 ?side3 ?side4 A37.out).mono ?_); (case side1 => repeat (first | exact (Kd.R_reads' HO207.out).2.2 | (with_reducible refine Kd.C_alloc ?_ _) | (with_reducible refine Kd.C_drewN ?_ _) | (with_reducible refine Kd.C_drew ?_))); (case side2 => exact (Kd.R_reads' HO207.out).2.1); (case side3 => repeat (first | exact (Kd.R_reads' HO213.out).2.2 | (with_reducible refine Kd.C_alloc ?_ _) | (with_reducible refine Kd.C_drewN ?_ _) | (with_reducible refine Kd.C_drew ?_))); (case side4 => exact (Kd.R_reads' HO213.out).2.1); rintro e w' ⟨rfl, ⟨nd, rfl⟩⟩; (try first | exact ⟨rfl, _, World.drewN_drewN _ _ _⟩ | exact ⟨rfl, _, Eq.trans (World.drewN_drewN _ _ _) (congrArg (World.drewN _) (Nat.add_assoc _ _ _))⟩)))
                      repeat (go_quiet (first | (go_at_call 13; (with_reducible refine (laws_sameTexts.calls k2 _ _ t203 _ _ t209 t214 _ ?side1 ?side2 ?side3 ?side4 A37.out).mono ?_); (case side1 => repeat (first | exact (Kd.R_reads' HO207.out).2.2 | (with_reducible refine Kd.C_alloc ?_ _) | (with_reducible refine Kd.C_drewN ?_ _) | (with_reducible refine Kd.C_drew ?_))); (case side2 => exact (Kd.R_reads' HO207.out).2.1); (case side3 => repeat (first | exact (Kd.R_reads' HO213.out).2.2 | (with_reducible refine Kd.C_alloc ?_ _) | (with_reducible refine Kd.C_drewN ?_ _) | (with_reducible refine Kd.C_drew ?_))); (case side4 => exact (Kd.R_reads' HO213.out).2.1); rintro e w' ⟨rfl, ⟨nd, rfl⟩⟩; (try first | exact ⟨rfl, _, World.drewN_drewN _ _ _⟩ | exact ⟨rfl, _, Eq.trans (World.drewN_drewN _ _ _) (congrArg (World.drewN _) (Nat.add_assoc _ _ _))⟩))); try go_wp2_with (first | (go_at_call 13; (with_reducible refine (laws_sameTexts.calls k2 _ _ t203 _ _ t209 t214 _ ?side1 ?side2 ?side3 ?side4 A37.out).mono ?_); (case side1 => repeat (first | exact (Kd.R_reads' HO207.out).2.2 | (with_reducible refine Kd.C_alloc ?_ _) | (with_reducible refine Kd.C_drewN ?_ _) | (with_reducible refine Kd.C_drew ?_))); (case side2 => exact (Kd.R_reads' HO207.out).2.1); (case side3 => repeat (first | exact (Kd.R_reads' HO213.out).2.2 | (with_reducible refine Kd.C_alloc ?_ _) | (with_reducible refine Kd.C_drewN ?_ _) | (with_reducible refine Kd.C_drew ?_))); (case side4 => exact (Kd.R_reads' HO213.out).2.1); rintro e w' ⟨rfl, ⟨nd, rfl⟩⟩; (try first | exact ⟨rfl, _, World.drewN_drewN _ _ _⟩ | exact ⟨rfl, _, Eq.trans (World.drewN_drewN _ _ _) (congrArg (World.drewN _) (Nat.add_assoc _ _ _))⟩))))
                      go_meet
                      case rel => exact ⟨_, (!t214), (by first | rfl | (simp; done) | (simp [*]; done)), H', ⟨by have := HJ4.out; have := HK2.out; first | omega | exact Nat.le_refl _⟩, ⟨by (with_reducible repeat (first | apply Kd.N_alloc | apply Kd.N_drewN | apply Kd.N_drew)); exact Kd.N_mono HO205.out (fun _ hk => hk.1.2)⟩, ⟨by (with_reducible repeat (first | apply Kd.N_alloc | apply Kd.N_drewN | apply Kd.N_drew)); exact Kd.N_mono HO211.out (fun _ hk => hk.2.1)⟩, ⟨by repeat (first | (with_reducible first | exact HB.out | apply below_alloc | apply pw_below_drewN | apply below_drew1) | exact HB.out)⟩⟩
                    · rw [if_neg c36] at H
                      have c36b0 : ((t202.length : Int) == (t208.length : Int)) = false := beq_eq_false_iff_ne.mpr c36
                      have c36b1 : ((t202.length : Int) != (t208.length : Int)) = true := bne_iff_ne.mpr c36
                      have c36b2 : (t202.length == t208.length) = false := by first | simpa using c36 | (simp at c36 ⊢; omega)
                      (first | rw [c36b0] | (simp only [i64_w, i32_w]; rw [c36b0]) | skip)
                      have H' := Aside0.mk H
                      clear H
                      obtain ⟨Ao42, co42, eo42⟩ := Kd.N_slice HO205.out
                      subst eo42
                      obtain ⟨Ao43, co43, eo43⟩ := Kd.N_slice HO211.out
                      subst eo43
                      go_wp2
                      repeat (go_quiet (fail); try go_wp2)
                      go_meet
                      case rel => exact ⟨_, (true), (by first | rfl | (simp; done) | (simp [*]; done)), H', ⟨by have := HJ4.out; have := HK2.out; first | omega | exact Nat.le_refl _⟩, ⟨by (with_reducible repeat (first | apply Kd.N_alloc | apply Kd.N_drewN | apply Kd.N_drew)); exact Kd.N_mono HO205.out (fun _ hk => hk.1.2)⟩, ⟨by (with_reducible repeat (first | apply Kd.N_alloc | apply Kd.N_drewN | apply Kd.N_drew)); exact Kd.N_mono HO211.out (fun _ hk => hk.2.1)⟩, ⟨by repeat (first | (with_reducible first | exact HB.out | apply below_alloc | apply pw_below_drewN | apply below_drew1) | exact HB.out)⟩⟩
                  case rest =>
                    clear HC33
                    try clear c1
                    try clear p1
                    try clear q1
                    try clear hx1
                    try clear c2
                    try clear p2
                    try clear q2
                    try clear hx2
                    try clear c3
                    try clear c4
                    try clear p6
                    try clear c13
                    try clear c13b0
                    try clear c13b1
                    try clear c17
                    try clear c18
                    try clear c18b0
                    try clear c18b1
                    try clear c19
                    try clear c19b0
                    try clear p19
                    try clear q19
                    try clear hx19
                    try clear c20
                    try clear c20b0
                    try clear p20
                    try clear q20
                    try clear hx20
                    try clear c21
                    try clear c21b0
                    try clear c23
                    try clear c23b0
                    try clear c23b1
                    try clear c26
                    try clear c27
                    try clear c27b0
                    try clear c28
                    try clear c28b0
                    try clear c29
                    try clear c29b0
                    try clear c30
                    try clear c30b0
                    try clear c30b1
                    try clear c36
                    try clear c36b0
                    try clear c36b1
                    try clear c36b2
                    try clear hx199_0
                    try clear hx201_0
                    try clear p1
                    try clear p19
                    try clear p199
                    try clear p2
                    try clear p201
                    try clear q1
                    try clear q19
                    try clear q199
                    try clear q201
                    obtain ⟨kq, x78_32, rfl, HA, HJ32, HO_9, HO_11, HB⟩ := hcut
                    cases kq with
                    | zero => exact absurd HA.out (by simp [laws_FnPOSSays.j4])
                    | succ kj32 =>
                      have H := HA.out
                      clear HA
                      simp only [laws_FnPOSSays.j4] at H
                      by_cases c44 : x78_32 = true
                      · subst c44
                        have H1 : (some false) = some r := by rw [if_pos rfl] at H; exact H
                        clear H
                        have H := H1
                        clear H1
                        obtain rfl := Option.some.inj H
                        go_wp2
                        repeat (go_quiet (fail); try go_wp2)
                        go_ret
                        exact ⟨by first | rfl | (simp [errW_none, errW_some] <;> rfl) | (simp [*, errW_none, errW_some] <;> rfl), by repeat (first | (with_reducible first | exact HB.out | apply below_alloc | apply pw_below_drewN | apply below_drew1) | exact HB.out)⟩
                      · replace c44 := Bool.eq_false_iff.mpr c44
                        subst c44
                        have H1 : (laws_FnPOSSays.l2 kj32 t202 t208 (t202.length : Int) 0) = some r := by rw [if_neg (show ¬ (false = true) by decide)] at H; exact H
                        clear H
                        have H := H1
                        clear H1
                        have H' := Aside0.mk H
                        clear H
                        obtain ⟨Ao45, co45, eo45⟩ := Kd.N_slice HO_9.out
                        subst eo45
                        go_wp2
                        repeat (go_quiet (fail); try go_wp2)
                        go_loopg [81] kj32 (fun kq v81 w' => ∃ (x81_4 : Int), v81 = .int .i64 x81_4 ∧ Aside0 (laws_FnPOSSays.l2 kq t202 t208 (t202.length : Int) x81_4 = some r) ∧ Aside0 (kq ≤ kj32) ∧ Aside0 (Kd.N (Kd.slice 3 (Kd.int .i64)) 28 w' w.heap.size (fun k_ => some k_ ≠ (v210 : Value).ownBlock) (.slice Ao45 t202.length co45) t202) ∧ Aside0 (Kd.N (Kd.slice 3 (Kd.int .i64)) 28 w' w.heap.size (fun k_ => some k_ ≠ ((.slice Ao45 t202.length co45) : Value).ownBlock) v210 t208) ∧ Aside0 (Below w.heap.size w w'))
                        case atStart => exact ⟨(0), (by first | rfl | (simp; done) | (simp [*]; done)), H', ⟨Nat.le_refl _⟩, ⟨by (with_reducible repeat (first | apply Kd.N_alloc | apply Kd.N_drewN | apply Kd.N_drew)); exact HO_9.out⟩, ⟨by (with_reducible repeat (first | apply Kd.N_alloc | apply Kd.N_drewN | apply Kd.N_drew)); exact HO_11.out⟩, ⟨by repeat (first | (with_reducible first | exact HB.out | apply below_alloc | apply pw_below_drewN | apply below_drew1) | exact HB.out)⟩⟩
                        case round =>
                          clear H'
                          try clear c1
                          try clear p1
                          try clear q1
                          try clear hx1
                          try clear c2
                          try clear p2
                          try clear q2
                          try clear hx2
                          try clear c3
                          try clear c4
                          try clear p6
                          try clear c13
                          try clear c13b0
                          try clear c13b1
                          try clear c17
                          try clear c18
                          try clear c18b0
                          try clear c18b1
                          try clear c19
                          try clear c19b0
                          try clear p19
                          try clear q19
                          try clear hx19
                          try clear c20
                          try clear c20b0
                          try clear p20
                          try clear q20
                          try clear hx20
                          try clear c21
                          try clear c21b0
                          try clear c23
                          try clear c23b0
                          try clear c23b1
                          try clear c26
                          try clear c27
                          try clear c27b0
                          try clear c28
                          try clear c28b0
                          try clear c29
                          try clear c29b0
                          try clear c30
                          try clear c30b0
                          try clear c30b1
                          try clear c36
                          try clear c36b0
                          try clear c36b1
                          try clear c36b2
                          try clear c44
                          try clear hx199_0
                          try clear hx201_0
                          try clear p1
                          try clear p19
                          try clear p199
                          try clear p2
                          try clear p20
                          try clear p201
                          try clear p6
                          try clear q1
                          try clear q19
                          try clear q199
                          try clear q2
                          try clear q20
                          try clear q201
                          obtain ⟨x81_4, rfl, HA, HK4, HO_9, HO_11, HB⟩ := hrel
                          cases gk with
                          | zero => exact absurd HA.out (by simp [laws_FnPOSSays.l2])
                          | succ k4 =>
                            have H := HA.out
                            clear HA
                            simp only [laws_FnPOSSays.l2] at H
                            by_cases c46 : x81_4 < (t202.length : Int)
                            · rw [if_pos c46] at H
                              have c46b0 : decide (x81_4 < (t202.length : Int)) = true := decide_eq_true c46
                              clear c46
                              by_cases c47 : 0 ≤ x81_4
                              · rw [if_pos c47] at H
                                have c47b0 : decide (0 ≤ x81_4) = true := decide_eq_true c47
                                clear c47
                                by_cases c48 : x81_4 < (t202.length : Int)
                                · rw [if_pos c48] at H
                                  have c48b0 : decide (x81_4 < (t202.length : Int)) = true := decide_eq_true c48
                                  clear c48
                                  by_cases c49 : x81_4 < (t208.length : Int)
                                  · rw [if_pos c49] at H
                                    have c49b0 : decide (x81_4 < (t208.length : Int)) = true := decide_eq_true c49
                                    clear c49
                                    replace H := Option.bind_eq_some_iff.mp H
                                    obtain ⟨t217, A500, H⟩ := H
                                    replace H : (if t217 = true then (laws_FnPOSSays.l2 k4 t202 t208 (t202.length : Int) (wrap64 (x81_4 + 1))) else (some false)) = some r := H
                                    have A50 := Aside0.mk A500
                                    clear A500
                                    by_cases c51 : t217 = true
                                    · subst c51
                                      have H1 : (laws_FnPOSSays.l2 k4 t202 t208 (t202.length : Int) (wrap64 (x81_4 + 1))) = some r := by rw [if_pos rfl] at H; exact H
                                      clear H
                                      have H := H1
                                      clear H1
                                      have H' := Aside0.mk H
                                      clear H
                                      have p215 : 0 ≤ (x81_4 : Int) := of_decide_eq_true (by first | (with_reducible assumption) | assumption)
                                      have q215 : x81_4 < (t202.length : Int) := of_decide_eq_true (by first | (with_reducible assumption) | assumption)
                                      obtain ⟨ad215, A215_0, c215_0, e215, hx215_0, hl215_0, hi215_0⟩ := at_L4 (Kd.N_reads' HO_9.out).2.2 x81_4 p215 q215
                                      cases e215
                                      obtain ⟨ce215, hce215, hMe215, hcc215⟩ := Kd.N_get HO_9.out [] x81_4 p215 (by first | exact q215 | exact of_decide_eq_true (by first | (with_reducible assumption) | assumption) | (have e_ := (Kd.N_reads' HO_9.out).1; omega))
                                      obtain ⟨ua215_0, uc215_0, rfl, ul215_0, ge215_0⟩ := Kd.FK_slice_open hMe215
                                      have hv215_0 := hcc215 0 _ rfl
                                      rw [Nat.add_zero, show ((Kd.slice 3 (Kd.int .i64))).sz = 1 from rfl, Nat.mul_one] at hv215_0
                                      replace hv215_0 := Option.some.inj (hv215_0.symm.trans hx215_0)
                                      injection hv215_0 with hva_ hvn_ hvc_
                                      rw [hva_] at ge215_0
                                      rw [hvc_] at ul215_0
                                      have HL215_0 := Aside0.mk (show Kd.V (Kd.int .i64) 3 _ w.heap.size _ _ (rd_L4 t202 x81_4) from Kd.V_mk ul215_0 ge215_0)
                                      clear hva_ hvn_ hvc_ ge215_0 ul215_0
                                      clear hcc215 hce215
                                      have HR215_0 := Aside0.mk hi215_0
                                      have HC215_0 := Aside0.mk hl215_0
                                      clear hi215_0 hl215_0
                                      replace p215 := eq_true p215
                                      replace q215 := eq_true q215
                                      obtain ⟨Ao52, co52, eo52⟩ := Kd.N_slice HO_11.out
                                      subst eo52
                                      have p216 : 0 ≤ (x81_4 : Int) := of_decide_eq_true (by first | (with_reducible assumption) | assumption)
                                      have q216 : x81_4 < (t208.length : Int) := of_decide_eq_true (by first | (with_reducible assumption) | assumption)
                                      obtain ⟨ad216, A216_0, c216_0, e216, hx216_0, hl216_0, hi216_0⟩ := at_L4 (Kd.N_reads' HO_11.out).2.2 x81_4 p216 q216
                                      cases e216
                                      obtain ⟨ce216, hce216, hMe216, hcc216⟩ := Kd.N_get HO_11.out [] x81_4 p216 (by first | exact q216 | exact of_decide_eq_true (by first | (with_reducible assumption) | assumption) | (have e_ := (Kd.N_reads' HO_11.out).1; omega))
                                      obtain ⟨ua216_0, uc216_0, rfl, ul216_0, ge216_0⟩ := Kd.FK_slice_open hMe216
                                      have hv216_0 := hcc216 0 _ rfl
                                      rw [Nat.add_zero, show ((Kd.slice 3 (Kd.int .i64))).sz = 1 from rfl, Nat.mul_one] at hv216_0
                                      replace hv216_0 := Option.some.inj (hv216_0.symm.trans hx216_0)
                                      injection hv216_0 with hva_ hvn_ hvc_
                                      rw [hva_] at ge216_0
                                      rw [hvc_] at ul216_0
                                      have HL216_0 := Aside0.mk (show Kd.V (Kd.int .i64) 3 _ w.heap.size _ _ (rd_L4 t208 x81_4) from Kd.V_mk ul216_0 ge216_0)
                                      clear hva_ hvn_ hvc_ ge216_0 ul216_0
                                      clear hcc216 hce216
                                      have HR216_0 := Aside0.mk hi216_0
                                      have HC216_0 := Aside0.mk hl216_0
                                      clear hi216_0 hl216_0
                                      replace p216 := eq_true p216
                                      replace q216 := eq_true q216
                                      go_wp2_with (first | (go_at_call 14; (with_reducible refine (laws_sameInts.calls k4 _ _ (rd_L4 t202 x81_4) _ _ (rd_L4 t208 x81_4) true _ ?side1 ?side2 ?side3 ?side4 A50.out).mono ?_); (case side1 => repeat (first | exact (by repeat (first | (with_reducible exact HR215_0.out) | (with_reducible refine Kd.C_alloc ?_ _) | (with_reducible refine Kd.C_drewN ?_ _) | (with_reducible refine Kd.C_drew ?_) | exact HR215_0.out)) | (with_reducible refine Kd.C_alloc ?_ _) | (with_reducible refine Kd.C_drewN ?_ _) | (with_reducible refine Kd.C_drew ?_))); (case side2 => exact HC215_0.out); (case side3 => repeat (first | exact (by repeat (first | (with_reducible exact HR216_0.out) | (with_reducible refine Kd.C_alloc ?_ _) | (with_reducible refine Kd.C_drewN ?_ _) | (with_reducible refine Kd.C_drew ?_) | exact HR216_0.out)) | (with_reducible refine Kd.C_alloc ?_ _) | (with_reducible refine Kd.C_drewN ?_ _) | (with_reducible refine Kd.C_drew ?_))); (case side4 => exact HC216_0.out); rintro e w' ⟨rfl, ⟨nd, rfl⟩⟩; (try first | exact ⟨rfl, _, World.drewN_drewN _ _ _⟩ | exact ⟨rfl, _, Eq.trans (World.drewN_drewN _ _ _) (congrArg (World.drewN _) (Nat.add_assoc _ _ _))⟩)))
                                      repeat (go_quiet (first | (go_at_call 14; (with_reducible refine (laws_sameInts.calls k4 _ _ (rd_L4 t202 x81_4) _ _ (rd_L4 t208 x81_4) true _ ?side1 ?side2 ?side3 ?side4 A50.out).mono ?_); (case side1 => repeat (first | exact (by repeat (first | (with_reducible exact HR215_0.out) | (with_reducible refine Kd.C_alloc ?_ _) | (with_reducible refine Kd.C_drewN ?_ _) | (with_reducible refine Kd.C_drew ?_) | exact HR215_0.out)) | (with_reducible refine Kd.C_alloc ?_ _) | (with_reducible refine Kd.C_drewN ?_ _) | (with_reducible refine Kd.C_drew ?_))); (case side2 => exact HC215_0.out); (case side3 => repeat (first | exact (by repeat (first | (with_reducible exact HR216_0.out) | (with_reducible refine Kd.C_alloc ?_ _) | (with_reducible refine Kd.C_drewN ?_ _) | (with_reducible refine Kd.C_drew ?_) | exact HR216_0.out)) | (with_reducible refine Kd.C_alloc ?_ _) | (with_reducible refine Kd.C_drewN ?_ _) | (with_reducible refine Kd.C_drew ?_))); (case side4 => exact HC216_0.out); rintro e w' ⟨rfl, ⟨nd, rfl⟩⟩; (try first | exact ⟨rfl, _, World.drewN_drewN _ _ _⟩ | exact ⟨rfl, _, Eq.trans (World.drewN_drewN _ _ _) (congrArg (World.drewN _) (Nat.add_assoc _ _ _))⟩))); try go_wp2_with (first | (go_at_call 14; (with_reducible refine (laws_sameInts.calls k4 _ _ (rd_L4 t202 x81_4) _ _ (rd_L4 t208 x81_4) true _ ?side1 ?side2 ?side3 ?side4 A50.out).mono ?_); (case side1 => repeat (first | exact (by repeat (first | (with_reducible exact HR215_0.out) | (with_reducible refine Kd.C_alloc ?_ _) | (with_reducible refine Kd.C_drewN ?_ _) | (with_reducible refine Kd.C_drew ?_) | exact HR215_0.out)) | (with_reducible refine Kd.C_alloc ?_ _) | (with_reducible refine Kd.C_drewN ?_ _) | (with_reducible refine Kd.C_drew ?_))); (case side2 => exact HC215_0.out); (case side3 => repeat (first | exact (by repeat (first | (with_reducible exact HR216_0.out) | (with_reducible refine Kd.C_alloc ?_ _) | (with_reducible refine Kd.C_drewN ?_ _) | (with_reducible refine Kd.C_drew ?_) | exact HR216_0.out)) | (with_reducible refine Kd.C_alloc ?_ _) | (with_reducible refine Kd.C_drewN ?_ _) | (with_reducible refine Kd.C_drew ?_))); (case side4 => exact HC216_0.out); rintro e w' ⟨rfl, ⟨nd, rfl⟩⟩; (try first | exact ⟨rfl, _, World.drewN_drewN _ _ _⟩ | exact ⟨rfl, _, Eq.trans (World.drewN_drewN _ _ _) (congrArg (World.drewN _) (Nat.add_assoc _ _ _))⟩))))
                                      go_roundg k4
                                      case measure => have := HJ4.out; have := HK2.out; have := HJ32.out; have := HK4.out; omega
                                      case rel => exact ⟨(wrap64 (x81_4 + 1)), (by first | rfl | (simp; done) | (simp [*]; done)), H', ⟨by have := HJ4.out; have := HK2.out; have := HJ32.out; have := HK4.out; omega⟩, ⟨by (with_reducible repeat (first | apply Kd.N_alloc | apply Kd.N_drewN | apply Kd.N_drew)); exact HO_9.out⟩, ⟨by (with_reducible repeat (first | apply Kd.N_alloc | apply Kd.N_drewN | apply Kd.N_drew)); exact HO_11.out⟩, ⟨by repeat (first | (with_reducible first | exact HB.out | apply below_alloc | apply pw_below_drewN | apply below_drew1) | exact HB.out)⟩⟩
                                    · replace c51 := Bool.eq_false_iff.mpr c51
                                      subst c51
                                      have H1 : (some false) = some r := by rw [if_neg (show ¬ (false = true) by decide)] at H; exact H
                                      clear H
                                      have H := H1
                                      clear H1
                                      obtain rfl := Option.some.inj H
                                      have p215 : 0 ≤ (x81_4 : Int) := of_decide_eq_true (by first | (with_reducible assumption) | assumption)
                                      have q215 : x81_4 < (t202.length : Int) := of_decide_eq_true (by first | (with_reducible assumption) | assumption)
                                      obtain ⟨ad215, A215_0, c215_0, e215, hx215_0, hl215_0, hi215_0⟩ := at_L4 (Kd.N_reads' HO_9.out).2.2 x81_4 p215 q215
                                      cases e215
                                      obtain ⟨ce215, hce215, hMe215, hcc215⟩ := Kd.N_get HO_9.out [] x81_4 p215 (by first | exact q215 | exact of_decide_eq_true (by first | (with_reducible assumption) | assumption) | (have e_ := (Kd.N_reads' HO_9.out).1; omega))
                                      obtain ⟨ua215_0, uc215_0, rfl, ul215_0, ge215_0⟩ := Kd.FK_slice_open hMe215
                                      have hv215_0 := hcc215 0 _ rfl
                                      rw [Nat.add_zero, show ((Kd.slice 3 (Kd.int .i64))).sz = 1 from rfl, Nat.mul_one] at hv215_0
                                      replace hv215_0 := Option.some.inj (hv215_0.symm.trans hx215_0)
                                      injection hv215_0 with hva_ hvn_ hvc_
                                      rw [hva_] at ge215_0
                                      rw [hvc_] at ul215_0
                                      have HL215_0 := Aside0.mk (show Kd.V (Kd.int .i64) 3 _ w.heap.size _ _ (rd_L4 t202 x81_4) from Kd.V_mk ul215_0 ge215_0)
                                      clear hva_ hvn_ hvc_ ge215_0 ul215_0
                                      clear hcc215 hce215
                                      have HR215_0 := Aside0.mk hi215_0
                                      have HC215_0 := Aside0.mk hl215_0
                                      clear hi215_0 hl215_0
                                      replace p215 := eq_true p215
                                      replace q215 := eq_true q215
                                      obtain ⟨Ao53, co53, eo53⟩ := Kd.N_slice HO_11.out
                                      subst eo53
                                      have p216 : 0 ≤ (x81_4 : Int) := of_decide_eq_true (by first | (with_reducible assumption) | assumption)
                                      have q216 : x81_4 < (t208.length : Int) := of_decide_eq_true (by first | (with_reducible assumption) | assumption)
                                      obtain ⟨ad216, A216_0, c216_0, e216, hx216_0, hl216_0, hi216_0⟩ := at_L4 (Kd.N_reads' HO_11.out).2.2 x81_4 p216 q216
                                      cases e216
                                      obtain ⟨ce216, hce216, hMe216, hcc216⟩ := Kd.N_get HO_11.out [] x81_4 p216 (by first | exact q216 | exact of_decide_eq_true (by first | (with_reducible assumption) | assumption) | (have e_ := (Kd.N_reads' HO_11.out).1; omega))
                                      obtain ⟨ua216_0, uc216_0, rfl, ul216_0, ge216_0⟩ := Kd.FK_slice_open hMe216
                                      have hv216_0 := hcc216 0 _ rfl
                                      rw [Nat.add_zero, show ((Kd.slice 3 (Kd.int .i64))).sz = 1 from rfl, Nat.mul_one] at hv216_0
                                      replace hv216_0 := Option.some.inj (hv216_0.symm.trans hx216_0)
                                      injection hv216_0 with hva_ hvn_ hvc_
                                      rw [hva_] at ge216_0
                                      rw [hvc_] at ul216_0
                                      have HL216_0 := Aside0.mk (show Kd.V (Kd.int .i64) 3 _ w.heap.size _ _ (rd_L4 t208 x81_4) from Kd.V_mk ul216_0 ge216_0)
                                      clear hva_ hvn_ hvc_ ge216_0 ul216_0
                                      clear hcc216 hce216
                                      have HR216_0 := Aside0.mk hi216_0
                                      have HC216_0 := Aside0.mk hl216_0
                                      clear hi216_0 hl216_0
                                      replace p216 := eq_true p216
                                      replace q216 := eq_true q216
                                      go_wp2_with (first | (go_at_call 14; (with_reducible refine (laws_sameInts.calls k4 _ _ (rd_L4 t202 x81_4) _ _ (rd_L4 t208 x81_4) false _ ?side1 ?side2 ?side3 ?side4 A50.out).mono ?_); (case side1 => repeat (first | exact (by repeat (first | (with_reducible exact HR215_0.out) | (with_reducible refine Kd.C_alloc ?_ _) | (with_reducible refine Kd.C_drewN ?_ _) | (with_reducible refine Kd.C_drew ?_) | exact HR215_0.out)) | (with_reducible refine Kd.C_alloc ?_ _) | (with_reducible refine Kd.C_drewN ?_ _) | (with_reducible refine Kd.C_drew ?_))); (case side2 => exact HC215_0.out); (case side3 => repeat (first | exact (by repeat (first | (with_reducible exact HR216_0.out) | (with_reducible refine Kd.C_alloc ?_ _) | (with_reducible refine Kd.C_drewN ?_ _) | (with_reducible refine Kd.C_drew ?_) | exact HR216_0.out)) | (with_reducible refine Kd.C_alloc ?_ _) | (with_reducible refine Kd.C_drewN ?_ _) | (with_reducible refine Kd.C_drew ?_))); (case side4 => exact HC216_0.out); rintro e w' ⟨rfl, ⟨nd, rfl⟩⟩; (try first | exact ⟨rfl, _, World.drewN_drewN _ _ _⟩ | exact ⟨rfl, _, Eq.trans (World.drewN_drewN _ _ _) (congrArg (World.drewN _) (Nat.add_assoc _ _ _))⟩)))
                                      repeat (go_quiet (first | (go_at_call 14; (with_reducible refine (laws_sameInts.calls k4 _ _ (rd_L4 t202 x81_4) _ _ (rd_L4 t208 x81_4) false _ ?side1 ?side2 ?side3 ?side4 A50.out).mono ?_); (case side1 => repeat (first | exact (by repeat (first | (with_reducible exact HR215_0.out) | (with_reducible refine Kd.C_alloc ?_ _) | (with_reducible refine Kd.C_drewN ?_ _) | (with_reducible refine Kd.C_drew ?_) | exact HR215_0.out)) | (with_reducible refine Kd.C_alloc ?_ _) | (with_reducible refine Kd.C_drewN ?_ _) | (with_reducible refine Kd.C_drew ?_))); (case side2 => exact HC215_0.out); (case side3 => repeat (first | exact (by repeat (first | (with_reducible exact HR216_0.out) | (with_reducible refine Kd.C_alloc ?_ _) | (with_reducible refine Kd.C_drewN ?_ _) | (with_reducible refine Kd.C_drew ?_) | exact HR216_0.out)) | (with_reducible refine Kd.C_alloc ?_ _) | (with_reducible refine Kd.C_drewN ?_ _) | (with_reducible refine Kd.C_drew ?_))); (case side4 => exact HC216_0.out); rintro e w' ⟨rfl, ⟨nd, rfl⟩⟩; (try first | exact ⟨rfl, _, World.drewN_drewN _ _ _⟩ | exact ⟨rfl, _, Eq.trans (World.drewN_drewN _ _ _) (congrArg (World.drewN _) (Nat.add_assoc _ _ _))⟩))); try go_wp2_with (first | (go_at_call 14; (with_reducible refine (laws_sameInts.calls k4 _ _ (rd_L4 t202 x81_4) _ _ (rd_L4 t208 x81_4) false _ ?side1 ?side2 ?side3 ?side4 A50.out).mono ?_); (case side1 => repeat (first | exact (by repeat (first | (with_reducible exact HR215_0.out) | (with_reducible refine Kd.C_alloc ?_ _) | (with_reducible refine Kd.C_drewN ?_ _) | (with_reducible refine Kd.C_drew ?_) | exact HR215_0.out)) | (with_reducible refine Kd.C_alloc ?_ _) | (with_reducible refine Kd.C_drewN ?_ _) | (with_reducible refine Kd.C_drew ?_))); (case side2 => exact HC215_0.out); (case side3 => repeat (first | exact (by repeat (first | (with_reducible exact HR216_0.out) | (with_reducible refine Kd.C_alloc ?_ _) | (with_reducible refine Kd.C_drewN ?_ _) | (with_reducible refine Kd.C_drew ?_) | exact HR216_0.out)) | (with_reducible refine Kd.C_alloc ?_ _) | (with_reducible refine Kd.C_drewN ?_ _) | (with_reducible refine Kd.C_drew ?_))); (case side4 => exact HC216_0.out); rintro e w' ⟨rfl, ⟨nd, rfl⟩⟩; (try first | exact ⟨rfl, _, World.drewN_drewN _ _ _⟩ | exact ⟨rfl, _, Eq.trans (World.drewN_drewN _ _ _) (congrArg (World.drewN _) (Nat.add_assoc _ _ _))⟩))))
                                      go_ret
                                      exact ⟨by first | rfl | (simp [errW_none, errW_some] <;> rfl) | (simp [*, errW_none, errW_some] <;> rfl), by repeat (first | (with_reducible first | exact HB.out | apply below_alloc | apply pw_below_drewN | apply below_drew1) | exact HB.out)⟩
                                  · rw [if_neg c49] at H
                                    exact absurd H (by simp)
                                · rw [if_neg c48] at H
                                  exact absurd H (by simp)
                              · rw [if_neg c47] at H
                                exact absurd H (by simp)
                            · rw [if_neg c46] at H
                              have c46b0 : decide (x81_4 < (t202.length : Int)) = false := decide_eq_false c46
                              clear c46
                              obtain rfl := Option.some.inj H
                              go_wp2
                              repeat (go_quiet (fail); try go_wp2)
                              go_ret
                              exact ⟨by first | rfl | (simp [errW_none, errW_some] <;> rfl) | (simp [*, errW_none, errW_some] <;> rfl), by repeat (first | (with_reducible first | exact HB.out | apply below_alloc | apply pw_below_drewN | apply below_drew1) | exact HB.out)⟩
  · replace c3 := Bool.eq_false_iff.mpr c3
    subst c3
    have H1 : (some true) = some r := by rw [if_neg (show ¬ (false = true) by decide)] at H; exact H
    clear H
    have H := H1
    clear H1
    obtain rfl := Option.some.inj H
    go_enter Try.func4, Try.ntmps4
    go_wp2_with (first | (go_at_call 9; (with_reducible refine (laws_zzFits9.calls k _ _ l0 false _ ?side1 ?side2 A2.out).mono ?_); (case side1 => repeat (first | exact HR0.out | (with_reducible refine Kd.C_alloc ?_ _) | (with_reducible refine Kd.C_drewN ?_ _) | (with_reducible refine Kd.C_drew ?_))); (case side2 => exact HC0.out); rintro e w' ⟨rfl, ⟨nd, rfl⟩⟩; (try first | exact ⟨rfl, _, World.drewN_drewN _ _ _⟩ | exact ⟨rfl, _, Eq.trans (World.drewN_drewN _ _ _) (congrArg (World.drewN _) (Nat.add_assoc _ _ _))⟩)))
    repeat (go_quiet (first | (go_at_call 9; (with_reducible refine (laws_zzFits9.calls k _ _ l0 false _ ?side1 ?side2 A2.out).mono ?_); (case side1 => repeat (first | exact HR0.out | (with_reducible refine Kd.C_alloc ?_ _) | (with_reducible refine Kd.C_drewN ?_ _) | (with_reducible refine Kd.C_drew ?_))); (case side2 => exact HC0.out); rintro e w' ⟨rfl, ⟨nd, rfl⟩⟩; (try first | exact ⟨rfl, _, World.drewN_drewN _ _ _⟩ | exact ⟨rfl, _, Eq.trans (World.drewN_drewN _ _ _) (congrArg (World.drewN _) (Nat.add_assoc _ _ _))⟩))); try go_wp2_with (first | (go_at_call 9; (with_reducible refine (laws_zzFits9.calls k _ _ l0 false _ ?side1 ?side2 A2.out).mono ?_); (case side1 => repeat (first | exact HR0.out | (with_reducible refine Kd.C_alloc ?_ _) | (with_reducible refine Kd.C_drewN ?_ _) | (with_reducible refine Kd.C_drew ?_))); (case side2 => exact HC0.out); rintro e w' ⟨rfl, ⟨nd, rfl⟩⟩; (try first | exact ⟨rfl, _, World.drewN_drewN _ _ _⟩ | exact ⟨rfl, _, Eq.trans (World.drewN_drewN _ _ _) (congrArg (World.drewN _) (Nat.add_assoc _ _ _))⟩))))
    go_ret
    exact ⟨by first | rfl | (simp [errW_none, errW_some] <;> rfl) | (simp [*, errW_none, errW_some] <;> rfl), by repeat (first | (with_reducible first | exact HB.out | apply below_alloc | apply pw_below_drewN | apply below_drew1) | exact HB.out)⟩

end Go.Proofs.Ytlhljldlbcgnoaa.P
