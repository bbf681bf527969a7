-- PRINTED by print.py (a twelfth state) out of the translation. Not trusted: Lean checks it.
import Derived.Test.YthecfligfhpccaaP0
import Derived.Test.YthecfligfhpccaaP8
import Derived.Test.YthecfligfhpccaaP10
import Derived.Test.YthecfligfhpccaaP16
import Derived.Test.YthecfligfhpccaaP18
import Derived.Test.YthecfligfhpccaaP19
import Derived.Test.YthecfligfhpccaaP20
import Derived.Test.YthecfligfhpccaaEPlS
namespace Go.Proofs.Ythecfligfhpccaa.P
open Go.RowKit Go.Proofs.YthecfligfhpccaaW.PrintWords Go.Proofs.YthecfligfhpccaaW.PrintLast Go.Proofs.YthecfligfhpccaaW.PrintMore
attribute [local go_sem] max2_int min2_int max_two min_two max_three min_three max_four min_four   -- for this text's walks alone
set_option linter.unusedVariables false
set_option linter.unusedSimpArgs false

/-! ### laws_FnPlaces: function 5 -/
mutual
def laws_FnPlaces.j0 : Nat → ByteArray → List ByteArray → Bool → Option (Bool)
  | 0, _, _, _ => none
  | k + 1, x0, x1, x22 => if x22 = true then (some true) else ((impl_Places.f (⟨#[97, 98, 97]⟩ : ByteArray) (([(⟨#[97]⟩ : ByteArray)] : List ByteArray))).bind fun t287 => (if (t287.length : Int) = 1 then (if 0 < (t287.length : Int) then ((laws_sameInts.f k (rd_L4 t287 0) (([2, 0] : List Int))).bind fun t294 => (laws_FnPlaces.j1 k x0 x1 (!t294))) else (none)) else (laws_FnPlaces.j1 k x0 x1 true)))
def laws_FnPlaces.j1 : Nat → ByteArray → List ByteArray → Bool → Option (Bool)
  | 0, _, _, _ => none
  | k + 1, x0, x1, x35 => if x35 = true then (some false) else ((laws_clean.f k 200 (([x0] : List ByteArray))).bind fun t298 => (if t298 = true then (if (x1.length : Int) > 8 then (laws_FnPlaces.j2 k x0 x1 true) else ((laws_clean.f k 40 x1).bind fun t299 => (laws_FnPlaces.j2 k x0 x1 (!t299)))) else (laws_FnPlaces.j2 k x0 x1 true)))
def laws_FnPlaces.j2 : Nat → ByteArray → List ByteArray → Bool → Option (Bool)
  | 0, _, _, _ => none
  | k + 1, x0, x1, x49 => if x49 = true then (some true) else (laws_FnPlaces.l0 k x0 x1 x1 (x1.length : Int) 0)
def laws_FnPlaces.l0 : Nat → ByteArray → List ByteArray → List ByteArray → Int → Int → Option (Bool)
  | 0, _, _, _, _, _ => none
  | k + 1, x0, x1, x50, x51, x52 => if x52 < x51 then (if 0 ≤ x52 then (if x52 < (x50.length : Int) then (if (rdOf ByteArray.empty x50 x52).toList = ([] : List UInt8) then (some true) else (laws_FnPlaces.l1 k x0 x1 (rdOf ByteArray.empty x50 x52) x50 x51 x52 x52 0)) else (none)) else (none)) else ((impl_Places.f x0 x1).bind fun t302 => (if (t302.length : Int) = (x1.length : Int) then (laws_FnPlaces.l2 k x0 x1 t302 ([] : List ByteArray) x1 (x1.length : Int) 0) else (some false)))
def laws_FnPlaces.l1 : Nat → ByteArray → List ByteArray → ByteArray → List ByteArray → Int → Int → Int → Int → Option (Bool)
  | 0, _, _, _, _, _, _, _, _ => none
  | k + 1, x0, x1, x7, x50, x51, x52, x59, x60 => if x60 < x59 then (if 0 ≤ x60 then (if x60 < (x1.length : Int) then (if (rdOf ByteArray.empty x1 x60).toList = x7.toList then (some true) else (laws_FnPlaces.l1 k x0 x1 x7 x50 x51 x52 x59 (wrap64 (x60 + 1)))) else (none)) else (none)) else (laws_FnPlaces.l0 k x0 x1 x50 x51 (wrap64 (x52 + 1)))
def laws_FnPlaces.l2 : Nat → ByteArray → List ByteArray → List (List Int) → List ByteArray → List ByteArray → Int → Int → Option (Bool)
  | 0, _, _, _, _, _, _, _ => none
  | k + 1, x0, x1, x9, x10, x79, x80, x81 => if x81 < x80 then (if 0 ≤ x81 then (if x81 < (x79.length : Int) then (laws_FnPlaces.l3 k x0 x1 x9 x10 x81 (rdOf ByteArray.empty x79 x81) ([] : List Int) (wrap64 ((x0.size : Int) - ((rdOf ByteArray.empty x79 x81).size : Int))) x79 x80 x81) else (none)) else (none)) else ((impl_PlacesSorted.f x0 x1).bind fun t305 => ((laws_sameTexts.f k t305 x10).bind fun t308 => (some t308)))
def laws_FnPlaces.l3 : Nat → ByteArray → List ByteArray → List (List Int) → List ByteArray → Int → ByteArray → List Int → Int → List ByteArray → Int → Int → Option (Bool)
  | 0, _, _, _, _, _, _, _, _, _, _, _ => none
  | k + 1, x0, x1, x9, x10, x11, x12, x13, x14, x79, x80, x81 => if x14 ≥ 0 then (if 0 ≤ x14 then (if x14 ≤ (x0.size : Int) then ((laws_begins.f (x0.extract (x14 : Int).toNat x0.size) x12).bind fun t310 => (if t310 = true then (if (x13.length : Int) > 0 then (if 0 ≤ (wrap64 ((x13.length : Int) - 1)) then (if (wrap64 ((x13.length : Int) - 1)) < (x13.length : Int) then (if (wrap64 (x14 + (x12.size : Int))) > (rd x13 (wrap64 ((x13.length : Int) - 1))) then (some true) else (if x13.length < 17592186044416 then (laws_FnPlaces.l3 k x0 x1 x9 x10 x11 x12 (x13 ++ [x14]) (wrap64 (x14 - 1)) x79 x80 x81) else (none))) else (none)) else (none)) else (if x13.length < 17592186044416 then (laws_FnPlaces.l3 k x0 x1 x9 x10 x11 x12 (x13 ++ [x14]) (wrap64 (x14 - 1)) x79 x80 x81) else (none))) else (laws_FnPlaces.l3 k x0 x1 x9 x10 x11 x12 x13 (wrap64 (x14 - 1)) x79 x80 x81))) else (none)) else (none)) else (if 0 ≤ x11 then (if x11 < (x9.length : Int) then ((laws_sameInts.f k (rd_L4 x9 x11) x13).bind fun t319 => (if t319 = true then (if (x13.length : Int) > 0 then ((laws_inserted.f k x10 x12).bind fun t320 => (laws_FnPlaces.l2 k x0 x1 x9 t320 x79 x80 (wrap64 (x81 + 1)))) else (laws_FnPlaces.l2 k x0 x1 x9 x10 x79 x80 (wrap64 (x81 + 1)))) else (some false))) else (none)) else (none))
end
def laws_FnPlaces.f (k : Nat) (a0 : ByteArray) (l1 : List ByteArray) : Option (Bool) := if (a0.size : Int) > 2147483647 then (laws_FnPlaces.j0 k a0 l1 true) else ((laws_zzFits4.f k l1).bind fun t283 => (laws_FnPlaces.j0 k a0 l1 (!t283)))
theorem laws_FnPlaces.mono_l : ∀ k, (∀ y0 y1 y2, LeO (laws_FnPlaces.j0 k y0 y1 y2) (laws_FnPlaces.j0 (k + 1) y0 y1 y2)) ∧ (∀ y0 y1 y2, LeO (laws_FnPlaces.j1 k y0 y1 y2) (laws_FnPlaces.j1 (k + 1) y0 y1 y2)) ∧ (∀ y0 y1 y2, LeO (laws_FnPlaces.j2 k y0 y1 y2) (laws_FnPlaces.j2 (k + 1) y0 y1 y2)) ∧ (∀ y0 y1 y2 y3 y4, LeO (laws_FnPlaces.l0 k y0 y1 y2 y3 y4) (laws_FnPlaces.l0 (k + 1) y0 y1 y2 y3 y4)) ∧ (∀ y0 y1 y2 y3 y4 y5 y6 y7, LeO (laws_FnPlaces.l1 k y0 y1 y2 y3 y4 y5 y6 y7) (laws_FnPlaces.l1 (k + 1) y0 y1 y2 y3 y4 y5 y6 y7)) ∧ (∀ y0 y1 y2 y3 y4 y5 y6, LeO (laws_FnPlaces.l2 k y0 y1 y2 y3 y4 y5 y6) (laws_FnPlaces.l2 (k + 1) y0 y1 y2 y3 y4 y5 y6)) ∧ (∀ y0 y1 y2 y3 y4 y5 y6 y7 y8 y9 y10, LeO (laws_FnPlaces.l3 k y0 y1 y2 y3 y4 y5 y6 y7 y8 y9 y10) (laws_FnPlaces.l3 (k + 1) y0 y1 y2 y3 y4 y5 y6 y7 y8 y9 y10))
  | 0 => ⟨fun _ _ _ r h => by simp [laws_FnPlaces.j0] at h, fun _ _ _ r h => by simp [laws_FnPlaces.j1] at h, fun _ _ _ r h => by simp [laws_FnPlaces.j2] at h, fun _ _ _ _ _ r h => by simp [laws_FnPlaces.l0] at h, fun _ _ _ _ _ _ _ _ r h => by simp [laws_FnPlaces.l1] at h, fun _ _ _ _ _ _ _ r h => by simp [laws_FnPlaces.l2] at h, fun _ _ _ _ _ _ _ _ _ _ _ r h => by simp [laws_FnPlaces.l3] at h⟩
  | k + 1 => by
    obtain ⟨ih0, ih1, ih2, ih3, ih4, ih5, ih6⟩ := laws_FnPlaces.mono_l k
    refine ⟨?_, ?_, ?_, ?_, ?_, ?_, ?_⟩
    · intro y0 y1 y2
      unfold laws_FnPlaces.j0
      repeat' first
      | (with_reducible exact ih0 _ _ _)
      | (with_reducible exact ih1 _ _ _)
      | (with_reducible exact ih2 _ _ _)
      | (with_reducible exact ih3 _ _ _ _ _)
      | (with_reducible exact ih4 _ _ _ _ _ _ _ _)
      | (with_reducible exact ih5 _ _ _ _ _ _ _)
      | (with_reducible exact ih6 _ _ _ _ _ _ _ _ _ _ _)
      | (with_reducible exact laws_clean.mono _ _ _)
      | (with_reducible exact laws_inserted.mono _ _ _)
      | (with_reducible exact laws_sameInts.mono _ _ _)
      | (with_reducible exact laws_sameTexts.mono _ _ _)
      | (with_reducible exact laws_zzFits4.mono _ _)
      | (with_reducible exact LeO.refl _)
      | (with_reducible exact LeO.none _)
      | (with_reducible refine LeO.ite ?_ ?_)
      | (with_reducible refine LeO.bind ?_ (fun _ => ?_))
      | exact ih0 _ _ _
      | exact ih1 _ _ _
      | exact ih2 _ _ _
      | exact ih3 _ _ _ _ _
      | exact ih4 _ _ _ _ _ _ _ _
      | exact ih5 _ _ _ _ _ _ _
      | exact ih6 _ _ _ _ _ _ _ _ _ _ _
      | exact laws_clean.mono _ _ _
      | exact laws_inserted.mono _ _ _
      | exact laws_sameInts.mono _ _ _
      | exact laws_sameTexts.mono _ _ _
      | exact laws_zzFits4.mono _ _
      | exact LeO.none _
      | refine LeO.ite ?_ ?_
      | refine LeO.bind ?_ (fun _ => ?_)
    · intro y0 y1 y2
      unfold laws_FnPlaces.j1
      repeat' first
      | (with_reducible exact ih0 _ _ _)
      | (with_reducible exact ih1 _ _ _)
      | (with_reducible exact ih2 _ _ _)
      | (with_reducible exact ih3 _ _ _ _ _)
      | (with_reducible exact ih4 _ _ _ _ _ _ _ _)
      | (with_reducible exact ih5 _ _ _ _ _ _ _)
      | (with_reducible exact ih6 _ _ _ _ _ _ _ _ _ _ _)
      | (with_reducible exact laws_clean.mono _ _ _)
      | (with_reducible exact laws_inserted.mono _ _ _)
      | (with_reducible exact laws_sameInts.mono _ _ _)
      | (with_reducible exact laws_sameTexts.mono _ _ _)
      | (with_reducible exact laws_zzFits4.mono _ _)
      | (with_reducible exact LeO.refl _)
      | (with_reducible exact LeO.none _)
      | (with_reducible refine LeO.ite ?_ ?_)
      | (with_reducible refine LeO.bind ?_ (fun _ => ?_))
      | exact ih0 _ _ _
      | exact ih1 _ _ _
      | exact ih2 _ _ _
      | exact ih3 _ _ _ _ _
      | exact ih4 _ _ _ _ _ _ _ _
      | exact ih5 _ _ _ _ _ _ _
      | exact ih6 _ _ _ _ _ _ _ _ _ _ _
      | exact laws_clean.mono _ _ _
      | exact laws_inserted.mono _ _ _
      | exact laws_sameInts.mono _ _ _
      | exact laws_sameTexts.mono _ _ _
      | exact laws_zzFits4.mono _ _
      | exact LeO.none _
      | refine LeO.ite ?_ ?_
      | refine LeO.bind ?_ (fun _ => ?_)
    · intro y0 y1 y2
      unfold laws_FnPlaces.j2
      repeat' first
      | (with_reducible exact ih0 _ _ _)
      | (with_reducible exact ih1 _ _ _)
      | (with_reducible exact ih2 _ _ _)
      | (with_reducible exact ih3 _ _ _ _ _)
      | (with_reducible exact ih4 _ _ _ _ _ _ _ _)
      | (with_reducible exact ih5 _ _ _ _ _ _ _)
      | (with_reducible exact ih6 _ _ _ _ _ _ _ _ _ _ _)
      | (with_reducible exact laws_clean.mono _ _ _)
      | (with_reducible exact laws_inserted.mono _ _ _)
      | (with_reducible exact laws_sameInts.mono _ _ _)
      | (with_reducible exact laws_sameTexts.mono _ _ _)
      | (with_reducible exact laws_zzFits4.mono _ _)
      | (with_reducible exact LeO.refl _)
      | (with_reducible exact LeO.none _)
      | (with_reducible refine LeO.ite ?_ ?_)
      | (with_reducible refine LeO.bind ?_ (fun _ => ?_))
      | exact ih0 _ _ _
      | exact ih1 _ _ _
      | exact ih2 _ _ _
      | exact ih3 _ _ _ _ _
      | exact ih4 _ _ _ _ _ _ _ _
      | exact ih5 _ _ _ _ _ _ _
      | exact ih6 _ _ _ _ _ _ _ _ _ _ _
      | exact laws_clean.mono _ _ _
      | exact laws_inserted.mono _ _ _
      | exact laws_sameInts.mono _ _ _
      | exact laws_sameTexts.mono _ _ _
      | exact laws_zzFits4.mono _ _
      | exact LeO.none _
      | refine LeO.ite ?_ ?_
      | refine LeO.bind ?_ (fun _ => ?_)
    · intro y0 y1 y2 y3 y4
      unfold laws_FnPlaces.l0
      repeat' first
      | (with_reducible exact ih0 _ _ _)
      | (with_reducible exact ih1 _ _ _)
      | (with_reducible exact ih2 _ _ _)
      | (with_reducible exact ih3 _ _ _ _ _)
      | (with_reducible exact ih4 _ _ _ _ _ _ _ _)
      | (with_reducible exact ih5 _ _ _ _ _ _ _)
      | (with_reducible exact ih6 _ _ _ _ _ _ _ _ _ _ _)
      | (with_reducible exact laws_clean.mono _ _ _)
      | (with_reducible exact laws_inserted.mono _ _ _)
      | (with_reducible exact laws_sameInts.mono _ _ _)
      | (with_reducible exact laws_sameTexts.mono _ _ _)
      | (with_reducible exact laws_zzFits4.mono _ _)
      | (with_reducible exact LeO.refl _)
      | (with_reducible exact LeO.none _)
      | (with_reducible refine LeO.ite ?_ ?_)
      | (with_reducible refine LeO.bind ?_ (fun _ => ?_))
      | exact ih0 _ _ _
      | exact ih1 _ _ _
      | exact ih2 _ _ _
      | exact ih3 _ _ _ _ _
      | exact ih4 _ _ _ _ _ _ _ _
      | exact ih5 _ _ _ _ _ _ _
      | exact ih6 _ _ _ _ _ _ _ _ _ _ _
      | exact laws_clean.mono _ _ _
      | exact laws_inserted.mono _ _ _
      | exact laws_sameInts.mono _ _ _
      | exact laws_sameTexts.mono _ _ _
      | exact laws_zzFits4.mono _ _
      | exact LeO.none _
      | refine LeO.ite ?_ ?_
      | refine LeO.bind ?_ (fun _ => ?_)
    · intro y0 y1 y2 y3 y4 y5 y6 y7
      unfold laws_FnPlaces.l1
      repeat' first
      | (with_reducible exact ih0 _ _ _)
      | (with_reducible exact ih1 _ _ _)
      | (with_reducible exact ih2 _ _ _)
      | (with_reducible exact ih3 _ _ _ _ _)
      | (with_reducible exact ih4 _ _ _ _ _ _ _ _)
      | (with_reducible exact ih5 _ _ _ _ _ _ _)
      | (with_reducible exact ih6 _ _ _ _ _ _ _ _ _ _ _)
      | (with_reducible exact laws_clean.mono _ _ _)
      | (with_reducible exact laws_inserted.mono _ _ _)
      | (with_reducible exact laws_sameInts.mono _ _ _)
      | (with_reducible exact laws_sameTexts.mono _ _ _)
      | (with_reducible exact laws_zzFits4.mono _ _)
      | (with_reducible exact LeO.refl _)
      | (with_reducible exact LeO.none _)
      | (with_reducible refine LeO.ite ?_ ?_)
      | (with_reducible refine LeO.bind ?_ (fun _ => ?_))
      | exact ih0 _ _ _
      | exact ih1 _ _ _
      | exact ih2 _ _ _
      | exact ih3 _ _ _ _ _
      | exact ih4 _ _ _ _ _ _ _ _
      | exact ih5 _ _ _ _ _ _ _
      | exact ih6 _ _ _ _ _ _ _ _ _ _ _
      | exact laws_clean.mono _ _ _
      | exact laws_inserted.mono _ _ _
      | exact laws_sameInts.mono _ _ _
      | exact laws_sameTexts.mono _ _ _
      | exact laws_zzFits4.mono _ _
      | exact LeO.none _
      | refine LeO.ite ?_ ?_
      | refine LeO.bind ?_ (fun _ => ?_)
    · intro y0 y1 y2 y3 y4 y5 y6
      unfold laws_FnPlaces.l2
      repeat' first
      | (with_reducible exact ih0 _ _ _)
      | (with_reducible exact ih1 _ _ _)
      | (with_reducible exact ih2 _ _ _)
      | (with_reducible exact ih3 _ _ _ _ _)
      | (with_reducible exact ih4 _ _ _ _ _ _ _ _)
      | (with_reducible exact ih5 _ _ _ _ _ _ _)
      | (with_reducible exact ih6 _ _ _ _ _ _ _ _ _ _ _)
      | (with_reducible exact laws_clean.mono _ _ _)
      | (with_reducible exact laws_inserted.mono _ _ _)
      | (with_reducible exact laws_sameInts.mono _ _ _)
      | (with_reducible exact laws_sameTexts.mono _ _ _)
      | (with_reducible exact laws_zzFits4.mono _ _)
      | (with_reducible exact LeO.refl _)
      | (with_reducible exact LeO.none _)
      | (with_reducible refine LeO.ite ?_ ?_)
      | (with_reducible refine LeO.bind ?_ (fun _ => ?_))
      | exact ih0 _ _ _
      | exact ih1 _ _ _
      | exact ih2 _ _ _
      | exact ih3 _ _ _ _ _
      | exact ih4 _ _ _ _ _ _ _ _
      | exact ih5 _ _ _ _ _ _ _
      | exact ih6 _ _ _ _ _ _ _ _ _ _ _
      | exact laws_clean.mono _ _ _
      | exact laws_inserted.mono _ _ _
      | exact laws_sameInts.mono _ _ _
      | exact laws_sameTexts.mono _ _ _
      | exact laws_zzFits4.mono _ _
      | exact LeO.none _
      | refine LeO.ite ?_ ?_
      | refine LeO.bind ?_ (fun _ => ?_)
    · intro y0 y1 y2 y3 y4 y5 y6 y7 y8 y9 y10
      unfold laws_FnPlaces.l3
      repeat' first
      | (with_reducible exact ih0 _ _ _)
      | (with_reducible exact ih1 _ _ _)
      | (with_reducible exact ih2 _ _ _)
      | (with_reducible exact ih3 _ _ _ _ _)
      | (with_reducible exact ih4 _ _ _ _ _ _ _ _)
      | (with_reducible exact ih5 _ _ _ _ _ _ _)
      | (with_reducible exact ih6 _ _ _ _ _ _ _ _ _ _ _)
      | (with_reducible exact laws_clean.mono _ _ _)
      | (with_reducible exact laws_inserted.mono _ _ _)
      | (with_reducible exact laws_sameInts.mono _ _ _)
      | (with_reducible exact laws_sameTexts.mono _ _ _)
      | (with_reducible exact laws_zzFits4.mono _ _)
      | (with_reducible exact LeO.refl _)
      | (with_reducible exact LeO.none _)
      | (with_reducible refine LeO.ite ?_ ?_)
      | (with_reducible refine LeO.bind ?_ (fun _ => ?_))
      | exact ih0 _ _ _
      | exact ih1 _ _ _
      | exact ih2 _ _ _
      | exact ih3 _ _ _ _ _
      | exact ih4 _ _ _ _ _ _ _ _
      | exact ih5 _ _ _ _ _ _ _
      | exact ih6 _ _ _ _ _ _ _ _ _ _ _
      | exact laws_clean.mono _ _ _
      | exact laws_inserted.mono _ _ _
      | exact laws_sameInts.mono _ _ _
      | exact laws_sameTexts.mono _ _ _
      | exact laws_zzFits4.mono _ _
      | exact LeO.none _
      | refine LeO.ite ?_ ?_
      | refine LeO.bind ?_ (fun _ => ?_)
theorem laws_FnPlaces.mono : ∀ a0 a1 k, LeO (laws_FnPlaces.f k a0 a1) (laws_FnPlaces.f (k + 1) a0 a1) := by
  intro a0 a1 k
  obtain ⟨ih0, ih1, ih2, ih3, ih4, ih5, ih6⟩ := laws_FnPlaces.mono_l k
  unfold laws_FnPlaces.f
  repeat' first
      | (with_reducible exact ih0 _ _ _)
      | (with_reducible exact ih1 _ _ _)
      | (with_reducible exact ih2 _ _ _)
      | (with_reducible exact ih3 _ _ _ _ _)
      | (with_reducible exact ih4 _ _ _ _ _ _ _ _)
      | (with_reducible exact ih5 _ _ _ _ _ _ _)
      | (with_reducible exact ih6 _ _ _ _ _ _ _ _ _ _ _)
      | (with_reducible exact laws_clean.mono _ _ _)
      | (with_reducible exact laws_inserted.mono _ _ _)
      | (with_reducible exact laws_sameInts.mono _ _ _)
      | (with_reducible exact laws_sameTexts.mono _ _ _)
      | (with_reducible exact laws_zzFits4.mono _ _)
      | (with_reducible exact LeO.refl _)
      | (with_reducible exact LeO.none _)
      | (with_reducible refine LeO.ite ?_ ?_)
      | (with_reducible refine LeO.bind ?_ (fun _ => ?_))
      | exact ih0 _ _ _
      | exact ih1 _ _ _
      | exact ih2 _ _ _
      | exact ih3 _ _ _ _ _
      | exact ih4 _ _ _ _ _ _ _ _
      | exact ih5 _ _ _ _ _ _ _
      | exact ih6 _ _ _ _ _ _ _ _ _ _ _
      | exact laws_clean.mono _ _ _
      | exact laws_inserted.mono _ _ _
      | exact laws_sameInts.mono _ _ _
      | exact laws_sameTexts.mono _ _ _
      | exact laws_zzFits4.mono _ _
      | exact LeO.none _
      | refine LeO.ite ?_ ?_
      | refine LeO.bind ?_ (fun _ => ?_)
set_option maxHeartbeats 8000000 in
set_option maxRecDepth 100000 in
theorem laws_FnPlaces.calls (k : Nat) (a0 : ByteArray) (A1 : Option Addr) (c1 : Nat) (l1 : List ByteArray) (r : Bool) (w : World) (hr1 : Kd.C Kd.string w A1 l1.length l1) (hc1 : l1.length ≤ c1) (h : laws_FnPlaces.f k a0 l1 = some r) :
    Calls Try.prog 5 #[.string a0, .slice A1 l1.length c1] w fun e w' => e = .returned (.bool r) ∧ Below w.heap.size w w' := by
  have HR1 := Aside0.mk hr1
  have HC1 := Aside0.mk hc1
  clear hr1 hc1
  have HB := Aside0.mk (Below.refl w.heap.size w)
  have H : (if (a0.size : Int) > 2147483647 then (laws_FnPlaces.j0 k a0 l1 true) else ((laws_zzFits4.f k l1).bind fun t283 => (laws_FnPlaces.j0 k a0 l1 (!t283)))) = some r := h
  clear h
  have HC3 := Aside0.mk H
  clear H
  go_enter Try.func5, Try.ntmps5
  go_upto_region 1 with (fail)
  go_cut [22] (fun v22 wc => ∃ (kq : Nat) (x22_2 : Bool), v22 = .bool x22_2 ∧ Aside0 (laws_FnPlaces.j0 kq a0 l1 x22_2 = some r) ∧ Aside0 (kq ≤ k) ∧ Aside0 (Below w.heap.size w wc))
  case first =>
    have H := HC3.out
    clear HC3
    by_cases c4 : (a0.size : Int) > 2147483647
    · rw [if_pos c4] at H
      have c4b0 : decide (2147483647 < (a0.size : Int)) = true := decide_eq_true c4
      have c4b1 : decide (2147483647 < a0.size) = true := decide_eq_true (by omega)
      clear c4
      (first | rw [c4b0] | (simp only [i64_w, i32_w]; rw [c4b0]) | skip)
      have H' := Aside0.mk H
      clear H
      go_wp2
      go_meet
      case rel => exact ⟨_, (true), (by first | rfl | (simp; done) | (simp [*]; done)), H', ⟨by first | omega | exact Nat.le_refl _⟩, ⟨by repeat (first | (with_reducible first | exact HB.out | apply below_alloc | apply pw_below_drewN | apply below_drew1) | exact HB.out)⟩⟩
    · rw [if_neg c4] at H
      have c4b0 : decide (2147483647 < (a0.size : Int)) = false := decide_eq_false c4
      have c4b1 : decide (2147483647 < a0.size) = false := decide_eq_false (by omega)
      clear c4
      (first | rw [c4b0] | (simp only [i64_w, i32_w]; rw [c4b0]) | skip)
      replace H := Option.bind_eq_some_iff.mp H
      obtain ⟨t283, A50, H⟩ := H
      replace H : (laws_FnPlaces.j0 k a0 l1 (!t283)) = some r := H
      have A5 := Aside0.mk A50
      clear A50
      have H' := Aside0.mk H
      clear H
      go_wp2_with (first | (go_at_call 16; (with_reducible refine (laws_zzFits4.calls k _ _ l1 t283 _ ?side1 ?side2 A5.out).mono ?_); (case side1 => repeat (first | exact (Kd.C_below HR1.out HB.out) | (with_reducible refine Kd.C_alloc ?_ _) | (with_reducible refine Kd.C_drewN ?_ _) | (with_reducible refine Kd.C_drew ?_))); (case side2 => exact HC1.out); rintro e w' ⟨rfl, ⟨nd, rfl⟩⟩))
      go_meet
      case rel => exact ⟨_, (!t283), (by first | rfl | (simp; done) | (simp [*]; done)), H', ⟨by first | omega | exact Nat.le_refl _⟩, ⟨by repeat (first | (with_reducible first | exact HB.out | apply below_alloc | apply pw_below_drewN | apply below_drew1) | exact HB.out)⟩⟩
  case rest =>
    clear HC3
    try clear c1
    try clear p2
    try clear c4
    try clear c4b0
    try clear c4b1
    try clear c5
    obtain ⟨kq, x22_2, rfl, HA, HJ2, HB⟩ := hcut
    cases kq with
    | zero => exact absurd HA.out (by simp [laws_FnPlaces.j0])
    | succ kj2 =>
      have H := HA.out
      clear HA
      simp only [laws_FnPlaces.j0] at H
      by_cases c6 : x22_2 = true
      · subst c6
        have H1 : (some true) = some r := by rw [if_pos rfl] at H; exact H
        clear H
        have H := H1
        clear H1
        obtain rfl := Option.some.inj H
        go_wp2
        go_ret
        exact ⟨by first | rfl | (simp [errW_none, errW_some] <;> rfl) | (simp [*, errW_none, errW_some] <;> rfl), by repeat (first | (with_reducible first | exact HB.out | apply below_alloc | apply pw_below_drewN | apply below_drew1) | exact HB.out)⟩
      · replace c6 := Bool.eq_false_iff.mpr c6
        subst c6
        have H1 : ((impl_Places.f (⟨#[97, 98, 97]⟩ : ByteArray) (([(⟨#[97]⟩ : ByteArray)] : List ByteArray))).bind fun t287 => (if (t287.length : Int) = 1 then (if 0 < (t287.length : Int) then ((laws_sameInts.f kj2 (rd_L4 t287 0) (([2, 0] : List Int))).bind fun t294 => (laws_FnPlaces.j1 kj2 a0 l1 (!t294))) else (none)) else (laws_FnPlaces.j1 kj2 a0 l1 true))) = some r := by rw [if_neg (show ¬ (false = true) by decide)] at H; exact H
        clear H
        have H := H1
        clear H1
        obtain ⟨y284, hy284⟩ : ∃ y_ : List ByteArray, y_ = (([(⟨#[97]⟩ : ByteArray)] : List ByteArray)) := ⟨_, rfl⟩
        replace H : ((impl_Places.f (⟨#[97, 98, 97]⟩ : ByteArray) y284).bind fun t287 => (if (t287.length : Int) = 1 then (if 0 < (t287.length : Int) then ((laws_sameInts.f kj2 (rd_L4 t287 0) (([2, 0] : List Int))).bind fun t294 => (laws_FnPlaces.j1 kj2 a0 l1 (!t294))) else (none)) else (laws_FnPlaces.j1 kj2 a0 l1 true))) = some r := by first | (rw [hy284]; with_reducible exact H) | (have H2_ := (Option.bind_some _ _).symm.trans H; rw [hy284]; with_reducible exact H2_) | (have H2_ := (Option.bind_some _ _).symm.trans H; with_reducible exact H2_) | with_reducible exact H | (rw [hy284]; exact H) | exact H
        have Ny284 := Aside0.mk hy284
        clear hy284
        replace H := Option.bind_eq_some_iff.mp H
        obtain ⟨t287, A70, H⟩ := H
        replace H : (if (t287.length : Int) = 1 then (if 0 < (t287.length : Int) then ((laws_sameInts.f kj2 (rd_L4 t287 0) (([2, 0] : List Int))).bind fun t294 => (laws_FnPlaces.j1 kj2 a0 l1 (!t294))) else (none)) else (laws_FnPlaces.j1 kj2 a0 l1 true)) = some r := H
        have A7 := Aside0.mk A70
        clear A70
        have HC8 := Aside0.mk H
        clear H
        go_upto_region 4 with (first | ((with_reducible refine gate_dst (N := 23) rfl ?_); (try (refine gate_guard (by rfl) ?_; dsimp only)); refine Kd.R_lit Kd.string _ 9 ?hg (N := 23) ?hd (xs := ([(⟨#[97]⟩ : ByteArray)] : List ByteArray)) (inner := [.string (⟨#[97]⟩ : ByteArray)]) (ok := fun _ => True) (okp := fun _ => True) ?hr ?hp (fun _ hk => hk) trivial (Below.refl _ _) (Nat.le_refl _) (by simp) ?_; (case hd => rfl); (case hg => rfl); (case hr => first | (go_simp; done) | (go_simp; rfl)); (case hp => exact (Reps.one (show Kd.M Kd.string _ _ _ (⟨#[97]⟩ : ByteArray) [.string (⟨#[97]⟩ : ByteArray)] from rfl) (Reps.none _ _))); intro v285 w9 ho10 hb hg_ hnew_; clear hg_ hnew_; (first | rw [← Ny284.out] at ho10 | (simp only [Int.reduceToNat] at ho10; rw [← Ny284.out] at ho10)); have n0_ := Aside0.mk (Kd.R_lower ho10 (below_size (by repeat (first | (with_reducible first | exact HB.out | apply below_alloc | apply pw_below_drewN | apply below_drew1) | exact HB.out)))); have n1_ := Aside0.mk (below_step (by repeat (first | (with_reducible first | exact HB.out | apply below_alloc | apply pw_below_drewN | apply below_drew1) | exact HB.out)) hb); clear HB; have HO286 := n0_; have HB := n1_; clear n0_ n1_; clear hb ho10; obtain ⟨Ao11, co11, eo11⟩ := Kd.R_slice HO286.out; subst eo11) | ((with_reducible refine gate_callee (f := 17) rfl ?_); refine goesL_ (some 24) rfl rfl Try.func17 (by kernel_rfl) rfl #[.string (⟨#[97, 98, 97]⟩ : ByteArray), .slice Ao11 y284.length co11] rfl (by (try simp only [List.map_toArray, List.map_cons, List.map_nil]); first | done | rfl | (simp only [List.length_drop, List.length_take]; rfl)) ?_; (with_reducible refine (impl_Places.calls (⟨#[97, 98, 97]⟩ : ByteArray) _ _ y284 t287 _ ?side1 ?side2 A7.out).mono ?_); (case side1 => repeat (first | exact (Kd.R_reads' HO286.out).2.2 | (with_reducible refine Kd.C_alloc ?_ _) | (with_reducible refine Kd.C_drewN ?_ _) | (with_reducible refine Kd.C_drew ?_))); (case side2 => exact (Kd.R_reads' HO286.out).2.1); rintro e w12 ⟨v288, rfl, ho0, hb⟩; refine ⟨_, rfl, ?_⟩; have n0_ := Aside0.mk (Kd.R_below (by (with_reducible repeat (first | apply Kd.R_alloc | apply Kd.R_drewN | apply Kd.R_drew)); exact HO286.out) hb); have n1_ := Aside0.mk (Kd.S_lower ho0 (below_size (by repeat (first | (with_reducible first | exact HB.out | apply below_alloc | apply pw_below_drewN | apply below_drew1) | exact HB.out)))); have n2_ := Aside0.mk (below_step (by repeat (first | (with_reducible first | exact HB.out | apply below_alloc | apply pw_below_drewN | apply below_drew1) | exact HB.out)) hb); clear HO286; clear HB; have HO286 := n0_; have HO289 := n1_; have HB := n2_; clear n0_ n1_ n2_; (try clear hb); (try clear hb2); (try clear hk); (try clear hi); (try clear ho0)))
        (try simp only [Act.put, List.setIfInBounds_toArray, List.set_cons_zero, List.set_cons_succ])
        go_cut [35] (fun v35 wc => ∃ (kq : Nat) (x35_7 : Bool), v35 = .bool x35_7 ∧ Aside0 (laws_FnPlaces.j1 kq a0 l1 x35_7 = some r) ∧ Aside0 (kq ≤ kj2) ∧ Aside0 (Below w.heap.size w wc))
        case first =>
          have H := HC8.out
          clear HC8
          by_cases c13 : (t287.length : Int) = 1
          · rw [if_pos c13] at H
            have c13b0 : ((t287.length : Int) == 1) = true := beq_iff_eq.mpr c13
            have c13b1 : ((t287.length : Int) != 1) = false := bne_eq_false_iff_eq.mpr c13
            clear c13
            (first | rw [c13b0] | (simp only [i64_w, i32_w]; rw [c13b0]) | skip)
            by_cases c14 : 0 < (t287.length : Int)
            · rw [if_pos c14] at H
              have c14b0 : decide (0 < (t287.length : Int)) = true := decide_eq_true c14
              have c14b1 : decide (0 < t287.length) = true := decide_eq_true (by omega)
              clear c14
              obtain ⟨y291, hy291⟩ : ∃ y_ : List Int, y_ = (([2, 0] : List Int)) := ⟨_, rfl⟩
              replace H : ((laws_sameInts.f kj2 (rd_L4 t287 0) y291).bind fun t294 => (laws_FnPlaces.j1 kj2 a0 l1 (!t294))) = some r := by first | (rw [hy291]; with_reducible exact H) | (have H2_ := (Option.bind_some _ _).symm.trans H; rw [hy291]; with_reducible exact H2_) | (have H2_ := (Option.bind_some _ _).symm.trans H; with_reducible exact H2_) | with_reducible exact H | (rw [hy291]; exact H) | exact H
              have Ny291 := Aside0.mk hy291
              clear hy291
              replace H := Option.bind_eq_some_iff.mp H
              obtain ⟨t294, A150, H⟩ := H
              replace H : (laws_FnPlaces.j1 kj2 a0 l1 (!t294)) = some r := H
              have A15 := Aside0.mk A150
              clear A150
              have H' := Aside0.mk H
              clear H
              obtain ⟨Ao16, co16, eo16⟩ := Kd.S_slice HO289.out
              subst eo16
              have p290 : 0 ≤ (0 : Int) := (by omega)
              have q290 : 0 < (t287.length : Int) := of_decide_eq_true (by first | (with_reducible assumption) | assumption)
              obtain ⟨ad290, A290_0, c290_0, e290, hx290_0, hl290_0, hi290_0⟩ := at_L4 (Kd.S_reads' HO289.out).2.2 0 p290 q290
              cases e290
              obtain ⟨ce290, hce290, hMe290, hcc290⟩ := Kd.S_get HO289.out [] 0 p290 (by first | exact q290 | exact of_decide_eq_true (by first | (with_reducible assumption) | assumption) | (have e_ := (Kd.S_reads' HO289.out).1; omega))
              obtain ⟨ve290_0, rfl, ge290_0⟩ := hMe290
              have hv290_0 := hcc290 0 _ rfl
              rw [Nat.add_zero, show ((Kd.slice 3 (Kd.int .i64))).sz = 1 from rfl, Nat.mul_one] at hv290_0
              replace hv290_0 := Option.some.inj (hv290_0.symm.trans hx290_0)
              rw [hv290_0] at ge290_0
              have HL290_0 := Aside0.mk (show Kd.R (Kd.int .i64) 3 _ _ _ _ (rd_L4 t287 0) from ge290_0)
              clear hv290_0 ge290_0
              clear hcc290 hce290
              have qi290 : (0 < t287.length) = True := eq_true (by omega)
              (try rw [show ((0 : Int)).toNat = 0 from rfl] at hx290_0)
              (try rw [Addr.add_zero'] at hx290_0)
              have HR290_0 := Aside0.mk hi290_0
              have HC290_0 := Aside0.mk hl290_0
              clear hi290_0 hl290_0
              replace p290 := eq_true p290
              replace q290 := eq_true q290
              go_wp2_with (first | ((with_reducible refine gate_dst (N := 32) rfl ?_); (try (refine gate_guard (by rfl) ?_; dsimp only)); refine Kd.R_lit (Kd.int .i64) _ 3 ?hg (N := 32) ?hd (xs := ([2, 0] : List Int)) (inner := [.int .i64 2, .int .i64 0]) (ok := fun _ => True) (okp := fun _ => True) ?hr ?hp (fun _ hk => hk) trivial (Below.refl _ _) (Nat.le_refl _) (by simp) ?_; (case hd => rfl); (case hg => rfl); (case hr => first | (go_simp; done) | (go_simp; rfl)); (case hp => exact (Reps.one (show Kd.M (Kd.int .i64) _ _ _ 2 [.int .i64 2] from rfl) (Reps.one (show Kd.M (Kd.int .i64) _ _ _ 0 [.int .i64 0] from rfl) (Reps.none _ _)))); intro v292 w17 ho18 hb hg_ hnew_; clear hg_ hnew_; (first | rw [← Ny291.out] at ho18 | (simp only [Int.reduceToNat] at ho18; rw [← Ny291.out] at ho18)); have n0_ := Aside0.mk (Kd.R_below (by (with_reducible repeat (first | apply Kd.R_alloc | apply Kd.R_drewN | apply Kd.R_drew)); exact HO286.out) hb); have n1_ := Aside0.mk (Kd.S_elder' (by (with_reducible repeat (first | apply Kd.S_alloc | apply Kd.S_drewN | apply Kd.S_drew)); exact HO289.out) (by first | exact Kd.N_base ho18 | exact Kd.S_base ho18 | exact Kd.R_base ho18) hb); have n2_ := Aside0.mk (Kd.R_elder' (by (with_reducible repeat (first | apply Kd.R_alloc | apply Kd.R_drewN | apply Kd.R_drew)); exact HL290_0.out) (by first | exact Kd.N_base ho18 | exact Kd.S_base ho18 | exact Kd.R_base ho18) hb); have n3_ := Aside0.mk (Kd.R_lower (Kd.R_new' ho18 (Kd.R_lt (by (with_reducible repeat (first | apply Kd.R_alloc | apply Kd.R_drewN | apply Kd.R_drew)); exact HL290_0.out))) (below_size (by repeat (first | (with_reducible first | exact HB.out | apply below_alloc | apply pw_below_drewN | apply below_drew1) | exact HB.out)))); have n4_ := Aside0.mk (Kd.C_below (by repeat (first | (with_reducible exact HR290_0.out) | (with_reducible refine Kd.C_alloc ?_ _) | (with_reducible refine Kd.C_drewN ?_ _) | (with_reducible refine Kd.C_drew ?_) | exact HR290_0.out)) hb); have n5_ := Aside0.mk (below_step (by repeat (first | (with_reducible first | exact HB.out | apply below_alloc | apply pw_below_drewN | apply below_drew1) | exact HB.out)) hb); clear HO286; clear HO289; clear HL290_0; clear HR290_0; clear HB; have HO286 := n0_; have HO289 := n1_; have HL290_0 := n2_; have HO293 := n3_; have HR290_0 := n4_; have HB := n5_; clear n0_ n1_ n2_ n3_ n4_ n5_; clear hb ho18; obtain ⟨Ao19, co19, eo19⟩ := Kd.R_slice HO293.out; subst eo19) | (go_at_call 18; (with_reducible refine (laws_sameInts.calls kj2 _ _ (rd_L4 t287 0) _ _ y291 t294 _ ?side1 ?side2 ?side3 ?side4 A15.out).mono ?_); (case side1 => repeat (first | exact (by repeat (first | (with_reducible exact HR290_0.out) | (with_reducible refine Kd.C_alloc ?_ _) | (with_reducible refine Kd.C_drewN ?_ _) | (with_reducible refine Kd.C_drew ?_) | exact HR290_0.out)) | (with_reducible refine Kd.C_alloc ?_ _) | (with_reducible refine Kd.C_drewN ?_ _) | (with_reducible refine Kd.C_drew ?_))); (case side2 => exact HC290_0.out); (case side3 => repeat (first | exact (Kd.R_reads' HO293.out).2.2 | (with_reducible refine Kd.C_alloc ?_ _) | (with_reducible refine Kd.C_drewN ?_ _) | (with_reducible refine Kd.C_drew ?_))); (case side4 => exact (Kd.R_reads' HO293.out).2.1); rintro e w' ⟨rfl, ⟨nd, rfl⟩⟩))
              go_meet
              case rel => exact ⟨_, (!t294), (by first | rfl | (simp; done) | (simp [*]; done)), H', ⟨by have := HJ2.out; first | omega | exact Nat.le_refl _⟩, ⟨by repeat (first | (with_reducible first | exact HB.out | apply below_alloc | apply pw_below_drewN | apply below_drew1) | exact HB.out)⟩⟩
            · rw [if_neg c14] at H
              exact absurd H (by simp)
          · rw [if_neg c13] at H
            have c13b0 : ((t287.length : Int) == 1) = false := beq_eq_false_iff_ne.mpr c13
            have c13b1 : ((t287.length : Int) != 1) = true := bne_iff_ne.mpr c13
            (first | rw [c13b0] | (simp only [i64_w, i32_w]; rw [c13b0]) | skip)
            have H' := Aside0.mk H
            clear H
            obtain ⟨Ao20, co20, eo20⟩ := Kd.S_slice HO289.out
            subst eo20
            go_wp2
            go_meet
            case rel => exact ⟨_, (true), (by first | rfl | (simp; done) | (simp [*]; done)), H', ⟨by have := HJ2.out; first | omega | exact Nat.le_refl _⟩, ⟨by repeat (first | (with_reducible first | exact HB.out | apply below_alloc | apply pw_below_drewN | apply below_drew1) | exact HB.out)⟩⟩
        case rest =>
          clear HC8
          try clear c1
          try clear c2
          try clear p2
          try clear q2
          try clear hx2
          try clear qi2
          try clear c4
          try clear c4b0
          try clear c4b1
          try clear c5
          try clear c6
          try clear c13
          try clear c13b0
          try clear c13b1
          try clear c14
          try clear c14b0
          try clear c14b1
          try clear c17
          try clear hx290_0
          try clear p2
          try clear p290
          try clear q290
          obtain ⟨kq, x35_7, rfl, HA, HJ7, HB⟩ := hcut
          cases kq with
          | zero => exact absurd HA.out (by simp [laws_FnPlaces.j1])
          | succ kj7 =>
            have H := HA.out
            clear HA
            simp only [laws_FnPlaces.j1] at H
            by_cases c21 : x35_7 = true
            · subst c21
              have H1 : (some false) = some r := by rw [if_pos rfl] at H; exact H
              clear H
              have H := H1
              clear H1
              obtain rfl := Option.some.inj H
              go_wp2
              go_ret
              exact ⟨by first | rfl | (simp [errW_none, errW_some] <;> rfl) | (simp [*, errW_none, errW_some] <;> rfl), by repeat (first | (with_reducible first | exact HB.out | apply below_alloc | apply pw_below_drewN | apply below_drew1) | exact HB.out)⟩
            · replace c21 := Bool.eq_false_iff.mpr c21
              subst c21
              have H1 : ((laws_clean.f kj7 200 (([a0] : List ByteArray))).bind fun t298 => (if t298 = true then (if (l1.length : Int) > 8 then (laws_FnPlaces.j2 kj7 a0 l1 true) else ((laws_clean.f kj7 40 l1).bind fun t299 => (laws_FnPlaces.j2 kj7 a0 l1 (!t299)))) else (laws_FnPlaces.j2 kj7 a0 l1 true))) = some r := by rw [if_neg (show ¬ (false = true) by decide)] at H; exact H
              clear H
              have H := H1
              clear H1
              have HC22 := Aside0.mk H
              clear H
              go_upto_region 6 with (fail)
              go_cut [49] (fun v49 wc => ∃ (kq : Nat) (x49_21 : Bool), v49 = .bool x49_21 ∧ Aside0 (laws_FnPlaces.j2 kq a0 l1 x49_21 = some r) ∧ Aside0 (kq ≤ kj7) ∧ Aside0 (Below w.heap.size w wc))
              case first =>
                have H := HC22.out
                clear HC22
                obtain ⟨y295, hy295⟩ : ∃ y_ : List ByteArray, y_ = (([a0] : List ByteArray)) := ⟨_, rfl⟩
                replace H : ((laws_clean.f kj7 200 y295).bind fun t298 => (if t298 = true then (if (l1.length : Int) > 8 then (laws_FnPlaces.j2 kj7 a0 l1 true) else ((laws_clean.f kj7 40 l1).bind fun t299 => (laws_FnPlaces.j2 kj7 a0 l1 (!t299)))) else (laws_FnPlaces.j2 kj7 a0 l1 true))) = some r := by first | (rw [hy295]; with_reducible exact H) | (have H2_ := (Option.bind_some _ _).symm.trans H; rw [hy295]; with_reducible exact H2_) | (have H2_ := (Option.bind_some _ _).symm.trans H; with_reducible exact H2_) | with_reducible exact H | (rw [hy295]; exact H) | exact H
                have Ny295 := Aside0.mk hy295
                clear hy295
                replace H := Option.bind_eq_some_iff.mp H
                obtain ⟨t298, A230, H⟩ := H
                replace H : (if t298 = true then (if (l1.length : Int) > 8 then (laws_FnPlaces.j2 kj7 a0 l1 true) else ((laws_clean.f kj7 40 l1).bind fun t299 => (laws_FnPlaces.j2 kj7 a0 l1 (!t299)))) else (laws_FnPlaces.j2 kj7 a0 l1 true)) = some r := H
                have A23 := Aside0.mk A230
                clear A230
                by_cases c24 : t298 = true
                · subst c24
                  have H1 : (if (l1.length : Int) > 8 then (laws_FnPlaces.j2 kj7 a0 l1 true) else ((laws_clean.f kj7 40 l1).bind fun t299 => (laws_FnPlaces.j2 kj7 a0 l1 (!t299)))) = some r := by rw [if_pos rfl] at H; exact H
                  clear H
                  have H := H1
                  clear H1
                  by_cases c25 : (l1.length : Int) > 8
                  · rw [if_pos c25] at H
                    have c25b0 : decide (8 < (l1.length : Int)) = true := decide_eq_true c25
                    have c25b1 : decide (8 < l1.length) = true := decide_eq_true (by omega)
                    clear c25
                    (first | rw [c25b0] | (simp only [i64_w, i32_w]; rw [c25b0]) | skip)
                    have H' := Aside0.mk H
                    clear H
                    go_wp2_with (first | ((with_reducible refine gate_dst (N := 37) rfl ?_); (try (refine gate_guard (by rfl) ?_; dsimp only)); refine Kd.R_lit Kd.string _ 9 ?hg (N := 37) ?hd (xs := ([a0] : List ByteArray)) (inner := [.string a0]) (ok := fun _ => True) (okp := fun _ => True) ?hr ?hp (fun _ hk => hk) trivial (Below.refl _ _) (Nat.le_refl _) (by simp) ?_; (case hd => rfl); (case hg => rfl); (case hr => first | (go_simp; done) | (go_simp; rfl)); (case hp => exact (Reps.one (show Kd.M Kd.string _ _ _ a0 [.string a0] from rfl) (Reps.none _ _))); intro v296 w26 ho27 hb hg_ hnew_; clear hg_ hnew_; (first | rw [← Ny295.out] at ho27 | (simp only [Int.reduceToNat] at ho27; rw [← Ny295.out] at ho27)); have n0_ := Aside0.mk (Kd.R_lower ho27 (below_size (by repeat (first | (with_reducible first | exact HB.out | apply below_alloc | apply pw_below_drewN | apply below_drew1) | exact HB.out)))); have n1_ := Aside0.mk (below_step (by repeat (first | (with_reducible first | exact HB.out | apply below_alloc | apply pw_below_drewN | apply below_drew1) | exact HB.out)) hb); clear HB; have HO297 := n0_; have HB := n1_; clear n0_ n1_; clear hb ho27; obtain ⟨Ao28, co28, eo28⟩ := Kd.R_slice HO297.out; subst eo28) | ((with_reducible refine gate_callee (f := 8) rfl ?_); refine goesL_ (some 38) rfl rfl Try.func8 (by kernel_rfl) rfl #[.int .i64 200, .slice Ao28 y295.length co28] rfl (by (try simp only [List.map_toArray, List.map_cons, List.map_nil]); first | done | rfl | (simp only [List.length_drop, List.length_take]; rfl)) ?_; (with_reducible refine (laws_clean.calls kj7 200 _ _ y295 true _ ?side1 ?side2 A23.out).mono ?_); (case side1 => repeat (first | exact (Kd.R_reads' HO297.out).2.2 | (with_reducible refine Kd.C_alloc ?_ _) | (with_reducible refine Kd.C_drewN ?_ _) | (with_reducible refine Kd.C_drew ?_))); (case side2 => exact (Kd.R_reads' HO297.out).2.1); rintro e w29 ⟨rfl, hb⟩; refine ⟨_, rfl, ?_⟩; have n0_ := Aside0.mk (Kd.R_below (by (with_reducible repeat (first | apply Kd.R_alloc | apply Kd.R_drewN | apply Kd.R_drew)); exact HO297.out) hb); have n1_ := Aside0.mk (below_step (by repeat (first | (with_reducible first | exact HB.out | apply below_alloc | apply pw_below_drewN | apply below_drew1) | exact HB.out)) hb); clear HO297; clear HB; have HO297 := n0_; have HB := n1_; clear n0_ n1_; (try clear hb); (try clear hb2); (try clear hk); (try clear hi)))
                    go_meet
                    case rel => exact ⟨_, (true), (by first | rfl | (simp; done) | (simp [*]; done)), H', ⟨by have := HJ2.out; have := HJ7.out; first | omega | exact Nat.le_refl _⟩, ⟨by repeat (first | (with_reducible first | exact HB.out | apply below_alloc | apply pw_below_drewN | apply below_drew1) | exact HB.out)⟩⟩
                  · rw [if_neg c25] at H
                    have c25b0 : decide (8 < (l1.length : Int)) = false := decide_eq_false c25
                    have c25b1 : decide (8 < l1.length) = false := decide_eq_false (by omega)
                    clear c25
                    (first | rw [c25b0] | (simp only [i64_w, i32_w]; rw [c25b0]) | skip)
                    replace H := Option.bind_eq_some_iff.mp H
                    obtain ⟨t299, A300, H⟩ := H
                    replace H : (laws_FnPlaces.j2 kj7 a0 l1 (!t299)) = some r := H
                    have A30 := Aside0.mk A300
                    clear A300
                    have H' := Aside0.mk H
                    clear H
                    go_wp2_with (first | ((with_reducible refine gate_dst (N := 37) rfl ?_); (try (refine gate_guard (by rfl) ?_; dsimp only)); refine Kd.R_lit Kd.string _ 9 ?hg (N := 37) ?hd (xs := ([a0] : List ByteArray)) (inner := [.string a0]) (ok := fun _ => True) (okp := fun _ => True) ?hr ?hp (fun _ hk => hk) trivial (Below.refl _ _) (Nat.le_refl _) (by simp) ?_; (case hd => rfl); (case hg => rfl); (case hr => first | (go_simp; done) | (go_simp; rfl)); (case hp => exact (Reps.one (show Kd.M Kd.string _ _ _ a0 [.string a0] from rfl) (Reps.none _ _))); intro v296 w31 ho32 hb hg_ hnew_; clear hg_ hnew_; (first | rw [← Ny295.out] at ho32 | (simp only [Int.reduceToNat] at ho32; rw [← Ny295.out] at ho32)); have n0_ := Aside0.mk (Kd.R_lower ho32 (below_size (by repeat (first | (with_reducible first | exact HB.out | apply below_alloc | apply pw_below_drewN | apply below_drew1) | exact HB.out)))); have n1_ := Aside0.mk (below_step (by repeat (first | (with_reducible first | exact HB.out | apply below_alloc | apply pw_below_drewN | apply below_drew1) | exact HB.out)) hb); clear HB; have HO297 := n0_; have HB := n1_; clear n0_ n1_; clear hb ho32; obtain ⟨Ao33, co33, eo33⟩ := Kd.R_slice HO297.out; subst eo33) | ((with_reducible refine gate_callee (f := 8) rfl ?_); refine goesL_ (some 38) rfl rfl Try.func8 (by kernel_rfl) rfl #[.int .i64 200, .slice Ao33 y295.length co33] rfl (by (try simp only [List.map_toArray, List.map_cons, List.map_nil]); first | done | rfl | (simp only [List.length_drop, List.length_take]; rfl)) ?_; (with_reducible refine (laws_clean.calls kj7 200 _ _ y295 true _ ?side1 ?side2 A23.out).mono ?_); (case side1 => repeat (first | exact (Kd.R_reads' HO297.out).2.2 | (with_reducible refine Kd.C_alloc ?_ _) | (with_reducible refine Kd.C_drewN ?_ _) | (with_reducible refine Kd.C_drew ?_))); (case side2 => exact (Kd.R_reads' HO297.out).2.1); rintro e w34 ⟨rfl, hb⟩; refine ⟨_, rfl, ?_⟩; have n0_ := Aside0.mk (Kd.R_below (by (with_reducible repeat (first | apply Kd.R_alloc | apply Kd.R_drewN | apply Kd.R_drew)); exact HO297.out) hb); have n1_ := Aside0.mk (below_step (by repeat (first | (with_reducible first | exact HB.out | apply below_alloc | apply pw_below_drewN | apply below_drew1) | exact HB.out)) hb); clear HO297; clear HB; have HO297 := n0_; have HB := n1_; clear n0_ n1_; (try clear hb); (try clear hb2); (try clear hk); (try clear hi)) | (go_at_call 8; (with_reducible refine (laws_clean.calls kj7 40 _ _ l1 t299 _ ?side1 ?side2 A30.out).mono ?_); (case side1 => repeat (first | exact (Kd.C_below HR1.out HB.out) | (with_reducible refine Kd.C_alloc ?_ _) | (with_reducible refine Kd.C_drewN ?_ _) | (with_reducible refine Kd.C_drew ?_))); (case side2 => exact HC1.out); rintro e w35 ⟨rfl, hb⟩; have n0_ := Aside0.mk (Kd.R_below (by (with_reducible repeat (first | apply Kd.R_alloc | apply Kd.R_drewN | apply Kd.R_drew)); exact HO297.out) hb); have n1_ := Aside0.mk (below_step (by repeat (first | (with_reducible first | exact HB.out | apply below_alloc | apply pw_below_drewN | apply below_drew1) | exact HB.out)) hb); clear HO297; clear HB; have HO297 := n0_; have HB := n1_; clear n0_ n1_; (try clear hb); (try clear hb2); (try clear hk); (try clear hi)))
                    go_meet
                    case rel => exact ⟨_, (!t299), (by first | rfl | (simp; done) | (simp [*]; done)), H', ⟨by have := HJ2.out; have := HJ7.out; first | omega | exact Nat.le_refl _⟩, ⟨by repeat (first | (with_reducible first | exact HB.out | apply below_alloc | apply pw_below_drewN | apply below_drew1) | exact HB.out)⟩⟩
                · replace c24 := Bool.eq_false_iff.mpr c24
                  subst c24
                  have H1 : (laws_FnPlaces.j2 kj7 a0 l1 true) = some r := by rw [if_neg (show ¬ (false = true) by decide)] at H; exact H
                  clear H
                  have H := H1
                  clear H1
                  have H' := Aside0.mk H
                  clear H
                  go_wp2_with (first | ((with_reducible refine gate_dst (N := 37) rfl ?_); (try (refine gate_guard (by rfl) ?_; dsimp only)); refine Kd.R_lit Kd.string _ 9 ?hg (N := 37) ?hd (xs := ([a0] : List ByteArray)) (inner := [.string a0]) (ok := fun _ => True) (okp := fun _ => True) ?hr ?hp (fun _ hk => hk) trivial (Below.refl _ _) (Nat.le_refl _) (by simp) ?_; (case hd => rfl); (case hg => rfl); (case hr => first | (go_simp; done) | (go_simp; rfl)); (case hp => exact (Reps.one (show Kd.M Kd.string _ _ _ a0 [.string a0] from rfl) (Reps.none _ _))); intro v296 w36 ho37 hb hg_ hnew_; clear hg_ hnew_; (first | rw [← Ny295.out] at ho37 | (simp only [Int.reduceToNat] at ho37; rw [← Ny295.out] at ho37)); have n0_ := Aside0.mk (Kd.R_lower ho37 (below_size (by repeat (first | (with_reducible first | exact HB.out | apply below_alloc | apply pw_below_drewN | apply below_drew1) | exact HB.out)))); have n1_ := Aside0.mk (below_step (by repeat (first | (with_reducible first | exact HB.out | apply below_alloc | apply pw_below_drewN | apply below_drew1) | exact HB.out)) hb); clear HB; have HO297 := n0_; have HB := n1_; clear n0_ n1_; clear hb ho37; obtain ⟨Ao38, co38, eo38⟩ := Kd.R_slice HO297.out; subst eo38) | ((with_reducible refine gate_callee (f := 8) rfl ?_); refine goesL_ (some 38) rfl rfl Try.func8 (by kernel_rfl) rfl #[.int .i64 200, .slice Ao38 y295.length co38] rfl (by (try simp only [List.map_toArray, List.map_cons, List.map_nil]); first | done | rfl | (simp only [List.length_drop, List.length_take]; rfl)) ?_; (with_reducible refine (laws_clean.calls kj7 200 _ _ y295 false _ ?side1 ?side2 A23.out).mono ?_); (case side1 => repeat (first | exact (Kd.R_reads' HO297.out).2.2 | (with_reducible refine Kd.C_alloc ?_ _) | (with_reducible refine Kd.C_drewN ?_ _) | (with_reducible refine Kd.C_drew ?_))); (case side2 => exact (Kd.R_reads' HO297.out).2.1); rintro e w39 ⟨rfl, hb⟩; refine ⟨_, rfl, ?_⟩; have n0_ := Aside0.mk (Kd.R_below (by (with_reducible repeat (first | apply Kd.R_alloc | apply Kd.R_drewN | apply Kd.R_drew)); exact HO297.out) hb); have n1_ := Aside0.mk (below_step (by repeat (first | (with_reducible first | exact HB.out | apply below_alloc | apply pw_below_drewN | apply below_drew1) | exact HB.out)) hb); clear HO297; clear HB; have HO297 := n0_; have HB := n1_; clear n0_ n1_; (try clear hb); (try clear hb2); (try clear hk); (try clear hi)))
                  go_meet
                  case rel => exact ⟨_, (true), (by first | rfl | (simp; done) | (simp [*]; done)), H', ⟨by have := HJ2.out; have := HJ7.out; first | omega | exact Nat.le_refl _⟩, ⟨by repeat (first | (with_reducible first | exact HB.out | apply below_alloc | apply pw_below_drewN | apply below_drew1) | exact HB.out)⟩⟩
              case rest =>
                clear HC22
                try clear c1
                try clear c2
                try clear p2
                try clear q2
                try clear hx2
                try clear qi2
                try clear c4
                try clear c4b0
                try clear c4b1
                try clear c5
                try clear c6
                try clear c8
                try clear c13
                try clear c13b0
                try clear c13b1
                try clear c14
                try clear c14b0
                try clear c14b1
                try clear c17
                try clear c21
                try clear c24
                try clear c25
                try clear c25b0
                try clear c25b1
                try clear c29
                try clear p29
                try clear q29
                try clear hx29
                try clear qi29
                try clear hx290_0
                try clear p2
                try clear p290
                try clear q2
                try clear q290
                obtain ⟨kq, x49_21, rfl, HA, HJ21, HB⟩ := hcut
                cases kq with
                | zero => exact absurd HA.out (by simp [laws_FnPlaces.j2])
                | succ kj21 =>
                  have H := HA.out
                  clear HA
                  simp only [laws_FnPlaces.j2] at H
                  by_cases c40 : x49_21 = true
                  · subst c40
                    have H1 : (some true) = some r := by rw [if_pos rfl] at H; exact H
                    clear H
                    have H := H1
                    clear H1
                    obtain rfl := Option.some.inj H
                    go_wp2
                    go_ret
                    exact ⟨by first | rfl | (simp [errW_none, errW_some] <;> rfl) | (simp [*, errW_none, errW_some] <;> rfl), by repeat (first | (with_reducible first | exact HB.out | apply below_alloc | apply pw_below_drewN | apply below_drew1) | exact HB.out)⟩
                  · replace c40 := Bool.eq_false_iff.mpr c40
                    subst c40
                    have H1 : (laws_FnPlaces.l0 kj21 a0 l1 l1 (l1.length : Int) 0) = some r := by rw [if_neg (show ¬ (false = true) by decide)] at H; exact H
                    clear H
                    have H := H1
                    clear H1
                    have H' := Aside0.mk H
                    clear H
                    go_wp2
                    go_loopg [52] kj21 (fun kq v52 w' => ∃ (x52_4 : Int), v52 = .int .i64 x52_4 ∧ Aside0 (laws_FnPlaces.l0 kq a0 l1 l1 (l1.length : Int) x52_4 = some r) ∧ Aside0 (kq ≤ kj21) ∧ Aside0 (Below w.heap.size w w'))
                    case atStart => exact ⟨(0), (by first | rfl | (simp; done) | (simp [*]; done)), H', ⟨Nat.le_refl _⟩, ⟨by repeat (first | (with_reducible first | exact HB.out | apply below_alloc | apply pw_below_drewN | apply below_drew1) | exact HB.out)⟩⟩
                    case round =>
                      clear H'
                      try clear c1
                      try clear c2
                      try clear p2
                      try clear q2
                      try clear hx2
                      try clear qi2
                      try clear c4
                      try clear c4b0
                      try clear c4b1
                      try clear c5
                      try clear c6
                      try clear c8
                      try clear c13
                      try clear c13b0
                      try clear c13b1
                      try clear c14
                      try clear c14b0
                      try clear c14b1
                      try clear c17
                      try clear c21
                      try clear c24
                      try clear c25
                      try clear c25b0
                      try clear c25b1
                      try clear c29
                      try clear p29
                      try clear q29
                      try clear hx29
                      try clear qi29
                      try clear c40
                      try clear hx290_0
                      try clear p2
                      try clear p29
                      try clear p290
                      try clear q2
                      try clear q29
                      try clear q290
                      obtain ⟨x52_4, rfl, HA, HK4, HB⟩ := hrel
                      cases gk with
                      | zero => exact absurd HA.out (by simp [laws_FnPlaces.l0])
                      | succ k4 =>
                        have H := HA.out
                        clear HA
                        simp only [laws_FnPlaces.l0] at H
                        by_cases c41 : x52_4 < (l1.length : Int)
                        · rw [if_pos c41] at H
                          have c41b0 : decide (x52_4 < (l1.length : Int)) = true := decide_eq_true c41
                          clear c41
                          by_cases c42 : 0 ≤ x52_4
                          · rw [if_pos c42] at H
                            have c42b0 : decide (0 ≤ x52_4) = true := decide_eq_true c42
                            clear c42
                            by_cases c43 : x52_4 < (l1.length : Int)
                            · rw [if_pos c43] at H
                              have c43b0 : decide (x52_4 < (l1.length : Int)) = true := decide_eq_true c43
                              clear c43
                              by_cases c44 : (rdOf ByteArray.empty l1 x52_4).toList = ([] : List UInt8)
                              · rw [if_pos c44] at H
                                have c44b0 : ((rdOf ByteArray.empty l1 x52_4).toList == ([] : List UInt8)) = true := beq_iff_eq.mpr c44
                                have c44b1 : ((rdOf ByteArray.empty l1 x52_4).toList != ([] : List UInt8)) = false := bne_eq_false_iff_eq.mpr c44
                                clear c44
                                obtain rfl := Option.some.inj H
                                have p300 : 0 ≤ (x52_4 : Int) := of_decide_eq_true (by first | (with_reducible assumption) | assumption)
                                have q300 : x52_4 < (l1.length : Int) := of_decide_eq_true (by first | (with_reducible assumption) | assumption)
                                obtain ⟨ad300, e300, hx300_0⟩ := Kd.at_string HR1.out x52_4 p300 q300
                                cases e300
                                first | (replace hx300_0 := (HB.out.cell (World.block_lt_of_cell? w _ hx300_0)).trans hx300_0) | skip
                                replace p300 := eq_true p300
                                replace q300 := eq_true q300
                                go_wp2
                                go_ret
                                exact ⟨by first | rfl | (simp [errW_none, errW_some] <;> rfl) | (simp [*, errW_none, errW_some] <;> rfl), by repeat (first | (with_reducible first | exact HB.out | apply below_alloc | apply pw_below_drewN | apply below_drew1) | exact HB.out)⟩
                              · rw [if_neg c44] at H
                                have c44b0 : ((rdOf ByteArray.empty l1 x52_4).toList == ([] : List UInt8)) = false := beq_eq_false_iff_ne.mpr c44
                                have c44b1 : ((rdOf ByteArray.empty l1 x52_4).toList != ([] : List UInt8)) = true := bne_iff_ne.mpr c44
                                have H' := Aside0.mk H
                                clear H
                                have p300 : 0 ≤ (x52_4 : Int) := of_decide_eq_true (by first | (with_reducible assumption) | assumption)
                                have q300 : x52_4 < (l1.length : Int) := of_decide_eq_true (by first | (with_reducible assumption) | assumption)
                                obtain ⟨ad300, e300, hx300_0⟩ := Kd.at_string HR1.out x52_4 p300 q300
                                cases e300
                                first | (replace hx300_0 := (HB.out.cell (World.block_lt_of_cell? w _ hx300_0)).trans hx300_0) | skip
                                replace p300 := eq_true p300
                                replace q300 := eq_true q300
                                go_wp2
                                go_loopg [60] k4 (fun kq v60 w' => ∃ (x60_5 : Int), v60 = .int .i64 x60_5 ∧ Aside0 (laws_FnPlaces.l1 kq a0 l1 (rdOf ByteArray.empty l1 x52_4) l1 (l1.length : Int) x52_4 x52_4 x60_5 = some r) ∧ Aside0 (kq ≤ k4) ∧ Aside0 (Below w.heap.size w w'))
                                case atStart => exact ⟨(0), (by first | rfl | (simp; done) | (simp [*]; done)), H', ⟨Nat.le_refl _⟩, ⟨by repeat (first | (with_reducible first | exact HB.out | apply below_alloc | apply pw_below_drewN | apply below_drew1) | exact HB.out)⟩⟩
                                case round =>
                                  clear H'
                                  try clear c1
                                  try clear c2
                                  try clear p2
                                  try clear q2
                                  try clear hx2
                                  try clear qi2
                                  try clear p3
                                  try clear q3
                                  try clear hx3
                                  try clear c4
                                  try clear c4b0
                                  try clear c4b1
                                  try clear c5
                                  try clear c6
                                  try clear c8
                                  try clear c13
                                  try clear c13b0
                                  try clear c13b1
                                  try clear c14
                                  try clear c14b0
                                  try clear c14b1
                                  try clear c17
                                  try clear c21
                                  try clear c24
                                  try clear c25
                                  try clear c25b0
                                  try clear c25b1
                                  try clear c29
                                  try clear p29
                                  try clear q29
                                  try clear hx29
                                  try clear qi29
                                  try clear p30
                                  try clear q30
                                  try clear hx30
                                  try clear c40
                                  try clear c41
                                  try clear c41b0
                                  try clear c42
                                  try clear c42b0
                                  try clear c43
                                  try clear c43b0
                                  try clear c44
                                  try clear c44b0
                                  try clear c44b1
                                  try clear hx290_0
                                  try clear hx300_0
                                  try clear p2
                                  try clear p29
                                  try clear p290
                                  try clear p300
                                  try clear q2
                                  try clear q29
                                  try clear q290
                                  try clear q300
                                  obtain ⟨x60_5, rfl, HA, HK5, HB⟩ := hrel
                                  cases gk with
                                  | zero => exact absurd HA.out (by simp [laws_FnPlaces.l1])
                                  | succ k5 =>
                                    have H := HA.out
                                    clear HA
                                    simp only [laws_FnPlaces.l1] at H
                                    by_cases c45 : x60_5 < x52_4
                                    · rw [if_pos c45] at H
                                      have c45b0 : decide (x60_5 < x52_4) = true := decide_eq_true c45
                                      clear c45
                                      by_cases c46 : 0 ≤ x60_5
                                      · rw [if_pos c46] at H
                                        have c46b0 : decide (0 ≤ x60_5) = true := decide_eq_true c46
                                        clear c46
                                        by_cases c47 : x60_5 < (l1.length : Int)
                                        · rw [if_pos c47] at H
                                          have c47b0 : decide (x60_5 < (l1.length : Int)) = true := decide_eq_true c47
                                          clear c47
                                          by_cases c48 : (rdOf ByteArray.empty l1 x60_5).toList = (rdOf ByteArray.empty l1 x52_4).toList
                                          · rw [if_pos c48] at H
                                            have c48b0 : ((rdOf ByteArray.empty l1 x60_5).toList == (rdOf ByteArray.empty l1 x52_4).toList) = true := beq_iff_eq.mpr c48
                                            have c48b1 : ((rdOf ByteArray.empty l1 x60_5).toList != (rdOf ByteArray.empty l1 x52_4).toList) = false := bne_eq_false_iff_eq.mpr c48
                                            clear c48
                                            obtain rfl := Option.some.inj H
                                            have p301 : 0 ≤ (x60_5 : Int) := of_decide_eq_true (by first | (with_reducible assumption) | assumption)
                                            have q301 : x60_5 < (l1.length : Int) := of_decide_eq_true (by first | (with_reducible assumption) | assumption)
                                            obtain ⟨ad301, e301, hx301_0⟩ := Kd.at_string HR1.out x60_5 p301 q301
                                            obtain rfl : ad300 = ad301 := (by injection e301)
                                            first | (replace hx301_0 := (HB.out.cell (World.block_lt_of_cell? w _ hx301_0)).trans hx301_0) | skip
                                            replace p301 := eq_true p301
                                            replace q301 := eq_true q301
                                            go_wp2
                                            go_ret
                                            exact ⟨by first | rfl | (simp [errW_none, errW_some] <;> rfl) | (simp [*, errW_none, errW_some] <;> rfl), by repeat (first | (with_reducible first | exact HB.out | apply below_alloc | apply pw_below_drewN | apply below_drew1) | exact HB.out)⟩
                                          · rw [if_neg c48] at H
                                            have c48b0 : ((rdOf ByteArray.empty l1 x60_5).toList == (rdOf ByteArray.empty l1 x52_4).toList) = false := beq_eq_false_iff_ne.mpr c48
                                            have c48b1 : ((rdOf ByteArray.empty l1 x60_5).toList != (rdOf ByteArray.empty l1 x52_4).toList) = true := bne_iff_ne.mpr c48
                                            have H' := Aside0.mk H
                                            clear H
                                            have p301 : 0 ≤ (x60_5 : Int) := of_decide_eq_true (by first | (with_reducible assumption) | assumption)
                                            have q301 : x60_5 < (l1.length : Int) := of_decide_eq_true (by first | (with_reducible assumption) | assumption)
                                            obtain ⟨ad301, e301, hx301_0⟩ := Kd.at_string HR1.out x60_5 p301 q301
                                            obtain rfl : ad300 = ad301 := (by injection e301)
                                            first | (replace hx301_0 := (HB.out.cell (World.block_lt_of_cell? w _ hx301_0)).trans hx301_0) | skip
                                            replace p301 := eq_true p301
                                            replace q301 := eq_true q301
                                            go_wp2
                                            go_roundg k5
                                            case measure => have := HJ2.out; have := HJ7.out; have := HJ21.out; have := HK4.out; have := HK5.out; omega
                                            case rel => exact ⟨(wrap64 (x60_5 + 1)), (by first | rfl | (simp; done) | (simp [*]; done)), H', ⟨by have := HJ2.out; have := HJ7.out; have := HJ21.out; have := HK4.out; have := HK5.out; omega⟩, ⟨by repeat (first | (with_reducible first | exact HB.out | apply below_alloc | apply pw_below_drewN | apply below_drew1) | exact HB.out)⟩⟩
                                        · rw [if_neg c47] at H
                                          exact absurd H (by simp)
                                      · rw [if_neg c46] at H
                                        exact absurd H (by simp)
                                    · rw [if_neg c45] at H
                                      have c45b0 : decide (x60_5 < x52_4) = false := decide_eq_false c45
                                      clear c45
                                      have H' := Aside0.mk H
                                      clear H
                                      go_wp2
                                      go_roundg k5
                                      case measure => have := HJ2.out; have := HJ7.out; have := HJ21.out; have := HK4.out; have := HK5.out; omega
                                      case rel => exact ⟨(wrap64 (x52_4 + 1)), (by first | rfl | (simp; done) | (simp [*]; done)), H', ⟨by have := HJ2.out; have := HJ7.out; have := HJ21.out; have := HK4.out; have := HK5.out; omega⟩, ⟨by repeat (first | (with_reducible first | exact HB.out | apply below_alloc | apply pw_below_drewN | apply below_drew1) | exact HB.out)⟩⟩
                            · rw [if_neg c43] at H
                              exact absurd H (by simp)
                          · rw [if_neg c42] at H
                            exact absurd H (by simp)
                        · rw [if_neg c41] at H
                          have c41b0 : decide (x52_4 < (l1.length : Int)) = false := decide_eq_false c41
                          clear c41
                          replace H := Option.bind_eq_some_iff.mp H
                          obtain ⟨t302, A490, H⟩ := H
                          replace H : (if (t302.length : Int) = (l1.length : Int) then (laws_FnPlaces.l2 k4 a0 l1 t302 ([] : List ByteArray) l1 (l1.length : Int) 0) else (some false)) = some r := H
                          have A49 := Aside0.mk A490
                          clear A490
                          by_cases c50 : (t302.length : Int) = (l1.length : Int)
                          · rw [if_pos c50] at H
                            have c50b0 : ((t302.length : Int) == (l1.length : Int)) = true := beq_iff_eq.mpr c50
                            have c50b1 : ((t302.length : Int) != (l1.length : Int)) = false := bne_eq_false_iff_eq.mpr c50
                            have c50b2 : (t302.length == l1.length) = true := by first | simpa using c50 | (simp at c50 ⊢; omega)
                            clear c50
                            have H' := Aside0.mk H
                            clear H
                            go_wp2_with (first | ((with_reducible refine gate_callee (f := 17) rfl ?_); refine goesL_ (some 73) rfl rfl Try.func17 (by kernel_rfl) rfl #[.string a0, .slice A1 l1.length c1] rfl (by (try simp only [List.map_toArray, List.map_cons, List.map_nil]); first | done | rfl | (simp only [List.length_drop, List.length_take]; rfl)) ?_; (with_reducible refine (impl_Places.calls a0 _ _ l1 t302 _ ?side1 ?side2 A49.out).mono ?_); (case side1 => repeat (first | exact (Kd.C_below HR1.out HB.out) | (with_reducible refine Kd.C_alloc ?_ _) | (with_reducible refine Kd.C_drewN ?_ _) | (with_reducible refine Kd.C_drew ?_))); (case side2 => exact HC1.out); rintro e w51 ⟨v303, rfl, ho0, hb⟩; refine ⟨_, rfl, ?_⟩; have n0_ := Aside0.mk (Kd.S_lower ho0 (below_size (by repeat (first | (with_reducible first | exact HB.out | apply below_alloc | apply pw_below_drewN | apply below_drew1) | exact HB.out)))); have n1_ := Aside0.mk (below_step (by repeat (first | (with_reducible first | exact HB.out | apply below_alloc | apply pw_below_drewN | apply below_drew1) | exact HB.out)) hb); clear HB; have HO304 := n0_; have HB := n1_; clear n0_ n1_; (try clear hb); (try clear hb2); (try clear hk); (try clear hi); (try clear ho0); obtain ⟨Ao52, co52, eo52⟩ := Kd.S_slice HO304.out; subst eo52))
                            go_loopg [10, 81] k4 (fun kq v10 v81 w' => ∃ (x10_5 : List ByteArray) (x81_5 : Int), v81 = .int .i64 x81_5 ∧ Aside0 (laws_FnPlaces.l2 kq a0 l1 t302 x10_5 l1 (l1.length : Int) x81_5 = some r) ∧ Aside0 (kq ≤ k4) ∧ Aside0 (Kd.S (Kd.slice 3 (Kd.int .i64)) 41 w' w.heap.size (fun _ => True) (.slice Ao52 t302.length co52) t302) ∧ Aside0 (Kd.R Kd.string 9 w' w.heap.size (fun _ => True) v10 x10_5) ∧ Aside0 (Below w.heap.size w w'))
                            case atStart => exact ⟨(([] : List ByteArray)), (0), (by first | rfl | (simp; done) | (simp [*]; done)), H', ⟨Nat.le_refl _⟩, ⟨by (with_reducible repeat (first | apply Kd.S_alloc | apply Kd.S_drewN | apply Kd.S_drew)); exact HO304.out⟩, ⟨by first | exact Kd.R_nil _ _ _ _ _ | exact Kd.N_nil _ _ _ _ _ | exact Kd.V_nil _ _ _ _ _ | exact Kd.Q_nil _ _ _ _ _ | exact Kd.S_nil _ _ _ _ _⟩, ⟨by repeat (first | (with_reducible first | exact HB.out | apply below_alloc | apply pw_below_drewN | apply below_drew1) | exact HB.out)⟩⟩
                            case round =>
                              clear H'
                              try clear c1
                              try clear c2
                              try clear p2
                              try clear q2
                              try clear hx2
                              try clear qi2
                              try clear p3
                              try clear q3
                              try clear hx3
                              try clear c4
                              try clear c4b0
                              try clear c4b1
                              try clear c5
                              try clear c6
                              try clear p6
                              try clear c8
                              try clear c13
                              try clear c13b0
                              try clear c13b1
                              try clear c14
                              try clear c14b0
                              try clear c14b1
                              try clear c17
                              try clear c21
                              try clear c24
                              try clear c25
                              try clear c25b0
                              try clear c25b1
                              try clear c29
                              try clear p29
                              try clear q29
                              try clear hx29
                              try clear qi29
                              try clear p30
                              try clear q30
                              try clear hx30
                              try clear c40
                              try clear c41
                              try clear c41b0
                              try clear c42
                              try clear c42b0
                              try clear c43
                              try clear c43b0
                              try clear c44
                              try clear c44b0
                              try clear c44b1
                              try clear c45
                              try clear c45b0
                              try clear c46
                              try clear c46b0
                              try clear c47
                              try clear c47b0
                              try clear c48
                              try clear c48b0
                              try clear c48b1
                              try clear c50
                              try clear c50b0
                              try clear c50b1
                              try clear c50b2
                              try clear hx290_0
                              try clear hx300_0
                              try clear hx301_0
                              try clear p2
                              try clear p29
                              try clear p290
                              try clear p3
                              try clear p30
                              try clear p300
                              try clear p301
                              try clear q2
                              try clear q29
                              try clear q290
                              try clear q3
                              try clear q30
                              try clear q300
                              try clear q301
                              obtain ⟨x10_5, x81_5, rfl, HA, HK5, HO_9, HO_10, HB⟩ := hrel
                              cases gk with
                              | zero => exact absurd HA.out (by simp [laws_FnPlaces.l2])
                              | succ k5 =>
                                have H := HA.out
                                clear HA
                                simp only [laws_FnPlaces.l2] at H
                                by_cases c53 : x81_5 < (l1.length : Int)
                                · rw [if_pos c53] at H
                                  have c53b0 : decide (x81_5 < (l1.length : Int)) = true := decide_eq_true c53
                                  clear c53
                                  by_cases c54 : 0 ≤ x81_5
                                  · rw [if_pos c54] at H
                                    have c54b0 : decide (0 ≤ x81_5) = true := decide_eq_true c54
                                    clear c54
                                    by_cases c55 : x81_5 < (l1.length : Int)
                                    · rw [if_pos c55] at H
                                      have c55b0 : decide (x81_5 < (l1.length : Int)) = true := decide_eq_true c55
                                      clear c55
                                      have H' := Aside0.mk H
                                      clear H
                                      have p309 : 0 ≤ (x81_5 : Int) := of_decide_eq_true (by first | (with_reducible assumption) | assumption)
                                      have q309 : x81_5 < (l1.length : Int) := of_decide_eq_true (by first | (with_reducible assumption) | assumption)
                                      obtain ⟨ad309, e309, hx309_0⟩ := Kd.at_string HR1.out x81_5 p309 q309
                                      cases e309
                                      first | (replace hx309_0 := (HB.out.cell (World.block_lt_of_cell? w _ hx309_0)).trans hx309_0) | skip
                                      replace p309 := eq_true p309
                                      replace q309 := eq_true q309
                                      go_wp2
                                      go_loopg [13, 14] k5 (fun kq v13 v14 w' => ∃ (x13_6 : List Int) (x14_6 : Int), v14 = .int .i64 x14_6 ∧ Aside0 (laws_FnPlaces.l3 kq a0 l1 t302 x10_5 x81_5 (rdOf ByteArray.empty l1 x81_5) x13_6 x14_6 l1 (l1.length : Int) x81_5 = some r) ∧ Aside0 (kq ≤ k5) ∧ Aside0 (Kd.S (Kd.slice 3 (Kd.int .i64)) 41 w' w.heap.size (fun k_ => some k_ ≠ (v13 : Value).ownBlock) (.slice Ao52 t302.length co52) t302) ∧ Aside0 (Kd.R Kd.string 9 w' w.heap.size (fun _ => True) u10 x10_5) ∧ Aside0 (Kd.R (Kd.int .i64) 3 w' w.heap.size (fun _ => True) v13 x13_6) ∧ Aside0 (Below w.heap.size w w'))
                                      case atStart => exact ⟨(([] : List Int)), (wrap64 ((a0.size : Int) - ((rdOf ByteArray.empty l1 x81_5).size : Int))), (by first | rfl | (simp; done) | (simp [*]; done)), H', ⟨Nat.le_refl _⟩, ⟨by (with_reducible repeat (first | apply Kd.S_alloc | apply Kd.S_drewN | apply Kd.S_drew)); exact Kd.S_mono HO_9.out (fun _ hk => (by simp [Value.ownBlock]))⟩, ⟨by (with_reducible repeat (first | apply Kd.R_alloc | apply Kd.R_drewN | apply Kd.R_drew)); exact HO_10.out⟩, ⟨by first | exact Kd.R_nil _ _ _ _ _ | exact Kd.N_nil _ _ _ _ _ | exact Kd.V_nil _ _ _ _ _ | exact Kd.Q_nil _ _ _ _ _ | exact Kd.S_nil _ _ _ _ _⟩, ⟨by repeat (first | (with_reducible first | exact HB.out | apply below_alloc | apply pw_below_drewN | apply below_drew1) | exact HB.out)⟩⟩
                                      case round =>
                                        clear H'
                                        try clear c1
                                        try clear c2
                                        try clear p2
                                        try clear q2
                                        try clear hx2
                                        try clear qi2
                                        try clear p3
                                        try clear q3
                                        try clear hx3
                                        try clear c4
                                        try clear c4b0
                                        try clear c4b1
                                        try clear c5
                                        try clear c6
                                        try clear p6
                                        try clear c8
                                        try clear c13
                                        try clear c13b0
                                        try clear c13b1
                                        try clear c14
                                        try clear c14b0
                                        try clear c14b1
                                        try clear c17
                                        try clear c21
                                        try clear c24
                                        try clear c25
                                        try clear c25b0
                                        try clear c25b1
                                        try clear c29
                                        try clear p29
                                        try clear q29
                                        try clear hx29
                                        try clear qi29
                                        try clear p30
                                        try clear q30
                                        try clear hx30
                                        try clear c40
                                        try clear c41
                                        try clear c41b0
                                        try clear c42
                                        try clear c42b0
                                        try clear c43
                                        try clear c43b0
                                        try clear c44
                                        try clear c44b0
                                        try clear c44b1
                                        try clear c45
                                        try clear c45b0
                                        try clear c46
                                        try clear c46b0
                                        try clear c47
                                        try clear c47b0
                                        try clear c48
                                        try clear c48b0
                                        try clear c48b1
                                        try clear c50
                                        try clear c50b0
                                        try clear c50b1
                                        try clear c50b2
                                        try clear c53
                                        try clear c53b0
                                        try clear c54
                                        try clear c54b0
                                        try clear c55
                                        try clear c55b0
                                        try clear hx290_0
                                        try clear hx300_0
                                        try clear hx301_0
                                        try clear hx309_0
                                        try clear p2
                                        try clear p29
                                        try clear p290
                                        try clear p3
                                        try clear p30
                                        try clear p300
                                        try clear p301
                                        try clear p309
                                        try clear p6
                                        try clear q2
                                        try clear q29
                                        try clear q290
                                        try clear q3
                                        try clear q30
                                        try clear q300
                                        try clear q301
                                        try clear q309
                                        obtain ⟨x13_6, x14_6, rfl, HA, HK6, HO_9, HO_10, HO_13, HB⟩ := hrel
                                        cases gk with
                                        | zero => exact absurd HA.out (by simp [laws_FnPlaces.l3])
                                        | succ k6 =>
                                          have H := HA.out
                                          clear HA
                                          simp only [laws_FnPlaces.l3] at H
                                          by_cases c56 : x14_6 ≥ 0
                                          · rw [if_pos c56] at H
                                            have c56b0 : decide (0 ≤ x14_6) = true := decide_eq_true c56
                                            clear c56
                                            by_cases c57 : 0 ≤ x14_6
                                            · rw [if_pos c57] at H
                                              have c57b0 := eq_true c57
                                              have c57b1 : decide (0 ≤ x14_6) = true := decide_eq_true c57
                                              clear c57
                                              by_cases c58 : x14_6 ≤ (a0.size : Int)
                                              · rw [if_pos c58] at H
                                                have c58b0 := eq_true c58
                                                have c58b1 : decide (x14_6 ≤ (a0.size : Int)) = true := decide_eq_true c58
                                                clear c58
                                                replace H := Option.bind_eq_some_iff.mp H
                                                obtain ⟨t310, A590, H⟩ := H
                                                replace H : (if t310 = true then (if (x13_6.length : Int) > 0 then (if 0 ≤ (wrap64 ((x13_6.length : Int) - 1)) then (if (wrap64 ((x13_6.length : Int) - 1)) < (x13_6.length : Int) then (if (wrap64 (x14_6 + ((rdOf ByteArray.empty l1 x81_5).size : Int))) > (rd x13_6 (wrap64 ((x13_6.length : Int) - 1))) then (some true) else (if x13_6.length < 17592186044416 then (laws_FnPlaces.l3 k6 a0 l1 t302 x10_5 x81_5 (rdOf ByteArray.empty l1 x81_5) (x13_6 ++ [x14_6]) (wrap64 (x14_6 - 1)) l1 (l1.length : Int) x81_5) else (none))) else (none)) else (none)) else (if x13_6.length < 17592186044416 then (laws_FnPlaces.l3 k6 a0 l1 t302 x10_5 x81_5 (rdOf ByteArray.empty l1 x81_5) (x13_6 ++ [x14_6]) (wrap64 (x14_6 - 1)) l1 (l1.length : Int) x81_5) else (none))) else (laws_FnPlaces.l3 k6 a0 l1 t302 x10_5 x81_5 (rdOf ByteArray.empty l1 x81_5) x13_6 (wrap64 (x14_6 - 1)) l1 (l1.length : Int) x81_5)) = some r := H
                                                have A59 := Aside0.mk A590
                                                clear A590
                                                by_cases c60 : t310 = true
                                                · subst c60
                                                  have H1 : (if (x13_6.length : Int) > 0 then (if 0 ≤ (wrap64 ((x13_6.length : Int) - 1)) then (if (wrap64 ((x13_6.length : Int) - 1)) < (x13_6.length : Int) then (if (wrap64 (x14_6 + ((rdOf ByteArray.empty l1 x81_5).size : Int))) > (rd x13_6 (wrap64 ((x13_6.length : Int) - 1))) then (some true) else (if x13_6.length < 17592186044416 then (laws_FnPlaces.l3 k6 a0 l1 t302 x10_5 x81_5 (rdOf ByteArray.empty l1 x81_5) (x13_6 ++ [x14_6]) (wrap64 (x14_6 - 1)) l1 (l1.length : Int) x81_5) else (none))) else (none)) else (none)) else (if x13_6.length < 17592186044416 then (laws_FnPlaces.l3 k6 a0 l1 t302 x10_5 x81_5 (rdOf ByteArray.empty l1 x81_5) (x13_6 ++ [x14_6]) (wrap64 (x14_6 - 1)) l1 (l1.length : Int) x81_5) else (none))) = some r := by rw [if_pos rfl] at H; exact H
                                                  clear H
                                                  have H := H1
                                                  clear H1
                                                  by_cases c61 : (x13_6.length : Int) > 0
                                                  · rw [if_pos c61] at H
                                                    have c61b0 : decide (0 < (x13_6.length : Int)) = true := decide_eq_true c61
                                                    have c61b1 : decide (0 < x13_6.length) = true := decide_eq_true (by omega)
                                                    clear c61
                                                    obtain ⟨ji62, hji62⟩ : ∃ j_ : Int, (wrap64 ((x13_6.length : Int) - 1)) = j_ := ⟨_, rfl⟩
                                                    replace H : (if 0 ≤ (ji62) then (if (ji62) < (x13_6.length : Int) then (if (wrap64 (x14_6 + ((rdOf ByteArray.empty l1 x81_5).size : Int))) > (rd x13_6 (ji62)) then (some true) else (if x13_6.length < 17592186044416 then (laws_FnPlaces.l3 k6 a0 l1 t302 x10_5 x81_5 (rdOf ByteArray.empty l1 x81_5) (x13_6 ++ [x14_6]) (wrap64 (x14_6 - 1)) l1 (l1.length : Int) x81_5) else (none))) else (none)) else (none)) = some r := by first | (rw [hji62] at H; exact H) | (simp only [hji62] at H ⊢; exact H)
                                                    (try rw [hji62] at A59)
                                                    have hji62w : (IntKind.i64.wrap ((x13_6.length : Int) - 1)) = ji62 := (i64_w _).trans hji62
                                                    by_cases c63 : 0 ≤ (ji62)
                                                    · rw [if_pos c63] at H
                                                      have c63b0 : decide (0 ≤ (ji62)) = true := decide_eq_true c63
                                                      clear c63
                                                      by_cases c64 : (ji62) < (x13_6.length : Int)
                                                      · rw [if_pos c64] at H
                                                        have c64b0 : decide ((ji62) < (x13_6.length : Int)) = true := decide_eq_true c64
                                                        clear c64
                                                        by_cases c65 : (wrap64 (x14_6 + ((rdOf ByteArray.empty l1 x81_5).size : Int))) > (rd x13_6 (ji62))
                                                        · rw [if_pos c65] at H
                                                          have c65b0 : decide ((rd x13_6 (ji62)) < (wrap64 (x14_6 + ((rdOf ByteArray.empty l1 x81_5).size : Int)))) = true := decide_eq_true c65
                                                          clear c65
                                                          obtain rfl := Option.some.inj H
                                                          go_wp2_with (first | ((with_reducible refine gate_callee (f := 19) rfl ?_); refine goesL_ (some 99) rfl rfl Try.func19 (by kernel_rfl) rfl #[.string (a0.extract (x14_6 : Int).toNat a0.size), .string (rdOf ByteArray.empty l1 x81_5)] rfl (by (try simp only [List.map_toArray, List.map_cons, List.map_nil]); first | done | rfl | (simp only [List.length_drop, List.length_take]; rfl)) ?_; (with_reducible refine (laws_begins.calls (a0.extract (x14_6 : Int).toNat a0.size) (rdOf ByteArray.empty l1 x81_5) true _ A59.out).mono ?_); rintro e w' ⟨rfl, ⟨nd, rfl⟩⟩; refine ⟨_, rfl, ?_⟩; obtain ⟨Ao66, co66, eo66⟩ := Kd.R_slice HO_13.out; subst eo66; have p311 : 0 ≤ ((ji62) : Int) := of_decide_eq_true (by first | (with_reducible assumption) | assumption); have q311 : (ji62) < (x13_6.length : Int) := of_decide_eq_true (by first | (with_reducible assumption) | assumption); obtain ⟨ad311, e311, hx311_0⟩ := Kd.at_int (Kd.R_reads' HO_13.out).2.2 (ji62) p311 q311; cases e311; replace p311 := eq_true p311; replace q311 := eq_true q311))
                                                          go_ret
                                                          exact ⟨by first | rfl | (simp [errW_none, errW_some] <;> rfl) | (simp only [← hji62]; first | rfl | (simp [errW_none, errW_some] <;> rfl)) | (simp [*, errW_none, errW_some] <;> rfl), by repeat (first | (with_reducible first | exact HB.out | apply below_alloc | apply pw_below_drewN | apply below_drew1) | exact HB.out)⟩
                                                        · rw [if_neg c65] at H
                                                          have c65b0 : decide ((rd x13_6 (ji62)) < (wrap64 (x14_6 + ((rdOf ByteArray.empty l1 x81_5).size : Int)))) = false := decide_eq_false c65
                                                          clear c65
                                                          by_cases c67 : x13_6.length < 17592186044416
                                                          · rw [if_pos c67] at H
                                                            have LMc67 := Aside0.mk c67
                                                            clear c67
                                                            obtain ⟨y312, hy312⟩ : ∃ y_ : List Int, y_ = (x13_6 ++ [x14_6]) := ⟨_, rfl⟩
                                                            replace H : (laws_FnPlaces.l3 k6 a0 l1 t302 x10_5 x81_5 (rdOf ByteArray.empty l1 x81_5) y312 (wrap64 (x14_6 - 1)) l1 (l1.length : Int) x81_5) = some r := by first | (rw [hy312]; with_reducible exact H) | (have H2_ := (Option.bind_some _ _).symm.trans H; rw [hy312]; with_reducible exact H2_) | (have H2_ := (Option.bind_some _ _).symm.trans H; with_reducible exact H2_) | with_reducible exact H | (rw [hy312]; exact H) | exact H
                                                            have Ny312 := Aside0.mk hy312
                                                            clear hy312
                                                            have H' := Aside0.mk H
                                                            clear H
                                                            go_wp2_with (first | ((with_reducible refine gate_callee (f := 19) rfl ?_); refine goesL_ (some 99) rfl rfl Try.func19 (by kernel_rfl) rfl #[.string (a0.extract (x14_6 : Int).toNat a0.size), .string (rdOf ByteArray.empty l1 x81_5)] rfl (by (try simp only [List.map_toArray, List.map_cons, List.map_nil]); first | done | rfl | (simp only [List.length_drop, List.length_take]; rfl)) ?_; (with_reducible refine (laws_begins.calls (a0.extract (x14_6 : Int).toNat a0.size) (rdOf ByteArray.empty l1 x81_5) true _ A59.out).mono ?_); rintro e w' ⟨rfl, ⟨nd, rfl⟩⟩; refine ⟨_, rfl, ?_⟩; obtain ⟨Ao68, co68, eo68⟩ := Kd.R_slice HO_13.out; subst eo68; have p311 : 0 ≤ ((ji62) : Int) := of_decide_eq_true (by first | (with_reducible assumption) | assumption); have q311 : (ji62) < (x13_6.length : Int) := of_decide_eq_true (by first | (with_reducible assumption) | assumption); obtain ⟨ad311, e311, hx311_0⟩ := Kd.at_int (Kd.R_reads' HO_13.out).2.2 (ji62) p311 q311; cases e311; replace p311 := eq_true p311; replace q311 := eq_true q311) | ((with_reducible refine gate_builtin (b := .append) (xs := #[.tmp 117, .tmp 119]) rfl ?_); (try (refine gate_guard (by rfl) ?_; dsimp only)); at_builtin; refine Kd.R_append (Kd.int .i64) (w0 := w) w.heap.size rfl (.tmp 117) (.tmp 119) 41 3 (.int .i64 0) 8 rfl Try.underlying41 info3 rfl (by decide) (by omega) (.slice (some ad311) x13_6.length co68) x13_6 x14_6 [.int .i64 x14_6] (fun _ => True) (fun _ => False) rfl rfl ?aP (fun _ hk => hk.elim) ?aF ?aO ?aB ?aS ?aL ?_; (case aP => exact rfl); (case aB => exact (by repeat (first | (with_reducible first | exact HB.out | apply below_alloc | apply pw_below_drewN | apply below_drew1) | exact HB.out))); (case aF => exact (fun _ _ => trivial)); (case aO => exact (by (with_reducible repeat (first | apply Kd.R_alloc | apply Kd.R_drewN | apply Kd.R_drew)); exact HO_13.out)); (case aS => exact (below_size (by repeat (first | (with_reducible first | exact HB.out | apply below_alloc | apply pw_below_drewN | apply below_drew1) | exact HB.out)))); (case aL => have := LMc67.out; omega); intro v313 w69 ho hb hg hat; rw [← Ny312.out] at ho; have n0_ := Aside0.mk (Kd.S_after (ok := (fun _ => True)) (by (with_reducible repeat (first | apply Kd.S_alloc | apply Kd.S_drewN | apply Kd.S_drew)); exact Kd.S_mono HO_9.out (fun _ hk => ⟨trivial, hk⟩)) hg hat); have n1_ := Aside0.mk (Kd.R_over' (by (with_reducible repeat (first | apply Kd.R_alloc | apply Kd.R_drewN | apply Kd.R_drew)); exact HO_10.out) (Kd.R_typed (by (with_reducible repeat (first | apply Kd.R_alloc | apply Kd.R_drewN | apply Kd.R_drew)); exact HO_13.out)) (by decide) hg); have n2_ := Aside0.mk (hb); have n3_ := Aside0.mk (ho); clear HO_9; clear HO_10; clear HB; clear HO_13; have HO_9 := n0_; have HO_10 := n1_; have HB := n2_; have HO314 := n3_; clear n0_ n1_ n2_ n3_; clear ho hb hg hat))
                                                            go_roundg k6
                                                            case measure => have := HJ2.out; have := HJ7.out; have := HJ21.out; have := HK4.out; have := HK5.out; have := HK6.out; omega
                                                            case rel => exact ⟨(y312), (wrap64 (x14_6 - 1)), (by first | rfl | (simp; done) | (simp [*]; done)), H', ⟨by have := HJ2.out; have := HJ7.out; have := HJ21.out; have := HK4.out; have := HK5.out; have := HK6.out; omega⟩, ⟨by (with_reducible repeat (first | apply Kd.S_alloc | apply Kd.S_drewN | apply Kd.S_drew)); exact Kd.S_mono HO_9.out (fun _ hk => hk.2)⟩, ⟨by (with_reducible repeat (first | apply Kd.R_alloc | apply Kd.R_drewN | apply Kd.R_drew)); exact HO_10.out⟩, ⟨by (with_reducible repeat (first | apply Kd.R_alloc | apply Kd.R_drewN | apply Kd.R_drew)); exact HO314.out⟩, ⟨by repeat (first | (with_reducible first | exact HB.out | apply below_alloc | apply pw_below_drewN | apply below_drew1) | exact HB.out)⟩⟩
                                                          · rw [if_neg c67] at H
                                                            exact absurd H (by simp)
                                                      · rw [if_neg c64] at H
                                                        exact absurd H (by simp)
                                                    · rw [if_neg c63] at H
                                                      exact absurd H (by simp)
                                                  · rw [if_neg c61] at H
                                                    have c61b0 : decide (0 < (x13_6.length : Int)) = false := decide_eq_false c61
                                                    have c61b1 : decide (0 < x13_6.length) = false := decide_eq_false (by omega)
                                                    clear c61
                                                    by_cases c70 : x13_6.length < 17592186044416
                                                    · rw [if_pos c70] at H
                                                      have LMc70 := Aside0.mk c70
                                                      clear c70
                                                      obtain ⟨y315, hy315⟩ : ∃ y_ : List Int, y_ = (x13_6 ++ [x14_6]) := ⟨_, rfl⟩
                                                      replace H : (laws_FnPlaces.l3 k6 a0 l1 t302 x10_5 x81_5 (rdOf ByteArray.empty l1 x81_5) y315 (wrap64 (x14_6 - 1)) l1 (l1.length : Int) x81_5) = some r := by first | (rw [hy315]; with_reducible exact H) | (have H2_ := (Option.bind_some _ _).symm.trans H; rw [hy315]; with_reducible exact H2_) | (have H2_ := (Option.bind_some _ _).symm.trans H; with_reducible exact H2_) | with_reducible exact H | (rw [hy315]; exact H) | exact H
                                                      have Ny315 := Aside0.mk hy315
                                                      clear hy315
                                                      have H' := Aside0.mk H
                                                      clear H
                                                      go_wp2_with (first | ((with_reducible refine gate_callee (f := 19) rfl ?_); refine goesL_ (some 99) rfl rfl Try.func19 (by kernel_rfl) rfl #[.string (a0.extract (x14_6 : Int).toNat a0.size), .string (rdOf ByteArray.empty l1 x81_5)] rfl (by (try simp only [List.map_toArray, List.map_cons, List.map_nil]); first | done | rfl | (simp only [List.length_drop, List.length_take]; rfl)) ?_; (with_reducible refine (laws_begins.calls (a0.extract (x14_6 : Int).toNat a0.size) (rdOf ByteArray.empty l1 x81_5) true _ A59.out).mono ?_); rintro e w' ⟨rfl, ⟨nd, rfl⟩⟩; refine ⟨_, rfl, ?_⟩; obtain ⟨Ao71, co71, eo71⟩ := Kd.R_slice HO_13.out; subst eo71) | ((with_reducible refine gate_builtin (b := .append) (xs := #[.tmp 117, .tmp 119]) rfl ?_); (try (refine gate_guard (by rfl) ?_; dsimp only)); at_builtin; refine Kd.R_append (Kd.int .i64) (w0 := w) w.heap.size rfl (.tmp 117) (.tmp 119) 41 3 (.int .i64 0) 8 rfl Try.underlying41 info3 rfl (by decide) (by omega) (.slice Ao71 x13_6.length co71) x13_6 x14_6 [.int .i64 x14_6] (fun _ => True) (fun _ => False) rfl rfl ?aP (fun _ hk => hk.elim) ?aF ?aO ?aB ?aS ?aL ?_; (case aP => exact rfl); (case aB => exact (by repeat (first | (with_reducible first | exact HB.out | apply below_alloc | apply pw_below_drewN | apply below_drew1) | exact HB.out))); (case aF => exact (fun _ _ => trivial)); (case aO => exact (by (with_reducible repeat (first | apply Kd.R_alloc | apply Kd.R_drewN | apply Kd.R_drew)); exact HO_13.out)); (case aS => exact (below_size (by repeat (first | (with_reducible first | exact HB.out | apply below_alloc | apply pw_below_drewN | apply below_drew1) | exact HB.out)))); (case aL => have := LMc70.out; omega); intro v316 w72 ho hb hg hat; rw [← Ny315.out] at ho; have n0_ := Aside0.mk (Kd.S_after (ok := (fun _ => True)) (by (with_reducible repeat (first | apply Kd.S_alloc | apply Kd.S_drewN | apply Kd.S_drew)); exact Kd.S_mono HO_9.out (fun _ hk => ⟨trivial, hk⟩)) hg hat); have n1_ := Aside0.mk (Kd.R_over' (by (with_reducible repeat (first | apply Kd.R_alloc | apply Kd.R_drewN | apply Kd.R_drew)); exact HO_10.out) (Kd.R_typed (by (with_reducible repeat (first | apply Kd.R_alloc | apply Kd.R_drewN | apply Kd.R_drew)); exact HO_13.out)) (by decide) hg); have n2_ := Aside0.mk (hb); have n3_ := Aside0.mk (ho); clear HO_9; clear HO_10; clear HB; clear HO_13; have HO_9 := n0_; have HO_10 := n1_; have HB := n2_; have HO317 := n3_; clear n0_ n1_ n2_ n3_; clear ho hb hg hat))
                                                      go_roundg k6
                                                      case measure => have := HJ2.out; have := HJ7.out; have := HJ21.out; have := HK4.out; have := HK5.out; have := HK6.out; omega
                                                      case rel => exact ⟨(y315), (wrap64 (x14_6 - 1)), (by first | rfl | (simp; done) | (simp [*]; done)), H', ⟨by have := HJ2.out; have := HJ7.out; have := HJ21.out; have := HK4.out; have := HK5.out; have := HK6.out; omega⟩, ⟨by (with_reducible repeat (first | apply Kd.S_alloc | apply Kd.S_drewN | apply Kd.S_drew)); exact Kd.S_mono HO_9.out (fun _ hk => hk.2)⟩, ⟨by (with_reducible repeat (first | apply Kd.R_alloc | apply Kd.R_drewN | apply Kd.R_drew)); exact HO_10.out⟩, ⟨by (with_reducible repeat (first | apply Kd.R_alloc | apply Kd.R_drewN | apply Kd.R_drew)); exact HO317.out⟩, ⟨by repeat (first | (with_reducible first | exact HB.out | apply below_alloc | apply pw_below_drewN | apply below_drew1) | exact HB.out)⟩⟩
                                                    · rw [if_neg c70] at H
                                                      exact absurd H (by simp)
                                                · replace c60 := Bool.eq_false_iff.mpr c60
                                                  subst c60
                                                  have H1 : (laws_FnPlaces.l3 k6 a0 l1 t302 x10_5 x81_5 (rdOf ByteArray.empty l1 x81_5) x13_6 (wrap64 (x14_6 - 1)) l1 (l1.length : Int) x81_5) = some r := by rw [if_neg (show ¬ (false = true) by decide)] at H; exact H
                                                  clear H
                                                  have H := H1
                                                  clear H1
                                                  have H' := Aside0.mk H
                                                  clear H
                                                  go_wp2_with (first | ((with_reducible refine gate_callee (f := 19) rfl ?_); refine goesL_ (some 99) rfl rfl Try.func19 (by kernel_rfl) rfl #[.string (a0.extract (x14_6 : Int).toNat a0.size), .string (rdOf ByteArray.empty l1 x81_5)] rfl (by (try simp only [List.map_toArray, List.map_cons, List.map_nil]); first | done | rfl | (simp only [List.length_drop, List.length_take]; rfl)) ?_; (with_reducible refine (laws_begins.calls (a0.extract (x14_6 : Int).toNat a0.size) (rdOf ByteArray.empty l1 x81_5) false _ A59.out).mono ?_); rintro e w' ⟨rfl, ⟨nd, rfl⟩⟩; refine ⟨_, rfl, ?_⟩))
                                                  go_roundg k6
                                                  case measure => have := HJ2.out; have := HJ7.out; have := HJ21.out; have := HK4.out; have := HK5.out; have := HK6.out; omega
                                                  case rel => exact ⟨(x13_6), (wrap64 (x14_6 - 1)), (by first | rfl | (simp; done) | (simp [*]; done)), H', ⟨by have := HJ2.out; have := HJ7.out; have := HJ21.out; have := HK4.out; have := HK5.out; have := HK6.out; omega⟩, ⟨by (with_reducible repeat (first | apply Kd.S_alloc | apply Kd.S_drewN | apply Kd.S_drew)); exact HO_9.out⟩, ⟨by (with_reducible repeat (first | apply Kd.R_alloc | apply Kd.R_drewN | apply Kd.R_drew)); exact HO_10.out⟩, ⟨by (with_reducible repeat (first | apply Kd.R_alloc | apply Kd.R_drewN | apply Kd.R_drew)); exact HO_13.out⟩, ⟨by repeat (first | (with_reducible first | exact HB.out | apply below_alloc | apply pw_below_drewN | apply below_drew1) | exact HB.out)⟩⟩
                                              · rw [if_neg c58] at H
                                                exact absurd H (by simp)
                                            · rw [if_neg c57] at H
                                              exact absurd H (by simp)
                                          · rw [if_neg c56] at H
                                            have c56b0 : decide (0 ≤ x14_6) = false := decide_eq_false c56
                                            clear c56
                                            by_cases c73 : 0 ≤ x81_5
                                            · rw [if_pos c73] at H
                                              have c73b0 : decide (0 ≤ x81_5) = true := decide_eq_true c73
                                              clear c73
                                              by_cases c74 : x81_5 < (t302.length : Int)
                                              · rw [if_pos c74] at H
                                                have c74b0 : decide (x81_5 < (t302.length : Int)) = true := decide_eq_true c74
                                                clear c74
                                                replace H := Option.bind_eq_some_iff.mp H
                                                obtain ⟨t319, A750, H⟩ := H
                                                replace H : (if t319 = true then (if (x13_6.length : Int) > 0 then ((laws_inserted.f k6 x10_5 (rdOf ByteArray.empty l1 x81_5)).bind fun t320 => (laws_FnPlaces.l2 k6 a0 l1 t302 t320 l1 (l1.length : Int) (wrap64 (x81_5 + 1)))) else (laws_FnPlaces.l2 k6 a0 l1 t302 x10_5 l1 (l1.length : Int) (wrap64 (x81_5 + 1)))) else (some false)) = some r := H
                                                have A75 := Aside0.mk A750
                                                clear A750
                                                by_cases c76 : t319 = true
                                                · subst c76
                                                  have H1 : (if (x13_6.length : Int) > 0 then ((laws_inserted.f k6 x10_5 (rdOf ByteArray.empty l1 x81_5)).bind fun t320 => (laws_FnPlaces.l2 k6 a0 l1 t302 t320 l1 (l1.length : Int) (wrap64 (x81_5 + 1)))) else (laws_FnPlaces.l2 k6 a0 l1 t302 x10_5 l1 (l1.length : Int) (wrap64 (x81_5 + 1)))) = some r := by rw [if_pos rfl] at H; exact H
                                                  clear H
                                                  have H := H1
                                                  clear H1
                                                  by_cases c77 : (x13_6.length : Int) > 0
                                                  · rw [if_pos c77] at H
                                                    have c77b0 : decide (0 < (x13_6.length : Int)) = true := decide_eq_true c77
                                                    have c77b1 : decide (0 < x13_6.length) = true := decide_eq_true (by omega)
                                                    clear c77
                                                    replace H := Option.bind_eq_some_iff.mp H
                                                    obtain ⟨t320, A780, H⟩ := H
                                                    replace H : (laws_FnPlaces.l2 k6 a0 l1 t302 t320 l1 (l1.length : Int) (wrap64 (x81_5 + 1))) = some r := H
                                                    have A78 := Aside0.mk A780
                                                    clear A780
                                                    have H' := Aside0.mk H
                                                    clear H
                                                    have p318 : 0 ≤ (x81_5 : Int) := of_decide_eq_true (by first | (with_reducible assumption) | assumption)
                                                    have q318 : x81_5 < (t302.length : Int) := of_decide_eq_true (by first | (with_reducible assumption) | assumption)
                                                    obtain ⟨ad318, A318_0, c318_0, e318, hx318_0, hl318_0, hi318_0⟩ := at_L4 (Kd.S_reads' HO_9.out).2.2 x81_5 p318 q318
                                                    cases e318
                                                    obtain ⟨ce318, hce318, hMe318, hcc318⟩ := Kd.S_get HO_9.out [] x81_5 p318 (by first | exact q318 | exact of_decide_eq_true (by first | (with_reducible assumption) | assumption) | (have e_ := (Kd.S_reads' HO_9.out).1; omega))
                                                    obtain ⟨ve318_0, rfl, ge318_0⟩ := hMe318
                                                    have hv318_0 := hcc318 0 _ rfl
                                                    rw [Nat.add_zero, show ((Kd.slice 3 (Kd.int .i64))).sz = 1 from rfl, Nat.mul_one] at hv318_0
                                                    replace hv318_0 := Option.some.inj (hv318_0.symm.trans hx318_0)
                                                    rw [hv318_0] at ge318_0
                                                    have HL318_0 := Aside0.mk (show Kd.R (Kd.int .i64) 3 _ _ _ _ (rd_L4 t302 x81_5) from ge318_0)
                                                    clear hv318_0 ge318_0
                                                    clear hcc318 hce318
                                                    have HR318_0 := Aside0.mk hi318_0
                                                    have HC318_0 := Aside0.mk hl318_0
                                                    clear hi318_0 hl318_0
                                                    replace p318 := eq_true p318
                                                    replace q318 := eq_true q318
                                                    obtain ⟨Ao79, co79, eo79⟩ := Kd.R_slice HO_13.out
                                                    subst eo79
                                                    go_wp2_with (first | ((with_reducible refine gate_callee (f := 18) rfl ?_); refine goesL_ (some 126) rfl rfl Try.func18 (by kernel_rfl) rfl #[.slice A318_0 (rd_L4 t302 x81_5).length c318_0, .slice Ao79 x13_6.length co79] rfl (by (try simp only [List.map_toArray, List.map_cons, List.map_nil]); first | done | rfl | (simp only [List.length_drop, List.length_take]; rfl)) ?_; (with_reducible refine (laws_sameInts.calls k6 _ _ (rd_L4 t302 x81_5) _ _ x13_6 true _ ?side1 ?side2 ?side3 ?side4 A75.out).mono ?_); (case side1 => repeat (first | exact (by repeat (first | (with_reducible exact HR318_0.out) | (with_reducible refine Kd.C_alloc ?_ _) | (with_reducible refine Kd.C_drewN ?_ _) | (with_reducible refine Kd.C_drew ?_) | exact HR318_0.out)) | (with_reducible refine Kd.C_alloc ?_ _) | (with_reducible refine Kd.C_drewN ?_ _) | (with_reducible refine Kd.C_drew ?_))); (case side2 => exact HC318_0.out); (case side3 => repeat (first | exact (Kd.R_reads' HO_13.out).2.2 | (with_reducible refine Kd.C_alloc ?_ _) | (with_reducible refine Kd.C_drewN ?_ _) | (with_reducible refine Kd.C_drew ?_))); (case side4 => exact (Kd.R_reads' HO_13.out).2.1); rintro e w' ⟨rfl, ⟨nd, rfl⟩⟩; refine ⟨_, rfl, ?_⟩; obtain ⟨Ao80, co80, eo80⟩ := Kd.R_slice HO_10.out; subst eo80) | ((with_reducible refine gate_callee (f := 20) rfl ?_); refine goesL_ (some 133) rfl rfl Try.func20 (by kernel_rfl) rfl #[.slice Ao80 x10_5.length co80, .string (rdOf ByteArray.empty l1 x81_5)] rfl (by (try simp only [List.map_toArray, List.map_cons, List.map_nil]); first | done | rfl | (simp only [List.length_drop, List.length_take]; rfl)) ?_; (with_reducible refine (laws_inserted.calls k6 _ _ x10_5 (rdOf ByteArray.empty l1 x81_5) t320 _ ?side1 ?side2 A78.out).mono ?_); (case side1 => repeat (first | exact (Kd.R_reads' HO_10.out).2.2 | (with_reducible refine Kd.C_alloc ?_ _) | (with_reducible refine Kd.C_drewN ?_ _) | (with_reducible refine Kd.C_drew ?_))); (case side2 => exact (Kd.R_reads' HO_10.out).2.1); rintro e w81 ⟨v321, rfl, ho0, hb⟩; refine ⟨_, rfl, ?_⟩; have n0_ := Aside0.mk (Kd.S_below (by (with_reducible repeat (first | apply Kd.S_alloc | apply Kd.S_drewN | apply Kd.S_drew)); exact HO_9.out) hb); have n1_ := Aside0.mk (Kd.R_elder' (by (with_reducible repeat (first | apply Kd.R_alloc | apply Kd.R_drewN | apply Kd.R_drew)); exact HO_10.out) (by first | exact Kd.N_base ho0 | exact Kd.S_base ho0 | exact Kd.R_base ho0) hb); have n2_ := Aside0.mk (Kd.R_below (by (with_reducible repeat (first | apply Kd.R_alloc | apply Kd.R_drewN | apply Kd.R_drew)); exact HO_13.out) hb); have n3_ := Aside0.mk (Kd.R_below (by (with_reducible repeat (first | apply Kd.R_alloc | apply Kd.R_drewN | apply Kd.R_drew)); exact HL318_0.out) hb); have n4_ := Aside0.mk (Kd.R_lower (Kd.R_new' ho0 (Kd.R_lt (by (with_reducible repeat (first | apply Kd.R_alloc | apply Kd.R_drewN | apply Kd.R_drew)); exact HO_10.out))) (below_size (by repeat (first | (with_reducible first | exact HB.out | apply below_alloc | apply pw_below_drewN | apply below_drew1) | exact HB.out)))); have n5_ := Aside0.mk (Kd.C_below (by repeat (first | (with_reducible exact HR318_0.out) | (with_reducible refine Kd.C_alloc ?_ _) | (with_reducible refine Kd.C_drewN ?_ _) | (with_reducible refine Kd.C_drew ?_) | exact HR318_0.out)) hb); have n6_ := Aside0.mk (below_step (by repeat (first | (with_reducible first | exact HB.out | apply below_alloc | apply pw_below_drewN | apply below_drew1) | exact HB.out)) hb); clear HO_9; clear HO_10; clear HO_13; clear HL318_0; clear HR318_0; clear HB; have HO_9 := n0_; have HO_10 := n1_; have HO_13 := n2_; have HL318_0 := n3_; have HO322 := n4_; have HR318_0 := n5_; have HB := n6_; clear n0_ n1_ n2_ n3_ n4_ n5_ n6_; (try clear hb); (try clear hb2); (try clear hk); (try clear hi); (try clear ho0)))
                                                    go_roundg k6
                                                    case measure => have := HJ2.out; have := HJ7.out; have := HJ21.out; have := HK4.out; have := HK5.out; have := HK6.out; omega
                                                    case rel => exact ⟨(t320), (wrap64 (x81_5 + 1)), (by first | rfl | (simp; done) | (simp [*]; done)), H', ⟨by have := HJ2.out; have := HJ7.out; have := HJ21.out; have := HK4.out; have := HK5.out; have := HK6.out; omega⟩, ⟨by (with_reducible repeat (first | apply Kd.S_alloc | apply Kd.S_drewN | apply Kd.S_drew)); exact Kd.S_mono HO_9.out (fun _ hk => trivial)⟩, ⟨by (with_reducible repeat (first | apply Kd.R_alloc | apply Kd.R_drewN | apply Kd.R_drew)); exact Kd.R_mono HO322.out (fun _ hk => trivial)⟩, ⟨by repeat (first | (with_reducible first | exact HB.out | apply below_alloc | apply pw_below_drewN | apply below_drew1) | exact HB.out)⟩⟩
                                                  · rw [if_neg c77] at H
                                                    have c77b0 : decide (0 < (x13_6.length : Int)) = false := decide_eq_false c77
                                                    have c77b1 : decide (0 < x13_6.length) = false := decide_eq_false (by omega)
                                                    clear c77
                                                    have H' := Aside0.mk H
                                                    clear H
                                                    have p318 : 0 ≤ (x81_5 : Int) := of_decide_eq_true (by first | (with_reducible assumption) | assumption)
                                                    have q318 : x81_5 < (t302.length : Int) := of_decide_eq_true (by first | (with_reducible assumption) | assumption)
                                                    obtain ⟨ad318, A318_0, c318_0, e318, hx318_0, hl318_0, hi318_0⟩ := at_L4 (Kd.S_reads' HO_9.out).2.2 x81_5 p318 q318
                                                    cases e318
                                                    obtain ⟨ce318, hce318, hMe318, hcc318⟩ := Kd.S_get HO_9.out [] x81_5 p318 (by first | exact q318 | exact of_decide_eq_true (by first | (with_reducible assumption) | assumption) | (have e_ := (Kd.S_reads' HO_9.out).1; omega))
                                                    obtain ⟨ve318_0, rfl, ge318_0⟩ := hMe318
                                                    have hv318_0 := hcc318 0 _ rfl
                                                    rw [Nat.add_zero, show ((Kd.slice 3 (Kd.int .i64))).sz = 1 from rfl, Nat.mul_one] at hv318_0
                                                    replace hv318_0 := Option.some.inj (hv318_0.symm.trans hx318_0)
                                                    rw [hv318_0] at ge318_0
                                                    have HL318_0 := Aside0.mk (show Kd.R (Kd.int .i64) 3 _ _ _ _ (rd_L4 t302 x81_5) from ge318_0)
                                                    clear hv318_0 ge318_0
                                                    clear hcc318 hce318
                                                    have HR318_0 := Aside0.mk hi318_0
                                                    have HC318_0 := Aside0.mk hl318_0
                                                    clear hi318_0 hl318_0
                                                    replace p318 := eq_true p318
                                                    replace q318 := eq_true q318
                                                    obtain ⟨Ao82, co82, eo82⟩ := Kd.R_slice HO_13.out
                                                    subst eo82
                                                    go_wp2_with (first | ((with_reducible refine gate_callee (f := 18) rfl ?_); refine goesL_ (some 126) rfl rfl Try.func18 (by kernel_rfl) rfl #[.slice A318_0 (rd_L4 t302 x81_5).length c318_0, .slice Ao82 x13_6.length co82] rfl (by (try simp only [List.map_toArray, List.map_cons, List.map_nil]); first | done | rfl | (simp only [List.length_drop, List.length_take]; rfl)) ?_; (with_reducible refine (laws_sameInts.calls k6 _ _ (rd_L4 t302 x81_5) _ _ x13_6 true _ ?side1 ?side2 ?side3 ?side4 A75.out).mono ?_); (case side1 => repeat (first | exact (by repeat (first | (with_reducible exact HR318_0.out) | (with_reducible refine Kd.C_alloc ?_ _) | (with_reducible refine Kd.C_drewN ?_ _) | (with_reducible refine Kd.C_drew ?_) | exact HR318_0.out)) | (with_reducible refine Kd.C_alloc ?_ _) | (with_reducible refine Kd.C_drewN ?_ _) | (with_reducible refine Kd.C_drew ?_))); (case side2 => exact HC318_0.out); (case side3 => repeat (first | exact (Kd.R_reads' HO_13.out).2.2 | (with_reducible refine Kd.C_alloc ?_ _) | (with_reducible refine Kd.C_drewN ?_ _) | (with_reducible refine Kd.C_drew ?_))); (case side4 => exact (Kd.R_reads' HO_13.out).2.1); rintro e w' ⟨rfl, ⟨nd, rfl⟩⟩; refine ⟨_, rfl, ?_⟩))
                                                    go_roundg k6
                                                    case measure => have := HJ2.out; have := HJ7.out; have := HJ21.out; have := HK4.out; have := HK5.out; have := HK6.out; omega
                                                    case rel => exact ⟨(x10_5), (wrap64 (x81_5 + 1)), (by first | rfl | (simp; done) | (simp [*]; done)), H', ⟨by have := HJ2.out; have := HJ7.out; have := HJ21.out; have := HK4.out; have := HK5.out; have := HK6.out; omega⟩, ⟨by (with_reducible repeat (first | apply Kd.S_alloc | apply Kd.S_drewN | apply Kd.S_drew)); exact Kd.S_mono HO_9.out (fun _ hk => trivial)⟩, ⟨by (with_reducible repeat (first | apply Kd.R_alloc | apply Kd.R_drewN | apply Kd.R_drew)); exact HO_10.out⟩, ⟨by repeat (first | (with_reducible first | exact HB.out | apply below_alloc | apply pw_below_drewN | apply below_drew1) | exact HB.out)⟩⟩
                                                · replace c76 := Bool.eq_false_iff.mpr c76
                                                  subst c76
                                                  have H1 : (some false) = some r := by rw [if_neg (show ¬ (false = true) by decide)] at H; exact H
                                                  clear H
                                                  have H := H1
                                                  clear H1
                                                  obtain rfl := Option.some.inj H
                                                  have p318 : 0 ≤ (x81_5 : Int) := of_decide_eq_true (by first | (with_reducible assumption) | assumption)
                                                  have q318 : x81_5 < (t302.length : Int) := of_decide_eq_true (by first | (with_reducible assumption) | assumption)
                                                  obtain ⟨ad318, A318_0, c318_0, e318, hx318_0, hl318_0, hi318_0⟩ := at_L4 (Kd.S_reads' HO_9.out).2.2 x81_5 p318 q318
                                                  cases e318
                                                  obtain ⟨ce318, hce318, hMe318, hcc318⟩ := Kd.S_get HO_9.out [] x81_5 p318 (by first | exact q318 | exact of_decide_eq_true (by first | (with_reducible assumption) | assumption) | (have e_ := (Kd.S_reads' HO_9.out).1; omega))
                                                  obtain ⟨ve318_0, rfl, ge318_0⟩ := hMe318
                                                  have hv318_0 := hcc318 0 _ rfl
                                                  rw [Nat.add_zero, show ((Kd.slice 3 (Kd.int .i64))).sz = 1 from rfl, Nat.mul_one] at hv318_0
                                                  replace hv318_0 := Option.some.inj (hv318_0.symm.trans hx318_0)
                                                  rw [hv318_0] at ge318_0
                                                  have HL318_0 := Aside0.mk (show Kd.R (Kd.int .i64) 3 _ _ _ _ (rd_L4 t302 x81_5) from ge318_0)
                                                  clear hv318_0 ge318_0
                                                  clear hcc318 hce318
                                                  have HR318_0 := Aside0.mk hi318_0
                                                  have HC318_0 := Aside0.mk hl318_0
                                                  clear hi318_0 hl318_0
                                                  replace p318 := eq_true p318
                                                  replace q318 := eq_true q318
                                                  obtain ⟨Ao83, co83, eo83⟩ := Kd.R_slice HO_13.out
                                                  subst eo83
                                                  go_wp2_with (first | ((with_reducible refine gate_callee (f := 18) rfl ?_); refine goesL_ (some 126) rfl rfl Try.func18 (by kernel_rfl) rfl #[.slice A318_0 (rd_L4 t302 x81_5).length c318_0, .slice Ao83 x13_6.length co83] rfl (by (try simp only [List.map_toArray, List.map_cons, List.map_nil]); first | done | rfl | (simp only [List.length_drop, List.length_take]; rfl)) ?_; (with_reducible refine (laws_sameInts.calls k6 _ _ (rd_L4 t302 x81_5) _ _ x13_6 false _ ?side1 ?side2 ?side3 ?side4 A75.out).mono ?_); (case side1 => repeat (first | exact (by repeat (first | (with_reducible exact HR318_0.out) | (with_reducible refine Kd.C_alloc ?_ _) | (with_reducible refine Kd.C_drewN ?_ _) | (with_reducible refine Kd.C_drew ?_) | exact HR318_0.out)) | (with_reducible refine Kd.C_alloc ?_ _) | (with_reducible refine Kd.C_drewN ?_ _) | (with_reducible refine Kd.C_drew ?_))); (case side2 => exact HC318_0.out); (case side3 => repeat (first | exact (Kd.R_reads' HO_13.out).2.2 | (with_reducible refine Kd.C_alloc ?_ _) | (with_reducible refine Kd.C_drewN ?_ _) | (with_reducible refine Kd.C_drew ?_))); (case side4 => exact (Kd.R_reads' HO_13.out).2.1); rintro e w' ⟨rfl, ⟨nd, rfl⟩⟩; refine ⟨_, rfl, ?_⟩))
                                                  go_ret
                                                  exact ⟨by first | rfl | (simp [errW_none, errW_some] <;> rfl) | (simp [*, errW_none, errW_some] <;> rfl), by repeat (first | (with_reducible first | exact HB.out | apply below_alloc | apply pw_below_drewN | apply below_drew1) | exact HB.out)⟩
                                              · rw [if_neg c74] at H
                                                exact absurd H (by simp)
                                            · rw [if_neg c73] at H
                                              exact absurd H (by simp)
                                    · rw [if_neg c55] at H
                                      exact absurd H (by simp)
                                  · rw [if_neg c54] at H
                                    exact absurd H (by simp)
                                · rw [if_neg c53] at H
                                  have c53b0 : decide (x81_5 < (l1.length : Int)) = false := decide_eq_false c53
                                  clear c53
                                  replace H := Option.bind_eq_some_iff.mp H
                                  obtain ⟨t305, A840, H⟩ := H
                                  replace H : ((laws_sameTexts.f k5 t305 x10_5).bind fun t308 => (some t308)) = some r := H
                                  have A84 := Aside0.mk A840
                                  clear A840
                                  replace H := Option.bind_eq_some_iff.mp H
                                  obtain ⟨t308, A850, H⟩ := H
                                  replace H : (some t308) = some r := H
                                  have A85 := Aside0.mk A850
                                  clear A850
                                  obtain rfl := Option.some.inj H
                                  go_wp2_with (first | ((with_reducible refine gate_callee (f := 21) rfl ?_); refine goesL_ (some 137) rfl rfl Try.func21 (by kernel_rfl) rfl #[.string a0, .slice A1 l1.length c1] rfl (by (try simp only [List.map_toArray, List.map_cons, List.map_nil]); first | done | rfl | (simp only [List.length_drop, List.length_take]; rfl)) ?_; (with_reducible refine (impl_PlacesSorted.calls a0 _ _ l1 t305 _ ?side1 ?side2 A84.out).mono ?_); (case side1 => repeat (first | exact (Kd.C_below HR1.out HB.out) | (with_reducible refine Kd.C_alloc ?_ _) | (with_reducible refine Kd.C_drewN ?_ _) | (with_reducible refine Kd.C_drew ?_))); (case side2 => exact HC1.out); rintro e w86 ⟨v306, rfl, ho0, hb⟩; refine ⟨_, rfl, ?_⟩; have n0_ := Aside0.mk (Kd.S_below (by (with_reducible repeat (first | apply Kd.S_alloc | apply Kd.S_drewN | apply Kd.S_drew)); exact HO_9.out) hb); have n1_ := Aside0.mk (Kd.R_elder' (by (with_reducible repeat (first | apply Kd.R_alloc | apply Kd.R_drewN | apply Kd.R_drew)); exact HO_10.out) (by first | exact Kd.N_base ho0 | exact Kd.S_base ho0 | exact Kd.R_base ho0) hb); have n2_ := Aside0.mk (Kd.R_lower (Kd.R_new' ho0 (Kd.R_lt (by (with_reducible repeat (first | apply Kd.R_alloc | apply Kd.R_drewN | apply Kd.R_drew)); exact HO_10.out))) (below_size (by repeat (first | (with_reducible first | exact HB.out | apply below_alloc | apply pw_below_drewN | apply below_drew1) | exact HB.out)))); have n3_ := Aside0.mk (below_step (by repeat (first | (with_reducible first | exact HB.out | apply below_alloc | apply pw_below_drewN | apply below_drew1) | exact HB.out)) hb); clear HO_9; clear HO_10; clear HB; have HO_9 := n0_; have HO_10 := n1_; have HO307 := n2_; have HB := n3_; clear n0_ n1_ n2_ n3_; (try clear hb); (try clear hb2); (try clear hk); (try clear hi); (try clear ho0); obtain ⟨Ao87, co87, eo87⟩ := Kd.R_slice HO307.out; subst eo87; obtain ⟨Ao88, co88, eo88⟩ := Kd.R_slice HO_10.out; subst eo88) | ((with_reducible refine gate_callee (f := 10) rfl ?_); refine goesL_ (some 139) rfl rfl Try.func10 (by kernel_rfl) rfl #[.slice Ao87 t305.length co87, .slice Ao88 x10_5.length co88] rfl (by (try simp only [List.map_toArray, List.map_cons, List.map_nil]); first | done | rfl | (simp only [List.length_drop, List.length_take]; rfl)) ?_; (with_reducible refine (laws_sameTexts.calls k5 _ _ t305 _ _ x10_5 t308 _ ?side1 ?side2 ?side3 ?side4 A85.out).mono ?_); (case side1 => repeat (first | exact (Kd.R_reads' HO307.out).2.2 | (with_reducible refine Kd.C_alloc ?_ _) | (with_reducible refine Kd.C_drewN ?_ _) | (with_reducible refine Kd.C_drew ?_))); (case side2 => exact (Kd.R_reads' HO307.out).2.1); (case side3 => repeat (first | exact (Kd.R_reads' HO_10.out).2.2 | (with_reducible refine Kd.C_alloc ?_ _) | (with_reducible refine Kd.C_drewN ?_ _) | (with_reducible refine Kd.C_drew ?_))); (case side4 => exact (Kd.R_reads' HO_10.out).2.1); rintro e w' ⟨rfl, ⟨nd, rfl⟩⟩; refine ⟨_, rfl, ?_⟩))
                                  go_ret
                                  exact ⟨by first | rfl | (simp [errW_none, errW_some] <;> rfl) | (simp [*, errW_none, errW_some] <;> rfl), by repeat (first | (with_reducible first | exact HB.out | apply below_alloc | apply pw_below_drewN | apply below_drew1) | exact HB.out)⟩
                          · rw [if_neg c50] at H
                            have c50b0 : ((t302.length : Int) == (l1.length : Int)) = false := beq_eq_false_iff_ne.mpr c50
                            have c50b1 : ((t302.length : Int) != (l1.length : Int)) = true := bne_iff_ne.mpr c50
                            have c50b2 : (t302.length == l1.length) = false := by first | simpa using c50 | (simp at c50 ⊢; omega)
                            obtain rfl := Option.some.inj H
                            go_wp2_with (first | ((with_reducible refine gate_callee (f := 17) rfl ?_); refine goesL_ (some 73) rfl rfl Try.func17 (by kernel_rfl) rfl #[.string a0, .slice A1 l1.length c1] rfl (by (try simp only [List.map_toArray, List.map_cons, List.map_nil]); first | done | rfl | (simp only [List.length_drop, List.length_take]; rfl)) ?_; (with_reducible refine (impl_Places.calls a0 _ _ l1 t302 _ ?side1 ?side2 A49.out).mono ?_); (case side1 => repeat (first | exact (Kd.C_below HR1.out HB.out) | (with_reducible refine Kd.C_alloc ?_ _) | (with_reducible refine Kd.C_drewN ?_ _) | (with_reducible refine Kd.C_drew ?_))); (case side2 => exact HC1.out); rintro e w89 ⟨v303, rfl, ho0, hb⟩; refine ⟨_, rfl, ?_⟩; have n0_ := Aside0.mk (Kd.S_lower ho0 (below_size (by repeat (first | (with_reducible first | exact HB.out | apply below_alloc | apply pw_below_drewN | apply below_drew1) | exact HB.out)))); have n1_ := Aside0.mk (below_step (by repeat (first | (with_reducible first | exact HB.out | apply below_alloc | apply pw_below_drewN | apply below_drew1) | exact HB.out)) hb); clear HB; have HO304 := n0_; have HB := n1_; clear n0_ n1_; (try clear hb); (try clear hb2); (try clear hk); (try clear hi); (try clear ho0); obtain ⟨Ao90, co90, eo90⟩ := Kd.S_slice HO304.out; subst eo90))
                            go_ret
                            exact ⟨by first | rfl | (simp [errW_none, errW_some] <;> rfl) | (simp [*, errW_none, errW_some] <;> rfl), by repeat (first | (with_reducible first | exact HB.out | apply below_alloc | apply pw_below_drewN | apply below_drew1) | exact HB.out)⟩

end Go.Proofs.Ythecfligfhpccaa.P
