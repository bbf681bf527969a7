-- PRINTED by print.py (a twelfth state) out of the translation. Not trusted: Lean checks it.
import Derived.Test.YtlhljldlbcgnoaaP0
import Derived.Test.YtlhljldlbcgnoaaP9
import Derived.Test.YtlhljldlbcgnoaaP11
import Derived.Test.YtlhljldlbcgnoaaEPosC
import Derived.Test.YtlhljldlbcgnoaaPosPl
namespace Go.Proofs.Ytlhljldlbcgnoaa.P
open Go.RowKit Go.Proofs.YtlhljldlbcgnoaaW.PrintWords Go.Proofs.YtlhljldlbcgnoaaW.PrintLast Go.Proofs.YtlhljldlbcgnoaaW.PrintMore
attribute [local go_sem] max2_int min2_int max_two min_two max_three min_three max_four min_four   -- for this text's walks alone
set_option linter.unusedVariables false
set_option linter.unusedSimpArgs false

/-! ### laws_FnPOSIDs: function 3 -/
mutual
def laws_FnPOSIDs.j0 : Nat → List (List ByteArray) → Bool → Option (Bool)
  | 0, _, _ => none
  | k + 1, x0, x66 => if x66 = true then (some false) else (if (x0.length : Int) > 10 then (some true) else (laws_FnPOSIDs.l0 k x0 x0 (x0.length : Int) 0))
def laws_FnPOSIDs.l0 : Nat → List (List ByteArray) → List (List ByteArray) → Int → Int → Option (Bool)
  | 0, _, _, _, _ => none
  | k + 1, x0, x70, x71, x72 => if x72 < x71 then (if 0 ≤ x72 then (if x72 < (x70.length : Int) then (if ((rd_L1 x70 x72).length : Int) > 6 then (laws_FnPOSIDs.j2 k x0 (rd_L1 x70 x72) x70 x71 x72 true) else ((laws_clean.f k 40 (rd_L1 x70 x72)).bind fun t135 => (laws_FnPOSIDs.j2 k x0 (rd_L1 x70 x72) x70 x71 x72 (!t135)))) else (none)) else (none)) else ((impl_POSIDs.f x0).bind fun bt137 => (if (bt137.1.length : Int) = (x0.length : Int) then (laws_FnPOSIDs.l2 k x0 bt137.1 bt137.2 (x0.length : Int) 0) else (some false)))
def laws_FnPOSIDs.j2 : Nat → List (List ByteArray) → List ByteArray → List (List ByteArray) → Int → Int → Bool → Option (Bool)
  | 0, _, _, _, _, _, _ => none
  | k + 1, x0, x6, x70, x71, x72, x83 => if x83 = true then (some true) else (laws_FnPOSIDs.l1 k x0 x70 x71 x72 x6 (x6.length : Int) 0)
def laws_FnPOSIDs.l1 : Nat → List (List ByteArray) → List (List ByteArray) → Int → Int → List ByteArray → Int → Int → Option (Bool)
  | 0, _, _, _, _, _, _, _ => none
  | k + 1, x0, x70, x71, x72, x84, x85, x86 => if x86 < x85 then (if 0 ≤ x86 then (if x86 < (x84.length : Int) then (if (rdOf ByteArray.empty x84 x86).toList = ([] : List UInt8) then (some true) else (laws_FnPOSIDs.l1 k x0 x70 x71 x72 x84 x85 (wrap64 (x86 + 1)))) else (none)) else (none)) else (laws_FnPOSIDs.l0 k x0 x70 x71 (wrap64 (x72 + 1)))
def laws_FnPOSIDs.l2 : Nat → List (List ByteArray) → List (List Int) → List ByteArray → Int → Int → Option (Bool)
  | 0, _, _, _, _, _ => none
  | k + 1, x0, x9, x10, x105, x106 => if x106 < x105 then (if 0 ≤ x106 then (if x106 < (x9.length : Int) then (if x106 < (x0.length : Int) then (if ((rd_L4 x9 x106).length : Int) = ((rd_L1 x0 x106).length : Int) then (laws_FnPOSIDs.l3 k x0 x9 x10 x106 x105 x106 (rd_L4 x9 x106) ((rd_L4 x9 x106).length : Int) 0) else (some false)) else (none)) else (none)) else (none)) else (laws_FnPOSIDs.l4 k x10 (x10.length : Int) 0)
def laws_FnPOSIDs.l3 : Nat → List (List ByteArray) → List (List Int) → List ByteArray → Int → Int → Int → List Int → Int → Int → Option (Bool)
  | 0, _, _, _, _, _, _, _, _, _ => none
  | k + 1, x0, x9, x10, x11, x105, x106, x123, x124, x125 => if x125 < x124 then (if 0 ≤ x125 then (if x125 < (x123.length : Int) then (if (rd x123 x125) < 0 then (some false) else (if (rd x123 x125) ≥ (x10.length : Int) then (some false) else (if 0 ≤ (rd x123 x125) then (if (rd x123 x125) < (x10.length : Int) then (if 0 ≤ x11 then (if x11 < (x0.length : Int) then (if x125 < ((rd_L1 x0 x11).length : Int) then (if (rdOf ByteArray.empty x10 (rd x123 x125)).toList = (rdOf ByteArray.empty (rd_L1 x0 x11) x125).toList then (laws_FnPOSIDs.l3 k x0 x9 x10 x11 x105 x106 x123 x124 (wrap64 (x125 + 1))) else (some false)) else (none)) else (none)) else (none)) else (none)) else (none)))) else (none)) else (none)) else (laws_FnPOSIDs.l2 k x0 x9 x10 x105 (wrap64 (x106 + 1)))
def laws_FnPOSIDs.l4 : Nat → List ByteArray → Int → Int → Option (Bool)
  | 0, _, _, _ => none
  | k + 1, x10, x155, x156 => if x156 < x155 then (laws_FnPOSIDs.l5 k x10 x156 x155 x156 x156 0) else (some true)
def laws_FnPOSIDs.l5 : Nat → List ByteArray → Int → Int → Int → Int → Int → Option (Bool)
  | 0, _, _, _, _, _, _ => none
  | k + 1, x10, x14, x155, x156, x159, x160 => if x160 < x159 then (if 0 ≤ x14 then (if x14 < (x10.length : Int) then (if 0 ≤ x160 then (if x160 < (x10.length : Int) then (if (rdOf ByteArray.empty x10 x14).toList = (rdOf ByteArray.empty x10 x160).toList then (some false) else (laws_FnPOSIDs.l5 k x10 x14 x155 x156 x159 (wrap64 (x160 + 1)))) else (none)) else (none)) else (none)) else (none)) else (laws_FnPOSIDs.l4 k x10 x155 (wrap64 (x156 + 1)))
end
def laws_FnPOSIDs.f (k : Nat) (l0 : List (List ByteArray)) : Option (Bool) := (laws_zzFits9.f k l0).bind fun t113 => (if t113 = true then ((impl_POSIDs.f (([(([(⟨#[120]⟩ : ByteArray)] : List ByteArray))] : List (List ByteArray)))).bind fun bt120 => (if (bt120.1.length : Int) = 1 then (if 0 < (bt120.1.length : Int) then (if ((rd_L4 bt120.1 0).length : Int) = 1 then (if (bt120.2.length : Int) = 2 then (if 0 < ((rd_L4 bt120.1 0).length : Int) then (if (rd (rd_L4 bt120.1 0) 0) < 0 then (laws_FnPOSIDs.j0 k l0 true) else (if (rd (rd_L4 bt120.1 0) 0) > 1 then (laws_FnPOSIDs.j0 k l0 true) else (if 0 ≤ (rd (rd_L4 bt120.1 0) 0) then (if (rd (rd_L4 bt120.1 0) 0) < (bt120.2.length : Int) then (laws_FnPOSIDs.j0 k l0 ((rdOf ByteArray.empty bt120.2 (rd (rd_L4 bt120.1 0) 0)).toList != ([120] : List UInt8))) else (none)) else (none)))) else (none)) else (laws_FnPOSIDs.j0 k l0 true)) else (laws_FnPOSIDs.j0 k l0 true)) else (none)) else (laws_FnPOSIDs.j0 k l0 true))) else (some true))
theorem laws_FnPOSIDs.mono_l : ∀ k, (∀ y0 y1, LeO (laws_FnPOSIDs.j0 k y0 y1) (laws_FnPOSIDs.j0 (k + 1) y0 y1)) ∧ (∀ y0 y1 y2 y3, LeO (laws_FnPOSIDs.l0 k y0 y1 y2 y3) (laws_FnPOSIDs.l0 (k + 1) y0 y1 y2 y3)) ∧ (∀ y0 y1 y2 y3 y4 y5, LeO (laws_FnPOSIDs.j2 k y0 y1 y2 y3 y4 y5) (laws_FnPOSIDs.j2 (k + 1) y0 y1 y2 y3 y4 y5)) ∧ (∀ y0 y1 y2 y3 y4 y5 y6, LeO (laws_FnPOSIDs.l1 k y0 y1 y2 y3 y4 y5 y6) (laws_FnPOSIDs.l1 (k + 1) y0 y1 y2 y3 y4 y5 y6)) ∧ (∀ y0 y1 y2 y3 y4, LeO (laws_FnPOSIDs.l2 k y0 y1 y2 y3 y4) (laws_FnPOSIDs.l2 (k + 1) y0 y1 y2 y3 y4)) ∧ (∀ y0 y1 y2 y3 y4 y5 y6 y7 y8, LeO (laws_FnPOSIDs.l3 k y0 y1 y2 y3 y4 y5 y6 y7 y8) (laws_FnPOSIDs.l3 (k + 1) y0 y1 y2 y3 y4 y5 y6 y7 y8)) ∧ (∀ y0 y1 y2, LeO (laws_FnPOSIDs.l4 k y0 y1 y2) (laws_FnPOSIDs.l4 (k + 1) y0 y1 y2)) ∧ (∀ y0 y1 y2 y3 y4 y5, LeO (laws_FnPOSIDs.l5 k y0 y1 y2 y3 y4 y5) (laws_FnPOSIDs.l5 (k + 1) y0 y1 y2 y3 y4 y5))
  | 0 => ⟨fun _ _ r h => by simp [laws_FnPOSIDs.j0] at h, fun _ _ _ _ r h => by simp [laws_FnPOSIDs.l0] at h, fun _ _ _ _ _ _ r h => by simp [laws_FnPOSIDs.j2] at h, fun _ _ _ _ _ _ _ r h => by simp [laws_FnPOSIDs.l1] at h, fun _ _ _ _ _ r h => by simp [laws_FnPOSIDs.l2] at h, fun _ _ _ _ _ _ _ _ _ r h => by simp [laws_FnPOSIDs.l3] at h, fun _ _ _ r h => by simp [laws_FnPOSIDs.l4] at h, fun _ _ _ _ _ _ r h => by simp [laws_FnPOSIDs.l5] at h⟩
  | k + 1 => by
    obtain ⟨ih0, ih1, ih2, ih3, ih4, ih5, ih6, ih7⟩ := laws_FnPOSIDs.mono_l k
    refine ⟨?_, ?_, ?_, ?_, ?_, ?_, ?_, ?_⟩
    · intro y0 y1
      unfold laws_FnPOSIDs.j0
      repeat' first
      | (with_reducible exact ih0 _ _)
      | (with_reducible exact ih1 _ _ _ _)
      | (with_reducible exact ih2 _ _ _ _ _ _)
      | (with_reducible exact ih3 _ _ _ _ _ _ _)
      | (with_reducible exact ih4 _ _ _ _ _)
      | (with_reducible exact ih5 _ _ _ _ _ _ _ _ _)
      | (with_reducible exact ih6 _ _ _)
      | (with_reducible exact ih7 _ _ _ _ _ _)
      | (with_reducible exact laws_clean.mono _ _ _)
      | (with_reducible exact laws_zzFits9.mono _ _)
      | (with_reducible exact LeO.refl _)
      | (with_reducible exact LeO.none _)
      | (with_reducible refine LeO.ite ?_ ?_)
      | (with_reducible refine LeO.bind ?_ (fun _ => ?_))
      | exact ih0 _ _
      | exact ih1 _ _ _ _
      | exact ih2 _ _ _ _ _ _
      | exact ih3 _ _ _ _ _ _ _
      | exact ih4 _ _ _ _ _
      | exact ih5 _ _ _ _ _ _ _ _ _
      | exact ih6 _ _ _
      | exact ih7 _ _ _ _ _ _
      | exact laws_clean.mono _ _ _
      | exact laws_zzFits9.mono _ _
      | exact LeO.none _
      | refine LeO.ite ?_ ?_
      | refine LeO.bind ?_ (fun _ => ?_)
    · intro y0 y1 y2 y3
      unfold laws_FnPOSIDs.l0
      repeat' first
      | (with_reducible exact ih0 _ _)
      | (with_reducible exact ih1 _ _ _ _)
      | (with_reducible exact ih2 _ _ _ _ _ _)
      | (with_reducible exact ih3 _ _ _ _ _ _ _)
      | (with_reducible exact ih4 _ _ _ _ _)
      | (with_reducible exact ih5 _ _ _ _ _ _ _ _ _)
      | (with_reducible exact ih6 _ _ _)
      | (with_reducible exact ih7 _ _ _ _ _ _)
      | (with_reducible exact laws_clean.mono _ _ _)
      | (with_reducible exact laws_zzFits9.mono _ _)
      | (with_reducible exact LeO.refl _)
      | (with_reducible exact LeO.none _)
      | (with_reducible refine LeO.ite ?_ ?_)
      | (with_reducible refine LeO.bind ?_ (fun _ => ?_))
      | exact ih0 _ _
      | exact ih1 _ _ _ _
      | exact ih2 _ _ _ _ _ _
      | exact ih3 _ _ _ _ _ _ _
      | exact ih4 _ _ _ _ _
      | exact ih5 _ _ _ _ _ _ _ _ _
      | exact ih6 _ _ _
      | exact ih7 _ _ _ _ _ _
      | exact laws_clean.mono _ _ _
      | exact laws_zzFits9.mono _ _
      | exact LeO.none _
      | refine LeO.ite ?_ ?_
      | refine LeO.bind ?_ (fun _ => ?_)
    · intro y0 y1 y2 y3 y4 y5
      unfold laws_FnPOSIDs.j2
      repeat' first
      | (with_reducible exact ih0 _ _)
      | (with_reducible exact ih1 _ _ _ _)
      | (with_reducible exact ih2 _ _ _ _ _ _)
      | (with_reducible exact ih3 _ _ _ _ _ _ _)
      | (with_reducible exact ih4 _ _ _ _ _)
      | (with_reducible exact ih5 _ _ _ _ _ _ _ _ _)
      | (with_reducible exact ih6 _ _ _)
      | (with_reducible exact ih7 _ _ _ _ _ _)
      | (with_reducible exact laws_clean.mono _ _ _)
      | (with_reducible exact laws_zzFits9.mono _ _)
      | (with_reducible exact LeO.refl _)
      | (with_reducible exact LeO.none _)
      | (with_reducible refine LeO.ite ?_ ?_)
      | (with_reducible refine LeO.bind ?_ (fun _ => ?_))
      | exact ih0 _ _
      | exact ih1 _ _ _ _
      | exact ih2 _ _ _ _ _ _
      | exact ih3 _ _ _ _ _ _ _
      | exact ih4 _ _ _ _ _
      | exact ih5 _ _ _ _ _ _ _ _ _
      | exact ih6 _ _ _
      | exact ih7 _ _ _ _ _ _
      | exact laws_clean.mono _ _ _
      | exact laws_zzFits9.mono _ _
      | exact LeO.none _
      | refine LeO.ite ?_ ?_
      | refine LeO.bind ?_ (fun _ => ?_)
    · intro y0 y1 y2 y3 y4 y5 y6
      unfold laws_FnPOSIDs.l1
      repeat' first
      | (with_reducible exact ih0 _ _)
      | (with_reducible exact ih1 _ _ _ _)
      | (with_reducible exact ih2 _ _ _ _ _ _)
      | (with_reducible exact ih3 _ _ _ _ _ _ _)
      | (with_reducible exact ih4 _ _ _ _ _)
      | (with_reducible exact ih5 _ _ _ _ _ _ _ _ _)
      | (with_reducible exact ih6 _ _ _)
      | (with_reducible exact ih7 _ _ _ _ _ _)
      | (with_reducible exact laws_clean.mono _ _ _)
      | (with_reducible exact laws_zzFits9.mono _ _)
      | (with_reducible exact LeO.refl _)
      | (with_reducible exact LeO.none _)
      | (with_reducible refine LeO.ite ?_ ?_)
      | (with_reducible refine LeO.bind ?_ (fun _ => ?_))
      | exact ih0 _ _
      | exact ih1 _ _ _ _
      | exact ih2 _ _ _ _ _ _
      | exact ih3 _ _ _ _ _ _ _
      | exact ih4 _ _ _ _ _
      | exact ih5 _ _ _ _ _ _ _ _ _
      | exact ih6 _ _ _
      | exact ih7 _ _ _ _ _ _
      | exact laws_clean.mono _ _ _
      | exact laws_zzFits9.mono _ _
      | exact LeO.none _
      | refine LeO.ite ?_ ?_
      | refine LeO.bind ?_ (fun _ => ?_)
    · intro y0 y1 y2 y3 y4
      unfold laws_FnPOSIDs.l2
      repeat' first
      | (with_reducible exact ih0 _ _)
      | (with_reducible exact ih1 _ _ _ _)
      | (with_reducible exact ih2 _ _ _ _ _ _)
      | (with_reducible exact ih3 _ _ _ _ _ _ _)
      | (with_reducible exact ih4 _ _ _ _ _)
      | (with_reducible exact ih5 _ _ _ _ _ _ _ _ _)
      | (with_reducible exact ih6 _ _ _)
      | (with_reducible exact ih7 _ _ _ _ _ _)
      | (with_reducible exact laws_clean.mono _ _ _)
      | (with_reducible exact laws_zzFits9.mono _ _)
      | (with_reducible exact LeO.refl _)
      | (with_reducible exact LeO.none _)
      | (with_reducible refine LeO.ite ?_ ?_)
      | (with_reducible refine LeO.bind ?_ (fun _ => ?_))
      | exact ih0 _ _
      | exact ih1 _ _ _ _
      | exact ih2 _ _ _ _ _ _
      | exact ih3 _ _ _ _ _ _ _
      | exact ih4 _ _ _ _ _
      | exact ih5 _ _ _ _ _ _ _ _ _
      | exact ih6 _ _ _
      | exact ih7 _ _ _ _ _ _
      | exact laws_clean.mono _ _ _
      | exact laws_zzFits9.mono _ _
      | exact LeO.none _
      | refine LeO.ite ?_ ?_
      | refine LeO.bind ?_ (fun _ => ?_)
    · intro y0 y1 y2 y3 y4 y5 y6 y7 y8
      unfold laws_FnPOSIDs.l3
      repeat' first
      | (with_reducible exact ih0 _ _)
      | (with_reducible exact ih1 _ _ _ _)
      | (with_reducible exact ih2 _ _ _ _ _ _)
      | (with_reducible exact ih3 _ _ _ _ _ _ _)
      | (with_reducible exact ih4 _ _ _ _ _)
      | (with_reducible exact ih5 _ _ _ _ _ _ _ _ _)
      | (with_reducible exact ih6 _ _ _)
      | (with_reducible exact ih7 _ _ _ _ _ _)
      | (with_reducible exact laws_clean.mono _ _ _)
      | (with_reducible exact laws_zzFits9.mono _ _)
      | (with_reducible exact LeO.refl _)
      | (with_reducible exact LeO.none _)
      | (with_reducible refine LeO.ite ?_ ?_)
      | (with_reducible refine LeO.bind ?_ (fun _ => ?_))
      | exact ih0 _ _
      | exact ih1 _ _ _ _
      | exact ih2 _ _ _ _ _ _
      | exact ih3 _ _ _ _ _ _ _
      | exact ih4 _ _ _ _ _
      | exact ih5 _ _ _ _ _ _ _ _ _
      | exact ih6 _ _ _
      | exact ih7 _ _ _ _ _ _
      | exact laws_clean.mono _ _ _
      | exact laws_zzFits9.mono _ _
      | exact LeO.none _
      | refine LeO.ite ?_ ?_
      | refine LeO.bind ?_ (fun _ => ?_)
    · intro y0 y1 y2
      unfold laws_FnPOSIDs.l4
      repeat' first
      | (with_reducible exact ih0 _ _)
      | (with_reducible exact ih1 _ _ _ _)
      | (with_reducible exact ih2 _ _ _ _ _ _)
      | (with_reducible exact ih3 _ _ _ _ _ _ _)
      | (with_reducible exact ih4 _ _ _ _ _)
      | (with_reducible exact ih5 _ _ _ _ _ _ _ _ _)
      | (with_reducible exact ih6 _ _ _)
      | (with_reducible exact ih7 _ _ _ _ _ _)
      | (with_reducible exact laws_clean.mono _ _ _)
      | (with_reducible exact laws_zzFits9.mono _ _)
      | (with_reducible exact LeO.refl _)
      | (with_reducible exact LeO.none _)
      | (with_reducible refine LeO.ite ?_ ?_)
      | (with_reducible refine LeO.bind ?_ (fun _ => ?_))
      | exact ih0 _ _
      | exact ih1 _ _ _ _
      | exact ih2 _ _ _ _ _ _
      | exact ih3 _ _ _ _ _ _ _
      | exact ih4 _ _ _ _ _
      | exact ih5 _ _ _ _ _ _ _ _ _
      | exact ih6 _ _ _
      | exact ih7 _ _ _ _ _ _
      | exact laws_clean.mono _ _ _
      | exact laws_zzFits9.mono _ _
      | exact LeO.none _
      | refine LeO.ite ?_ ?_
      | refine LeO.bind ?_ (fun _ => ?_)
    · intro y0 y1 y2 y3 y4 y5
      unfold laws_FnPOSIDs.l5
      repeat' first
      | (with_reducible exact ih0 _ _)
      | (with_reducible exact ih1 _ _ _ _)
      | (with_reducible exact ih2 _ _ _ _ _ _)
      | (with_reducible exact ih3 _ _ _ _ _ _ _)
      | (with_reducible exact ih4 _ _ _ _ _)
      | (with_reducible exact ih5 _ _ _ _ _ _ _ _ _)
      | (with_reducible exact ih6 _ _ _)
      | (with_reducible exact ih7 _ _ _ _ _ _)
      | (with_reducible exact laws_clean.mono _ _ _)
      | (with_reducible exact laws_zzFits9.mono _ _)
      | (with_reducible exact LeO.refl _)
      | (with_reducible exact LeO.none _)
      | (with_reducible refine LeO.ite ?_ ?_)
      | (with_reducible refine LeO.bind ?_ (fun _ => ?_))
      | exact ih0 _ _
      | exact ih1 _ _ _ _
      | exact ih2 _ _ _ _ _ _
      | exact ih3 _ _ _ _ _ _ _
      | exact ih4 _ _ _ _ _
      | exact ih5 _ _ _ _ _ _ _ _ _
      | exact ih6 _ _ _
      | exact ih7 _ _ _ _ _ _
      | exact laws_clean.mono _ _ _
      | exact laws_zzFits9.mono _ _
      | exact LeO.none _
      | refine LeO.ite ?_ ?_
      | refine LeO.bind ?_ (fun _ => ?_)
theorem laws_FnPOSIDs.mono : ∀ a0 k, LeO (laws_FnPOSIDs.f k a0) (laws_FnPOSIDs.f (k + 1) a0) := by
  intro a0 k
  obtain ⟨ih0, ih1, ih2, ih3, ih4, ih5, ih6, ih7⟩ := laws_FnPOSIDs.mono_l k
  unfold laws_FnPOSIDs.f
  repeat' first
      | (with_reducible exact ih0 _ _)
      | (with_reducible exact ih1 _ _ _ _)
      | (with_reducible exact ih2 _ _ _ _ _ _)
      | (with_reducible exact ih3 _ _ _ _ _ _ _)
      | (with_reducible exact ih4 _ _ _ _ _)
      | (with_reducible exact ih5 _ _ _ _ _ _ _ _ _)
      | (with_reducible exact ih6 _ _ _)
      | (with_reducible exact ih7 _ _ _ _ _ _)
      | (with_reducible exact laws_clean.mono _ _ _)
      | (with_reducible exact laws_zzFits9.mono _ _)
      | (with_reducible exact LeO.refl _)
      | (with_reducible exact LeO.none _)
      | (with_reducible refine LeO.ite ?_ ?_)
      | (with_reducible refine LeO.bind ?_ (fun _ => ?_))
      | exact ih0 _ _
      | exact ih1 _ _ _ _
      | exact ih2 _ _ _ _ _ _
      | exact ih3 _ _ _ _ _ _ _
      | exact ih4 _ _ _ _ _
      | exact ih5 _ _ _ _ _ _ _ _ _
      | exact ih6 _ _ _
      | exact ih7 _ _ _ _ _ _
      | exact laws_clean.mono _ _ _
      | exact laws_zzFits9.mono _ _
      | exact LeO.none _
      | refine LeO.ite ?_ ?_
      | refine LeO.bind ?_ (fun _ => ?_)
set_option maxHeartbeats 8000000 in
set_option maxRecDepth 100000 in
theorem laws_FnPOSIDs.calls (k : Nat) (A0 : Option Addr) (c0 : Nat) (l0 : List (List ByteArray)) (r : Bool) (w : World) (hr0 : Kd.C (Kd.slice 9 Kd.string) w A0 l0.length l0) (hc0 : l0.length ≤ c0) (h : laws_FnPOSIDs.f k l0 = some r) :
    Calls Try.prog 3 #[.slice A0 l0.length c0] w fun e w' => e = .returned (.bool r) ∧ Below w.heap.size w w' := by
  have HR0 := Aside0.mk hr0
  have HC0 := Aside0.mk hc0
  clear hr0 hc0
  have HB := Aside0.mk (Below.refl w.heap.size w)
  have H : ((laws_zzFits9.f k l0).bind fun t113 => (if t113 = true then ((impl_POSIDs.f (([(([(⟨#[120]⟩ : ByteArray)] : List ByteArray))] : List (List ByteArray)))).bind fun bt120 => (if (bt120.1.length : Int) = 1 then (if 0 < (bt120.1.length : Int) then (if ((rd_L4 bt120.1 0).length : Int) = 1 then (if (bt120.2.length : Int) = 2 then (if 0 < ((rd_L4 bt120.1 0).length : Int) then (if (rd (rd_L4 bt120.1 0) 0) < 0 then (laws_FnPOSIDs.j0 k l0 true) else (if (rd (rd_L4 bt120.1 0) 0) > 1 then (laws_FnPOSIDs.j0 k l0 true) else (if 0 ≤ (rd (rd_L4 bt120.1 0) 0) then (if (rd (rd_L4 bt120.1 0) 0) < (bt120.2.length : Int) then (laws_FnPOSIDs.j0 k l0 ((rdOf ByteArray.empty bt120.2 (rd (rd_L4 bt120.1 0) 0)).toList != ([120] : List UInt8))) else (none)) else (none)))) else (none)) else (laws_FnPOSIDs.j0 k l0 true)) else (laws_FnPOSIDs.j0 k l0 true)) else (none)) else (laws_FnPOSIDs.j0 k l0 true))) else (some true))) = some r := h
  clear h
  replace H := Option.bind_eq_some_iff.mp H
  obtain ⟨t113, A20, H⟩ := H
  replace H : (if t113 = true then ((impl_POSIDs.f (([(([(⟨#[120]⟩ : ByteArray)] : List ByteArray))] : List (List ByteArray)))).bind fun bt120 => (if (bt120.1.length : Int) = 1 then (if 0 < (bt120.1.length : Int) then (if ((rd_L4 bt120.1 0).length : Int) = 1 then (if (bt120.2.length : Int) = 2 then (if 0 < ((rd_L4 bt120.1 0).length : Int) then (if (rd (rd_L4 bt120.1 0) 0) < 0 then (laws_FnPOSIDs.j0 k l0 true) else (if (rd (rd_L4 bt120.1 0) 0) > 1 then (laws_FnPOSIDs.j0 k l0 true) else (if 0 ≤ (rd (rd_L4 bt120.1 0) 0) then (if (rd (rd_L4 bt120.1 0) 0) < (bt120.2.length : Int) then (laws_FnPOSIDs.j0 k l0 ((rdOf ByteArray.empty bt120.2 (rd (rd_L4 bt120.1 0) 0)).toList != ([120] : List UInt8))) else (none)) else (none)))) else (none)) else (laws_FnPOSIDs.j0 k l0 true)) else (laws_FnPOSIDs.j0 k l0 true)) else (none)) else (laws_FnPOSIDs.j0 k l0 true))) else (some true)) = some r := H
  have A2 := Aside0.mk A20
  clear A20
  by_cases c3 : t113 = true
  · subst c3
    have H1 : ((impl_POSIDs.f (([(([(⟨#[120]⟩ : ByteArray)] : List ByteArray))] : List (List ByteArray)))).bind fun bt120 => (if (bt120.1.length : Int) = 1 then (if 0 < (bt120.1.length : Int) then (if ((rd_L4 bt120.1 0).length : Int) = 1 then (if (bt120.2.length : Int) = 2 then (if 0 < ((rd_L4 bt120.1 0).length : Int) then (if (rd (rd_L4 bt120.1 0) 0) < 0 then (laws_FnPOSIDs.j0 k l0 true) else (if (rd (rd_L4 bt120.1 0) 0) > 1 then (laws_FnPOSIDs.j0 k l0 true) else (if 0 ≤ (rd (rd_L4 bt120.1 0) 0) then (if (rd (rd_L4 bt120.1 0) 0) < (bt120.2.length : Int) then (laws_FnPOSIDs.j0 k l0 ((rdOf ByteArray.empty bt120.2 (rd (rd_L4 bt120.1 0) 0)).toList != ([120] : List UInt8))) else (none)) else (none)))) else (none)) else (laws_FnPOSIDs.j0 k l0 true)) else (laws_FnPOSIDs.j0 k l0 true)) else (none)) else (laws_FnPOSIDs.j0 k l0 true))) = some r := by rw [if_pos rfl] at H; exact H
    clear H
    have H := H1
    clear H1
    obtain ⟨y114, hy114⟩ : ∃ y_ : List ByteArray, y_ = (([(⟨#[120]⟩ : ByteArray)] : List ByteArray)) := ⟨_, rfl⟩
    replace H : ((impl_POSIDs.f (([y114] : List (List ByteArray)))).bind fun bt120 => (if (bt120.1.length : Int) = 1 then (if 0 < (bt120.1.length : Int) then (if ((rd_L4 bt120.1 0).length : Int) = 1 then (if (bt120.2.length : Int) = 2 then (if 0 < ((rd_L4 bt120.1 0).length : Int) then (if (rd (rd_L4 bt120.1 0) 0) < 0 then (laws_FnPOSIDs.j0 k l0 true) else (if (rd (rd_L4 bt120.1 0) 0) > 1 then (laws_FnPOSIDs.j0 k l0 true) else (if 0 ≤ (rd (rd_L4 bt120.1 0) 0) then (if (rd (rd_L4 bt120.1 0) 0) < (bt120.2.length : Int) then (laws_FnPOSIDs.j0 k l0 ((rdOf ByteArray.empty bt120.2 (rd (rd_L4 bt120.1 0) 0)).toList != ([120] : List UInt8))) else (none)) else (none)))) else (none)) else (laws_FnPOSIDs.j0 k l0 true)) else (laws_FnPOSIDs.j0 k l0 true)) else (none)) else (laws_FnPOSIDs.j0 k l0 true))) = some r := by first | (rw [hy114]; with_reducible exact H) | (have H2_ := (Option.bind_some _ _).symm.trans H; rw [hy114]; with_reducible exact H2_) | (have H2_ := (Option.bind_some _ _).symm.trans H; with_reducible exact H2_) | with_reducible exact H | (rw [hy114]; exact H) | exact H
    have Ny114 := Aside0.mk hy114
    clear hy114
    obtain ⟨y117, hy117⟩ : ∃ y_ : List (List ByteArray), y_ = (([y114] : List (List ByteArray))) := ⟨_, rfl⟩
    replace H : ((impl_POSIDs.f y117).bind fun bt120 => (if (bt120.1.length : Int) = 1 then (if 0 < (bt120.1.length : Int) then (if ((rd_L4 bt120.1 0).length : Int) = 1 then (if (bt120.2.length : Int) = 2 then (if 0 < ((rd_L4 bt120.1 0).length : Int) then (if (rd (rd_L4 bt120.1 0) 0) < 0 then (laws_FnPOSIDs.j0 k l0 true) else (if (rd (rd_L4 bt120.1 0) 0) > 1 then (laws_FnPOSIDs.j0 k l0 true) else (if 0 ≤ (rd (rd_L4 bt120.1 0) 0) then (if (rd (rd_L4 bt120.1 0) 0) < (bt120.2.length : Int) then (laws_FnPOSIDs.j0 k l0 ((rdOf ByteArray.empty bt120.2 (rd (rd_L4 bt120.1 0) 0)).toList != ([120] : List UInt8))) else (none)) else (none)))) else (none)) else (laws_FnPOSIDs.j0 k l0 true)) else (laws_FnPOSIDs.j0 k l0 true)) else (none)) else (laws_FnPOSIDs.j0 k l0 true))) = some r := by first | (rw [hy117]; with_reducible exact H) | (have H2_ := (Option.bind_some _ _).symm.trans H; rw [hy117]; with_reducible exact H2_) | (have H2_ := (Option.bind_some _ _).symm.trans H; with_reducible exact H2_) | with_reducible exact H | (rw [hy117]; exact H) | exact H
    have Ny117 := Aside0.mk hy117
    clear hy117
    replace H := Option.bind_eq_some_iff.mp H
    obtain ⟨⟨t120, t121⟩, A40, H⟩ := H
    replace H : (if (t120.length : Int) = 1 then (if 0 < (t120.length : Int) then (if ((rd_L4 t120 0).length : Int) = 1 then (if (t121.length : Int) = 2 then (if 0 < ((rd_L4 t120 0).length : Int) then (if (rd (rd_L4 t120 0) 0) < 0 then (laws_FnPOSIDs.j0 k l0 true) else (if (rd (rd_L4 t120 0) 0) > 1 then (laws_FnPOSIDs.j0 k l0 true) else (if 0 ≤ (rd (rd_L4 t120 0) 0) then (if (rd (rd_L4 t120 0) 0) < (t121.length : Int) then (laws_FnPOSIDs.j0 k l0 ((rdOf ByteArray.empty t121 (rd (rd_L4 t120 0) 0)).toList != ([120] : List UInt8))) else (none)) else (none)))) else (none)) else (laws_FnPOSIDs.j0 k l0 true)) else (laws_FnPOSIDs.j0 k l0 true)) else (none)) else (laws_FnPOSIDs.j0 k l0 true)) = some r := H
    have A4 := Aside0.mk A40
    have HCAN := Aside0.mk (X.canary_pos (by rw [← Ny114.out, ← Ny117.out]; exact A4.out))
    clear A40
    have HC5 := Aside0.mk H
    clear H
    go_enter Try.func3, Try.ntmps3
    go_upto_region 4 with (first | (go_at_call 9; (with_reducible refine (laws_zzFits9.calls k _ _ l0 true _ ?side1 ?side2 A2.out).mono ?_); (case side1 => repeat (first | exact HR0.out | (with_reducible refine Kd.C_alloc ?_ _) | (with_reducible refine Kd.C_drewN ?_ _) | (with_reducible refine Kd.C_drew ?_))); (case side2 => exact HC0.out); rintro e w' ⟨rfl, ⟨nd, rfl⟩⟩; (try first | exact ⟨rfl, _, World.drewN_drewN _ _ _⟩ | exact ⟨rfl, _, Eq.trans (World.drewN_drewN _ _ _) (congrArg (World.drewN _) (Nat.add_assoc _ _ _))⟩)) | ((with_reducible refine gate_dst (N := 20) rfl ?_); (try (refine gate_guard (by rfl) ?_; dsimp only)); refine Kd.R_lit Kd.string _ 9 ?hg (N := 20) ?hd (xs := ([(⟨#[120]⟩ : ByteArray)] : List ByteArray)) (inner := [.string (⟨#[120]⟩ : ByteArray)]) (ok := fun _ => True) (okp := fun _ => True) ?hr ?hp (fun _ hk => hk) trivial (Below.refl _ _) (Nat.le_refl _) (by simp) ?_; (case hd => rfl); (case hg => rfl); (case hr => first | (go_simp; done) | (go_simp; rfl)); (case hp => exact (Reps.one (show Kd.M Kd.string _ _ _ (⟨#[120]⟩ : ByteArray) [.string (⟨#[120]⟩ : ByteArray)] from rfl) (Reps.none _ _))); intro v115 w6 ho7 hb hg_ hnew_; clear hg_ hnew_; (first | rw [← Ny114.out] at ho7 | (simp only [Int.reduceToNat] at ho7; rw [← Ny114.out] at ho7)); have n0_ := Aside0.mk (Kd.R_lower ho7 (below_size (by repeat (first | (with_reducible first | exact HB.out | apply below_alloc | apply pw_below_drewN | apply below_drew1) | exact HB.out)))); have n1_ := Aside0.mk (below_step (by repeat (first | (with_reducible first | exact HB.out | apply below_alloc | apply pw_below_drewN | apply below_drew1) | exact HB.out)) hb); clear HB; have HO116 := n0_; have HB := n1_; clear n0_ n1_; clear hb ho7; obtain ⟨Ao8, co8, eo8⟩ := Kd.R_slice HO116.out; subst eo8) | ((with_reducible refine gate_dst (N := 21) rfl ?_); (try (refine gate_guard (by rfl) ?_; dsimp only)); refine Kd.N_lit (Kd.slice 9 Kd.string) _ 25 ?hg (N' := 21) ?hd (xs := ([y114] : List (List ByteArray))) (inner := [.slice Ao8 y114.length co8]) (ok := (fun _ => True)) (okp := (fun _ => True)) ?hr ?hp (fun _ hk => hk) ((show ∀ k_, w6.heap.size ≤ k_ → (fun _ => True) k_ from fun k_ hk => trivial) _ (Nat.le_refl _)) (Below.refl _ _) (Nat.le_refl _) (by simp) ?_; (case hd => rfl); (case hg => rfl); (case hr => first | (go_simp; done) | (go_simp; rfl)); (case hp => exact (Reps.one (show Kd.FK (Kd.slice 9 Kd.string) _ _ y114 [.slice Ao8 y114.length co8] from (Kd.FK_slice_mk (Kd.R_reads' (Kd.R_mono (ok' := (fun _ => True)) (HO116.out) (fun k_ hk => trivial))).2.1 (Kd.R_F (Kd.R_mono (ok' := (fun _ => True)) (HO116.out) (fun k_ hk => trivial))))) (Reps.none _ _))); intro v118 w9 ho10 hb hg_ hnew_; clear hg_ hnew_; (first | rw [← Ny117.out] at ho10 | (simp only [Int.reduceToNat] at ho10; rw [← Ny117.out] at ho10)); have n0_ := Aside0.mk (Kd.N_lower ho10 (below_size (by repeat (first | (with_reducible first | exact HB.out | apply below_alloc | apply pw_below_drewN | apply below_drew1) | exact HB.out)))); have n1_ := Aside0.mk (below_step (by repeat (first | (with_reducible first | exact HB.out | apply below_alloc | apply pw_below_drewN | apply below_drew1) | exact HB.out)) hb); clear HB; clear HO116; have HO119 := n0_; have HB := n1_; clear n0_ n1_; clear hb ho10; obtain ⟨Ao11, co11, eo11⟩ := Kd.N_slice HO119.out; subst eo11) | (go_at_call 10; (with_reducible refine (impl_POSIDs.calls _ _ y117 t120 t121 _ ?side1 ?side2 A4.out).mono ?_); (case side1 => repeat (first | exact (Kd.N_reads' HO119.out).2.2 | (with_reducible refine Kd.C_alloc ?_ _) | (with_reducible refine Kd.C_drewN ?_ _) | (with_reducible refine Kd.C_drew ?_))); (case side2 => exact (Kd.N_reads' HO119.out).2.1); rintro e w12 ⟨v122, v124, rfl, ho0, ho1, hb⟩; have n0_ := Aside0.mk (Kd.N_mono (Kd.N_told (Kd.N_told (Kd.N_old (by (with_reducible repeat (first | apply Kd.N_alloc | apply Kd.N_drewN | apply Kd.N_drew)); exact HO119.out) hb) (by first | exact Kd.N_base ho0 | exact Kd.S_base ho0 | exact Kd.R_base ho0)) (by first | exact Kd.N_base ho1 | exact Kd.S_base ho1 | exact Kd.R_base ho1)) (fun _ h_ => h_.1)); have n1_ := Aside0.mk (Kd.N_lower (Kd.N_mono (ok' := fun k_ => some k_ ≠ (v124 : Value).ownBlock ∧ some k_ ≠ (.slice Ao11 y117.length co11 : Value).ownBlock) (Kd.S_N (Kd.S_bound (Kd.S_apart' ho0 (Kd.R_typed ho1) (by decide)))) (fun k_ hk_ => ⟨hk_.1.2, (Kd.fresh' (Kd.N_lt (by (with_reducible repeat (first | apply Kd.N_alloc | apply Kd.N_drewN | apply Kd.N_drew)); exact HO119.out)) k_ hk_.2.1)⟩)) (below_size (by repeat (first | (with_reducible first | exact HB.out | apply below_alloc | apply pw_below_drewN | apply below_drew1) | exact HB.out)))); have n2_ := Aside0.mk (Kd.R_lower ho1 (below_size (by repeat (first | (with_reducible first | exact HB.out | apply below_alloc | apply pw_below_drewN | apply below_drew1) | exact HB.out)))); have n3_ := Aside0.mk (below_step (by repeat (first | (with_reducible first | exact HB.out | apply below_alloc | apply pw_below_drewN | apply below_drew1) | exact HB.out)) hb); clear HO119; clear HB; have HO119 := n0_; have HO123 := n1_; have HO125 := n2_; have HB := n3_; clear n0_ n1_ n2_ n3_; (try clear hb); (try clear hb2); (try clear hk); (try clear hi); (try clear ho0); (try clear ho1)))
    repeat (go_quiet (first | (go_at_call 9; (with_reducible refine (laws_zzFits9.calls k _ _ l0 true _ ?side1 ?side2 A2.out).mono ?_); (case side1 => repeat (first | exact HR0.out | (with_reducible refine Kd.C_alloc ?_ _) | (with_reducible refine Kd.C_drewN ?_ _) | (with_reducible refine Kd.C_drew ?_))); (case side2 => exact HC0.out); rintro e w' ⟨rfl, ⟨nd, rfl⟩⟩; (try first | exact ⟨rfl, _, World.drewN_drewN _ _ _⟩ | exact ⟨rfl, _, Eq.trans (World.drewN_drewN _ _ _) (congrArg (World.drewN _) (Nat.add_assoc _ _ _))⟩)) | ((with_reducible refine gate_dst (N := 20) rfl ?_); (try (refine gate_guard (by rfl) ?_; dsimp only)); refine Kd.R_lit Kd.string _ 9 ?hg (N := 20) ?hd (xs := ([(⟨#[120]⟩ : ByteArray)] : List ByteArray)) (inner := [.string (⟨#[120]⟩ : ByteArray)]) (ok := fun _ => True) (okp := fun _ => True) ?hr ?hp (fun _ hk => hk) trivial (Below.refl _ _) (Nat.le_refl _) (by simp) ?_; (case hd => rfl); (case hg => rfl); (case hr => first | (go_simp; done) | (go_simp; rfl)); (case hp => exact (Reps.one (show Kd.M Kd.string _ _ _ (⟨#[120]⟩ : ByteArray) [.string (⟨#[120]⟩ : ByteArray)] from rfl) (Reps.none _ _))); intro v115 w6 ho7 hb hg_ hnew_; clear hg_ hnew_; (first | rw [← Ny114.out] at ho7 | (simp only [Int.reduceToNat] at ho7; rw [← Ny114.out] at ho7)); have n0_ := Aside0.mk (Kd.R_lower ho7 (below_size (by repeat (first | (with_reducible first | exact HB.out | apply below_alloc | apply pw_below_drewN | apply below_drew1) | exact HB.out)))); have n1_ := Aside0.mk (below_step (by repeat (first | (with_reducible first | exact HB.out | apply below_alloc | apply pw_below_drewN | apply below_drew1) | exact HB.out)) hb); clear HB; have HO116 := n0_; have HB := n1_; clear n0_ n1_; clear hb ho7; obtain ⟨Ao8, co8, eo8⟩ := Kd.R_slice HO116.out; subst eo8) | ((with_reducible refine gate_dst (N := 21) rfl ?_); (try (refine gate_guard (by rfl) ?_; dsimp only)); refine Kd.N_lit (Kd.slice 9 Kd.string) _ 25 ?hg (N' := 21) ?hd (xs := ([y114] : List (List ByteArray))) (inner := [.slice Ao8 y114.length co8]) (ok := (fun _ => True)) (okp := (fun _ => True)) ?hr ?hp (fun _ hk => hk) ((show ∀ k_, w6.heap.size ≤ k_ → (fun _ => True) k_ from fun k_ hk => trivial) _ (Nat.le_refl _)) (Below.refl _ _) (Nat.le_refl _) (by simp) ?_; (case hd => rfl); (case hg => rfl); (case hr => first | (go_simp; done) | (go_simp; rfl)); (case hp => exact (Reps.one (show Kd.FK (Kd.slice 9 Kd.string) _ _ y114 [.slice Ao8 y114.length co8] from (Kd.FK_slice_mk (Kd.R_reads' (Kd.R_mono (ok' := (fun _ => True)) (HO116.out) (fun k_ hk => trivial))).2.1 (Kd.R_F (Kd.R_mono (ok' := (fun _ => True)) (HO116.out) (fun k_ hk => trivial))))) (Reps.none _ _))); intro v118 w9 ho10 hb hg_ hnew_; clear hg_ hnew_; (first | rw [← Ny117.out] at ho10 | (simp only [Int.reduceToNat] at ho10; rw [← Ny117.out] at ho10)); have n0_ := Aside0.mk (Kd.N_lower ho10 (below_size (by repeat (first | (with_reducible first | exact HB.out | apply below_alloc | apply pw_below_drewN | apply below_drew1) | exact HB.out)))); have n1_ := Aside0.mk (below_step (by repeat (first | (with_reducible first | exact HB.out | apply below_alloc | apply pw_below_drewN | apply below_drew1) | exact HB.out)) hb); clear HB; clear HO116; have HO119 := n0_; have HB := n1_; clear n0_ n1_; clear hb ho10; obtain ⟨Ao11, co11, eo11⟩ := Kd.N_slice HO119.out; subst eo11) | (go_at_call 10; (with_reducible refine (impl_POSIDs.calls _ _ y117 t120 t121 _ ?side1 ?side2 A4.out).mono ?_); (case side1 => repeat (first | exact (Kd.N_reads' HO119.out).2.2 | (with_reducible refine Kd.C_alloc ?_ _) | (with_reducible refine Kd.C_drewN ?_ _) | (with_reducible refine Kd.C_drew ?_))); (case side2 => exact (Kd.N_reads' HO119.out).2.1); rintro e w12 ⟨v122, v124, rfl, ho0, ho1, hb⟩; have n0_ := Aside0.mk (Kd.N_mono (Kd.N_told (Kd.N_told (Kd.N_old (by (with_reducible repeat (first | apply Kd.N_alloc | apply Kd.N_drewN | apply Kd.N_drew)); exact HO119.out) hb) (by first | exact Kd.N_base ho0 | exact Kd.S_base ho0 | exact Kd.R_base ho0)) (by first | exact Kd.N_base ho1 | exact Kd.S_base ho1 | exact Kd.R_base ho1)) (fun _ h_ => h_.1)); have n1_ := Aside0.mk (Kd.N_lower (Kd.N_mono (ok' := fun k_ => some k_ ≠ (v124 : Value).ownBlock ∧ some k_ ≠ (.slice Ao11 y117.length co11 : Value).ownBlock) (Kd.S_N (Kd.S_bound (Kd.S_apart' ho0 (Kd.R_typed ho1) (by decide)))) (fun k_ hk_ => ⟨hk_.1.2, (Kd.fresh' (Kd.N_lt (by (with_reducible repeat (first | apply Kd.N_alloc | apply Kd.N_drewN | apply Kd.N_drew)); exact HO119.out)) k_ hk_.2.1)⟩)) (below_size (by repeat (first | (with_reducible first | exact HB.out | apply below_alloc | apply pw_below_drewN | apply below_drew1) | exact HB.out)))); have n2_ := Aside0.mk (Kd.R_lower ho1 (below_size (by repeat (first | (with_reducible first | exact HB.out | apply below_alloc | apply pw_below_drewN | apply below_drew1) | exact HB.out)))); have n3_ := Aside0.mk (below_step (by repeat (first | (with_reducible first | exact HB.out | apply below_alloc | apply pw_below_drewN | apply below_drew1) | exact HB.out)) hb); clear HO119; clear HB; have HO119 := n0_; have HO123 := n1_; have HO125 := n2_; have HB := n3_; clear n0_ n1_ n2_ n3_; (try clear hb); (try clear hb2); (try clear hk); (try clear hi); (try clear ho0); (try clear ho1))); go_upto_region 4 with (first | (go_at_call 9; (with_reducible refine (laws_zzFits9.calls k _ _ l0 true _ ?side1 ?side2 A2.out).mono ?_); (case side1 => repeat (first | exact HR0.out | (with_reducible refine Kd.C_alloc ?_ _) | (with_reducible refine Kd.C_drewN ?_ _) | (with_reducible refine Kd.C_drew ?_))); (case side2 => exact HC0.out); rintro e w' ⟨rfl, ⟨nd, rfl⟩⟩; (try first | exact ⟨rfl, _, World.drewN_drewN _ _ _⟩ | exact ⟨rfl, _, Eq.trans (World.drewN_drewN _ _ _) (congrArg (World.drewN _) (Nat.add_assoc _ _ _))⟩)) | ((with_reducible refine gate_dst (N := 20) rfl ?_); (try (refine gate_guard (by rfl) ?_; dsimp only)); refine Kd.R_lit Kd.string _ 9 ?hg (N := 20) ?hd (xs := ([(⟨#[120]⟩ : ByteArray)] : List ByteArray)) (inner := [.string (⟨#[120]⟩ : ByteArray)]) (ok := fun _ => True) (okp := fun _ => True) ?hr ?hp (fun _ hk => hk) trivial (Below.refl _ _) (Nat.le_refl _) (by simp) ?_; (case hd => rfl); (case hg => rfl); (case hr => first | (go_simp; done) | (go_simp; rfl)); (case hp => exact (Reps.one (show Kd.M Kd.string _ _ _ (⟨#[120]⟩ : ByteArray) [.string (⟨#[120]⟩ : ByteArray)] from rfl) (Reps.none _ _))); intro v115 w6 ho7 hb hg_ hnew_; clear hg_ hnew_; (first | rw [← Ny114.out] at ho7 | (simp only [Int.reduceToNat] at ho7; rw [← Ny114.out] at ho7)); have n0_ := Aside0.mk (Kd.R_lower ho7 (below_size (by repeat (first | (with_reducible first | exact HB.out | apply below_alloc | apply pw_below_drewN | apply below_drew1) | exact HB.out)))); have n1_ := Aside0.mk (below_step (by repeat (first | (with_reducible first | exact HB.out | apply below_alloc | apply pw_below_drewN | apply below_drew1) | exact HB.out)) hb); clear HB; have HO116 := n0_; have HB := n1_; clear n0_ n1_; clear hb ho7; obtain ⟨Ao8, co8, eo8⟩ := Kd.R_slice HO116.out; subst eo8) | ((with_reducible refine gate_dst (N := 21) rfl ?_); (try (refine gate_guard (by rfl) ?_; dsimp only)); refine Kd.N_lit (Kd.slice 9 Kd.string) _ 25 ?hg (N' := 21) ?hd (xs := ([y114] : List (List ByteArray))) (inner := [.slice Ao8 y114.length co8]) (ok := (fun _ => True)) (okp := (fun _ => True)) ?hr ?hp (fun _ hk => hk) ((show ∀ k_, w6.heap.size ≤ k_ → (fun _ => True) k_ from fun k_ hk => trivial) _ (Nat.le_refl _)) (Below.refl _ _) (Nat.le_refl _) (by simp) ?_; (case hd => rfl); (case hg => rfl); (case hr => first | (go_simp; done) | (go_simp; rfl)); (case hp => exact (Reps.one (show Kd.FK (Kd.slice 9 Kd.string) _ _ y114 [.slice Ao8 y114.length co8] from (Kd.FK_slice_mk (Kd.R_reads' (Kd.R_mono (ok' := (fun _ => True)) (HO116.out) (fun k_ hk => trivial))).2.1 (Kd.R_F (Kd.R_mono (ok' := (fun _ => True)) (HO116.out) (fun k_ hk => trivial))))) (Reps.none _ _))); intro v118 w9 ho10 hb hg_ hnew_; clear hg_ hnew_; (first | rw [← Ny117.out] at ho10 | (simp only [Int.reduceToNat] at ho10; rw [← Ny117.out] at ho10)); have n0_ := Aside0.mk (Kd.N_lower ho10 (below_size (by repeat (first | (with_reducible first | exact HB.out | apply below_alloc | apply pw_below_drewN | apply below_drew1) | exact HB.out)))); have n1_ := Aside0.mk (below_step (by repeat (first | (with_reducible first | exact HB.out | apply below_alloc | apply pw_below_drewN | apply below_drew1) | exact HB.out)) hb); clear HB; clear HO116; have HO119 := n0_; have HB := n1_; clear n0_ n1_; clear hb ho10; obtain ⟨Ao11, co11, eo11⟩ := Kd.N_slice HO119.out; subst eo11) | (go_at_call 10; (with_reducible refine (impl_POSIDs.calls _ _ y117 t120 t121 _ ?side1 ?side2 A4.out).mono ?_); (case side1 => repeat (first | exact (Kd.N_reads' HO119.out).2.2 | (with_reducible refine Kd.C_alloc ?_ _) | (with_reducible refine Kd.C_drewN ?_ _) | (with_reducible refine Kd.C_drew ?_))); (case side2 => exact (Kd.N_reads' HO119.out).2.1); rintro e w12 ⟨v122, v124, rfl, ho0, ho1, hb⟩; have n0_ := Aside0.mk (Kd.N_mono (Kd.N_told (Kd.N_told (Kd.N_old (by (with_reducible repeat (first | apply Kd.N_alloc | apply Kd.N_drewN | apply Kd.N_drew)); exact HO119.out) hb) (by first | exact Kd.N_base ho0 | exact Kd.S_base ho0 | exact Kd.R_base ho0)) (by first | exact Kd.N_base ho1 | exact Kd.S_base ho1 | exact Kd.R_base ho1)) (fun _ h_ => h_.1)); have n1_ := Aside0.mk (Kd.N_lower (Kd.N_mono (ok' := fun k_ => some k_ ≠ (v124 : Value).ownBlock ∧ some k_ ≠ (.slice Ao11 y117.length co11 : Value).ownBlock) (Kd.S_N (Kd.S_bound (Kd.S_apart' ho0 (Kd.R_typed ho1) (by decide)))) (fun k_ hk_ => ⟨hk_.1.2, (Kd.fresh' (Kd.N_lt (by (with_reducible repeat (first | apply Kd.N_alloc | apply Kd.N_drewN | apply Kd.N_drew)); exact HO119.out)) k_ hk_.2.1)⟩)) (below_size (by repeat (first | (with_reducible first | exact HB.out | apply below_alloc | apply pw_below_drewN | apply below_drew1) | exact HB.out)))); have n2_ := Aside0.mk (Kd.R_lower ho1 (below_size (by repeat (first | (with_reducible first | exact HB.out | apply below_alloc | apply pw_below_drewN | apply below_drew1) | exact HB.out)))); have n3_ := Aside0.mk (below_step (by repeat (first | (with_reducible first | exact HB.out | apply below_alloc | apply pw_below_drewN | apply below_drew1) | exact HB.out)) hb); clear HO119; clear HB; have HO119 := n0_; have HO123 := n1_; have HO125 := n2_; have HB := n3_; clear n0_ n1_ n2_ n3_; (try clear hb); (try clear hb2); (try clear hk); (try clear hi); (try clear ho0); (try clear ho1))))
    (try simp only [Act.put, List.setIfInBounds_toArray, List.set_cons_zero, List.set_cons_succ])
    go_cut [66] (fun v66 wc => ∃ (kq : Nat) (x66_4 : Bool), v66 = .bool x66_4 ∧ Aside0 (laws_FnPOSIDs.j0 kq l0 x66_4 = some r) ∧ Aside0 (kq ≤ k) ∧ Aside0 (Below w.heap.size w wc))
    case first =>
      have H := HC5.out
      clear HC5
      by_cases c13 : (t120.length : Int) = 1
      · rw [if_pos c13] at H
        have c13b0 : ((t120.length : Int) == 1) = true := beq_iff_eq.mpr c13
        have c13b1 : ((t120.length : Int) != 1) = false := bne_eq_false_iff_eq.mpr c13
        clear c13
        (first | rw [c13b0] | (simp only [i64_w, i32_w]; rw [c13b0]) | skip)
        by_cases c14 : 0 < (t120.length : Int)
        · rw [if_pos c14] at H
          have c14b0 : decide (0 < (t120.length : Int)) = true := decide_eq_true c14
          have c14b1 : decide (0 < t120.length) = true := decide_eq_true (by omega)
          clear c14
          by_cases c15 : ((rd_L4 t120 0).length : Int) = 1
          · rw [if_pos c15] at H
            have c15b0 : (((rd_L4 t120 0).length : Int) == 1) = true := beq_iff_eq.mpr c15
            have c15b1 : (((rd_L4 t120 0).length : Int) != 1) = false := bne_eq_false_iff_eq.mpr c15
            clear c15
            by_cases c16 : (t121.length : Int) = 2
            · rw [if_pos c16] at H
              have c16b0 : ((t121.length : Int) == 2) = true := beq_iff_eq.mpr c16
              have c16b1 : ((t121.length : Int) != 2) = false := bne_eq_false_iff_eq.mpr c16
              clear c16
              by_cases c17 : 0 < ((rd_L4 t120 0).length : Int)
              · rw [if_pos c17] at H
                have c17b0 : decide (0 < ((rd_L4 t120 0).length : Int)) = true := decide_eq_true c17
                have c17b1 : decide (0 < (rd_L4 t120 0).length) = true := decide_eq_true (by omega)
                clear c17
                by_cases c18 : (rd (rd_L4 t120 0) 0) < 0
                · exact absurd c18 (by rw [HCAN.out.1]; decide)
                · rw [if_neg c18] at H
                  have c18b0 : decide ((rd (rd_L4 t120 0) 0) < 0) = false := decide_eq_false c18
                  clear c18
                  by_cases c21 : (rd (rd_L4 t120 0) 0) > 1
                  · exact absurd c21 (by rw [HCAN.out.1]; decide)
                  · rw [if_neg c21] at H
                    have c21b0 : decide (1 < (rd (rd_L4 t120 0) 0)) = false := decide_eq_false c21
                    clear c21
                    by_cases c24 : 0 ≤ (rd (rd_L4 t120 0) 0)
                    · rw [if_pos c24] at H
                      have c24b0 : decide (0 ≤ (rd (rd_L4 t120 0) 0)) = true := decide_eq_true c24
                      clear c24
                      by_cases c25 : (rd (rd_L4 t120 0) 0) < (t121.length : Int)
                      · rw [if_pos c25] at H
                        have c25b0 : decide ((rd (rd_L4 t120 0) 0) < (t121.length : Int)) = true := decide_eq_true c25
                        clear c25
                        have H' := Aside0.mk H
                        clear H
                        obtain ⟨Ao26, co26, eo26⟩ := Kd.N_slice HO123.out
                        subst eo26
                        have p126 : 0 ≤ (0 : Int) := (by omega)
                        have q126 : 0 < (t120.length : Int) := of_decide_eq_true (by first | (with_reducible assumption) | assumption)
                        obtain ⟨ad126, A126_0, c126_0, e126, hx126_0, hl126_0, hi126_0⟩ := at_L4 (Kd.N_reads' HO123.out).2.2 0 p126 q126
                        cases e126
                        obtain ⟨ce126, hce126, hMe126, hcc126⟩ := Kd.N_get HO123.out [] 0 p126 (by first | exact q126 | exact of_decide_eq_true (by first | (with_reducible assumption) | assumption) | (have e_ := (Kd.N_reads' HO123.out).1; omega))
                        obtain ⟨ua126_0, uc126_0, rfl, ul126_0, ge126_0⟩ := Kd.FK_slice_open hMe126
                        have hv126_0 := hcc126 0 _ rfl
                        rw [Nat.add_zero, show ((Kd.slice 3 (Kd.int .i64))).sz = 1 from rfl, Nat.mul_one] at hv126_0
                        replace hv126_0 := Option.some.inj (hv126_0.symm.trans hx126_0)
                        injection hv126_0 with hva_ hvn_ hvc_
                        rw [hva_] at ge126_0
                        rw [hvc_] at ul126_0
                        have HL126_0 := Aside0.mk (show Kd.V (Kd.int .i64) 3 _ w.heap.size _ _ (rd_L4 t120 0) from Kd.V_mk ul126_0 ge126_0)
                        clear hva_ hvn_ hvc_ ge126_0 ul126_0
                        clear hcc126 hce126
                        have qi126 : (0 < t120.length) = True := eq_true (by omega)
                        (try rw [show ((0 : Int)).toNat = 0 from rfl] at hx126_0)
                        (try rw [Addr.add_zero'] at hx126_0)
                        have HR126_0 := Aside0.mk hi126_0
                        have HC126_0 := Aside0.mk hl126_0
                        clear hi126_0 hl126_0
                        replace p126 := eq_true p126
                        replace q126 := eq_true q126
                        obtain ⟨Ao27, co27, eo27⟩ := Kd.R_slice HO125.out
                        subst eo27
                        have p127 : 0 ≤ (0 : Int) := (by omega)
                        have q127 : 0 < (t120.length : Int) := of_decide_eq_true (by first | (with_reducible assumption) | assumption)
                        obtain ⟨ad127, A127_0, c127_0, e127, hx127_0, hl127_0, hi127_0⟩ := at_L4 (Kd.N_reads' HO123.out).2.2 0 p127 q127
                        obtain rfl : ad126 = ad127 := (by injection e127)
                        obtain ⟨ce127, hce127, hMe127, hcc127⟩ := Kd.N_get HO123.out [] 0 p127 (by first | exact q127 | exact of_decide_eq_true (by first | (with_reducible assumption) | assumption) | (have e_ := (Kd.N_reads' HO123.out).1; omega))
                        obtain ⟨ua127_0, uc127_0, rfl, ul127_0, ge127_0⟩ := Kd.FK_slice_open hMe127
                        have hv127_0 := hcc127 0 _ rfl
                        rw [Nat.add_zero, show ((Kd.slice 3 (Kd.int .i64))).sz = 1 from rfl, Nat.mul_one] at hv127_0
                        replace hv127_0 := Option.some.inj (hv127_0.symm.trans hx127_0)
                        injection hv127_0 with hva_ hvn_ hvc_
                        rw [hva_] at ge127_0
                        rw [hvc_] at ul127_0
                        have HL127_0 := Aside0.mk (show Kd.V (Kd.int .i64) 3 _ w.heap.size _ _ (rd_L4 t120 0) from Kd.V_mk ul127_0 ge127_0)
                        clear hva_ hvn_ hvc_ ge127_0 ul127_0
                        clear hcc127 hce127
                        have qi127 : (0 < t120.length) = True := eq_true (by omega)
                        (try rw [show ((0 : Int)).toNat = 0 from rfl] at hx127_0)
                        (try rw [Addr.add_zero'] at hx127_0)
                        have HR127_0 := Aside0.mk hi127_0
                        have HC127_0 := Aside0.mk hl127_0
                        clear hi127_0 hl127_0
                        replace p127 := eq_true p127
                        replace q127 := eq_true q127
                        have ea_ := Option.some.inj (hx126_0.symm.trans hx127_0)
                        injection ea_ with ea_ en_ ec_
                        subst ea_
                        subst ec_
                        clear en_
                        have p128 : 0 ≤ (0 : Int) := (by omega)
                        have q128 : 0 < ((rd_L4 t120 0).length : Int) := of_decide_eq_true (by first | (with_reducible assumption) | assumption)
                        obtain ⟨ad128, e128, hx128_0⟩ := Kd.at_int (by repeat (first | (with_reducible exact HR127_0.out) | (with_reducible refine Kd.C_alloc ?_ _) | (with_reducible refine Kd.C_drewN ?_ _) | (with_reducible refine Kd.C_drew ?_) | exact HR127_0.out)) 0 p128 q128
                        cases e128
                        have qi128 : (0 < (rd_L4 t120 0).length) = True := eq_true (by omega)
                        (try rw [show ((0 : Int)).toNat = 0 from rfl] at hx128_0)
                        (try rw [Addr.add_zero'] at hx128_0)
                        replace p128 := eq_true p128
                        replace q128 := eq_true q128
                        have p129 : 0 ≤ (0 : Int) := (by omega)
                        have q129 : 0 < (t120.length : Int) := of_decide_eq_true (by first | (with_reducible assumption) | assumption)
                        obtain ⟨ad129, A129_0, c129_0, e129, hx129_0, hl129_0, hi129_0⟩ := at_L4 (Kd.N_reads' HO123.out).2.2 0 p129 q129
                        obtain rfl : ad126 = ad129 := (by injection e129)
                        obtain ⟨ce129, hce129, hMe129, hcc129⟩ := Kd.N_get HO123.out [] 0 p129 (by first | exact q129 | exact of_decide_eq_true (by first | (with_reducible assumption) | assumption) | (have e_ := (Kd.N_reads' HO123.out).1; omega))
                        obtain ⟨ua129_0, uc129_0, rfl, ul129_0, ge129_0⟩ := Kd.FK_slice_open hMe129
                        have hv129_0 := hcc129 0 _ rfl
                        rw [Nat.add_zero, show ((Kd.slice 3 (Kd.int .i64))).sz = 1 from rfl, Nat.mul_one] at hv129_0
                        replace hv129_0 := Option.some.inj (hv129_0.symm.trans hx129_0)
                        injection hv129_0 with hva_ hvn_ hvc_
                        rw [hva_] at ge129_0
                        rw [hvc_] at ul129_0
                        have HL129_0 := Aside0.mk (show Kd.V (Kd.int .i64) 3 _ w.heap.size _ _ (rd_L4 t120 0) from Kd.V_mk ul129_0 ge129_0)
                        clear hva_ hvn_ hvc_ ge129_0 ul129_0
                        clear hcc129 hce129
                        have qi129 : (0 < t120.length) = True := eq_true (by omega)
                        (try rw [show ((0 : Int)).toNat = 0 from rfl] at hx129_0)
                        (try rw [Addr.add_zero'] at hx129_0)
                        have HR129_0 := Aside0.mk hi129_0
                        have HC129_0 := Aside0.mk hl129_0
                        clear hi129_0 hl129_0
                        replace p129 := eq_true p129
                        replace q129 := eq_true q129
                        have ea_ := Option.some.inj (hx126_0.symm.trans hx129_0)
                        injection ea_ with ea_ en_ ec_
                        subst ea_
                        subst ec_
                        clear en_
                        have p130 : 0 ≤ (0 : Int) := (by omega)
                        have q130 : 0 < ((rd_L4 t120 0).length : Int) := of_decide_eq_true (by first | (with_reducible assumption) | assumption)
                        obtain ⟨ad130, e130, hx130_0⟩ := Kd.at_int (by repeat (first | (with_reducible exact HR129_0.out) | (with_reducible refine Kd.C_alloc ?_ _) | (with_reducible refine Kd.C_drewN ?_ _) | (with_reducible refine Kd.C_drew ?_) | exact HR129_0.out)) 0 p130 q130
                        cases e130
                        have qi130 : (0 < (rd_L4 t120 0).length) = True := eq_true (by omega)
                        (try rw [show ((0 : Int)).toNat = 0 from rfl] at hx130_0)
                        (try rw [Addr.add_zero'] at hx130_0)
                        replace p130 := eq_true p130
                        replace q130 := eq_true q130
                        have p131 : 0 ≤ (0 : Int) := (by omega)
                        have q131 : 0 < (t120.length : Int) := of_decide_eq_true (by first | (with_reducible assumption) | assumption)
                        obtain ⟨ad131, A131_0, c131_0, e131, hx131_0, hl131_0, hi131_0⟩ := at_L4 (Kd.N_reads' HO123.out).2.2 0 p131 q131
                        obtain rfl : ad126 = ad131 := (by injection e131)
                        obtain ⟨ce131, hce131, hMe131, hcc131⟩ := Kd.N_get HO123.out [] 0 p131 (by first | exact q131 | exact of_decide_eq_true (by first | (with_reducible assumption) | assumption) | (have e_ := (Kd.N_reads' HO123.out).1; omega))
                        obtain ⟨ua131_0, uc131_0, rfl, ul131_0, ge131_0⟩ := Kd.FK_slice_open hMe131
                        have hv131_0 := hcc131 0 _ rfl
                        rw [Nat.add_zero, show ((Kd.slice 3 (Kd.int .i64))).sz = 1 from rfl, Nat.mul_one] at hv131_0
                        replace hv131_0 := Option.some.inj (hv131_0.symm.trans hx131_0)
                        injection hv131_0 with hva_ hvn_ hvc_
                        rw [hva_] at ge131_0
                        rw [hvc_] at ul131_0
                        have HL131_0 := Aside0.mk (show Kd.V (Kd.int .i64) 3 _ w.heap.size _ _ (rd_L4 t120 0) from Kd.V_mk ul131_0 ge131_0)
                        clear hva_ hvn_ hvc_ ge131_0 ul131_0
                        clear hcc131 hce131
                        have qi131 : (0 < t120.length) = True := eq_true (by omega)
                        (try rw [show ((0 : Int)).toNat = 0 from rfl] at hx131_0)
                        (try rw [Addr.add_zero'] at hx131_0)
                        have HR131_0 := Aside0.mk hi131_0
                        have HC131_0 := Aside0.mk hl131_0
                        clear hi131_0 hl131_0
                        replace p131 := eq_true p131
                        replace q131 := eq_true q131
                        have ea_ := Option.some.inj (hx126_0.symm.trans hx131_0)
                        injection ea_ with ea_ en_ ec_
                        subst ea_
                        subst ec_
                        clear en_
                        have p132 : 0 ≤ (0 : Int) := (by omega)
                        have q132 : 0 < ((rd_L4 t120 0).length : Int) := of_decide_eq_true (by first | (with_reducible assumption) | assumption)
                        obtain ⟨ad132, e132, hx132_0⟩ := Kd.at_int (by repeat (first | (with_reducible exact HR131_0.out) | (with_reducible refine Kd.C_alloc ?_ _) | (with_reducible refine Kd.C_drewN ?_ _) | (with_reducible refine Kd.C_drew ?_) | exact HR131_0.out)) 0 p132 q132
                        cases e132
                        have qi132 : (0 < (rd_L4 t120 0).length) = True := eq_true (by omega)
                        (try rw [show ((0 : Int)).toNat = 0 from rfl] at hx132_0)
                        (try rw [Addr.add_zero'] at hx132_0)
                        replace p132 := eq_true p132
                        replace q132 := eq_true q132
                        have p133 : 0 ≤ ((rd (rd_L4 t120 0) 0) : Int) := of_decide_eq_true (by first | (with_reducible assumption) | assumption)
                        have q133 : (rd (rd_L4 t120 0) 0) < (t121.length : Int) := of_decide_eq_true (by first | (with_reducible assumption) | assumption)
                        obtain ⟨ad133, e133, hx133_0⟩ := Kd.at_string (Kd.R_reads' HO125.out).2.2 (rd (rd_L4 t120 0) 0) p133 q133
                        cases e133
                        replace p133 := eq_true p133
                        replace q133 := eq_true q133
                        go_wp2
                        repeat (go_quiet (fail); try go_wp2)
                        go_meet
                        case rel => exact ⟨_, (((rdOf ByteArray.empty t121 (rd (rd_L4 t120 0) 0)).toList != ([120] : List UInt8))), (by first | rfl | (simp; done) | (simp [*]; done)), H', ⟨by first | omega | exact Nat.le_refl _⟩, ⟨by repeat (first | (with_reducible first | exact HB.out | apply below_alloc | apply pw_below_drewN | apply below_drew1) | exact HB.out)⟩⟩
                      · exact absurd (show (rd (rd_L4 t120 0) 0) < (t121.length : Int) by rw [HCAN.out.1, HCAN.out.2]; decide) c25
                    · exact absurd (show 0 ≤ (rd (rd_L4 t120 0) 0) by rw [HCAN.out.1]; decide) c24
              · exact absurd (show 0 < ((rd_L4 t120 0).length : Int) by rw [HCAN.out.1]; decide) c17
            · exact absurd (show (t121.length : Int) = 2 by rw [HCAN.out.2]; decide) c16
          · exact absurd (show ((rd_L4 t120 0).length : Int) = 1 by rw [HCAN.out.1]; decide) c15
        · exact absurd (show 0 < (t120.length : Int) by rw [HCAN.out.1]; decide) c14
      · exact absurd (show (t120.length : Int) = 1 by rw [HCAN.out.1]; decide) c13
    case rest =>
      clear HC5
      try clear c1
      try clear p1
      try clear q1
      try clear hx1
      try clear qi1
      try clear c2
      try clear p2
      try clear c3
      try clear c12
      try clear p12
      try clear q12
      try clear hx12
      try clear qi12
      try clear c13
      try clear c13b0
      try clear c13b1
      try clear p13
      try clear q13
      try clear hx13
      try clear qi13
      try clear c14
      try clear c14b0
      try clear c14b1
      try clear c15
      try clear c15b0
      try clear c15b1
      try clear c16
      try clear c16b0
      try clear c16b1
      try clear c17
      try clear c17b0
      try clear c17b1
      try clear c18
      try clear c18b0
      try clear c21
      try clear c21b0
      try clear c24
      try clear c24b0
      try clear c25
      try clear c25b0
      try clear hx126_0
      try clear hx127_0
      try clear hx128_0
      try clear hx129_0
      try clear hx130_0
      try clear hx131_0
      try clear hx132_0
      try clear hx133_0
      try clear p126
      try clear p127
      try clear p128
      try clear p129
      try clear p130
      try clear p131
      try clear p132
      try clear p133
      try clear q126
      try clear q127
      try clear q128
      try clear q129
      try clear q130
      try clear q131
      try clear q132
      try clear q133
      obtain ⟨kq, x66_4, rfl, HA, HJ4, HB⟩ := hcut
      cases kq with
      | zero => exact absurd HA.out (by simp [laws_FnPOSIDs.j0])
      | succ kj4 =>
        have H := HA.out
        clear HA
        simp only [laws_FnPOSIDs.j0] at H
        by_cases c32 : x66_4 = true
        · subst c32
          have H1 : (some false) = some r := by rw [if_pos rfl] at H; exact H
          clear H
          have H := H1
          clear H1
          obtain rfl := Option.some.inj H
          go_wp2
          repeat (go_quiet (fail); try go_wp2)
          go_ret
          exact ⟨by first | rfl | (simp [errW_none, errW_some] <;> rfl) | (simp [*, errW_none, errW_some] <;> rfl), by repeat (first | (with_reducible first | exact HB.out | apply below_alloc | apply pw_below_drewN | apply below_drew1) | exact HB.out)⟩
        · replace c32 := Bool.eq_false_iff.mpr c32
          subst c32
          have H1 : (if (l0.length : Int) > 10 then (some true) else (laws_FnPOSIDs.l0 kj4 l0 l0 (l0.length : Int) 0)) = some r := by rw [if_neg (show ¬ (false = true) by decide)] at H; exact H
          clear H
          have H := H1
          clear H1
          by_cases c33 : (l0.length : Int) > 10
          · rw [if_pos c33] at H
            have c33b0 : decide (10 < (l0.length : Int)) = true := decide_eq_true c33
            have c33b1 : decide (10 < l0.length) = true := decide_eq_true (by omega)
            clear c33
            obtain rfl := Option.some.inj H
            go_wp2
            repeat (go_quiet (fail); try go_wp2)
            go_ret
            exact ⟨by first | rfl | (simp [errW_none, errW_some] <;> rfl) | (simp [*, errW_none, errW_some] <;> rfl), by repeat (first | (with_reducible first | exact HB.out | apply below_alloc | apply pw_below_drewN | apply below_drew1) | exact HB.out)⟩
          · rw [if_neg c33] at H
            have c33b0 : decide (10 < (l0.length : Int)) = false := decide_eq_false c33
            have c33b1 : decide (10 < l0.length) = false := decide_eq_false (by omega)
            clear c33
            have H' := Aside0.mk H
            clear H
            go_wp2
            repeat (go_quiet (fail); try go_wp2)
            go_loopg [72] kj4 (fun kq v72 w' => ∃ (x72_2 : Int), v72 = .int .i64 x72_2 ∧ Aside0 (laws_FnPOSIDs.l0 kq l0 l0 (l0.length : Int) x72_2 = some r) ∧ Aside0 (kq ≤ kj4) ∧ Aside0 (Below w.heap.size w w'))
            case atStart => exact ⟨(0), (by first | rfl | (simp; done) | (simp [*]; done)), H', ⟨Nat.le_refl _⟩, ⟨by repeat (first | (with_reducible first | exact HB.out | apply below_alloc | apply pw_below_drewN | apply below_drew1) | exact HB.out)⟩⟩
            case round =>
              clear H'
              try clear c1
              try clear p1
              try clear q1
              try clear hx1
              try clear qi1
              try clear c2
              try clear p2
              try clear c3
              try clear c12
              try clear p12
              try clear q12
              try clear hx12
              try clear qi12
              try clear c13
              try clear c13b0
              try clear c13b1
              try clear p13
              try clear q13
              try clear hx13
              try clear qi13
              try clear c14
              try clear c14b0
              try clear c14b1
              try clear c15
              try clear c15b0
              try clear c15b1
              try clear c16
              try clear c16b0
              try clear c16b1
              try clear c17
              try clear c17b0
              try clear c17b1
              try clear c18
              try clear c18b0
              try clear c21
              try clear c21b0
              try clear c24
              try clear c24b0
              try clear c25
              try clear c25b0
              try clear c32
              try clear c33
              try clear c33b0
              try clear c33b1
              try clear hx126_0
              try clear hx127_0
              try clear hx128_0
              try clear hx129_0
              try clear hx130_0
              try clear hx131_0
              try clear hx132_0
              try clear hx133_0
              try clear p1
              try clear p12
              try clear p126
              try clear p127
              try clear p128
              try clear p129
              try clear p13
              try clear p130
              try clear p131
              try clear p132
              try clear p133
              try clear p2
              try clear q1
              try clear q12
              try clear q126
              try clear q127
              try clear q128
              try clear q129
              try clear q13
              try clear q130
              try clear q131
              try clear q132
              try clear q133
              obtain ⟨x72_2, rfl, HA, HK2, HB⟩ := hrel
              cases gk with
              | zero => exact absurd HA.out (by simp [laws_FnPOSIDs.l0])
              | succ k2 =>
                have H := HA.out
                clear HA
                simp only [laws_FnPOSIDs.l0] at H
                by_cases c34 : x72_2 < (l0.length : Int)
                · rw [if_pos c34] at H
                  have c34b0 : decide (x72_2 < (l0.length : Int)) = true := decide_eq_true c34
                  clear c34
                  by_cases c35 : 0 ≤ x72_2
                  · rw [if_pos c35] at H
                    have c35b0 : decide (0 ≤ x72_2) = true := decide_eq_true c35
                    clear c35
                    by_cases c36 : x72_2 < (l0.length : Int)
                    · rw [if_pos c36] at H
                      have c36b0 : decide (x72_2 < (l0.length : Int)) = true := decide_eq_true c36
                      clear c36
                      have HC37 := Aside0.mk H
                      clear H
                      have p134 : 0 ≤ (x72_2 : Int) := of_decide_eq_true (by first | (with_reducible assumption) | assumption)
                      have q134 : x72_2 < (l0.length : Int) := of_decide_eq_true (by first | (with_reducible assumption) | assumption)
                      obtain ⟨ad134, A134_0, c134_0, e134, hx134_0, hl134_0, hi134_0⟩ := at_L1 HR0.out x72_2 p134 q134
                      cases e134
                      first | (replace hx134_0 := (HB.out.cell (World.block_lt_of_cell? w _ hx134_0)).trans hx134_0) | skip
                      have HR134_0 := Aside0.mk hi134_0
                      have HC134_0 := Aside0.mk hl134_0
                      clear hi134_0 hl134_0
                      replace p134 := eq_true p134
                      replace q134 := eq_true q134
                      go_upto_region 11 with (fail)
                      repeat (go_quiet (fail); go_upto_region 11 with (fail))
                      go_cut [83] (fun v83 wc => ∃ (kq : Nat) (x83_36 : Bool), v83 = .bool x83_36 ∧ Aside0 (laws_FnPOSIDs.j2 kq l0 (rd_L1 l0 x72_2) l0 (l0.length : Int) x72_2 x83_36 = some r) ∧ Aside0 (kq ≤ k2) ∧ Aside0 (Below w.heap.size w wc))
                      case first =>
                        have H := HC37.out
                        clear HC37
                        by_cases c38 : ((rd_L1 l0 x72_2).length : Int) > 6
                        · rw [if_pos c38] at H
                          have c38b0 : decide (6 < ((rd_L1 l0 x72_2).length : Int)) = true := decide_eq_true c38
                          have c38b1 : decide (6 < (rd_L1 l0 x72_2).length) = true := decide_eq_true (by omega)
                          clear c38
                          (first | rw [c38b0] | (simp only [i64_w, i32_w]; rw [c38b0]) | skip)
                          have H' := Aside0.mk H
                          clear H
                          go_wp2
                          repeat (go_quiet (fail); try go_wp2)
                          go_meet
                          case rel => exact ⟨_, (true), (by first | rfl | (simp; done) | (simp [*]; done)), H', ⟨by have := HJ4.out; have := HK2.out; first | omega | exact Nat.le_refl _⟩, ⟨by repeat (first | (with_reducible first | exact HB.out | apply below_alloc | apply pw_below_drewN | apply below_drew1) | exact HB.out)⟩⟩
                        · rw [if_neg c38] at H
                          have c38b0 : decide (6 < ((rd_L1 l0 x72_2).length : Int)) = false := decide_eq_false c38
                          have c38b1 : decide (6 < (rd_L1 l0 x72_2).length) = false := decide_eq_false (by omega)
                          clear c38
                          (first | rw [c38b0] | (simp only [i64_w, i32_w]; rw [c38b0]) | skip)
                          replace H := Option.bind_eq_some_iff.mp H
                          obtain ⟨t135, A390, H⟩ := H
                          replace H : (laws_FnPOSIDs.j2 k2 l0 (rd_L1 l0 x72_2) l0 (l0.length : Int) x72_2 (!t135)) = some r := H
                          have A39 := Aside0.mk A390
                          clear A390
                          have H' := Aside0.mk H
                          clear H
                          go_wp2_with (first | (go_at_call 11; (with_reducible refine (laws_clean.calls k2 40 _ _ (rd_L1 l0 x72_2) t135 _ ?side1 ?side2 A39.out).mono ?_); (case side1 => repeat (first | exact (Kd.C_below HR134_0.out HB.out) | (with_reducible refine Kd.C_alloc ?_ _) | (with_reducible refine Kd.C_drewN ?_ _) | (with_reducible refine Kd.C_drew ?_))); (case side2 => exact HC134_0.out); rintro e w40 ⟨rfl, hb⟩; have n0_ := Aside0.mk (below_step (by repeat (first | (with_reducible first | exact HB.out | apply below_alloc | apply pw_below_drewN | apply below_drew1) | exact HB.out)) hb); clear HB; have HB := n0_; clear n0_; (try clear hb); (try clear hb2); (try clear hk); (try clear hi)))
                          repeat (go_quiet (first | (go_at_call 11; (with_reducible refine (laws_clean.calls k2 40 _ _ (rd_L1 l0 x72_2) t135 _ ?side1 ?side2 A39.out).mono ?_); (case side1 => repeat (first | exact (Kd.C_below HR134_0.out HB.out) | (with_reducible refine Kd.C_alloc ?_ _) | (with_reducible refine Kd.C_drewN ?_ _) | (with_reducible refine Kd.C_drew ?_))); (case side2 => exact HC134_0.out); rintro e w40 ⟨rfl, hb⟩; have n0_ := Aside0.mk (below_step (by repeat (first | (with_reducible first | exact HB.out | apply below_alloc | apply pw_below_drewN | apply below_drew1) | exact HB.out)) hb); clear HB; have HB := n0_; clear n0_; (try clear hb); (try clear hb2); (try clear hk); (try clear hi))); try go_wp2_with (first | (go_at_call 11; (with_reducible refine (laws_clean.calls k2 40 _ _ (rd_L1 l0 x72_2) t135 _ ?side1 ?side2 A39.out).mono ?_); (case side1 => repeat (first | exact (Kd.C_below HR134_0.out HB.out) | (with_reducible refine Kd.C_alloc ?_ _) | (with_reducible refine Kd.C_drewN ?_ _) | (with_reducible refine Kd.C_drew ?_))); (case side2 => exact HC134_0.out); rintro e w40 ⟨rfl, hb⟩; have n0_ := Aside0.mk (below_step (by repeat (first | (with_reducible first | exact HB.out | apply below_alloc | apply pw_below_drewN | apply below_drew1) | exact HB.out)) hb); clear HB; have HB := n0_; clear n0_; (try clear hb); (try clear hb2); (try clear hk); (try clear hi))))
                          go_meet
                          case rel => exact ⟨_, (!t135), (by first | rfl | (simp; done) | (simp [*]; done)), H', ⟨by have := HJ4.out; have := HK2.out; first | omega | exact Nat.le_refl _⟩, ⟨by repeat (first | (with_reducible first | exact HB.out | apply below_alloc | apply pw_below_drewN | apply below_drew1) | exact HB.out)⟩⟩
                      case rest =>
                        clear HC37
                        try clear c1
                        try clear p1
                        try clear q1
                        try clear hx1
                        try clear qi1
                        try clear c2
                        try clear p2
                        try clear c3
                        try clear c12
                        try clear p12
                        try clear q12
                        try clear hx12
                        try clear qi12
                        try clear c13
                        try clear c13b0
                        try clear c13b1
                        try clear p13
                        try clear q13
                        try clear hx13
                        try clear qi13
                        try clear c14
                        try clear c14b0
                        try clear c14b1
                        try clear c15
                        try clear c15b0
                        try clear c15b1
                        try clear c16
                        try clear c16b0
                        try clear c16b1
                        try clear c17
                        try clear c17b0
                        try clear c17b1
                        try clear c18
                        try clear c18b0
                        try clear c21
                        try clear c21b0
                        try clear c24
                        try clear c24b0
                        try clear c25
                        try clear c25b0
                        try clear c32
                        try clear c33
                        try clear c33b0
                        try clear c33b1
                        try clear c34
                        try clear c34b0
                        try clear c35
                        try clear c35b0
                        try clear c36
                        try clear c36b0
                        try clear c38
                        try clear c38b0
                        try clear c38b1
                        try clear hx126_0
                        try clear hx127_0
                        try clear hx128_0
                        try clear hx129_0
                        try clear hx130_0
                        try clear hx131_0
                        try clear hx132_0
                        try clear hx133_0
                        try clear hx134_0
                        try clear p1
                        try clear p12
                        try clear p126
                        try clear p127
                        try clear p128
                        try clear p129
                        try clear p13
                        try clear p130
                        try clear p131
                        try clear p132
                        try clear p133
                        try clear p134
                        try clear p2
                        try clear q1
                        try clear q12
                        try clear q126
                        try clear q127
                        try clear q128
                        try clear q129
                        try clear q13
                        try clear q130
                        try clear q131
                        try clear q132
                        try clear q133
                        try clear q134
                        obtain ⟨kq, x83_36, rfl, HA, HJ36, HB⟩ := hcut
                        cases kq with
                        | zero => exact absurd HA.out (by simp [laws_FnPOSIDs.j2])
                        | succ kj36 =>
                          have H := HA.out
                          clear HA
                          simp only [laws_FnPOSIDs.j2] at H
                          by_cases c41 : x83_36 = true
                          · subst c41
                            have H1 : (some true) = some r := by rw [if_pos rfl] at H; exact H
                            clear H
                            have H := H1
                            clear H1
                            obtain rfl := Option.some.inj H
                            go_wp2
                            repeat (go_quiet (fail); try go_wp2)
                            go_ret
                            exact ⟨by first | rfl | (simp [errW_none, errW_some] <;> rfl) | (simp [*, errW_none, errW_some] <;> rfl), by repeat (first | (with_reducible first | exact HB.out | apply below_alloc | apply pw_below_drewN | apply below_drew1) | exact HB.out)⟩
                          · replace c41 := Bool.eq_false_iff.mpr c41
                            subst c41
                            have H1 : (laws_FnPOSIDs.l1 kj36 l0 l0 (l0.length : Int) x72_2 (rd_L1 l0 x72_2) ((rd_L1 l0 x72_2).length : Int) 0) = some r := by rw [if_neg (show ¬ (false = true) by decide)] at H; exact H
                            clear H
                            have H := H1
                            clear H1
                            have H' := Aside0.mk H
                            clear H
                            go_wp2
                            repeat (go_quiet (fail); try go_wp2)
                            go_loopg [86] kj36 (fun kq v86 w' => ∃ (x86_4 : Int), v86 = .int .i64 x86_4 ∧ Aside0 (laws_FnPOSIDs.l1 kq l0 l0 (l0.length : Int) x72_2 (rd_L1 l0 x72_2) ((rd_L1 l0 x72_2).length : Int) x86_4 = some r) ∧ Aside0 (kq ≤ kj36) ∧ Aside0 (Below w.heap.size w w'))
                            case atStart => exact ⟨(0), (by first | rfl | (simp; done) | (simp [*]; done)), H', ⟨Nat.le_refl _⟩, ⟨by repeat (first | (with_reducible first | exact HB.out | apply below_alloc | apply pw_below_drewN | apply below_drew1) | exact HB.out)⟩⟩
                            case round =>
                              clear H'
                              try clear c1
                              try clear p1
                              try clear q1
                              try clear hx1
                              try clear qi1
                              try clear c2
                              try clear p2
                              try clear c3
                              try clear c4
                              try clear c12
                              try clear p12
                              try clear q12
                              try clear hx12
                              try clear qi12
                              try clear c13
                              try clear c13b0
                              try clear c13b1
                              try clear p13
                              try clear q13
                              try clear hx13
                              try clear qi13
                              try clear c14
                              try clear c14b0
                              try clear c14b1
                              try clear c15
                              try clear c15b0
                              try clear c15b1
                              try clear c16
                              try clear c16b0
                              try clear c16b1
                              try clear c17
                              try clear c17b0
                              try clear c17b1
                              try clear c18
                              try clear c18b0
                              try clear c21
                              try clear c21b0
                              try clear c24
                              try clear c24b0
                              try clear c25
                              try clear c25b0
                              try clear c32
                              try clear c33
                              try clear c33b0
                              try clear c33b1
                              try clear c34
                              try clear c34b0
                              try clear c35
                              try clear c35b0
                              try clear c36
                              try clear c36b0
                              try clear c38
                              try clear c38b0
                              try clear c38b1
                              try clear c41
                              try clear hx126_0
                              try clear hx127_0
                              try clear hx128_0
                              try clear hx129_0
                              try clear hx130_0
                              try clear hx131_0
                              try clear hx132_0
                              try clear hx133_0
                              try clear hx134_0
                              try clear p1
                              try clear p12
                              try clear p126
                              try clear p127
                              try clear p128
                              try clear p129
                              try clear p13
                              try clear p130
                              try clear p131
                              try clear p132
                              try clear p133
                              try clear p134
                              try clear p2
                              try clear q1
                              try clear q12
                              try clear q126
                              try clear q127
                              try clear q128
                              try clear q129
                              try clear q13
                              try clear q130
                              try clear q131
                              try clear q132
                              try clear q133
                              try clear q134
                              obtain ⟨x86_4, rfl, HA, HK4, HB⟩ := hrel
                              cases gk with
                              | zero => exact absurd HA.out (by simp [laws_FnPOSIDs.l1])
                              | succ k4 =>
                                have H := HA.out
                                clear HA
                                simp only [laws_FnPOSIDs.l1] at H
                                by_cases c42 : x86_4 < ((rd_L1 l0 x72_2).length : Int)
                                · rw [if_pos c42] at H
                                  have c42b0 : decide (x86_4 < ((rd_L1 l0 x72_2).length : Int)) = true := decide_eq_true c42
                                  clear c42
                                  by_cases c43 : 0 ≤ x86_4
                                  · rw [if_pos c43] at H
                                    have c43b0 : decide (0 ≤ x86_4) = true := decide_eq_true c43
                                    clear c43
                                    by_cases c44 : x86_4 < ((rd_L1 l0 x72_2).length : Int)
                                    · rw [if_pos c44] at H
                                      have c44b0 : decide (x86_4 < ((rd_L1 l0 x72_2).length : Int)) = true := decide_eq_true c44
                                      clear c44
                                      by_cases c45 : (rdOf ByteArray.empty (rd_L1 l0 x72_2) x86_4).toList = ([] : List UInt8)
                                      · rw [if_pos c45] at H
                                        have c45b0 : ((rdOf ByteArray.empty (rd_L1 l0 x72_2) x86_4).toList == ([] : List UInt8)) = true := beq_iff_eq.mpr c45
                                        have c45b1 : ((rdOf ByteArray.empty (rd_L1 l0 x72_2) x86_4).toList != ([] : List UInt8)) = false := bne_eq_false_iff_eq.mpr c45
                                        clear c45
                                        obtain rfl := Option.some.inj H
                                        have p136 : 0 ≤ (x86_4 : Int) := of_decide_eq_true (by first | (with_reducible assumption) | assumption)
                                        have q136 : x86_4 < ((rd_L1 l0 x72_2).length : Int) := of_decide_eq_true (by first | (with_reducible assumption) | assumption)
                                        obtain ⟨ad136, e136, hx136_0⟩ := Kd.at_string HR134_0.out x86_4 p136 q136
                                        cases e136
                                        first | (replace hx136_0 := (HB.out.cell (World.block_lt_of_cell? w _ hx136_0)).trans hx136_0) | skip
                                        replace p136 := eq_true p136
                                        replace q136 := eq_true q136
                                        go_wp2
                                        repeat (go_quiet (fail); try go_wp2)
                                        go_ret
                                        exact ⟨by first | rfl | (simp [errW_none, errW_some] <;> rfl) | (simp [*, errW_none, errW_some] <;> rfl), by repeat (first | (with_reducible first | exact HB.out | apply below_alloc | apply pw_below_drewN | apply below_drew1) | exact HB.out)⟩
                                      · rw [if_neg c45] at H
                                        have c45b0 : ((rdOf ByteArray.empty (rd_L1 l0 x72_2) x86_4).toList == ([] : List UInt8)) = false := beq_eq_false_iff_ne.mpr c45
                                        have c45b1 : ((rdOf ByteArray.empty (rd_L1 l0 x72_2) x86_4).toList != ([] : List UInt8)) = true := bne_iff_ne.mpr c45
                                        have H' := Aside0.mk H
                                        clear H
                                        have p136 : 0 ≤ (x86_4 : Int) := of_decide_eq_true (by first | (with_reducible assumption) | assumption)
                                        have q136 : x86_4 < ((rd_L1 l0 x72_2).length : Int) := of_decide_eq_true (by first | (with_reducible assumption) | assumption)
                                        obtain ⟨ad136, e136, hx136_0⟩ := Kd.at_string HR134_0.out x86_4 p136 q136
                                        cases e136
                                        first | (replace hx136_0 := (HB.out.cell (World.block_lt_of_cell? w _ hx136_0)).trans hx136_0) | skip
                                        replace p136 := eq_true p136
                                        replace q136 := eq_true q136
                                        go_wp2
                                        repeat (go_quiet (fail); try go_wp2)
                                        go_roundg k4
                                        case measure => have := HJ4.out; have := HK2.out; have := HJ36.out; have := HK4.out; omega
                                        case rel => exact ⟨(wrap64 (x86_4 + 1)), (by first | rfl | (simp; done) | (simp [*]; done)), H', ⟨by have := HJ4.out; have := HK2.out; have := HJ36.out; have := HK4.out; omega⟩, ⟨by repeat (first | (with_reducible first | exact HB.out | apply below_alloc | apply pw_below_drewN | apply below_drew1) | exact HB.out)⟩⟩
                                    · rw [if_neg c44] at H
                                      exact absurd H (by simp)
                                  · rw [if_neg c43] at H
                                    exact absurd H (by simp)
                                · rw [if_neg c42] at H
                                  have c42b0 : decide (x86_4 < ((rd_L1 l0 x72_2).length : Int)) = false := decide_eq_false c42
                                  clear c42
                                  have H' := Aside0.mk H
                                  clear H
                                  go_wp2
                                  repeat (go_quiet (fail); try go_wp2)
                                  go_roundg k4
                                  case measure => have := HJ4.out; have := HK2.out; have := HJ36.out; have := HK4.out; omega
                                  case rel => exact ⟨(wrap64 (x72_2 + 1)), (by first | rfl | (simp; done) | (simp [*]; done)), H', ⟨by have := HJ4.out; have := HK2.out; have := HJ36.out; have := HK4.out; omega⟩, ⟨by repeat (first | (with_reducible first | exact HB.out | apply below_alloc | apply pw_below_drewN | apply below_drew1) | exact HB.out)⟩⟩
                    · rw [if_neg c36] at H
                      exact absurd H (by simp)
                  · rw [if_neg c35] at H
                    exact absurd H (by simp)
                · rw [if_neg c34] at H
                  have c34b0 : decide (x72_2 < (l0.length : Int)) = false := decide_eq_false c34
                  clear c34
                  replace H := Option.bind_eq_some_iff.mp H
                  obtain ⟨⟨t137, t138⟩, A460, H⟩ := H
                  replace H : (if (t137.length : Int) = (l0.length : Int) then (laws_FnPOSIDs.l2 k2 l0 t137 t138 (l0.length : Int) 0) else (some false)) = some r := H
                  have A46 := Aside0.mk A460
                  clear A460
                  by_cases c47 : (t137.length : Int) = (l0.length : Int)
                  · rw [if_pos c47] at H
                    have c47b0 : ((t137.length : Int) == (l0.length : Int)) = true := beq_iff_eq.mpr c47
                    have c47b1 : ((t137.length : Int) != (l0.length : Int)) = false := bne_eq_false_iff_eq.mpr c47
                    have c47b2 : (t137.length == l0.length) = true := by first | simpa using c47 | (simp at c47 ⊢; omega)
                    clear c47
                    have H' := Aside0.mk H
                    clear H
                    go_wp2_with (first | (go_at_call 10; (with_reducible refine (impl_POSIDs.calls _ _ l0 t137 t138 _ ?side1 ?side2 A46.out).mono ?_); (case side1 => repeat (first | exact (Kd.C_below HR0.out HB.out) | (with_reducible refine Kd.C_alloc ?_ _) | (with_reducible refine Kd.C_drewN ?_ _) | (with_reducible refine Kd.C_drew ?_))); (case side2 => exact HC0.out); rintro e w48 ⟨v139, v141, rfl, ho0, ho1, hb⟩; have n0_ := Aside0.mk (Kd.N_lower (Kd.N_mono (ok' := fun k_ => some k_ ≠ (v141 : Value).ownBlock) (Kd.S_N (Kd.S_bound (Kd.S_apart' ho0 (Kd.R_typed ho1) (by decide)))) (fun k_ hk_ => hk_.1.2)) (below_size (by repeat (first | (with_reducible first | exact HB.out | apply below_alloc | apply pw_below_drewN | apply below_drew1) | exact HB.out)))); have n1_ := Aside0.mk (Kd.R_lower ho1 (below_size (by repeat (first | (with_reducible first | exact HB.out | apply below_alloc | apply pw_below_drewN | apply below_drew1) | exact HB.out)))); have n2_ := Aside0.mk (below_step (by repeat (first | (with_reducible first | exact HB.out | apply below_alloc | apply pw_below_drewN | apply below_drew1) | exact HB.out)) hb); clear HB; have HO140 := n0_; have HO142 := n1_; have HB := n2_; clear n0_ n1_ n2_; (try clear hb); (try clear hb2); (try clear hk); (try clear hi); (try clear ho0); (try clear ho1); obtain ⟨Ao49, co49, eo49⟩ := Kd.N_slice HO140.out; subst eo49))
                    repeat (go_quiet (first | (go_at_call 10; (with_reducible refine (impl_POSIDs.calls _ _ l0 t137 t138 _ ?side1 ?side2 A46.out).mono ?_); (case side1 => repeat (first | exact (Kd.C_below HR0.out HB.out) | (with_reducible refine Kd.C_alloc ?_ _) | (with_reducible refine Kd.C_drewN ?_ _) | (with_reducible refine Kd.C_drew ?_))); (case side2 => exact HC0.out); rintro e w48 ⟨v139, v141, rfl, ho0, ho1, hb⟩; have n0_ := Aside0.mk (Kd.N_lower (Kd.N_mono (ok' := fun k_ => some k_ ≠ (v141 : Value).ownBlock) (Kd.S_N (Kd.S_bound (Kd.S_apart' ho0 (Kd.R_typed ho1) (by decide)))) (fun k_ hk_ => hk_.1.2)) (below_size (by repeat (first | (with_reducible first | exact HB.out | apply below_alloc | apply pw_below_drewN | apply below_drew1) | exact HB.out)))); have n1_ := Aside0.mk (Kd.R_lower ho1 (below_size (by repeat (first | (with_reducible first | exact HB.out | apply below_alloc | apply pw_below_drewN | apply below_drew1) | exact HB.out)))); have n2_ := Aside0.mk (below_step (by repeat (first | (with_reducible first | exact HB.out | apply below_alloc | apply pw_below_drewN | apply below_drew1) | exact HB.out)) hb); clear HB; have HO140 := n0_; have HO142 := n1_; have HB := n2_; clear n0_ n1_ n2_; (try clear hb); (try clear hb2); (try clear hk); (try clear hi); (try clear ho0); (try clear ho1); obtain ⟨Ao49, co49, eo49⟩ := Kd.N_slice HO140.out; subst eo49)); try go_wp2_with (first | (go_at_call 10; (with_reducible refine (impl_POSIDs.calls _ _ l0 t137 t138 _ ?side1 ?side2 A46.out).mono ?_); (case side1 => repeat (first | exact (Kd.C_below HR0.out HB.out) | (with_reducible refine Kd.C_alloc ?_ _) | (with_reducible refine Kd.C_drewN ?_ _) | (with_reducible refine Kd.C_drew ?_))); (case side2 => exact HC0.out); rintro e w48 ⟨v139, v141, rfl, ho0, ho1, hb⟩; have n0_ := Aside0.mk (Kd.N_lower (Kd.N_mono (ok' := fun k_ => some k_ ≠ (v141 : Value).ownBlock) (Kd.S_N (Kd.S_bound (Kd.S_apart' ho0 (Kd.R_typed ho1) (by decide)))) (fun k_ hk_ => hk_.1.2)) (below_size (by repeat (first | (with_reducible first | exact HB.out | apply below_alloc | apply pw_below_drewN | apply below_drew1) | exact HB.out)))); have n1_ := Aside0.mk (Kd.R_lower ho1 (below_size (by repeat (first | (with_reducible first | exact HB.out | apply below_alloc | apply pw_below_drewN | apply below_drew1) | exact HB.out)))); have n2_ := Aside0.mk (below_step (by repeat (first | (with_reducible first | exact HB.out | apply below_alloc | apply pw_below_drewN | apply below_drew1) | exact HB.out)) hb); clear HB; have HO140 := n0_; have HO142 := n1_; have HB := n2_; clear n0_ n1_ n2_; (try clear hb); (try clear hb2); (try clear hk); (try clear hi); (try clear ho0); (try clear ho1); obtain ⟨Ao49, co49, eo49⟩ := Kd.N_slice HO140.out; subst eo49)))
                    go_loopg [106] k2 (fun kq v106 w' => ∃ (x106_3 : Int), v106 = .int .i64 x106_3 ∧ Aside0 (laws_FnPOSIDs.l2 kq l0 t137 t138 (l0.length : Int) x106_3 = some r) ∧ Aside0 (kq ≤ k2) ∧ Aside0 (Kd.N (Kd.slice 3 (Kd.int .i64)) 28 w' w.heap.size (fun k_ => some k_ ≠ (v141 : Value).ownBlock) (.slice Ao49 t137.length co49) t137) ∧ Aside0 (Kd.R Kd.string 9 w' w.heap.size (fun _ => True) v141 t138) ∧ Aside0 (Below w.heap.size w w'))
                    case atStart => exact ⟨(0), (by first | rfl | (simp; done) | (simp [*]; done)), H', ⟨Nat.le_refl _⟩, ⟨by (with_reducible repeat (first | apply Kd.N_alloc | apply Kd.N_drewN | apply Kd.N_drew)); exact HO140.out⟩, ⟨by (with_reducible repeat (first | apply Kd.R_alloc | apply Kd.R_drewN | apply Kd.R_drew)); exact HO142.out⟩, ⟨by repeat (first | (with_reducible first | exact HB.out | apply below_alloc | apply pw_below_drewN | apply below_drew1) | exact HB.out)⟩⟩
                    case round =>
                      clear H'
                      try clear c1
                      try clear p1
                      try clear q1
                      try clear hx1
                      try clear qi1
                      try clear c2
                      try clear p2
                      try clear c3
                      try clear c4
                      try clear p6
                      try clear c12
                      try clear p12
                      try clear q12
                      try clear hx12
                      try clear qi12
                      try clear c13
                      try clear c13b0
                      try clear c13b1
                      try clear p13
                      try clear q13
                      try clear hx13
                      try clear qi13
                      try clear c14
                      try clear c14b0
                      try clear c14b1
                      try clear c15
                      try clear c15b0
                      try clear c15b1
                      try clear c16
                      try clear c16b0
                      try clear c16b1
                      try clear c17
                      try clear c17b0
                      try clear c17b1
                      try clear c18
                      try clear c18b0
                      try clear c21
                      try clear c21b0
                      try clear c24
                      try clear c24b0
                      try clear c25
                      try clear c25b0
                      try clear c32
                      try clear c33
                      try clear c33b0
                      try clear c33b1
                      try clear c34
                      try clear c34b0
                      try clear c35
                      try clear c35b0
                      try clear c36
                      try clear c36b0
                      try clear c38
                      try clear c38b0
                      try clear c38b1
                      try clear c41
                      try clear c42
                      try clear c42b0
                      try clear c43
                      try clear c43b0
                      try clear c44
                      try clear c44b0
                      try clear c45
                      try clear c45b0
                      try clear c45b1
                      try clear c47
                      try clear c47b0
                      try clear c47b1
                      try clear c47b2
                      try clear hx126_0
                      try clear hx127_0
                      try clear hx128_0
                      try clear hx129_0
                      try clear hx130_0
                      try clear hx131_0
                      try clear hx132_0
                      try clear hx133_0
                      try clear hx134_0
                      try clear hx136_0
                      try clear p1
                      try clear p12
                      try clear p126
                      try clear p127
                      try clear p128
                      try clear p129
                      try clear p13
                      try clear p130
                      try clear p131
                      try clear p132
                      try clear p133
                      try clear p134
                      try clear p136
                      try clear p2
                      try clear q1
                      try clear q12
                      try clear q126
                      try clear q127
                      try clear q128
                      try clear q129
                      try clear q13
                      try clear q130
                      try clear q131
                      try clear q132
                      try clear q133
                      try clear q134
                      try clear q136
                      obtain ⟨x106_3, rfl, HA, HK3, HO_9, HO_10, HB⟩ := hrel
                      cases gk with
                      | zero => exact absurd HA.out (by simp [laws_FnPOSIDs.l2])
                      | succ k3 =>
                        have H := HA.out
                        clear HA
                        simp only [laws_FnPOSIDs.l2] at H
                        by_cases c50 : x106_3 < (l0.length : Int)
                        · rw [if_pos c50] at H
                          have c50b0 : decide (x106_3 < (l0.length : Int)) = true := decide_eq_true c50
                          clear c50
                          by_cases c51 : 0 ≤ x106_3
                          · rw [if_pos c51] at H
                            have c51b0 : decide (0 ≤ x106_3) = true := decide_eq_true c51
                            clear c51
                            by_cases c52 : x106_3 < (t137.length : Int)
                            · rw [if_pos c52] at H
                              have c52b0 : decide (x106_3 < (t137.length : Int)) = true := decide_eq_true c52
                              clear c52
                              by_cases c53 : x106_3 < (l0.length : Int)
                              · rw [if_pos c53] at H
                                have c53b0 : decide (x106_3 < (l0.length : Int)) = true := decide_eq_true c53
                                clear c53
                                by_cases c54 : ((rd_L4 t137 x106_3).length : Int) = ((rd_L1 l0 x106_3).length : Int)
                                · rw [if_pos c54] at H
                                  have c54b0 : (((rd_L4 t137 x106_3).length : Int) == ((rd_L1 l0 x106_3).length : Int)) = true := beq_iff_eq.mpr c54
                                  have c54b1 : (((rd_L4 t137 x106_3).length : Int) != ((rd_L1 l0 x106_3).length : Int)) = false := bne_eq_false_iff_eq.mpr c54
                                  have c54b2 : ((rd_L4 t137 x106_3).length == (rd_L1 l0 x106_3).length) = true := by first | simpa using c54 | (simp at c54 ⊢; omega)
                                  clear c54
                                  have H' := Aside0.mk H
                                  clear H
                                  have p143 : 0 ≤ (x106_3 : Int) := of_decide_eq_true (by first | (with_reducible assumption) | assumption)
                                  have q143 : x106_3 < (t137.length : Int) := of_decide_eq_true (by first | (with_reducible assumption) | assumption)
                                  obtain ⟨ad143, A143_0, c143_0, e143, hx143_0, hl143_0, hi143_0⟩ := at_L4 (Kd.N_reads' HO_9.out).2.2 x106_3 p143 q143
                                  cases e143
                                  obtain ⟨ce143, hce143, hMe143, hcc143⟩ := Kd.N_get HO_9.out [] x106_3 p143 (by first | exact q143 | exact of_decide_eq_true (by first | (with_reducible assumption) | assumption) | (have e_ := (Kd.N_reads' HO_9.out).1; omega))
                                  obtain ⟨ua143_0, uc143_0, rfl, ul143_0, ge143_0⟩ := Kd.FK_slice_open hMe143
                                  have hv143_0 := hcc143 0 _ rfl
                                  rw [Nat.add_zero, show ((Kd.slice 3 (Kd.int .i64))).sz = 1 from rfl, Nat.mul_one] at hv143_0
                                  replace hv143_0 := Option.some.inj (hv143_0.symm.trans hx143_0)
                                  injection hv143_0 with hva_ hvn_ hvc_
                                  rw [hva_] at ge143_0
                                  rw [hvc_] at ul143_0
                                  have HL143_0 := Aside0.mk (show Kd.V (Kd.int .i64) 3 _ w.heap.size _ _ (rd_L4 t137 x106_3) from Kd.V_mk ul143_0 ge143_0)
                                  clear hva_ hvn_ hvc_ ge143_0 ul143_0
                                  clear hcc143 hce143
                                  have HR143_0 := Aside0.mk hi143_0
                                  have HC143_0 := Aside0.mk hl143_0
                                  clear hi143_0 hl143_0
                                  replace p143 := eq_true p143
                                  replace q143 := eq_true q143
                                  have p144 : 0 ≤ (x106_3 : Int) := of_decide_eq_true (by first | (with_reducible assumption) | assumption)
                                  have q144 : x106_3 < (l0.length : Int) := of_decide_eq_true (by first | (with_reducible assumption) | assumption)
                                  obtain ⟨ad144, A144_0, c144_0, e144, hx144_0, hl144_0, hi144_0⟩ := at_L1 HR0.out x106_3 p144 q144
                                  cases e144
                                  first | (replace hx144_0 := (HB.out.cell (World.block_lt_of_cell? w _ hx144_0)).trans hx144_0) | skip
                                  have HR144_0 := Aside0.mk hi144_0
                                  have HC144_0 := Aside0.mk hl144_0
                                  clear hi144_0 hl144_0
                                  replace p144 := eq_true p144
                                  replace q144 := eq_true q144
                                  have p145 : 0 ≤ (x106_3 : Int) := of_decide_eq_true (by first | (with_reducible assumption) | assumption)
                                  have q145 : x106_3 < (t137.length : Int) := of_decide_eq_true (by first | (with_reducible assumption) | assumption)
                                  obtain ⟨ad145, A145_0, c145_0, e145, hx145_0, hl145_0, hi145_0⟩ := at_L4 (Kd.N_reads' HO_9.out).2.2 x106_3 p145 q145
                                  obtain rfl : ad143 = ad145 := (by injection e145)
                                  obtain ⟨ce145, hce145, hMe145, hcc145⟩ := Kd.N_get HO_9.out [] x106_3 p145 (by first | exact q145 | exact of_decide_eq_true (by first | (with_reducible assumption) | assumption) | (have e_ := (Kd.N_reads' HO_9.out).1; omega))
                                  obtain ⟨ua145_0, uc145_0, rfl, ul145_0, ge145_0⟩ := Kd.FK_slice_open hMe145
                                  have hv145_0 := hcc145 0 _ rfl
                                  rw [Nat.add_zero, show ((Kd.slice 3 (Kd.int .i64))).sz = 1 from rfl, Nat.mul_one] at hv145_0
                                  replace hv145_0 := Option.some.inj (hv145_0.symm.trans hx145_0)
                                  injection hv145_0 with hva_ hvn_ hvc_
                                  rw [hva_] at ge145_0
                                  rw [hvc_] at ul145_0
                                  have HL145_0 := Aside0.mk (show Kd.V (Kd.int .i64) 3 _ w.heap.size _ _ (rd_L4 t137 x106_3) from Kd.V_mk ul145_0 ge145_0)
                                  clear hva_ hvn_ hvc_ ge145_0 ul145_0
                                  clear hcc145 hce145
                                  have HR145_0 := Aside0.mk hi145_0
                                  have HC145_0 := Aside0.mk hl145_0
                                  clear hi145_0 hl145_0
                                  replace p145 := eq_true p145
                                  replace q145 := eq_true q145
                                  have ea_ := Option.some.inj (hx143_0.symm.trans hx145_0)
                                  injection ea_ with ea_ en_ ec_
                                  subst ea_
                                  subst ec_
                                  clear en_
                                  go_wp2
                                  repeat (go_quiet (fail); try go_wp2)
                                  go_loopg [125] k3 (fun kq v125 w' => ∃ (x125_4 : Int), v125 = .int .i64 x125_4 ∧ Aside0 (laws_FnPOSIDs.l3 kq l0 t137 t138 x106_3 (l0.length : Int) x106_3 (rd_L4 t137 x106_3) ((rd_L4 t137 x106_3).length : Int) x125_4 = some r) ∧ Aside0 (kq ≤ k3) ∧ Aside0 (Kd.N (Kd.slice 3 (Kd.int .i64)) 28 w' w.heap.size (fun k_ => some k_ ≠ (v141 : Value).ownBlock) (.slice (some ad143) t137.length co49) t137) ∧ Aside0 (Kd.R Kd.string 9 w' w.heap.size (fun _ => True) v141 t138) ∧ Aside0 (Kd.C (Kd.int .i64) w' A143_0 (rd_L4 t137 x106_3).length (rd_L4 t137 x106_3)) ∧ Aside0 (Kd.C (Kd.int .i64) w' A143_0 (rd_L4 t137 x106_3).length (rd_L4 t137 x106_3)) ∧ Aside0 (Below w.heap.size w w'))
                                  case atStart => exact ⟨(0), (by first | rfl | (simp; done) | (simp [*]; done)), H', ⟨Nat.le_refl _⟩, ⟨by (with_reducible repeat (first | apply Kd.N_alloc | apply Kd.N_drewN | apply Kd.N_drew)); exact HO_9.out⟩, ⟨by (with_reducible repeat (first | apply Kd.R_alloc | apply Kd.R_drewN | apply Kd.R_drew)); exact HO_10.out⟩, ⟨by repeat (first | (with_reducible exact HR143_0.out) | (with_reducible refine Kd.C_alloc ?_ _) | (with_reducible refine Kd.C_drewN ?_ _) | (with_reducible refine Kd.C_drew ?_) | exact HR143_0.out)⟩, ⟨by repeat (first | (with_reducible exact HR145_0.out) | (with_reducible refine Kd.C_alloc ?_ _) | (with_reducible refine Kd.C_drewN ?_ _) | (with_reducible refine Kd.C_drew ?_) | exact HR145_0.out)⟩, ⟨by repeat (first | (with_reducible first | exact HB.out | apply below_alloc | apply pw_below_drewN | apply below_drew1) | exact HB.out)⟩⟩
                                  case round =>
                                    clear H'
                                    try clear c1
                                    try clear p1
                                    try clear q1
                                    try clear hx1
                                    try clear qi1
                                    try clear c2
                                    try clear p2
                                    try clear c3
                                    try clear c4
                                    try clear c5
                                    try clear p6
                                    try clear c12
                                    try clear p12
                                    try clear q12
                                    try clear hx12
                                    try clear qi12
                                    try clear c13
                                    try clear c13b0
                                    try clear c13b1
                                    try clear p13
                                    try clear q13
                                    try clear hx13
                                    try clear qi13
                                    try clear c14
                                    try clear c14b0
                                    try clear c14b1
                                    try clear p14
                                    try clear q14
                                    try clear hx14
                                    try clear c15
                                    try clear c15b0
                                    try clear c15b1
                                    try clear c16
                                    try clear c16b0
                                    try clear c16b1
                                    try clear c17
                                    try clear c17b0
                                    try clear c17b1
                                    try clear c18
                                    try clear c18b0
                                    try clear c21
                                    try clear c21b0
                                    try clear c24
                                    try clear c24b0
                                    try clear c25
                                    try clear c25b0
                                    try clear c32
                                    try clear c33
                                    try clear c33b0
                                    try clear c33b1
                                    try clear c34
                                    try clear c34b0
                                    try clear c35
                                    try clear c35b0
                                    try clear c36
                                    try clear c36b0
                                    try clear c38
                                    try clear c38b0
                                    try clear c38b1
                                    try clear c41
                                    try clear c42
                                    try clear c42b0
                                    try clear c43
                                    try clear c43b0
                                    try clear c44
                                    try clear c44b0
                                    try clear c45
                                    try clear c45b0
                                    try clear c45b1
                                    try clear c47
                                    try clear c47b0
                                    try clear c47b1
                                    try clear c47b2
                                    try clear c50
                                    try clear c50b0
                                    try clear c51
                                    try clear c51b0
                                    try clear c52
                                    try clear c52b0
                                    try clear c53
                                    try clear c53b0
                                    try clear c54
                                    try clear c54b0
                                    try clear c54b1
                                    try clear c54b2
                                    try clear hx126_0
                                    try clear hx127_0
                                    try clear hx128_0
                                    try clear hx129_0
                                    try clear hx130_0
                                    try clear hx131_0
                                    try clear hx132_0
                                    try clear hx133_0
                                    try clear hx134_0
                                    try clear hx136_0
                                    try clear hx143_0
                                    try clear hx144_0
                                    try clear hx145_0
                                    try clear p1
                                    try clear p12
                                    try clear p126
                                    try clear p127
                                    try clear p128
                                    try clear p129
                                    try clear p13
                                    try clear p130
                                    try clear p131
                                    try clear p132
                                    try clear p133
                                    try clear p134
                                    try clear p136
                                    try clear p143
                                    try clear p144
                                    try clear p145
                                    try clear p2
                                    try clear p6
                                    try clear q1
                                    try clear q12
                                    try clear q126
                                    try clear q127
                                    try clear q128
                                    try clear q129
                                    try clear q13
                                    try clear q130
                                    try clear q131
                                    try clear q132
                                    try clear q133
                                    try clear q134
                                    try clear q136
                                    try clear q143
                                    try clear q144
                                    try clear q145
                                    obtain ⟨x125_4, rfl, HA, HK4, HO_9, HO_10, HR143_0, HR145_0, HB⟩ := hrel
                                    cases gk with
                                    | zero => exact absurd HA.out (by simp [laws_FnPOSIDs.l3])
                                    | succ k4 =>
                                      have H := HA.out
                                      clear HA
                                      simp only [laws_FnPOSIDs.l3] at H
                                      by_cases c55 : x125_4 < ((rd_L4 t137 x106_3).length : Int)
                                      · rw [if_pos c55] at H
                                        have c55b0 : decide (x125_4 < ((rd_L4 t137 x106_3).length : Int)) = true := decide_eq_true c55
                                        clear c55
                                        by_cases c56 : 0 ≤ x125_4
                                        · rw [if_pos c56] at H
                                          have c56b0 : decide (0 ≤ x125_4) = true := decide_eq_true c56
                                          clear c56
                                          by_cases c57 : x125_4 < ((rd_L4 t137 x106_3).length : Int)
                                          · rw [if_pos c57] at H
                                            have c57b0 : decide (x125_4 < ((rd_L4 t137 x106_3).length : Int)) = true := decide_eq_true c57
                                            clear c57
                                            by_cases c58 : (rd (rd_L4 t137 x106_3) x125_4) < 0
                                            · rw [if_pos c58] at H
                                              have c58b0 : decide ((rd (rd_L4 t137 x106_3) x125_4) < 0) = true := decide_eq_true c58
                                              clear c58
                                              obtain rfl := Option.some.inj H
                                              have p146 : 0 ≤ (x125_4 : Int) := of_decide_eq_true (by first | (with_reducible assumption) | assumption)
                                              have q146 : x125_4 < ((rd_L4 t137 x106_3).length : Int) := of_decide_eq_true (by first | (with_reducible assumption) | assumption)
                                              obtain ⟨ad146, e146, hx146_0⟩ := Kd.at_int HR145_0.out x125_4 p146 q146
                                              cases e146
                                              first | (replace hx146_0 := (HB.out.cell (World.block_lt_of_cell? w _ hx146_0)).trans hx146_0) | skip
                                              replace p146 := eq_true p146
                                              replace q146 := eq_true q146
                                              go_wp2
                                              repeat (go_quiet (fail); try go_wp2)
                                              go_ret
                                              exact ⟨by first | rfl | (simp [errW_none, errW_some] <;> rfl) | (simp [*, errW_none, errW_some] <;> rfl), by repeat (first | (with_reducible first | exact HB.out | apply below_alloc | apply pw_below_drewN | apply below_drew1) | exact HB.out)⟩
                                            · rw [if_neg c58] at H
                                              have c58b0 : decide ((rd (rd_L4 t137 x106_3) x125_4) < 0) = false := decide_eq_false c58
                                              clear c58
                                              by_cases c59 : (rd (rd_L4 t137 x106_3) x125_4) ≥ (t138.length : Int)
                                              · rw [if_pos c59] at H
                                                have c59b0 : decide ((t138.length : Int) ≤ (rd (rd_L4 t137 x106_3) x125_4)) = true := decide_eq_true c59
                                                clear c59
                                                obtain rfl := Option.some.inj H
                                                have p146 : 0 ≤ (x125_4 : Int) := of_decide_eq_true (by first | (with_reducible assumption) | assumption)
                                                have q146 : x125_4 < ((rd_L4 t137 x106_3).length : Int) := of_decide_eq_true (by first | (with_reducible assumption) | assumption)
                                                obtain ⟨ad146, e146, hx146_0⟩ := Kd.at_int HR145_0.out x125_4 p146 q146
                                                cases e146
                                                first | (replace hx146_0 := (HB.out.cell (World.block_lt_of_cell? w _ hx146_0)).trans hx146_0) | skip
                                                replace p146 := eq_true p146
                                                replace q146 := eq_true q146
                                                obtain ⟨Ao60, co60, eo60⟩ := Kd.R_slice HO_10.out
                                                subst eo60
                                                go_wp2
                                                repeat (go_quiet (fail); try go_wp2)
                                                go_ret
                                                exact ⟨by first | rfl | (simp [errW_none, errW_some] <;> rfl) | (simp [*, errW_none, errW_some] <;> rfl), by repeat (first | (with_reducible first | exact HB.out | apply below_alloc | apply pw_below_drewN | apply below_drew1) | exact HB.out)⟩
                                              · rw [if_neg c59] at H
                                                have c59b0 : decide ((t138.length : Int) ≤ (rd (rd_L4 t137 x106_3) x125_4)) = false := decide_eq_false c59
                                                clear c59
                                                by_cases c61 : 0 ≤ (rd (rd_L4 t137 x106_3) x125_4)
                                                · rw [if_pos c61] at H
                                                  have c61b0 : decide (0 ≤ (rd (rd_L4 t137 x106_3) x125_4)) = true := decide_eq_true c61
                                                  clear c61
                                                  by_cases c62 : (rd (rd_L4 t137 x106_3) x125_4) < (t138.length : Int)
                                                  · rw [if_pos c62] at H
                                                    have c62b0 : decide ((rd (rd_L4 t137 x106_3) x125_4) < (t138.length : Int)) = true := decide_eq_true c62
                                                    clear c62
                                                    by_cases c63 : 0 ≤ x106_3
                                                    · rw [if_pos c63] at H
                                                      have c63b0 : decide (0 ≤ x106_3) = true := decide_eq_true c63
                                                      clear c63
                                                      by_cases c64 : x106_3 < (l0.length : Int)
                                                      · rw [if_pos c64] at H
                                                        have c64b0 : decide (x106_3 < (l0.length : Int)) = true := decide_eq_true c64
                                                        clear c64
                                                        by_cases c65 : x125_4 < ((rd_L1 l0 x106_3).length : Int)
                                                        · rw [if_pos c65] at H
                                                          have c65b0 : decide (x125_4 < ((rd_L1 l0 x106_3).length : Int)) = true := decide_eq_true c65
                                                          clear c65
                                                          by_cases c66 : (rdOf ByteArray.empty t138 (rd (rd_L4 t137 x106_3) x125_4)).toList = (rdOf ByteArray.empty (rd_L1 l0 x106_3) x125_4).toList
                                                          · rw [if_pos c66] at H
                                                            have c66b0 : ((rdOf ByteArray.empty t138 (rd (rd_L4 t137 x106_3) x125_4)).toList == (rdOf ByteArray.empty (rd_L1 l0 x106_3) x125_4).toList) = true := beq_iff_eq.mpr c66
                                                            have c66b1 : ((rdOf ByteArray.empty t138 (rd (rd_L4 t137 x106_3) x125_4)).toList != (rdOf ByteArray.empty (rd_L1 l0 x106_3) x125_4).toList) = false := bne_eq_false_iff_eq.mpr c66
                                                            clear c66
                                                            have H' := Aside0.mk H
                                                            clear H
                                                            have p146 : 0 ≤ (x125_4 : Int) := of_decide_eq_true (by first | (with_reducible assumption) | assumption)
                                                            have q146 : x125_4 < ((rd_L4 t137 x106_3).length : Int) := of_decide_eq_true (by first | (with_reducible assumption) | assumption)
                                                            obtain ⟨ad146, e146, hx146_0⟩ := Kd.at_int HR145_0.out x125_4 p146 q146
                                                            cases e146
                                                            first | (replace hx146_0 := (HB.out.cell (World.block_lt_of_cell? w _ hx146_0)).trans hx146_0) | skip
                                                            replace p146 := eq_true p146
                                                            replace q146 := eq_true q146
                                                            obtain ⟨Ao67, co67, eo67⟩ := Kd.R_slice HO_10.out
                                                            subst eo67
                                                            have p147 : 0 ≤ ((rd (rd_L4 t137 x106_3) x125_4) : Int) := of_decide_eq_true (by first | (with_reducible assumption) | assumption)
                                                            have q147 : (rd (rd_L4 t137 x106_3) x125_4) < (t138.length : Int) := of_decide_eq_true (by first | (with_reducible assumption) | assumption)
                                                            obtain ⟨ad147, e147, hx147_0⟩ := Kd.at_string (Kd.R_reads' HO_10.out).2.2 (rd (rd_L4 t137 x106_3) x125_4) p147 q147
                                                            cases e147
                                                            replace p147 := eq_true p147
                                                            replace q147 := eq_true q147
                                                            have p148 : 0 ≤ (x106_3 : Int) := of_decide_eq_true (by first | (with_reducible assumption) | assumption)
                                                            have q148 : x106_3 < (l0.length : Int) := of_decide_eq_true (by first | (with_reducible assumption) | assumption)
                                                            obtain ⟨ad148, A148_0, c148_0, e148, hx148_0, hl148_0, hi148_0⟩ := at_L1 HR0.out x106_3 p148 q148
                                                            obtain rfl : ad144 = ad148 := (by injection e148)
                                                            first | (replace hx148_0 := (HB.out.cell (World.block_lt_of_cell? w _ hx148_0)).trans hx148_0) | skip
                                                            have HR148_0 := Aside0.mk hi148_0
                                                            have HC148_0 := Aside0.mk hl148_0
                                                            clear hi148_0 hl148_0
                                                            replace p148 := eq_true p148
                                                            replace q148 := eq_true q148
                                                            have p149 : 0 ≤ (x125_4 : Int) := of_decide_eq_true (by first | (with_reducible assumption) | assumption)
                                                            have q149 : x125_4 < ((rd_L1 l0 x106_3).length : Int) := of_decide_eq_true (by first | (with_reducible assumption) | assumption)
                                                            obtain ⟨ad149, e149, hx149_0⟩ := Kd.at_string HR148_0.out x125_4 p149 q149
                                                            cases e149
                                                            first | (replace hx149_0 := (HB.out.cell (World.block_lt_of_cell? w _ hx149_0)).trans hx149_0) | skip
                                                            replace p149 := eq_true p149
                                                            replace q149 := eq_true q149
                                                            go_wp2
                                                            repeat (go_quiet (fail); try go_wp2)
                                                            go_roundg k4
                                                            case measure => have := HJ4.out; have := HK2.out; have := HK3.out; have := HK4.out; omega
                                                            case rel => exact ⟨(wrap64 (x125_4 + 1)), (by first | rfl | (simp; done) | (simp [*]; done)), H', ⟨by have := HJ4.out; have := HK2.out; have := HK3.out; have := HK4.out; omega⟩, ⟨by (with_reducible repeat (first | apply Kd.N_alloc | apply Kd.N_drewN | apply Kd.N_drew)); exact HO_9.out⟩, ⟨by (with_reducible repeat (first | apply Kd.R_alloc | apply Kd.R_drewN | apply Kd.R_drew)); exact HO_10.out⟩, ⟨by repeat (first | (with_reducible exact HR143_0.out) | (with_reducible refine Kd.C_alloc ?_ _) | (with_reducible refine Kd.C_drewN ?_ _) | (with_reducible refine Kd.C_drew ?_) | exact HR143_0.out)⟩, ⟨by repeat (first | (with_reducible exact HR145_0.out) | (with_reducible refine Kd.C_alloc ?_ _) | (with_reducible refine Kd.C_drewN ?_ _) | (with_reducible refine Kd.C_drew ?_) | exact HR145_0.out)⟩, ⟨by repeat (first | (with_reducible first | exact HB.out | apply below_alloc | apply pw_below_drewN | apply below_drew1) | exact HB.out)⟩⟩
                                                          · rw [if_neg c66] at H
                                                            have c66b0 : ((rdOf ByteArray.empty t138 (rd (rd_L4 t137 x106_3) x125_4)).toList == (rdOf ByteArray.empty (rd_L1 l0 x106_3) x125_4).toList) = false := beq_eq_false_iff_ne.mpr c66
                                                            have c66b1 : ((rdOf ByteArray.empty t138 (rd (rd_L4 t137 x106_3) x125_4)).toList != (rdOf ByteArray.empty (rd_L1 l0 x106_3) x125_4).toList) = true := bne_iff_ne.mpr c66
                                                            obtain rfl := Option.some.inj H
                                                            have p146 : 0 ≤ (x125_4 : Int) := of_decide_eq_true (by first | (with_reducible assumption) | assumption)
                                                            have q146 : x125_4 < ((rd_L4 t137 x106_3).length : Int) := of_decide_eq_true (by first | (with_reducible assumption) | assumption)
                                                            obtain ⟨ad146, e146, hx146_0⟩ := Kd.at_int HR145_0.out x125_4 p146 q146
                                                            cases e146
                                                            first | (replace hx146_0 := (HB.out.cell (World.block_lt_of_cell? w _ hx146_0)).trans hx146_0) | skip
                                                            replace p146 := eq_true p146
                                                            replace q146 := eq_true q146
                                                            obtain ⟨Ao68, co68, eo68⟩ := Kd.R_slice HO_10.out
                                                            subst eo68
                                                            have p147 : 0 ≤ ((rd (rd_L4 t137 x106_3) x125_4) : Int) := of_decide_eq_true (by first | (with_reducible assumption) | assumption)
                                                            have q147 : (rd (rd_L4 t137 x106_3) x125_4) < (t138.length : Int) := of_decide_eq_true (by first | (with_reducible assumption) | assumption)
                                                            obtain ⟨ad147, e147, hx147_0⟩ := Kd.at_string (Kd.R_reads' HO_10.out).2.2 (rd (rd_L4 t137 x106_3) x125_4) p147 q147
                                                            cases e147
                                                            replace p147 := eq_true p147
                                                            replace q147 := eq_true q147
                                                            have p148 : 0 ≤ (x106_3 : Int) := of_decide_eq_true (by first | (with_reducible assumption) | assumption)
                                                            have q148 : x106_3 < (l0.length : Int) := of_decide_eq_true (by first | (with_reducible assumption) | assumption)
                                                            obtain ⟨ad148, A148_0, c148_0, e148, hx148_0, hl148_0, hi148_0⟩ := at_L1 HR0.out x106_3 p148 q148
                                                            obtain rfl : ad144 = ad148 := (by injection e148)
                                                            first | (replace hx148_0 := (HB.out.cell (World.block_lt_of_cell? w _ hx148_0)).trans hx148_0) | skip
                                                            have HR148_0 := Aside0.mk hi148_0
                                                            have HC148_0 := Aside0.mk hl148_0
                                                            clear hi148_0 hl148_0
                                                            replace p148 := eq_true p148
                                                            replace q148 := eq_true q148
                                                            have p149 : 0 ≤ (x125_4 : Int) := of_decide_eq_true (by first | (with_reducible assumption) | assumption)
                                                            have q149 : x125_4 < ((rd_L1 l0 x106_3).length : Int) := of_decide_eq_true (by first | (with_reducible assumption) | assumption)
                                                            obtain ⟨ad149, e149, hx149_0⟩ := Kd.at_string HR148_0.out x125_4 p149 q149
                                                            cases e149
                                                            first | (replace hx149_0 := (HB.out.cell (World.block_lt_of_cell? w _ hx149_0)).trans hx149_0) | skip
                                                            replace p149 := eq_true p149
                                                            replace q149 := eq_true q149
                                                            go_wp2
                                                            repeat (go_quiet (fail); try go_wp2)
                                                            go_ret
                                                            exact ⟨by first | rfl | (simp [errW_none, errW_some] <;> rfl) | (simp [*, errW_none, errW_some] <;> rfl), by repeat (first | (with_reducible first | exact HB.out | apply below_alloc | apply pw_below_drewN | apply below_drew1) | exact HB.out)⟩
                                                        · rw [if_neg c65] at H
                                                          exact absurd H (by simp)
                                                      · rw [if_neg c64] at H
                                                        exact absurd H (by simp)
                                                    · rw [if_neg c63] at H
                                                      exact absurd H (by simp)
                                                  · rw [if_neg c62] at H
                                                    exact absurd H (by simp)
                                                · rw [if_neg c61] at H
                                                  exact absurd H (by simp)
                                          · rw [if_neg c57] at H
                                            exact absurd H (by simp)
                                        · rw [if_neg c56] at H
                                          exact absurd H (by simp)
                                      · rw [if_neg c55] at H
                                        have c55b0 : decide (x125_4 < ((rd_L4 t137 x106_3).length : Int)) = false := decide_eq_false c55
                                        clear c55
                                        have H' := Aside0.mk H
                                        clear H
                                        go_wp2
                                        repeat (go_quiet (fail); try go_wp2)
                                        go_roundg k4
                                        case measure => have := HJ4.out; have := HK2.out; have := HK3.out; have := HK4.out; omega
                                        case rel => exact ⟨(wrap64 (x106_3 + 1)), (by first | rfl | (simp; done) | (simp [*]; done)), H', ⟨by have := HJ4.out; have := HK2.out; have := HK3.out; have := HK4.out; omega⟩, ⟨by (with_reducible repeat (first | apply Kd.N_alloc | apply Kd.N_drewN | apply Kd.N_drew)); exact HO_9.out⟩, ⟨by (with_reducible repeat (first | apply Kd.R_alloc | apply Kd.R_drewN | apply Kd.R_drew)); exact HO_10.out⟩, ⟨by repeat (first | (with_reducible first | exact HB.out | apply below_alloc | apply pw_below_drewN | apply below_drew1) | exact HB.out)⟩⟩
                                · rw [if_neg c54] at H
                                  have c54b0 : (((rd_L4 t137 x106_3).length : Int) == ((rd_L1 l0 x106_3).length : Int)) = false := beq_eq_false_iff_ne.mpr c54
                                  have c54b1 : (((rd_L4 t137 x106_3).length : Int) != ((rd_L1 l0 x106_3).length : Int)) = true := bne_iff_ne.mpr c54
                                  have c54b2 : ((rd_L4 t137 x106_3).length == (rd_L1 l0 x106_3).length) = false := by first | simpa using c54 | (simp at c54 ⊢; omega)
                                  obtain rfl := Option.some.inj H
                                  have p143 : 0 ≤ (x106_3 : Int) := of_decide_eq_true (by first | (with_reducible assumption) | assumption)
                                  have q143 : x106_3 < (t137.length : Int) := of_decide_eq_true (by first | (with_reducible assumption) | assumption)
                                  obtain ⟨ad143, A143_0, c143_0, e143, hx143_0, hl143_0, hi143_0⟩ := at_L4 (Kd.N_reads' HO_9.out).2.2 x106_3 p143 q143
                                  cases e143
                                  obtain ⟨ce143, hce143, hMe143, hcc143⟩ := Kd.N_get HO_9.out [] x106_3 p143 (by first | exact q143 | exact of_decide_eq_true (by first | (with_reducible assumption) | assumption) | (have e_ := (Kd.N_reads' HO_9.out).1; omega))
                                  obtain ⟨ua143_0, uc143_0, rfl, ul143_0, ge143_0⟩ := Kd.FK_slice_open hMe143
                                  have hv143_0 := hcc143 0 _ rfl
                                  rw [Nat.add_zero, show ((Kd.slice 3 (Kd.int .i64))).sz = 1 from rfl, Nat.mul_one] at hv143_0
                                  replace hv143_0 := Option.some.inj (hv143_0.symm.trans hx143_0)
                                  injection hv143_0 with hva_ hvn_ hvc_
                                  rw [hva_] at ge143_0
                                  rw [hvc_] at ul143_0
                                  have HL143_0 := Aside0.mk (show Kd.V (Kd.int .i64) 3 _ w.heap.size _ _ (rd_L4 t137 x106_3) from Kd.V_mk ul143_0 ge143_0)
                                  clear hva_ hvn_ hvc_ ge143_0 ul143_0
                                  clear hcc143 hce143
                                  have HR143_0 := Aside0.mk hi143_0
                                  have HC143_0 := Aside0.mk hl143_0
                                  clear hi143_0 hl143_0
                                  replace p143 := eq_true p143
                                  replace q143 := eq_true q143
                                  have p144 : 0 ≤ (x106_3 : Int) := of_decide_eq_true (by first | (with_reducible assumption) | assumption)
                                  have q144 : x106_3 < (l0.length : Int) := of_decide_eq_true (by first | (with_reducible assumption) | assumption)
                                  obtain ⟨ad144, A144_0, c144_0, e144, hx144_0, hl144_0, hi144_0⟩ := at_L1 HR0.out x106_3 p144 q144
                                  cases e144
                                  first | (replace hx144_0 := (HB.out.cell (World.block_lt_of_cell? w _ hx144_0)).trans hx144_0) | skip
                                  have HR144_0 := Aside0.mk hi144_0
                                  have HC144_0 := Aside0.mk hl144_0
                                  clear hi144_0 hl144_0
                                  replace p144 := eq_true p144
                                  replace q144 := eq_true q144
                                  go_wp2
                                  repeat (go_quiet (fail); try go_wp2)
                                  go_ret
                                  exact ⟨by first | rfl | (simp [errW_none, errW_some] <;> rfl) | (simp [*, errW_none, errW_some] <;> rfl), by repeat (first | (with_reducible first | exact HB.out | apply below_alloc | apply pw_below_drewN | apply below_drew1) | exact HB.out)⟩
                              · rw [if_neg c53] at H
                                exact absurd H (by simp)
                            · rw [if_neg c52] at H
                              exact absurd H (by simp)
                          · rw [if_neg c51] at H
                            exact absurd H (by simp)
                        · rw [if_neg c50] at H
                          have c50b0 : decide (x106_3 < (l0.length : Int)) = false := decide_eq_false c50
                          clear c50
                          have H' := Aside0.mk H
                          clear H
                          obtain ⟨Ao69, co69, eo69⟩ := Kd.R_slice HO_10.out
                          subst eo69
                          go_wp2
                          repeat (go_quiet (fail); try go_wp2)
                          go_loopg [156] k3 (fun kq v156 w' => ∃ (x156_4 : Int), v156 = .int .i64 x156_4 ∧ Aside0 (laws_FnPOSIDs.l4 kq t138 (t138.length : Int) x156_4 = some r) ∧ Aside0 (kq ≤ k3) ∧ Aside0 (Kd.R Kd.string 9 w' w.heap.size (fun _ => True) (.slice Ao69 t138.length co69) t138) ∧ Aside0 (Below w.heap.size w w'))
                          case atStart => exact ⟨(0), (by first | rfl | (simp; done) | (simp [*]; done)), H', ⟨Nat.le_refl _⟩, ⟨by (with_reducible repeat (first | apply Kd.R_alloc | apply Kd.R_drewN | apply Kd.R_drew)); exact HO_10.out⟩, ⟨by repeat (first | (with_reducible first | exact HB.out | apply below_alloc | apply pw_below_drewN | apply below_drew1) | exact HB.out)⟩⟩
                          case round =>
                            clear H'
                            try clear c1
                            try clear p1
                            try clear q1
                            try clear hx1
                            try clear qi1
                            try clear c2
                            try clear p2
                            try clear c3
                            try clear c4
                            try clear c5
                            try clear c6
                            try clear p6
                            try clear c12
                            try clear p12
                            try clear q12
                            try clear hx12
                            try clear qi12
                            try clear c13
                            try clear c13b0
                            try clear c13b1
                            try clear p13
                            try clear q13
                            try clear hx13
                            try clear qi13
                            try clear c14
                            try clear c14b0
                            try clear c14b1
                            try clear p14
                            try clear q14
                            try clear hx14
                            try clear c15
                            try clear c15b0
                            try clear c15b1
                            try clear c16
                            try clear c16b0
                            try clear c16b1
                            try clear c17
                            try clear c17b0
                            try clear c17b1
                            try clear c18
                            try clear c18b0
                            try clear c21
                            try clear c21b0
                            try clear c24
                            try clear c24b0
                            try clear c25
                            try clear c25b0
                            try clear c32
                            try clear c33
                            try clear c33b0
                            try clear c33b1
                            try clear c34
                            try clear c34b0
                            try clear c35
                            try clear c35b0
                            try clear c36
                            try clear c36b0
                            try clear c38
                            try clear c38b0
                            try clear c38b1
                            try clear c41
                            try clear c42
                            try clear c42b0
                            try clear c43
                            try clear c43b0
                            try clear c44
                            try clear c44b0
                            try clear c45
                            try clear c45b0
                            try clear c45b1
                            try clear c47
                            try clear c47b0
                            try clear c47b1
                            try clear c47b2
                            try clear c50
                            try clear c50b0
                            try clear c51
                            try clear c51b0
                            try clear c52
                            try clear c52b0
                            try clear c53
                            try clear c53b0
                            try clear c54
                            try clear c54b0
                            try clear c54b1
                            try clear c54b2
                            try clear c55
                            try clear c55b0
                            try clear c56
                            try clear c56b0
                            try clear c57
                            try clear c57b0
                            try clear c58
                            try clear c58b0
                            try clear c59
                            try clear c59b0
                            try clear c61
                            try clear c61b0
                            try clear c62
                            try clear c62b0
                            try clear c63
                            try clear c63b0
                            try clear c64
                            try clear c64b0
                            try clear p64
                            try clear c65
                            try clear c65b0
                            try clear c66
                            try clear c66b0
                            try clear c66b1
                            try clear hx126_0
                            try clear hx127_0
                            try clear hx128_0
                            try clear hx129_0
                            try clear hx130_0
                            try clear hx131_0
                            try clear hx132_0
                            try clear hx133_0
                            try clear hx134_0
                            try clear hx136_0
                            try clear hx143_0
                            try clear hx144_0
                            try clear hx145_0
                            try clear hx146_0
                            try clear hx147_0
                            try clear hx148_0
                            try clear hx149_0
                            try clear p1
                            try clear p12
                            try clear p126
                            try clear p127
                            try clear p128
                            try clear p129
                            try clear p13
                            try clear p130
                            try clear p131
                            try clear p132
                            try clear p133
                            try clear p134
                            try clear p136
                            try clear p14
                            try clear p143
                            try clear p144
                            try clear p145
                            try clear p146
                            try clear p147
                            try clear p148
                            try clear p149
                            try clear p2
                            try clear p6
                            try clear q1
                            try clear q12
                            try clear q126
                            try clear q127
                            try clear q128
                            try clear q129
                            try clear q13
                            try clear q130
                            try clear q131
                            try clear q132
                            try clear q133
                            try clear q134
                            try clear q136
                            try clear q14
                            try clear q143
                            try clear q144
                            try clear q145
                            try clear q146
                            try clear q147
                            try clear q148
                            try clear q149
                            obtain ⟨x156_4, rfl, HA, HK4, HO_10, HB⟩ := hrel
                            cases gk with
                            | zero => exact absurd HA.out (by simp [laws_FnPOSIDs.l4])
                            | succ k4 =>
                              have H := HA.out
                              clear HA
                              simp only [laws_FnPOSIDs.l4] at H
                              by_cases c70 : x156_4 < (t138.length : Int)
                              · rw [if_pos c70] at H
                                have c70b0 : decide (x156_4 < (t138.length : Int)) = true := decide_eq_true c70
                                clear c70
                                have H' := Aside0.mk H
                                clear H
                                go_wp2
                                repeat (go_quiet (fail); try go_wp2)
                                go_loopg [160] k4 (fun kq v160 w' => ∃ (x160_5 : Int), v160 = .int .i64 x160_5 ∧ Aside0 (laws_FnPOSIDs.l5 kq t138 x156_4 (t138.length : Int) x156_4 x156_4 x160_5 = some r) ∧ Aside0 (kq ≤ k4) ∧ Aside0 (Kd.R Kd.string 9 w' w.heap.size (fun _ => True) (.slice Ao69 t138.length co69) t138) ∧ Aside0 (Below w.heap.size w w'))
                                case atStart => exact ⟨(0), (by first | rfl | (simp; done) | (simp [*]; done)), H', ⟨Nat.le_refl _⟩, ⟨by (with_reducible repeat (first | apply Kd.R_alloc | apply Kd.R_drewN | apply Kd.R_drew)); exact HO_10.out⟩, ⟨by repeat (first | (with_reducible first | exact HB.out | apply below_alloc | apply pw_below_drewN | apply below_drew1) | exact HB.out)⟩⟩
                                case round =>
                                  clear H'
                                  try clear c1
                                  try clear p1
                                  try clear q1
                                  try clear hx1
                                  try clear qi1
                                  try clear c2
                                  try clear p2
                                  try clear c3
                                  try clear c4
                                  try clear c5
                                  try clear c6
                                  try clear p6
                                  try clear c7
                                  try clear c12
                                  try clear p12
                                  try clear q12
                                  try clear hx12
                                  try clear qi12
                                  try clear c13
                                  try clear c13b0
                                  try clear c13b1
                                  try clear p13
                                  try clear q13
                                  try clear hx13
                                  try clear qi13
                                  try clear c14
                                  try clear c14b0
                                  try clear c14b1
                                  try clear p14
                                  try clear q14
                                  try clear hx14
                                  try clear c15
                                  try clear c15b0
                                  try clear c15b1
                                  try clear c16
                                  try clear c16b0
                                  try clear c16b1
                                  try clear c17
                                  try clear c17b0
                                  try clear c17b1
                                  try clear c18
                                  try clear c18b0
                                  try clear c21
                                  try clear c21b0
                                  try clear c24
                                  try clear c24b0
                                  try clear c25
                                  try clear c25b0
                                  try clear c32
                                  try clear c33
                                  try clear c33b0
                                  try clear c33b1
                                  try clear c34
                                  try clear c34b0
                                  try clear c35
                                  try clear c35b0
                                  try clear c36
                                  try clear c36b0
                                  try clear c38
                                  try clear c38b0
                                  try clear c38b1
                                  try clear c41
                                  try clear c42
                                  try clear c42b0
                                  try clear c43
                                  try clear c43b0
                                  try clear c44
                                  try clear c44b0
                                  try clear c45
                                  try clear c45b0
                                  try clear c45b1
                                  try clear c47
                                  try clear c47b0
                                  try clear c47b1
                                  try clear c47b2
                                  try clear c50
                                  try clear c50b0
                                  try clear c51
                                  try clear c51b0
                                  try clear c52
                                  try clear c52b0
                                  try clear c53
                                  try clear c53b0
                                  try clear c54
                                  try clear c54b0
                                  try clear c54b1
                                  try clear c54b2
                                  try clear c55
                                  try clear c55b0
                                  try clear c56
                                  try clear c56b0
                                  try clear c57
                                  try clear c57b0
                                  try clear c58
                                  try clear c58b0
                                  try clear c59
                                  try clear c59b0
                                  try clear c61
                                  try clear c61b0
                                  try clear c62
                                  try clear c62b0
                                  try clear c63
                                  try clear c63b0
                                  try clear c64
                                  try clear c64b0
                                  try clear p64
                                  try clear c65
                                  try clear c65b0
                                  try clear c66
                                  try clear c66b0
                                  try clear c66b1
                                  try clear c70
                                  try clear c70b0
                                  try clear hx126_0
                                  try clear hx127_0
                                  try clear hx128_0
                                  try clear hx129_0
                                  try clear hx130_0
                                  try clear hx131_0
                                  try clear hx132_0
                                  try clear hx133_0
                                  try clear hx134_0
                                  try clear hx136_0
                                  try clear hx143_0
                                  try clear hx144_0
                                  try clear hx145_0
                                  try clear hx146_0
                                  try clear hx147_0
                                  try clear hx148_0
                                  try clear hx149_0
                                  try clear p1
                                  try clear p12
                                  try clear p126
                                  try clear p127
                                  try clear p128
                                  try clear p129
                                  try clear p13
                                  try clear p130
                                  try clear p131
                                  try clear p132
                                  try clear p133
                                  try clear p134
                                  try clear p136
                                  try clear p14
                                  try clear p143
                                  try clear p144
                                  try clear p145
                                  try clear p146
                                  try clear p147
                                  try clear p148
                                  try clear p149
                                  try clear p2
                                  try clear p6
                                  try clear p64
                                  try clear q1
                                  try clear q12
                                  try clear q126
                                  try clear q127
                                  try clear q128
                                  try clear q129
                                  try clear q13
                                  try clear q130
                                  try clear q131
                                  try clear q132
                                  try clear q133
                                  try clear q134
                                  try clear q136
                                  try clear q14
                                  try clear q143
                                  try clear q144
                                  try clear q145
                                  try clear q146
                                  try clear q147
                                  try clear q148
                                  try clear q149
                                  obtain ⟨x160_5, rfl, HA, HK5, HO_10, HB⟩ := hrel
                                  cases gk with
                                  | zero => exact absurd HA.out (by simp [laws_FnPOSIDs.l5])
                                  | succ k5 =>
                                    have H := HA.out
                                    clear HA
                                    simp only [laws_FnPOSIDs.l5] at H
                                    by_cases c71 : x160_5 < x156_4
                                    · rw [if_pos c71] at H
                                      have c71b0 : decide (x160_5 < x156_4) = true := decide_eq_true c71
                                      clear c71
                                      by_cases c72 : 0 ≤ x156_4
                                      · rw [if_pos c72] at H
                                        have c72b0 : decide (0 ≤ x156_4) = true := decide_eq_true c72
                                        clear c72
                                        by_cases c73 : x156_4 < (t138.length : Int)
                                        · rw [if_pos c73] at H
                                          have c73b0 : decide (x156_4 < (t138.length : Int)) = true := decide_eq_true c73
                                          clear c73
                                          by_cases c74 : 0 ≤ x160_5
                                          · rw [if_pos c74] at H
                                            have c74b0 : decide (0 ≤ x160_5) = true := decide_eq_true c74
                                            clear c74
                                            by_cases c75 : x160_5 < (t138.length : Int)
                                            · rw [if_pos c75] at H
                                              have c75b0 : decide (x160_5 < (t138.length : Int)) = true := decide_eq_true c75
                                              clear c75
                                              by_cases c76 : (rdOf ByteArray.empty t138 x156_4).toList = (rdOf ByteArray.empty t138 x160_5).toList
                                              · rw [if_pos c76] at H
                                                have c76b0 : ((rdOf ByteArray.empty t138 x156_4).toList == (rdOf ByteArray.empty t138 x160_5).toList) = true := beq_iff_eq.mpr c76
                                                have c76b1 : ((rdOf ByteArray.empty t138 x156_4).toList != (rdOf ByteArray.empty t138 x160_5).toList) = false := bne_eq_false_iff_eq.mpr c76
                                                clear c76
                                                obtain rfl := Option.some.inj H
                                                have p150 : 0 ≤ (x156_4 : Int) := of_decide_eq_true (by first | (with_reducible assumption) | assumption)
                                                have q150 : x156_4 < (t138.length : Int) := of_decide_eq_true (by first | (with_reducible assumption) | assumption)
                                                obtain ⟨ad150, e150, hx150_0⟩ := Kd.at_string (Kd.R_reads' HO_10.out).2.2 x156_4 p150 q150
                                                cases e150
                                                replace p150 := eq_true p150
                                                replace q150 := eq_true q150
                                                have p151 : 0 ≤ (x160_5 : Int) := of_decide_eq_true (by first | (with_reducible assumption) | assumption)
                                                have q151 : x160_5 < (t138.length : Int) := of_decide_eq_true (by first | (with_reducible assumption) | assumption)
                                                obtain ⟨ad151, e151, hx151_0⟩ := Kd.at_string (Kd.R_reads' HO_10.out).2.2 x160_5 p151 q151
                                                obtain rfl : ad150 = ad151 := (by injection e151)
                                                replace p151 := eq_true p151
                                                replace q151 := eq_true q151
                                                go_wp2
                                                repeat (go_quiet (fail); try go_wp2)
                                                go_ret
                                                exact ⟨by first | rfl | (simp [errW_none, errW_some] <;> rfl) | (simp [*, errW_none, errW_some] <;> rfl), by repeat (first | (with_reducible first | exact HB.out | apply below_alloc | apply pw_below_drewN | apply below_drew1) | exact HB.out)⟩
                                              · rw [if_neg c76] at H
                                                have c76b0 : ((rdOf ByteArray.empty t138 x156_4).toList == (rdOf ByteArray.empty t138 x160_5).toList) = false := beq_eq_false_iff_ne.mpr c76
                                                have c76b1 : ((rdOf ByteArray.empty t138 x156_4).toList != (rdOf ByteArray.empty t138 x160_5).toList) = true := bne_iff_ne.mpr c76
                                                have H' := Aside0.mk H
                                                clear H
                                                have p150 : 0 ≤ (x156_4 : Int) := of_decide_eq_true (by first | (with_reducible assumption) | assumption)
                                                have q150 : x156_4 < (t138.length : Int) := of_decide_eq_true (by first | (with_reducible assumption) | assumption)
                                                obtain ⟨ad150, e150, hx150_0⟩ := Kd.at_string (Kd.R_reads' HO_10.out).2.2 x156_4 p150 q150
                                                cases e150
                                                replace p150 := eq_true p150
                                                replace q150 := eq_true q150
                                                have p151 : 0 ≤ (x160_5 : Int) := of_decide_eq_true (by first | (with_reducible assumption) | assumption)
                                                have q151 : x160_5 < (t138.length : Int) := of_decide_eq_true (by first | (with_reducible assumption) | assumption)
                                                obtain ⟨ad151, e151, hx151_0⟩ := Kd.at_string (Kd.R_reads' HO_10.out).2.2 x160_5 p151 q151
                                                obtain rfl : ad150 = ad151 := (by injection e151)
                                                replace p151 := eq_true p151
                                                replace q151 := eq_true q151
                                                go_wp2
                                                repeat (go_quiet (fail); try go_wp2)
                                                go_roundg k5
                                                case measure => have := HJ4.out; have := HK2.out; have := HK3.out; have := HK4.out; have := HK5.out; omega
                                                case rel => exact ⟨(wrap64 (x160_5 + 1)), (by first | rfl | (simp; done) | (simp [*]; done)), H', ⟨by have := HJ4.out; have := HK2.out; have := HK3.out; have := HK4.out; have := HK5.out; omega⟩, ⟨by (with_reducible repeat (first | apply Kd.R_alloc | apply Kd.R_drewN | apply Kd.R_drew)); exact HO_10.out⟩, ⟨by repeat (first | (with_reducible first | exact HB.out | apply below_alloc | apply pw_below_drewN | apply below_drew1) | exact HB.out)⟩⟩
                                            · rw [if_neg c75] at H
                                              exact absurd H (by simp)
                                          · rw [if_neg c74] at H
                                            exact absurd H (by simp)
                                        · rw [if_neg c73] at H
                                          exact absurd H (by simp)
                                      · rw [if_neg c72] at H
                                        exact absurd H (by simp)
                                    · rw [if_neg c71] at H
                                      have c71b0 : decide (x160_5 < x156_4) = false := decide_eq_false c71
                                      clear c71
                                      have H' := Aside0.mk H
                                      clear H
                                      go_wp2
                                      repeat (go_quiet (fail); try go_wp2)
                                      go_roundg k5
                                      case measure => have := HJ4.out; have := HK2.out; have := HK3.out; have := HK4.out; have := HK5.out; omega
                                      case rel => exact ⟨(wrap64 (x156_4 + 1)), (by first | rfl | (simp; done) | (simp [*]; done)), H', ⟨by have := HJ4.out; have := HK2.out; have := HK3.out; have := HK4.out; have := HK5.out; omega⟩, ⟨by (with_reducible repeat (first | apply Kd.R_alloc | apply Kd.R_drewN | apply Kd.R_drew)); exact HO_10.out⟩, ⟨by repeat (first | (with_reducible first | exact HB.out | apply below_alloc | apply pw_below_drewN | apply below_drew1) | exact HB.out)⟩⟩
                              · rw [if_neg c70] at H
                                have c70b0 : decide (x156_4 < (t138.length : Int)) = false := decide_eq_false c70
                                clear c70
                                obtain rfl := Option.some.inj H
                                go_wp2
                                repeat (go_quiet (fail); try go_wp2)
                                go_ret
                                exact ⟨by first | rfl | (simp [errW_none, errW_some] <;> rfl) | (simp [*, errW_none, errW_some] <;> rfl), by repeat (first | (with_reducible first | exact HB.out | apply below_alloc | apply pw_below_drewN | apply below_drew1) | exact HB.out)⟩
                  · rw [if_neg c47] at H
                    have c47b0 : ((t137.length : Int) == (l0.length : Int)) = false := beq_eq_false_iff_ne.mpr c47
                    have c47b1 : ((t137.length : Int) != (l0.length : Int)) = true := bne_iff_ne.mpr c47
                    have c47b2 : (t137.length == l0.length) = false := by first | simpa using c47 | (simp at c47 ⊢; omega)
                    obtain rfl := Option.some.inj H
                    go_wp2_with (first | (go_at_call 10; (with_reducible refine (impl_POSIDs.calls _ _ l0 t137 t138 _ ?side1 ?side2 A46.out).mono ?_); (case side1 => repeat (first | exact (Kd.C_below HR0.out HB.out) | (with_reducible refine Kd.C_alloc ?_ _) | (with_reducible refine Kd.C_drewN ?_ _) | (with_reducible refine Kd.C_drew ?_))); (case side2 => exact HC0.out); rintro e w77 ⟨v139, v141, rfl, ho0, ho1, hb⟩; have n0_ := Aside0.mk (Kd.N_lower (Kd.N_mono (ok' := fun k_ => some k_ ≠ (v141 : Value).ownBlock) (Kd.S_N (Kd.S_bound (Kd.S_apart' ho0 (Kd.R_typed ho1) (by decide)))) (fun k_ hk_ => hk_.1.2)) (below_size (by repeat (first | (with_reducible first | exact HB.out | apply below_alloc | apply pw_below_drewN | apply below_drew1) | exact HB.out)))); have n1_ := Aside0.mk (Kd.R_lower ho1 (below_size (by repeat (first | (with_reducible first | exact HB.out | apply below_alloc | apply pw_below_drewN | apply below_drew1) | exact HB.out)))); have n2_ := Aside0.mk (below_step (by repeat (first | (with_reducible first | exact HB.out | apply below_alloc | apply pw_below_drewN | apply below_drew1) | exact HB.out)) hb); clear HB; have HO140 := n0_; have HO142 := n1_; have HB := n2_; clear n0_ n1_ n2_; (try clear hb); (try clear hb2); (try clear hk); (try clear hi); (try clear ho0); (try clear ho1); obtain ⟨Ao78, co78, eo78⟩ := Kd.N_slice HO140.out; subst eo78))
                    repeat (go_quiet (first | (go_at_call 10; (with_reducible refine (impl_POSIDs.calls _ _ l0 t137 t138 _ ?side1 ?side2 A46.out).mono ?_); (case side1 => repeat (first | exact (Kd.C_below HR0.out HB.out) | (with_reducible refine Kd.C_alloc ?_ _) | (with_reducible refine Kd.C_drewN ?_ _) | (with_reducible refine Kd.C_drew ?_))); (case side2 => exact HC0.out); rintro e w77 ⟨v139, v141, rfl, ho0, ho1, hb⟩; have n0_ := Aside0.mk (Kd.N_lower (Kd.N_mono (ok' := fun k_ => some k_ ≠ (v141 : Value).ownBlock) (Kd.S_N (Kd.S_bound (Kd.S_apart' ho0 (Kd.R_typed ho1) (by decide)))) (fun k_ hk_ => hk_.1.2)) (below_size (by repeat (first | (with_reducible first | exact HB.out | apply below_alloc | apply pw_below_drewN | apply below_drew1) | exact HB.out)))); have n1_ := Aside0.mk (Kd.R_lower ho1 (below_size (by repeat (first | (with_reducible first | exact HB.out | apply below_alloc | apply pw_below_drewN | apply below_drew1) | exact HB.out)))); have n2_ := Aside0.mk (below_step (by repeat (first | (with_reducible first | exact HB.out | apply below_alloc | apply pw_below_drewN | apply below_drew1) | exact HB.out)) hb); clear HB; have HO140 := n0_; have HO142 := n1_; have HB := n2_; clear n0_ n1_ n2_; (try clear hb); (try clear hb2); (try clear hk); (try clear hi); (try clear ho0); (try clear ho1); obtain ⟨Ao78, co78, eo78⟩ := Kd.N_slice HO140.out; subst eo78)); try go_wp2_with (first | (go_at_call 10; (with_reducible refine (impl_POSIDs.calls _ _ l0 t137 t138 _ ?side1 ?side2 A46.out).mono ?_); (case side1 => repeat (first | exact (Kd.C_below HR0.out HB.out) | (with_reducible refine Kd.C_alloc ?_ _) | (with_reducible refine Kd.C_drewN ?_ _) | (with_reducible refine Kd.C_drew ?_))); (case side2 => exact HC0.out); rintro e w77 ⟨v139, v141, rfl, ho0, ho1, hb⟩; have n0_ := Aside0.mk (Kd.N_lower (Kd.N_mono (ok' := fun k_ => some k_ ≠ (v141 : Value).ownBlock) (Kd.S_N (Kd.S_bound (Kd.S_apart' ho0 (Kd.R_typed ho1) (by decide)))) (fun k_ hk_ => hk_.1.2)) (below_size (by repeat (first | (with_reducible first | exact HB.out | apply below_alloc | apply pw_below_drewN | apply below_drew1) | exact HB.out)))); have n1_ := Aside0.mk (Kd.R_lower ho1 (below_size (by repeat (first | (with_reducible first | exact HB.out | apply below_alloc | apply pw_below_drewN | apply below_drew1) | exact HB.out)))); have n2_ := Aside0.mk (below_step (by repeat (first | (with_reducible first | exact HB.out | apply below_alloc | apply pw_below_drewN | apply below_drew1) | exact HB.out)) hb); clear HB; have HO140 := n0_; have HO142 := n1_; have HB := n2_; clear n0_ n1_ n2_; (try clear hb); (try clear hb2); (try clear hk); (try clear hi); (try clear ho0); (try clear ho1); obtain ⟨Ao78, co78, eo78⟩ := Kd.N_slice HO140.out; subst eo78)))
                    go_ret
                    exact ⟨by first | rfl | (simp [errW_none, errW_some] <;> rfl) | (simp [*, errW_none, errW_some] <;> rfl), by repeat (first | (with_reducible first | exact HB.out | apply below_alloc | apply pw_below_drewN | apply below_drew1) | exact HB.out)⟩
  · replace c3 := Bool.eq_false_iff.mpr c3
    subst c3
    have H1 : (some true) = some r := by rw [if_neg (show ¬ (false = true) by decide)] at H; exact H
    clear H
    have H := H1
    clear H1
    obtain rfl := Option.some.inj H
    go_enter Try.func3, Try.ntmps3
    go_wp2_with (first | (go_at_call 9; (with_reducible refine (laws_zzFits9.calls k _ _ l0 false _ ?side1 ?side2 A2.out).mono ?_); (case side1 => repeat (first | exact HR0.out | (with_reducible refine Kd.C_alloc ?_ _) | (with_reducible refine Kd.C_drewN ?_ _) | (with_reducible refine Kd.C_drew ?_))); (case side2 => exact HC0.out); rintro e w' ⟨rfl, ⟨nd, rfl⟩⟩; (try first | exact ⟨rfl, _, World.drewN_drewN _ _ _⟩ | exact ⟨rfl, _, Eq.trans (World.drewN_drewN _ _ _) (congrArg (World.drewN _) (Nat.add_assoc _ _ _))⟩)))
    repeat (go_quiet (first | (go_at_call 9; (with_reducible refine (laws_zzFits9.calls k _ _ l0 false _ ?side1 ?side2 A2.out).mono ?_); (case side1 => repeat (first | exact HR0.out | (with_reducible refine Kd.C_alloc ?_ _) | (with_reducible refine Kd.C_drewN ?_ _) | (with_reducible refine Kd.C_drew ?_))); (case side2 => exact HC0.out); rintro e w' ⟨rfl, ⟨nd, rfl⟩⟩; (try first | exact ⟨rfl, _, World.drewN_drewN _ _ _⟩ | exact ⟨rfl, _, Eq.trans (World.drewN_drewN _ _ _) (congrArg (World.drewN _) (Nat.add_assoc _ _ _))⟩))); try go_wp2_with (first | (go_at_call 9; (with_reducible refine (laws_zzFits9.calls k _ _ l0 false _ ?side1 ?side2 A2.out).mono ?_); (case side1 => repeat (first | exact HR0.out | (with_reducible refine Kd.C_alloc ?_ _) | (with_reducible refine Kd.C_drewN ?_ _) | (with_reducible refine Kd.C_drew ?_))); (case side2 => exact HC0.out); rintro e w' ⟨rfl, ⟨nd, rfl⟩⟩; (try first | exact ⟨rfl, _, World.drewN_drewN _ _ _⟩ | exact ⟨rfl, _, Eq.trans (World.drewN_drewN _ _ _) (congrArg (World.drewN _) (Nat.add_assoc _ _ _))⟩))))
    go_ret
    exact ⟨by first | rfl | (simp [errW_none, errW_some] <;> rfl) | (simp [*, errW_none, errW_some] <;> rfl), by repeat (first | (with_reducible first | exact HB.out | apply below_alloc | apply pw_below_drewN | apply below_drew1) | exact HB.out)⟩

end Go.Proofs.Ytlhljldlbcgnoaa.P
