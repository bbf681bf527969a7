-- PRINTED by print.py (a twelfth state) out of the translation. Not trusted: Lean checks it.
import Derived.Test.YthecfligfhpccaaP0
import Derived.Test.YthecfligfhpccaaP6
import Derived.Test.YthecfligfhpccaaP8
import Derived.Test.YthecfligfhpccaaP10
import Derived.Test.YthecfligfhpccaaECtA
import Derived.Test.YthecfligfhpccaaECtB
namespace Go.Proofs.Ythecfligfhpccaa.P
open Go.RowKit Go.Proofs.YthecfligfhpccaaW.PrintWords Go.Proofs.YthecfligfhpccaaW.PrintLast Go.Proofs.YthecfligfhpccaaW.PrintMore
attribute [local go_sem] max2_int min2_int max_two min_two max_three min_three max_four min_four   -- for this text's walks alone
set_option linter.unusedVariables false
set_option linter.unusedSimpArgs false

/-! ### laws_FnContentsBack: function 3 -/
mutual
def laws_FnContentsBack.j0 : Nat → List (List ByteArray) → Bool → Option (Bool)
  | 0, _, _ => none
  | k + 1, x0, x32 => if x32 = true then (some false) else (if (x0.length : Int) < 2 then (laws_FnContentsBack.j1 k x0 true) else (laws_FnContentsBack.j1 k x0 (decide ((x0.length : Int) > 10))))
def laws_FnContentsBack.j1 : Nat → List (List ByteArray) → Bool → Option (Bool)
  | 0, _, _ => none
  | k + 1, x0, x40 => if x40 = true then (some true) else (laws_FnContentsBack.l0 k x0 x0 (x0.length : Int) 0)
def laws_FnContentsBack.l0 : Nat → List (List ByteArray) → List (List ByteArray) → Int → Int → Option (Bool)
  | 0, _, _, _, _ => none
  | k + 1, x0, x41, x42, x43 => if x43 < x42 then (if 0 ≤ x43 then (if x43 < (x41.length : Int) then (if ((rd_L1 x41 x43).length : Int) = 0 then (laws_FnContentsBack.j3 k x0 (rd_L1 x41 x43) x41 x42 x43 true) else (if ((rd_L1 x41 x43).length : Int) > 6 then (laws_FnContentsBack.j3 k x0 (rd_L1 x41 x43) x41 x42 x43 true) else ((laws_clean.f k 40 (rd_L1 x41 x43)).bind fun t147 => (laws_FnContentsBack.j3 k x0 (rd_L1 x41 x43) x41 x42 x43 (!t147))))) else (none)) else (none)) else ((impl_ContentsText.f x0).bind fun bt150 => ((impl_ContentsOf.f k bt150.1).bind fun t152 => (if bt150.2 = (bt150.1.size : Int) then (laws_FnContentsBack.j6 k x0 t152 ((t152.length : Int) != (x0.length : Int))) else (laws_FnContentsBack.j6 k x0 t152 true))))
def laws_FnContentsBack.j3 : Nat → List (List ByteArray) → List ByteArray → List (List ByteArray) → Int → Int → Bool → Option (Bool)
  | 0, _, _, _, _, _, _ => none
  | k + 1, x0, x6, x41, x42, x43, x59 => if x59 = true then (some true) else (laws_FnContentsBack.l1 k x0 x6 x41 x42 x43 x6 (x6.length : Int) 0)
def laws_FnContentsBack.l1 : Nat → List (List ByteArray) → List ByteArray → List (List ByteArray) → Int → Int → List ByteArray → Int → Int → Option (Bool)
  | 0, _, _, _, _, _, _, _, _ => none
  | k + 1, x0, x6, x41, x42, x43, x60, x61, x62 => if x62 < x61 then (if 0 ≤ x62 then (if x62 < (x60.length : Int) then (laws_FnContentsBack.l2 k x0 x6 (rdOf ByteArray.empty x60 x62) x41 x42 x43 x60 x61 x62 ((rdOf ByteArray.empty x60 x62).size : Int) 0) else (none)) else (none)) else (if (x6.length : Int) = 1 then (if 0 < (x6.length : Int) then (if (rdOf ByteArray.empty x6 0).toList = ([] : List UInt8) then (some true) else (laws_FnContentsBack.l0 k x0 x41 x42 (wrap64 (x43 + 1)))) else (none)) else (laws_FnContentsBack.l0 k x0 x41 x42 (wrap64 (x43 + 1))))
def laws_FnContentsBack.l2 : Nat → List (List ByteArray) → List ByteArray → ByteArray → List (List ByteArray) → Int → Int → List ByteArray → Int → Int → Int → Int → Option (Bool)
  | 0, _, _, _, _, _, _, _, _, _, _, _ => none
  | k + 1, x0, x6, x8, x41, x42, x43, x60, x61, x62, x67, x68 => if x68 < x67 then (if 0 ≤ x68 then (if x68 < (x8.size : Int) then (if (bt x8 x68) = 10 then (some true) else (if (bt x8 x68) = 7 then (some true) else (laws_FnContentsBack.l2 k x0 x6 x8 x41 x42 x43 x60 x61 x62 x67 (wrap64 (x68 + 1))))) else (none)) else (none)) else (laws_FnContentsBack.l1 k x0 x6 x41 x42 x43 x60 x61 (wrap64 (x62 + 1)))
def laws_FnContentsBack.j6 : Nat → List (List ByteArray) → List (List ByteArray) → Bool → Option (Bool)
  | 0, _, _, _ => none
  | k + 1, x0, x12, x110 => if x110 = true then (some false) else (laws_FnContentsBack.l3 k x0 x12 (x0.length : Int) 0)
def laws_FnContentsBack.l3 : Nat → List (List ByteArray) → List (List ByteArray) → Int → Int → Option (Bool)
  | 0, _, _, _, _ => none
  | k + 1, x0, x12, x112, x113 => if x113 < x112 then (if 0 ≤ x113 then (if x113 < (x12.length : Int) then (if x113 < (x0.length : Int) then ((laws_sameTexts.f k (rd_L1 x12 x113) (rd_L1 x0 x113)).bind fun t157 => (if t157 = true then (laws_FnContentsBack.l3 k x0 x12 x112 (wrap64 (x113 + 1))) else (some false))) else (none)) else (none)) else (none)) else (some true)
end
def laws_FnContentsBack.f (k : Nat) (l0 : List (List ByteArray)) : Option (Bool) := (laws_zzFits9.f k l0).bind fun t134 => (if t134 = true then ((impl_ContentsText.f (([(([(⟨#[97]⟩ : ByteArray), (⟨#[98]⟩ : ByteArray)] : List ByteArray)), (([(⟨#[99]⟩ : ByteArray)] : List ByteArray))] : List (List ByteArray)))).bind fun bt144 => (if (bt144.1.size : Int) < 5 then (laws_FnContentsBack.j0 k l0 true) else (laws_FnContentsBack.j0 k l0 (bt144.2 != (bt144.1.size : Int))))) else (some true))
theorem laws_FnContentsBack.mono_l : ∀ k, (∀ y0 y1, LeO (laws_FnContentsBack.j0 k y0 y1) (laws_FnContentsBack.j0 (k + 1) y0 y1)) ∧ (∀ y0 y1, LeO (laws_FnContentsBack.j1 k y0 y1) (laws_FnContentsBack.j1 (k + 1) y0 y1)) ∧ (∀ y0 y1 y2 y3, LeO (laws_FnContentsBack.l0 k y0 y1 y2 y3) (laws_FnContentsBack.l0 (k + 1) y0 y1 y2 y3)) ∧ (∀ y0 y1 y2 y3 y4 y5, LeO (laws_FnContentsBack.j3 k y0 y1 y2 y3 y4 y5) (laws_FnContentsBack.j3 (k + 1) y0 y1 y2 y3 y4 y5)) ∧ (∀ y0 y1 y2 y3 y4 y5 y6 y7, LeO (laws_FnContentsBack.l1 k y0 y1 y2 y3 y4 y5 y6 y7) (laws_FnContentsBack.l1 (k + 1) y0 y1 y2 y3 y4 y5 y6 y7)) ∧ (∀ y0 y1 y2 y3 y4 y5 y6 y7 y8 y9 y10, LeO (laws_FnContentsBack.l2 k y0 y1 y2 y3 y4 y5 y6 y7 y8 y9 y10) (laws_FnContentsBack.l2 (k + 1) y0 y1 y2 y3 y4 y5 y6 y7 y8 y9 y10)) ∧ (∀ y0 y1 y2, LeO (laws_FnContentsBack.j6 k y0 y1 y2) (laws_FnContentsBack.j6 (k + 1) y0 y1 y2)) ∧ (∀ y0 y1 y2 y3, LeO (laws_FnContentsBack.l3 k y0 y1 y2 y3) (laws_FnContentsBack.l3 (k + 1) y0 y1 y2 y3))
  | 0 => ⟨fun _ _ r h => by simp [laws_FnContentsBack.j0] at h, fun _ _ r h => by simp [laws_FnContentsBack.j1] at h, fun _ _ _ _ r h => by simp [laws_FnContentsBack.l0] at h, fun _ _ _ _ _ _ r h => by simp [laws_FnContentsBack.j3] at h, fun _ _ _ _ _ _ _ _ r h => by simp [laws_FnContentsBack.l1] at h, fun _ _ _ _ _ _ _ _ _ _ _ r h => by simp [laws_FnContentsBack.l2] at h, fun _ _ _ r h => by simp [laws_FnContentsBack.j6] at h, fun _ _ _ _ r h => by simp [laws_FnContentsBack.l3] at h⟩
  | k + 1 => by
    obtain ⟨ih0, ih1, ih2, ih3, ih4, ih5, ih6, ih7⟩ := laws_FnContentsBack.mono_l k
    refine ⟨?_, ?_, ?_, ?_, ?_, ?_, ?_, ?_⟩
    · intro y0 y1
      unfold laws_FnContentsBack.j0
      repeat' first
      | (with_reducible exact ih0 _ _)
      | (with_reducible exact ih1 _ _)
      | (with_reducible exact ih2 _ _ _ _)
      | (with_reducible exact ih3 _ _ _ _ _ _)
      | (with_reducible exact ih4 _ _ _ _ _ _ _ _)
      | (with_reducible exact ih5 _ _ _ _ _ _ _ _ _ _ _)
      | (with_reducible exact ih6 _ _ _)
      | (with_reducible exact ih7 _ _ _ _)
      | (with_reducible exact impl_ContentsOf.mono _ _)
      | (with_reducible exact laws_clean.mono _ _ _)
      | (with_reducible exact laws_sameTexts.mono _ _ _)
      | (with_reducible exact laws_zzFits9.mono _ _)
      | (with_reducible exact LeO.refl _)
      | (with_reducible exact LeO.none _)
      | (with_reducible refine LeO.ite ?_ ?_)
      | (with_reducible refine LeO.bind ?_ (fun _ => ?_))
      | exact ih0 _ _
      | exact ih1 _ _
      | exact ih2 _ _ _ _
      | exact ih3 _ _ _ _ _ _
      | exact ih4 _ _ _ _ _ _ _ _
      | exact ih5 _ _ _ _ _ _ _ _ _ _ _
      | exact ih6 _ _ _
      | exact ih7 _ _ _ _
      | exact impl_ContentsOf.mono _ _
      | exact laws_clean.mono _ _ _
      | exact laws_sameTexts.mono _ _ _
      | exact laws_zzFits9.mono _ _
      | exact LeO.none _
      | refine LeO.ite ?_ ?_
      | refine LeO.bind ?_ (fun _ => ?_)
    · intro y0 y1
      unfold laws_FnContentsBack.j1
      repeat' first
      | (with_reducible exact ih0 _ _)
      | (with_reducible exact ih1 _ _)
      | (with_reducible exact ih2 _ _ _ _)
      | (with_reducible exact ih3 _ _ _ _ _ _)
      | (with_reducible exact ih4 _ _ _ _ _ _ _ _)
      | (with_reducible exact ih5 _ _ _ _ _ _ _ _ _ _ _)
      | (with_reducible exact ih6 _ _ _)
      | (with_reducible exact ih7 _ _ _ _)
      | (with_reducible exact impl_ContentsOf.mono _ _)
      | (with_reducible exact laws_clean.mono _ _ _)
      | (with_reducible exact laws_sameTexts.mono _ _ _)
      | (with_reducible exact laws_zzFits9.mono _ _)
      | (with_reducible exact LeO.refl _)
      | (with_reducible exact LeO.none _)
      | (with_reducible refine LeO.ite ?_ ?_)
      | (with_reducible refine LeO.bind ?_ (fun _ => ?_))
      | exact ih0 _ _
      | exact ih1 _ _
      | exact ih2 _ _ _ _
      | exact ih3 _ _ _ _ _ _
      | exact ih4 _ _ _ _ _ _ _ _
      | exact ih5 _ _ _ _ _ _ _ _ _ _ _
      | exact ih6 _ _ _
      | exact ih7 _ _ _ _
      | exact impl_ContentsOf.mono _ _
      | exact laws_clean.mono _ _ _
      | exact laws_sameTexts.mono _ _ _
      | exact laws_zzFits9.mono _ _
      | exact LeO.none _
      | refine LeO.ite ?_ ?_
      | refine LeO.bind ?_ (fun _ => ?_)
    · intro y0 y1 y2 y3
      unfold laws_FnContentsBack.l0
      repeat' first
      | (with_reducible exact ih0 _ _)
      | (with_reducible exact ih1 _ _)
      | (with_reducible exact ih2 _ _ _ _)
      | (with_reducible exact ih3 _ _ _ _ _ _)
      | (with_reducible exact ih4 _ _ _ _ _ _ _ _)
      | (with_reducible exact ih5 _ _ _ _ _ _ _ _ _ _ _)
      | (with_reducible exact ih6 _ _ _)
      | (with_reducible exact ih7 _ _ _ _)
      | (with_reducible exact impl_ContentsOf.mono _ _)
      | (with_reducible exact laws_clean.mono _ _ _)
      | (with_reducible exact laws_sameTexts.mono _ _ _)
      | (with_reducible exact laws_zzFits9.mono _ _)
      | (with_reducible exact LeO.refl _)
      | (with_reducible exact LeO.none _)
      | (with_reducible refine LeO.ite ?_ ?_)
      | (with_reducible refine LeO.bind ?_ (fun _ => ?_))
      | exact ih0 _ _
      | exact ih1 _ _
      | exact ih2 _ _ _ _
      | exact ih3 _ _ _ _ _ _
      | exact ih4 _ _ _ _ _ _ _ _
      | exact ih5 _ _ _ _ _ _ _ _ _ _ _
      | exact ih6 _ _ _
      | exact ih7 _ _ _ _
      | exact impl_ContentsOf.mono _ _
      | exact laws_clean.mono _ _ _
      | exact laws_sameTexts.mono _ _ _
      | exact laws_zzFits9.mono _ _
      | exact LeO.none _
      | refine LeO.ite ?_ ?_
      | refine LeO.bind ?_ (fun _ => ?_)
    · intro y0 y1 y2 y3 y4 y5
      unfold laws_FnContentsBack.j3
      repeat' first
      | (with_reducible exact ih0 _ _)
      | (with_reducible exact ih1 _ _)
      | (with_reducible exact ih2 _ _ _ _)
      | (with_reducible exact ih3 _ _ _ _ _ _)
      | (with_reducible exact ih4 _ _ _ _ _ _ _ _)
      | (with_reducible exact ih5 _ _ _ _ _ _ _ _ _ _ _)
      | (with_reducible exact ih6 _ _ _)
      | (with_reducible exact ih7 _ _ _ _)
      | (with_reducible exact impl_ContentsOf.mono _ _)
      | (with_reducible exact laws_clean.mono _ _ _)
      | (with_reducible exact laws_sameTexts.mono _ _ _)
      | (with_reducible exact laws_zzFits9.mono _ _)
      | (with_reducible exact LeO.refl _)
      | (with_reducible exact LeO.none _)
      | (with_reducible refine LeO.ite ?_ ?_)
      | (with_reducible refine LeO.bind ?_ (fun _ => ?_))
      | exact ih0 _ _
      | exact ih1 _ _
      | exact ih2 _ _ _ _
      | exact ih3 _ _ _ _ _ _
      | exact ih4 _ _ _ _ _ _ _ _
      | exact ih5 _ _ _ _ _ _ _ _ _ _ _
      | exact ih6 _ _ _
      | exact ih7 _ _ _ _
      | exact impl_ContentsOf.mono _ _
      | exact laws_clean.mono _ _ _
      | exact laws_sameTexts.mono _ _ _
      | exact laws_zzFits9.mono _ _
      | exact LeO.none _
      | refine LeO.ite ?_ ?_
      | refine LeO.bind ?_ (fun _ => ?_)
    · intro y0 y1 y2 y3 y4 y5 y6 y7
      unfold laws_FnContentsBack.l1
      repeat' first
      | (with_reducible exact ih0 _ _)
      | (with_reducible exact ih1 _ _)
      | (with_reducible exact ih2 _ _ _ _)
      | (with_reducible exact ih3 _ _ _ _ _ _)
      | (with_reducible exact ih4 _ _ _ _ _ _ _ _)
      | (with_reducible exact ih5 _ _ _ _ _ _ _ _ _ _ _)
      | (with_reducible exact ih6 _ _ _)
      | (with_reducible exact ih7 _ _ _ _)
      | (with_reducible exact impl_ContentsOf.mono _ _)
      | (with_reducible exact laws_clean.mono _ _ _)
      | (with_reducible exact laws_sameTexts.mono _ _ _)
      | (with_reducible exact laws_zzFits9.mono _ _)
      | (with_reducible exact LeO.refl _)
      | (with_reducible exact LeO.none _)
      | (with_reducible refine LeO.ite ?_ ?_)
      | (with_reducible refine LeO.bind ?_ (fun _ => ?_))
      | exact ih0 _ _
      | exact ih1 _ _
      | exact ih2 _ _ _ _
      | exact ih3 _ _ _ _ _ _
      | exact ih4 _ _ _ _ _ _ _ _
      | exact ih5 _ _ _ _ _ _ _ _ _ _ _
      | exact ih6 _ _ _
      | exact ih7 _ _ _ _
      | exact impl_ContentsOf.mono _ _
      | exact laws_clean.mono _ _ _
      | exact laws_sameTexts.mono _ _ _
      | exact laws_zzFits9.mono _ _
      | exact LeO.none _
      | refine LeO.ite ?_ ?_
      | refine LeO.bind ?_ (fun _ => ?_)
    · intro y0 y1 y2 y3 y4 y5 y6 y7 y8 y9 y10
      unfold laws_FnContentsBack.l2
      repeat' first
      | (with_reducible exact ih0 _ _)
      | (with_reducible exact ih1 _ _)
      | (with_reducible exact ih2 _ _ _ _)
      | (with_reducible exact ih3 _ _ _ _ _ _)
      | (with_reducible exact ih4 _ _ _ _ _ _ _ _)
      | (with_reducible exact ih5 _ _ _ _ _ _ _ _ _ _ _)
      | (with_reducible exact ih6 _ _ _)
      | (with_reducible exact ih7 _ _ _ _)
      | (with_reducible exact impl_ContentsOf.mono _ _)
      | (with_reducible exact laws_clean.mono _ _ _)
      | (with_reducible exact laws_sameTexts.mono _ _ _)
      | (with_reducible exact laws_zzFits9.mono _ _)
      | (with_reducible exact LeO.refl _)
      | (with_reducible exact LeO.none _)
      | (with_reducible refine LeO.ite ?_ ?_)
      | (with_reducible refine LeO.bind ?_ (fun _ => ?_))
      | exact ih0 _ _
      | exact ih1 _ _
      | exact ih2 _ _ _ _
      | exact ih3 _ _ _ _ _ _
      | exact ih4 _ _ _ _ _ _ _ _
      | exact ih5 _ _ _ _ _ _ _ _ _ _ _
      | exact ih6 _ _ _
      | exact ih7 _ _ _ _
      | exact impl_ContentsOf.mono _ _
      | exact laws_clean.mono _ _ _
      | exact laws_sameTexts.mono _ _ _
      | exact laws_zzFits9.mono _ _
      | exact LeO.none _
      | refine LeO.ite ?_ ?_
      | refine LeO.bind ?_ (fun _ => ?_)
    · intro y0 y1 y2
      unfold laws_FnContentsBack.j6
      repeat' first
      | (with_reducible exact ih0 _ _)
      | (with_reducible exact ih1 _ _)
      | (with_reducible exact ih2 _ _ _ _)
      | (with_reducible exact ih3 _ _ _ _ _ _)
      | (with_reducible exact ih4 _ _ _ _ _ _ _ _)
      | (with_reducible exact ih5 _ _ _ _ _ _ _ _ _ _ _)
      | (with_reducible exact ih6 _ _ _)
      | (with_reducible exact ih7 _ _ _ _)
      | (with_reducible exact impl_ContentsOf.mono _ _)
      | (with_reducible exact laws_clean.mono _ _ _)
      | (with_reducible exact laws_sameTexts.mono _ _ _)
      | (with_reducible exact laws_zzFits9.mono _ _)
      | (with_reducible exact LeO.refl _)
      | (with_reducible exact LeO.none _)
      | (with_reducible refine LeO.ite ?_ ?_)
      | (with_reducible refine LeO.bind ?_ (fun _ => ?_))
      | exact ih0 _ _
      | exact ih1 _ _
      | exact ih2 _ _ _ _
      | exact ih3 _ _ _ _ _ _
      | exact ih4 _ _ _ _ _ _ _ _
      | exact ih5 _ _ _ _ _ _ _ _ _ _ _
      | exact ih6 _ _ _
      | exact ih7 _ _ _ _
      | exact impl_ContentsOf.mono _ _
      | exact laws_clean.mono _ _ _
      | exact laws_sameTexts.mono _ _ _
      | exact laws_zzFits9.mono _ _
      | exact LeO.none _
      | refine LeO.ite ?_ ?_
      | refine LeO.bind ?_ (fun _ => ?_)
    · intro y0 y1 y2 y3
      unfold laws_FnContentsBack.l3
      repeat' first
      | (with_reducible exact ih0 _ _)
      | (with_reducible exact ih1 _ _)
      | (with_reducible exact ih2 _ _ _ _)
      | (with_reducible exact ih3 _ _ _ _ _ _)
      | (with_reducible exact ih4 _ _ _ _ _ _ _ _)
      | (with_reducible exact ih5 _ _ _ _ _ _ _ _ _ _ _)
      | (with_reducible exact ih6 _ _ _)
      | (with_reducible exact ih7 _ _ _ _)
      | (with_reducible exact impl_ContentsOf.mono _ _)
      | (with_reducible exact laws_clean.mono _ _ _)
      | (with_reducible exact laws_sameTexts.mono _ _ _)
      | (with_reducible exact laws_zzFits9.mono _ _)
      | (with_reducible exact LeO.refl _)
      | (with_reducible exact LeO.none _)
      | (with_reducible refine LeO.ite ?_ ?_)
      | (with_reducible refine LeO.bind ?_ (fun _ => ?_))
      | exact ih0 _ _
      | exact ih1 _ _
      | exact ih2 _ _ _ _
      | exact ih3 _ _ _ _ _ _
      | exact ih4 _ _ _ _ _ _ _ _
      | exact ih5 _ _ _ _ _ _ _ _ _ _ _
      | exact ih6 _ _ _
      | exact ih7 _ _ _ _
      | exact impl_ContentsOf.mono _ _
      | exact laws_clean.mono _ _ _
      | exact laws_sameTexts.mono _ _ _
      | exact laws_zzFits9.mono _ _
      | exact LeO.none _
      | refine LeO.ite ?_ ?_
      | refine LeO.bind ?_ (fun _ => ?_)
theorem laws_FnContentsBack.mono : ∀ a0 k, LeO (laws_FnContentsBack.f k a0) (laws_FnContentsBack.f (k + 1) a0) := by
  intro a0 k
  obtain ⟨ih0, ih1, ih2, ih3, ih4, ih5, ih6, ih7⟩ := laws_FnContentsBack.mono_l k
  unfold laws_FnContentsBack.f
  repeat' first
      | (with_reducible exact ih0 _ _)
      | (with_reducible exact ih1 _ _)
      | (with_reducible exact ih2 _ _ _ _)
      | (with_reducible exact ih3 _ _ _ _ _ _)
      | (with_reducible exact ih4 _ _ _ _ _ _ _ _)
      | (with_reducible exact ih5 _ _ _ _ _ _ _ _ _ _ _)
      | (with_reducible exact ih6 _ _ _)
      | (with_reducible exact ih7 _ _ _ _)
      | (with_reducible exact impl_ContentsOf.mono _ _)
      | (with_reducible exact laws_clean.mono _ _ _)
      | (with_reducible exact laws_sameTexts.mono _ _ _)
      | (with_reducible exact laws_zzFits9.mono _ _)
      | (with_reducible exact LeO.refl _)
      | (with_reducible exact LeO.none _)
      | (with_reducible refine LeO.ite ?_ ?_)
      | (with_reducible refine LeO.bind ?_ (fun _ => ?_))
      | exact ih0 _ _
      | exact ih1 _ _
      | exact ih2 _ _ _ _
      | exact ih3 _ _ _ _ _ _
      | exact ih4 _ _ _ _ _ _ _ _
      | exact ih5 _ _ _ _ _ _ _ _ _ _ _
      | exact ih6 _ _ _
      | exact ih7 _ _ _ _
      | exact impl_ContentsOf.mono _ _
      | exact laws_clean.mono _ _ _
      | exact laws_sameTexts.mono _ _ _
      | exact laws_zzFits9.mono _ _
      | exact LeO.none _
      | refine LeO.ite ?_ ?_
      | refine LeO.bind ?_ (fun _ => ?_)
set_option maxHeartbeats 8000000 in
set_option maxRecDepth 100000 in
theorem laws_FnContentsBack.calls (k : Nat) (A0 : Option Addr) (c0 : Nat) (l0 : List (List ByteArray)) (r : Bool) (w : World) (hr0 : Kd.C (Kd.slice 9 Kd.string) w A0 l0.length l0) (hc0 : l0.length ≤ c0) (h : laws_FnContentsBack.f k l0 = some r) :
    Calls Try.prog 3 #[.slice A0 l0.length c0] w fun e w' => e = .returned (.bool r) ∧ Below w.heap.size w w' := by
  have HR0 := Aside0.mk hr0
  have HC0 := Aside0.mk hc0
  clear hr0 hc0
  have HB := Aside0.mk (Below.refl w.heap.size w)
  have H : ((laws_zzFits9.f k l0).bind fun t134 => (if t134 = true then ((impl_ContentsText.f (([(([(⟨#[97]⟩ : ByteArray), (⟨#[98]⟩ : ByteArray)] : List ByteArray)), (([(⟨#[99]⟩ : ByteArray)] : List ByteArray))] : List (List ByteArray)))).bind fun bt144 => (if (bt144.1.size : Int) < 5 then (laws_FnContentsBack.j0 k l0 true) else (laws_FnContentsBack.j0 k l0 (bt144.2 != (bt144.1.size : Int))))) else (some true))) = some r := h
  clear h
  replace H := Option.bind_eq_some_iff.mp H
  obtain ⟨t134, A20, H⟩ := H
  replace H : (if t134 = true then ((impl_ContentsText.f (([(([(⟨#[97]⟩ : ByteArray), (⟨#[98]⟩ : ByteArray)] : List ByteArray)), (([(⟨#[99]⟩ : ByteArray)] : List ByteArray))] : List (List ByteArray)))).bind fun bt144 => (if (bt144.1.size : Int) < 5 then (laws_FnContentsBack.j0 k l0 true) else (laws_FnContentsBack.j0 k l0 (bt144.2 != (bt144.1.size : Int))))) else (some true)) = some r := H
  have A2 := Aside0.mk A20
  clear A20
  by_cases c3 : t134 = true
  · subst c3
    have H1 : ((impl_ContentsText.f (([(([(⟨#[97]⟩ : ByteArray), (⟨#[98]⟩ : ByteArray)] : List ByteArray)), (([(⟨#[99]⟩ : ByteArray)] : List ByteArray))] : List (List ByteArray)))).bind fun bt144 => (if (bt144.1.size : Int) < 5 then (laws_FnContentsBack.j0 k l0 true) else (laws_FnContentsBack.j0 k l0 (bt144.2 != (bt144.1.size : Int))))) = some r := by rw [if_pos rfl] at H; exact H
    clear H
    have H := H1
    clear H1
    obtain ⟨y135, hy135⟩ : ∃ y_ : List ByteArray, y_ = (([(⟨#[97]⟩ : ByteArray), (⟨#[98]⟩ : ByteArray)] : List ByteArray)) := ⟨_, rfl⟩
    replace H : ((impl_ContentsText.f (([y135, (([(⟨#[99]⟩ : ByteArray)] : List ByteArray))] : List (List ByteArray)))).bind fun bt144 => (if (bt144.1.size : Int) < 5 then (laws_FnContentsBack.j0 k l0 true) else (laws_FnContentsBack.j0 k l0 (bt144.2 != (bt144.1.size : Int))))) = some r := by first | (rw [hy135]; with_reducible exact H) | (have H2_ := (Option.bind_some _ _).symm.trans H; rw [hy135]; with_reducible exact H2_) | (have H2_ := (Option.bind_some _ _).symm.trans H; with_reducible exact H2_) | with_reducible exact H | (rw [hy135]; exact H) | exact H
    have Ny135 := Aside0.mk hy135
    clear hy135
    obtain ⟨y138, hy138⟩ : ∃ y_ : List ByteArray, y_ = (([(⟨#[99]⟩ : ByteArray)] : List ByteArray)) := ⟨_, rfl⟩
    replace H : ((impl_ContentsText.f (([y135, y138] : List (List ByteArray)))).bind fun bt144 => (if (bt144.1.size : Int) < 5 then (laws_FnContentsBack.j0 k l0 true) else (laws_FnContentsBack.j0 k l0 (bt144.2 != (bt144.1.size : Int))))) = some r := by first | (rw [hy138]; with_reducible exact H) | (have H2_ := (Option.bind_some _ _).symm.trans H; rw [hy138]; with_reducible exact H2_) | (have H2_ := (Option.bind_some _ _).symm.trans H; with_reducible exact H2_) | with_reducible exact H | (rw [hy138]; exact H) | exact H
    have Ny138 := Aside0.mk hy138
    clear hy138
    obtain ⟨y141, hy141⟩ : ∃ y_ : List (List ByteArray), y_ = (([y135, y138] : List (List ByteArray))) := ⟨_, rfl⟩
    replace H : ((impl_ContentsText.f y141).bind fun bt144 => (if (bt144.1.size : Int) < 5 then (laws_FnContentsBack.j0 k l0 true) else (laws_FnContentsBack.j0 k l0 (bt144.2 != (bt144.1.size : Int))))) = some r := by first | (rw [hy141]; with_reducible exact H) | (have H2_ := (Option.bind_some _ _).symm.trans H; rw [hy141]; with_reducible exact H2_) | (have H2_ := (Option.bind_some _ _).symm.trans H; with_reducible exact H2_) | with_reducible exact H | (rw [hy141]; exact H) | exact H
    have Ny141 := Aside0.mk hy141
    clear hy141
    replace H := Option.bind_eq_some_iff.mp H
    obtain ⟨⟨t144, t145⟩, A40, H⟩ := H
    replace H : (if (t144.size : Int) < 5 then (laws_FnContentsBack.j0 k l0 true) else (laws_FnContentsBack.j0 k l0 (t145 != (t144.size : Int)))) = some r := H
    have A4 := Aside0.mk A40
    clear A40
    have HC5 := Aside0.mk H
    clear H
    go_enter Try.func3, Try.ntmps3
    go_upto_region 4 with (first | (go_at_call 6; (with_reducible refine (laws_zzFits9.calls k _ _ l0 true _ ?side1 ?side2 A2.out).mono ?_); (case side1 => repeat (first | exact HR0.out | (with_reducible refine Kd.C_alloc ?_ _) | (with_reducible refine Kd.C_drewN ?_ _) | (with_reducible refine Kd.C_drew ?_))); (case side2 => exact HC0.out); rintro e w' ⟨rfl, ⟨nd, rfl⟩⟩; (try first | exact ⟨rfl, _, World.drewN_drewN _ _ _⟩ | exact ⟨rfl, _, Eq.trans (World.drewN_drewN _ _ _) (congrArg (World.drewN _) (Nat.add_assoc _ _ _))⟩)) | ((with_reducible refine gate_dst (N := 18) rfl ?_); (try (refine gate_guard (by rfl) ?_; dsimp only)); refine Kd.R_lit Kd.string _ 9 ?hg (N := 18) ?hd (xs := ([(⟨#[97]⟩ : ByteArray), (⟨#[98]⟩ : ByteArray)] : List ByteArray)) (inner := [.string (⟨#[97]⟩ : ByteArray), .string (⟨#[98]⟩ : ByteArray)]) (ok := fun _ => True) (okp := fun _ => True) ?hr ?hp (fun _ hk => hk) trivial (Below.refl _ _) (Nat.le_refl _) (by simp) ?_; (case hd => rfl); (case hg => rfl); (case hr => first | (go_simp; done) | (go_simp; rfl)); (case hp => exact (Reps.one (show Kd.M Kd.string _ _ _ (⟨#[97]⟩ : ByteArray) [.string (⟨#[97]⟩ : ByteArray)] from rfl) (Reps.one (show Kd.M Kd.string _ _ _ (⟨#[98]⟩ : ByteArray) [.string (⟨#[98]⟩ : ByteArray)] from rfl) (Reps.none _ _)))); intro v136 w6 ho7 hb hg_ hnew_; clear hg_ hnew_; (first | rw [← Ny135.out] at ho7 | (simp only [Int.reduceToNat] at ho7; rw [← Ny135.out] at ho7)); have n0_ := Aside0.mk (Kd.R_lower ho7 (below_size (by repeat (first | (with_reducible first | exact HB.out | apply below_alloc | apply pw_below_drewN | apply below_drew1) | exact HB.out)))); have n1_ := Aside0.mk (below_step (by repeat (first | (with_reducible first | exact HB.out | apply below_alloc | apply pw_below_drewN | apply below_drew1) | exact HB.out)) hb); clear HB; have HO137 := n0_; have HB := n1_; clear n0_ n1_; clear hb ho7) | ((with_reducible refine gate_dst (N := 19) rfl ?_); (try (refine gate_guard (by rfl) ?_; dsimp only)); refine Kd.R_lit Kd.string _ 9 ?hg (N := 19) ?hd (xs := ([(⟨#[99]⟩ : ByteArray)] : List ByteArray)) (inner := [.string (⟨#[99]⟩ : ByteArray)]) (ok := fun _ => True) (okp := fun _ => True) ?hr ?hp (fun _ hk => hk) trivial (Below.refl _ _) (Nat.le_refl _) (by simp) ?_; (case hd => rfl); (case hg => rfl); (case hr => first | (go_simp; done) | (go_simp; rfl)); (case hp => exact (Reps.one (show Kd.M Kd.string _ _ _ (⟨#[99]⟩ : ByteArray) [.string (⟨#[99]⟩ : ByteArray)] from rfl) (Reps.none _ _))); intro v139 w8 ho9 hb hg_ hnew_; clear hg_ hnew_; (first | rw [← Ny138.out] at ho9 | (simp only [Int.reduceToNat] at ho9; rw [← Ny138.out] at ho9)); have n0_ := Aside0.mk (Kd.R_elder' (by (with_reducible repeat (first | apply Kd.R_alloc | apply Kd.R_drewN | apply Kd.R_drew)); exact HO137.out) (by first | exact Kd.N_base ho9 | exact Kd.S_base ho9 | exact Kd.R_base ho9) hb); have n1_ := Aside0.mk (Kd.R_lower (Kd.R_new' ho9 (Kd.R_lt (by (with_reducible repeat (first | apply Kd.R_alloc | apply Kd.R_drewN | apply Kd.R_drew)); exact HO137.out))) (below_size (by repeat (first | (with_reducible first | exact HB.out | apply below_alloc | apply pw_below_drewN | apply below_drew1) | exact HB.out)))); have n2_ := Aside0.mk (below_step (by repeat (first | (with_reducible first | exact HB.out | apply below_alloc | apply pw_below_drewN | apply below_drew1) | exact HB.out)) hb); clear HO137; clear HB; have HO137 := n0_; have HO140 := n1_; have HB := n2_; clear n0_ n1_ n2_; clear hb ho9; obtain ⟨Ao10, co10, eo10⟩ := Kd.R_slice HO137.out; subst eo10; obtain ⟨Ao11, co11, eo11⟩ := Kd.R_slice HO140.out; subst eo11) | ((with_reducible refine gate_dst (N := 20) rfl ?_); (try (refine gate_guard (by rfl) ?_; dsimp only)); refine Kd.N_lit (Kd.slice 9 Kd.string) _ 26 ?hg (N' := 20) ?hd (xs := ([y135, y138] : List (List ByteArray))) (inner := [.slice Ao10 y135.length co10, .slice Ao11 y138.length co11]) (ok := (fun _ => True)) (okp := (fun _ => True)) ?hr ?hp (fun _ hk => hk) ((show ∀ k_, w8.heap.size ≤ k_ → (fun _ => True) k_ from fun k_ hk => trivial) _ (Nat.le_refl _)) (Below.refl _ _) (Nat.le_refl _) (by simp) ?_; (case hd => rfl); (case hg => rfl); (case hr => first | (go_simp; done) | (go_simp; rfl)); (case hp => exact (Reps.one (show Kd.FK (Kd.slice 9 Kd.string) _ _ y135 [.slice Ao10 y135.length co10] from (Kd.FK_slice_mk (Kd.R_reads' (Kd.R_mono (ok' := (fun _ => True)) (HO137.out) (fun k_ hk => trivial))).2.1 (Kd.R_F (Kd.R_mono (ok' := (fun _ => True)) (HO137.out) (fun k_ hk => trivial))))) (Reps.one (show Kd.FK (Kd.slice 9 Kd.string) _ _ y138 [.slice Ao11 y138.length co11] from (Kd.FK_slice_mk (Kd.R_reads' (Kd.R_mono (ok' := (fun _ => True)) (HO140.out) (fun k_ hk => trivial))).2.1 (Kd.R_F (Kd.R_mono (ok' := (fun _ => True)) (HO140.out) (fun k_ hk => trivial))))) (Reps.none _ _)))); intro v142 w12 ho13 hb hg_ hnew_; clear hg_ hnew_; (first | rw [← Ny141.out] at ho13 | (simp only [Int.reduceToNat] at ho13; rw [← Ny141.out] at ho13)); have n0_ := Aside0.mk (Kd.N_lower ho13 (below_size (by repeat (first | (with_reducible first | exact HB.out | apply below_alloc | apply pw_below_drewN | apply below_drew1) | exact HB.out)))); have n1_ := Aside0.mk (below_step (by repeat (first | (with_reducible first | exact HB.out | apply below_alloc | apply pw_below_drewN | apply below_drew1) | exact HB.out)) hb); clear HB; clear HO137; clear HO140; have HO143 := n0_; have HB := n1_; clear n0_ n1_; clear hb ho13; obtain ⟨Ao14, co14, eo14⟩ := Kd.N_slice HO143.out; subst eo14) | (go_at_call 7; (with_reducible refine (impl_ContentsText.calls _ _ y141 t144 t145 _ ?side1 ?side2 A4.out).mono ?_); (case side1 => repeat (first | exact (Kd.N_reads' HO143.out).2.2 | (with_reducible refine Kd.C_alloc ?_ _) | (with_reducible refine Kd.C_drewN ?_ _) | (with_reducible refine Kd.C_drew ?_))); (case side2 => exact (Kd.N_reads' HO143.out).2.1); rintro e w15 ⟨rfl, hb⟩; have n0_ := Aside0.mk (Kd.N_below (by (with_reducible repeat (first | apply Kd.N_alloc | apply Kd.N_drewN | apply Kd.N_drew)); exact HO143.out) hb); have n1_ := Aside0.mk (below_step (by repeat (first | (with_reducible first | exact HB.out | apply below_alloc | apply pw_below_drewN | apply below_drew1) | exact HB.out)) hb); clear HO143; clear HB; have HO143 := n0_; have HB := n1_; clear n0_ n1_; (try clear hb); (try clear hb2); (try clear hk); (try clear hi)))
    repeat (go_quiet (first | (go_at_call 6; (with_reducible refine (laws_zzFits9.calls k _ _ l0 true _ ?side1 ?side2 A2.out).mono ?_); (case side1 => repeat (first | exact HR0.out | (with_reducible refine Kd.C_alloc ?_ _) | (with_reducible refine Kd.C_drewN ?_ _) | (with_reducible refine Kd.C_drew ?_))); (case side2 => exact HC0.out); rintro e w' ⟨rfl, ⟨nd, rfl⟩⟩; (try first | exact ⟨rfl, _, World.drewN_drewN _ _ _⟩ | exact ⟨rfl, _, Eq.trans (World.drewN_drewN _ _ _) (congrArg (World.drewN _) (Nat.add_assoc _ _ _))⟩)) | ((with_reducible refine gate_dst (N := 18) rfl ?_); (try (refine gate_guard (by rfl) ?_; dsimp only)); refine Kd.R_lit Kd.string _ 9 ?hg (N := 18) ?hd (xs := ([(⟨#[97]⟩ : ByteArray), (⟨#[98]⟩ : ByteArray)] : List ByteArray)) (inner := [.string (⟨#[97]⟩ : ByteArray), .string (⟨#[98]⟩ : ByteArray)]) (ok := fun _ => True) (okp := fun _ => True) ?hr ?hp (fun _ hk => hk) trivial (Below.refl _ _) (Nat.le_refl _) (by simp) ?_; (case hd => rfl); (case hg => rfl); (case hr => first | (go_simp; done) | (go_simp; rfl)); (case hp => exact (Reps.one (show Kd.M Kd.string _ _ _ (⟨#[97]⟩ : ByteArray) [.string (⟨#[97]⟩ : ByteArray)] from rfl) (Reps.one (show Kd.M Kd.string _ _ _ (⟨#[98]⟩ : ByteArray) [.string (⟨#[98]⟩ : ByteArray)] from rfl) (Reps.none _ _)))); intro v136 w6 ho7 hb hg_ hnew_; clear hg_ hnew_; (first | rw [← Ny135.out] at ho7 | (simp only [Int.reduceToNat] at ho7; rw [← Ny135.out] at ho7)); have n0_ := Aside0.mk (Kd.R_lower ho7 (below_size (by repeat (first | (with_reducible first | exact HB.out | apply below_alloc | apply pw_below_drewN | apply below_drew1) | exact HB.out)))); have n1_ := Aside0.mk (below_step (by repeat (first | (with_reducible first | exact HB.out | apply below_alloc | apply pw_below_drewN | apply below_drew1) | exact HB.out)) hb); clear HB; have HO137 := n0_; have HB := n1_; clear n0_ n1_; clear hb ho7) | ((with_reducible refine gate_dst (N := 19) rfl ?_); (try (refine gate_guard (by rfl) ?_; dsimp only)); refine Kd.R_lit Kd.string _ 9 ?hg (N := 19) ?hd (xs := ([(⟨#[99]⟩ : ByteArray)] : List ByteArray)) (inner := [.string (⟨#[99]⟩ : ByteArray)]) (ok := fun _ => True) (okp := fun _ => True) ?hr ?hp (fun _ hk => hk) trivial (Below.refl _ _) (Nat.le_refl _) (by simp) ?_; (case hd => rfl); (case hg => rfl); (case hr => first | (go_simp; done) | (go_simp; rfl)); (case hp => exact (Reps.one (show Kd.M Kd.string _ _ _ (⟨#[99]⟩ : ByteArray) [.string (⟨#[99]⟩ : ByteArray)] from rfl) (Reps.none _ _))); intro v139 w8 ho9 hb hg_ hnew_; clear hg_ hnew_; (first | rw [← Ny138.out] at ho9 | (simp only [Int.reduceToNat] at ho9; rw [← Ny138.out] at ho9)); have n0_ := Aside0.mk (Kd.R_elder' (by (with_reducible repeat (first | apply Kd.R_alloc | apply Kd.R_drewN | apply Kd.R_drew)); exact HO137.out) (by first | exact Kd.N_base ho9 | exact Kd.S_base ho9 | exact Kd.R_base ho9) hb); have n1_ := Aside0.mk (Kd.R_lower (Kd.R_new' ho9 (Kd.R_lt (by (with_reducible repeat (first | apply Kd.R_alloc | apply Kd.R_drewN | apply Kd.R_drew)); exact HO137.out))) (below_size (by repeat (first | (with_reducible first | exact HB.out | apply below_alloc | apply pw_below_drewN | apply below_drew1) | exact HB.out)))); have n2_ := Aside0.mk (below_step (by repeat (first | (with_reducible first | exact HB.out | apply below_alloc | apply pw_below_drewN | apply below_drew1) | exact HB.out)) hb); clear HO137; clear HB; have HO137 := n0_; have HO140 := n1_; have HB := n2_; clear n0_ n1_ n2_; clear hb ho9; obtain ⟨Ao10, co10, eo10⟩ := Kd.R_slice HO137.out; subst eo10; obtain ⟨Ao11, co11, eo11⟩ := Kd.R_slice HO140.out; subst eo11) | ((with_reducible refine gate_dst (N := 20) rfl ?_); (try (refine gate_guard (by rfl) ?_; dsimp only)); refine Kd.N_lit (Kd.slice 9 Kd.string) _ 26 ?hg (N' := 20) ?hd (xs := ([y135, y138] : List (List ByteArray))) (inner := [.slice Ao10 y135.length co10, .slice Ao11 y138.length co11]) (ok := (fun _ => True)) (okp := (fun _ => True)) ?hr ?hp (fun _ hk => hk) ((show ∀ k_, w8.heap.size ≤ k_ → (fun _ => True) k_ from fun k_ hk => trivial) _ (Nat.le_refl _)) (Below.refl _ _) (Nat.le_refl _) (by simp) ?_; (case hd => rfl); (case hg => rfl); (case hr => first | (go_simp; done) | (go_simp; rfl)); (case hp => exact (Reps.one (show Kd.FK (Kd.slice 9 Kd.string) _ _ y135 [.slice Ao10 y135.length co10] from (Kd.FK_slice_mk (Kd.R_reads' (Kd.R_mono (ok' := (fun _ => True)) (HO137.out) (fun k_ hk => trivial))).2.1 (Kd.R_F (Kd.R_mono (ok' := (fun _ => True)) (HO137.out) (fun k_ hk => trivial))))) (Reps.one (show Kd.FK (Kd.slice 9 Kd.string) _ _ y138 [.slice Ao11 y138.length co11] from (Kd.FK_slice_mk (Kd.R_reads' (Kd.R_mono (ok' := (fun _ => True)) (HO140.out) (fun k_ hk => trivial))).2.1 (Kd.R_F (Kd.R_mono (ok' := (fun _ => True)) (HO140.out) (fun k_ hk => trivial))))) (Reps.none _ _)))); intro v142 w12 ho13 hb hg_ hnew_; clear hg_ hnew_; (first | rw [← Ny141.out] at ho13 | (simp only [Int.reduceToNat] at ho13; rw [← Ny141.out] at ho13)); have n0_ := Aside0.mk (Kd.N_lower ho13 (below_size (by repeat (first | (with_reducible first | exact HB.out | apply below_alloc | apply pw_below_drewN | apply below_drew1) | exact HB.out)))); have n1_ := Aside0.mk (below_step (by repeat (first | (with_reducible first | exact HB.out | apply below_alloc | apply pw_below_drewN | apply below_drew1) | exact HB.out)) hb); clear HB; clear HO137; clear HO140; have HO143 := n0_; have HB := n1_; clear n0_ n1_; clear hb ho13; obtain ⟨Ao14, co14, eo14⟩ := Kd.N_slice HO143.out; subst eo14) | (go_at_call 7; (with_reducible refine (impl_ContentsText.calls _ _ y141 t144 t145 _ ?side1 ?side2 A4.out).mono ?_); (case side1 => repeat (first | exact (Kd.N_reads' HO143.out).2.2 | (with_reducible refine Kd.C_alloc ?_ _) | (with_reducible refine Kd.C_drewN ?_ _) | (with_reducible refine Kd.C_drew ?_))); (case side2 => exact (Kd.N_reads' HO143.out).2.1); rintro e w15 ⟨rfl, hb⟩; have n0_ := Aside0.mk (Kd.N_below (by (with_reducible repeat (first | apply Kd.N_alloc | apply Kd.N_drewN | apply Kd.N_drew)); exact HO143.out) hb); have n1_ := Aside0.mk (below_step (by repeat (first | (with_reducible first | exact HB.out | apply below_alloc | apply pw_below_drewN | apply below_drew1) | exact HB.out)) hb); clear HO143; clear HB; have HO143 := n0_; have HB := n1_; clear n0_ n1_; (try clear hb); (try clear hb2); (try clear hk); (try clear hi))); go_upto_region 4 with (first | (go_at_call 6; (with_reducible refine (laws_zzFits9.calls k _ _ l0 true _ ?side1 ?side2 A2.out).mono ?_); (case side1 => repeat (first | exact HR0.out | (with_reducible refine Kd.C_alloc ?_ _) | (with_reducible refine Kd.C_drewN ?_ _) | (with_reducible refine Kd.C_drew ?_))); (case side2 => exact HC0.out); rintro e w' ⟨rfl, ⟨nd, rfl⟩⟩; (try first | exact ⟨rfl, _, World.drewN_drewN _ _ _⟩ | exact ⟨rfl, _, Eq.trans (World.drewN_drewN _ _ _) (congrArg (World.drewN _) (Nat.add_assoc _ _ _))⟩)) | ((with_reducible refine gate_dst (N := 18) rfl ?_); (try (refine gate_guard (by rfl) ?_; dsimp only)); refine Kd.R_lit Kd.string _ 9 ?hg (N := 18) ?hd (xs := ([(⟨#[97]⟩ : ByteArray), (⟨#[98]⟩ : ByteArray)] : List ByteArray)) (inner := [.string (⟨#[97]⟩ : ByteArray), .string (⟨#[98]⟩ : ByteArray)]) (ok := fun _ => True) (okp := fun _ => True) ?hr ?hp (fun _ hk => hk) trivial (Below.refl _ _) (Nat.le_refl _) (by simp) ?_; (case hd => rfl); (case hg => rfl); (case hr => first | (go_simp; done) | (go_simp; rfl)); (case hp => exact (Reps.one (show Kd.M Kd.string _ _ _ (⟨#[97]⟩ : ByteArray) [.string (⟨#[97]⟩ : ByteArray)] from rfl) (Reps.one (show Kd.M Kd.string _ _ _ (⟨#[98]⟩ : ByteArray) [.string (⟨#[98]⟩ : ByteArray)] from rfl) (Reps.none _ _)))); intro v136 w6 ho7 hb hg_ hnew_; clear hg_ hnew_; (first | rw [← Ny135.out] at ho7 | (simp only [Int.reduceToNat] at ho7; rw [← Ny135.out] at ho7)); have n0_ := Aside0.mk (Kd.R_lower ho7 (below_size (by repeat (first | (with_reducible first | exact HB.out | apply below_alloc | apply pw_below_drewN | apply below_drew1) | exact HB.out)))); have n1_ := Aside0.mk (below_step (by repeat (first | (with_reducible first | exact HB.out | apply below_alloc | apply pw_below_drewN | apply below_drew1) | exact HB.out)) hb); clear HB; have HO137 := n0_; have HB := n1_; clear n0_ n1_; clear hb ho7) | ((with_reducible refine gate_dst (N := 19) rfl ?_); (try (refine gate_guard (by rfl) ?_; dsimp only)); refine Kd.R_lit Kd.string _ 9 ?hg (N := 19) ?hd (xs := ([(⟨#[99]⟩ : ByteArray)] : List ByteArray)) (inner := [.string (⟨#[99]⟩ : ByteArray)]) (ok := fun _ => True) (okp := fun _ => True) ?hr ?hp (fun _ hk => hk) trivial (Below.refl _ _) (Nat.le_refl _) (by simp) ?_; (case hd => rfl); (case hg => rfl); (case hr => first | (go_simp; done) | (go_simp; rfl)); (case hp => exact (Reps.one (show Kd.M Kd.string _ _ _ (⟨#[99]⟩ : ByteArray) [.string (⟨#[99]⟩ : ByteArray)] from rfl) (Reps.none _ _))); intro v139 w8 ho9 hb hg_ hnew_; clear hg_ hnew_; (first | rw [← Ny138.out] at ho9 | (simp only [Int.reduceToNat] at ho9; rw [← Ny138.out] at ho9)); have n0_ := Aside0.mk (Kd.R_elder' (by (with_reducible repeat (first | apply Kd.R_alloc | apply Kd.R_drewN | apply Kd.R_drew)); exact HO137.out) (by first | exact Kd.N_base ho9 | exact Kd.S_base ho9 | exact Kd.R_base ho9) hb); have n1_ := Aside0.mk (Kd.R_lower (Kd.R_new' ho9 (Kd.R_lt (by (with_reducible repeat (first | apply Kd.R_alloc | apply Kd.R_drewN | apply Kd.R_drew)); exact HO137.out))) (below_size (by repeat (first | (with_reducible first | exact HB.out | apply below_alloc | apply pw_below_drewN | apply below_drew1) | exact HB.out)))); have n2_ := Aside0.mk (below_step (by repeat (first | (with_reducible first | exact HB.out | apply below_alloc | apply pw_below_drewN | apply below_drew1) | exact HB.out)) hb); clear HO137; clear HB; have HO137 := n0_; have HO140 := n1_; have HB := n2_; clear n0_ n1_ n2_; clear hb ho9; obtain ⟨Ao10, co10, eo10⟩ := Kd.R_slice HO137.out; subst eo10; obtain ⟨Ao11, co11, eo11⟩ := Kd.R_slice HO140.out; subst eo11) | ((with_reducible refine gate_dst (N := 20) rfl ?_); (try (refine gate_guard (by rfl) ?_; dsimp only)); refine Kd.N_lit (Kd.slice 9 Kd.string) _ 26 ?hg (N' := 20) ?hd (xs := ([y135, y138] : List (List ByteArray))) (inner := [.slice Ao10 y135.length co10, .slice Ao11 y138.length co11]) (ok := (fun _ => True)) (okp := (fun _ => True)) ?hr ?hp (fun _ hk => hk) ((show ∀ k_, w8.heap.size ≤ k_ → (fun _ => True) k_ from fun k_ hk => trivial) _ (Nat.le_refl _)) (Below.refl _ _) (Nat.le_refl _) (by simp) ?_; (case hd => rfl); (case hg => rfl); (case hr => first | (go_simp; done) | (go_simp; rfl)); (case hp => exact (Reps.one (show Kd.FK (Kd.slice 9 Kd.string) _ _ y135 [.slice Ao10 y135.length co10] from (Kd.FK_slice_mk (Kd.R_reads' (Kd.R_mono (ok' := (fun _ => True)) (HO137.out) (fun k_ hk => trivial))).2.1 (Kd.R_F (Kd.R_mono (ok' := (fun _ => True)) (HO137.out) (fun k_ hk => trivial))))) (Reps.one (show Kd.FK (Kd.slice 9 Kd.string) _ _ y138 [.slice Ao11 y138.length co11] from (Kd.FK_slice_mk (Kd.R_reads' (Kd.R_mono (ok' := (fun _ => True)) (HO140.out) (fun k_ hk => trivial))).2.1 (Kd.R_F (Kd.R_mono (ok' := (fun _ => True)) (HO140.out) (fun k_ hk => trivial))))) (Reps.none _ _)))); intro v142 w12 ho13 hb hg_ hnew_; clear hg_ hnew_; (first | rw [← Ny141.out] at ho13 | (simp only [Int.reduceToNat] at ho13; rw [← Ny141.out] at ho13)); have n0_ := Aside0.mk (Kd.N_lower ho13 (below_size (by repeat (first | (with_reducible first | exact HB.out | apply below_alloc | apply pw_below_drewN | apply below_drew1) | exact HB.out)))); have n1_ := Aside0.mk (below_step (by repeat (first | (with_reducible first | exact HB.out | apply below_alloc | apply pw_below_drewN | apply below_drew1) | exact HB.out)) hb); clear HB; clear HO137; clear HO140; have HO143 := n0_; have HB := n1_; clear n0_ n1_; clear hb ho13; obtain ⟨Ao14, co14, eo14⟩ := Kd.N_slice HO143.out; subst eo14) | (go_at_call 7; (with_reducible refine (impl_ContentsText.calls _ _ y141 t144 t145 _ ?side1 ?side2 A4.out).mono ?_); (case side1 => repeat (first | exact (Kd.N_reads' HO143.out).2.2 | (with_reducible refine Kd.C_alloc ?_ _) | (with_reducible refine Kd.C_drewN ?_ _) | (with_reducible refine Kd.C_drew ?_))); (case side2 => exact (Kd.N_reads' HO143.out).2.1); rintro e w15 ⟨rfl, hb⟩; have n0_ := Aside0.mk (Kd.N_below (by (with_reducible repeat (first | apply Kd.N_alloc | apply Kd.N_drewN | apply Kd.N_drew)); exact HO143.out) hb); have n1_ := Aside0.mk (below_step (by repeat (first | (with_reducible first | exact HB.out | apply below_alloc | apply pw_below_drewN | apply below_drew1) | exact HB.out)) hb); clear HO143; clear HB; have HO143 := n0_; have HB := n1_; clear n0_ n1_; (try clear hb); (try clear hb2); (try clear hk); (try clear hi))))
    (try simp only [Act.put, List.setIfInBounds_toArray, List.set_cons_zero, List.set_cons_succ])
    go_cut [32] (fun v32 wc => ∃ (kq : Nat) (x32_4 : Bool), v32 = .bool x32_4 ∧ Aside0 (laws_FnContentsBack.j0 kq l0 x32_4 = some r) ∧ Aside0 (kq ≤ k) ∧ Aside0 (Below w.heap.size w wc))
    case first =>
      have H := HC5.out
      clear HC5
      by_cases c16 : (t144.size : Int) < 5
      · rw [if_pos c16] at H
        have c16b0 : decide ((t144.size : Int) < 5) = true := decide_eq_true c16
        have c16b1 : decide (t144.size < 5) = true := decide_eq_true (by omega)
        clear c16
        (first | rw [c16b0] | (simp only [i64_w, i32_w]; rw [c16b0]) | skip)
        have H' := Aside0.mk H
        clear H
        go_wp2
        repeat (go_quiet (fail); try go_wp2)
        go_meet
        case rel => exact ⟨_, (true), (by first | rfl | (simp; done) | (simp [*]; done)), H', ⟨by first | omega | exact Nat.le_refl _⟩, ⟨by repeat (first | (with_reducible first | exact HB.out | apply below_alloc | apply pw_below_drewN | apply below_drew1) | exact HB.out)⟩⟩
      · rw [if_neg c16] at H
        have c16b0 : decide ((t144.size : Int) < 5) = false := decide_eq_false c16
        have c16b1 : decide (t144.size < 5) = false := decide_eq_false (by omega)
        clear c16
        (first | rw [c16b0] | (simp only [i64_w, i32_w]; rw [c16b0]) | skip)
        have H' := Aside0.mk H
        clear H
        go_wp2
        repeat (go_quiet (fail); try go_wp2)
        go_meet
        case rel => exact ⟨_, ((t145 != (t144.size : Int))), (by first | rfl | (simp; done) | (simp [*]; done)), H', ⟨by first | omega | exact Nat.le_refl _⟩, ⟨by repeat (first | (with_reducible first | exact HB.out | apply below_alloc | apply pw_below_drewN | apply below_drew1) | exact HB.out)⟩⟩
    case rest =>
      clear HC5
      try clear c1
      try clear p2
      try clear c3
      try clear c16
      try clear c16b0
      try clear c16b1
      obtain ⟨kq, x32_4, rfl, HA, HJ4, HB⟩ := hcut
      cases kq with
      | zero => exact absurd HA.out (by simp [laws_FnContentsBack.j0])
      | succ kj4 =>
        have H := HA.out
        clear HA
        simp only [laws_FnContentsBack.j0] at H
        by_cases c17 : x32_4 = true
        · subst c17
          have H1 : (some false) = some r := by rw [if_pos rfl] at H; exact H
          clear H
          have H := H1
          clear H1
          obtain rfl := Option.some.inj H
          go_wp2
          repeat (go_quiet (fail); try go_wp2)
          go_ret
          exact ⟨by first | rfl | (simp [errW_none, errW_some] <;> rfl) | (simp [*, errW_none, errW_some] <;> rfl), by repeat (first | (with_reducible first | exact HB.out | apply below_alloc | apply pw_below_drewN | apply below_drew1) | exact HB.out)⟩
        · replace c17 := Bool.eq_false_iff.mpr c17
          subst c17
          have H1 : (if (l0.length : Int) < 2 then (laws_FnContentsBack.j1 kj4 l0 true) else (laws_FnContentsBack.j1 kj4 l0 (decide ((l0.length : Int) > 10)))) = some r := by rw [if_neg (show ¬ (false = true) by decide)] at H; exact H
          clear H
          have H := H1
          clear H1
          have HC18 := Aside0.mk H
          clear H
          go_upto_region 6 with (fail)
          repeat (go_quiet (fail); go_upto_region 6 with (fail))
          go_cut [40] (fun v40 wc => ∃ (kq : Nat) (x40_17 : Bool), v40 = .bool x40_17 ∧ Aside0 (laws_FnContentsBack.j1 kq l0 x40_17 = some r) ∧ Aside0 (kq ≤ kj4) ∧ Aside0 (Below w.heap.size w wc))
          case first =>
            have H := HC18.out
            clear HC18
            by_cases c19 : (l0.length : Int) < 2
            · rw [if_pos c19] at H
              have c19b0 : decide ((l0.length : Int) < 2) = true := decide_eq_true c19
              have c19b1 : decide (l0.length < 2) = true := decide_eq_true (by omega)
              clear c19
              (first | rw [c19b0] | (simp only [i64_w, i32_w]; rw [c19b0]) | skip)
              have H' := Aside0.mk H
              clear H
              go_wp2
              repeat (go_quiet (fail); try go_wp2)
              go_meet
              case rel => exact ⟨_, (true), (by first | rfl | (simp; done) | (simp [*]; done)), H', ⟨by have := HJ4.out; first | omega | exact Nat.le_refl _⟩, ⟨by repeat (first | (with_reducible first | exact HB.out | apply below_alloc | apply pw_below_drewN | apply below_drew1) | exact HB.out)⟩⟩
            · rw [if_neg c19] at H
              have c19b0 : decide ((l0.length : Int) < 2) = false := decide_eq_false c19
              have c19b1 : decide (l0.length < 2) = false := decide_eq_false (by omega)
              clear c19
              (first | rw [c19b0] | (simp only [i64_w, i32_w]; rw [c19b0]) | skip)
              have H' := Aside0.mk H
              clear H
              go_wp2
              repeat (go_quiet (fail); try go_wp2)
              go_meet
              case rel => exact ⟨_, (decide ((l0.length : Int) > 10)), (by first | rfl | (simp; done) | (simp [*]; done)), H', ⟨by have := HJ4.out; first | omega | exact Nat.le_refl _⟩, ⟨by repeat (first | (with_reducible first | exact HB.out | apply below_alloc | apply pw_below_drewN | apply below_drew1) | exact HB.out)⟩⟩
          case rest =>
            clear HC18
            try clear c1
            try clear p2
            try clear c3
            try clear c16
            try clear c16b0
            try clear c16b1
            try clear c17
            try clear c19
            try clear c19b0
            try clear c19b1
            try clear p2
            obtain ⟨kq, x40_17, rfl, HA, HJ17, HB⟩ := hcut
            cases kq with
            | zero => exact absurd HA.out (by simp [laws_FnContentsBack.j1])
            | succ kj17 =>
              have H := HA.out
              clear HA
              simp only [laws_FnContentsBack.j1] at H
              by_cases c20 : x40_17 = true
              · subst c20
                have H1 : (some true) = some r := by rw [if_pos rfl] at H; exact H
                clear H
                have H := H1
                clear H1
                obtain rfl := Option.some.inj H
                go_wp2
                repeat (go_quiet (fail); try go_wp2)
                go_ret
                exact ⟨by first | rfl | (simp [errW_none, errW_some] <;> rfl) | (simp [*, errW_none, errW_some] <;> rfl), by repeat (first | (with_reducible first | exact HB.out | apply below_alloc | apply pw_below_drewN | apply below_drew1) | exact HB.out)⟩
              · replace c20 := Bool.eq_false_iff.mpr c20
                subst c20
                have H1 : (laws_FnContentsBack.l0 kj17 l0 l0 (l0.length : Int) 0) = some r := by rw [if_neg (show ¬ (false = true) by decide)] at H; exact H
                clear H
                have H := H1
                clear H1
                have H' := Aside0.mk H
                clear H
                go_wp2
                repeat (go_quiet (fail); try go_wp2)
                go_loopg [43] kj17 (fun kq v43 w' => ∃ (x43_3 : Int), v43 = .int .i64 x43_3 ∧ Aside0 (laws_FnContentsBack.l0 kq l0 l0 (l0.length : Int) x43_3 = some r) ∧ Aside0 (kq ≤ kj17) ∧ Aside0 (Below w.heap.size w w'))
                case atStart => exact ⟨(0), (by first | rfl | (simp; done) | (simp [*]; done)), H', ⟨Nat.le_refl _⟩, ⟨by repeat (first | (with_reducible first | exact HB.out | apply below_alloc | apply pw_below_drewN | apply below_drew1) | exact HB.out)⟩⟩
                case round =>
                  clear H'
                  try clear c1
                  try clear c2
                  try clear p2
                  try clear c3
                  try clear c16
                  try clear c16b0
                  try clear c16b1
                  try clear c17
                  try clear c19
                  try clear c19b0
                  try clear c19b1
                  try clear c20
                  try clear p2
                  obtain ⟨x43_3, rfl, HA, HK3, HB⟩ := hrel
                  cases gk with
                  | zero => exact absurd HA.out (by simp [laws_FnContentsBack.l0])
                  | succ k3 =>
                    have H := HA.out
                    clear HA
                    simp only [laws_FnContentsBack.l0] at H
                    by_cases c21 : x43_3 < (l0.length : Int)
                    · rw [if_pos c21] at H
                      have c21b0 : decide (x43_3 < (l0.length : Int)) = true := decide_eq_true c21
                      clear c21
                      by_cases c22 : 0 ≤ x43_3
                      · rw [if_pos c22] at H
                        have c22b0 : decide (0 ≤ x43_3) = true := decide_eq_true c22
                        clear c22
                        by_cases c23 : x43_3 < (l0.length : Int)
                        · rw [if_pos c23] at H
                          have c23b0 : decide (x43_3 < (l0.length : Int)) = true := decide_eq_true c23
                          clear c23
                          have HC24 := Aside0.mk H
                          clear H
                          have p146 : 0 ≤ (x43_3 : Int) := of_decide_eq_true (by first | (with_reducible assumption) | assumption)
                          have q146 : x43_3 < (l0.length : Int) := of_decide_eq_true (by first | (with_reducible assumption) | assumption)
                          obtain ⟨ad146, A146_0, c146_0, e146, hx146_0, hl146_0, hi146_0⟩ := at_L1 HR0.out x43_3 p146 q146
                          cases e146
                          first | (replace hx146_0 := (HB.out.cell (World.block_lt_of_cell? w _ hx146_0)).trans hx146_0) | skip
                          have HR146_0 := Aside0.mk hi146_0
                          have HC146_0 := Aside0.mk hl146_0
                          clear hi146_0 hl146_0
                          replace p146 := eq_true p146
                          replace q146 := eq_true q146
                          go_upto_region 11 with (fail)
                          repeat (go_quiet (fail); go_upto_region 11 with (fail))
                          go_cut [59] (fun v59 wc => ∃ (kq : Nat) (x59_23 : Bool), v59 = .bool x59_23 ∧ Aside0 (laws_FnContentsBack.j3 kq l0 (rd_L1 l0 x43_3) l0 (l0.length : Int) x43_3 x59_23 = some r) ∧ Aside0 (kq ≤ k3) ∧ Aside0 (Below w.heap.size w wc))
                          case first =>
                            have H := HC24.out
                            clear HC24
                            by_cases c25 : ((rd_L1 l0 x43_3).length : Int) = 0
                            · rw [if_pos c25] at H
                              have c25b0 : (((rd_L1 l0 x43_3).length : Int) == 0) = true := beq_iff_eq.mpr c25
                              have c25b1 : (((rd_L1 l0 x43_3).length : Int) != 0) = false := bne_eq_false_iff_eq.mpr c25
                              clear c25
                              (first | rw [c25b0] | (simp only [i64_w, i32_w]; rw [c25b0]) | skip)
                              have H' := Aside0.mk H
                              clear H
                              go_wp2
                              repeat (go_quiet (fail); try go_wp2)
                              go_meet
                              case rel => exact ⟨_, (true), (by first | rfl | (simp; done) | (simp [*]; done)), H', ⟨by have := HJ4.out; have := HJ17.out; have := HK3.out; first | omega | exact Nat.le_refl _⟩, ⟨by repeat (first | (with_reducible first | exact HB.out | apply below_alloc | apply pw_below_drewN | apply below_drew1) | exact HB.out)⟩⟩
                            · rw [if_neg c25] at H
                              have c25b0 : (((rd_L1 l0 x43_3).length : Int) == 0) = false := beq_eq_false_iff_ne.mpr c25
                              have c25b1 : (((rd_L1 l0 x43_3).length : Int) != 0) = true := bne_iff_ne.mpr c25
                              have c25b2 : ¬ ((rd_L1 l0 x43_3) = []) := fun h_ => c25 (by rw [h_]; rfl)
                              (first | rw [c25b0] | (simp only [i64_w, i32_w]; rw [c25b0]) | skip)
                              by_cases c26 : ((rd_L1 l0 x43_3).length : Int) > 6
                              · rw [if_pos c26] at H
                                have c26b0 : decide (6 < ((rd_L1 l0 x43_3).length : Int)) = true := decide_eq_true c26
                                have c26b1 : decide (6 < (rd_L1 l0 x43_3).length) = true := decide_eq_true (by omega)
                                clear c26
                                have H' := Aside0.mk H
                                clear H
                                go_wp2
                                repeat (go_quiet (fail); try go_wp2)
                                go_meet
                                case rel => exact ⟨_, (true), (by first | rfl | (simp; done) | (simp [*]; done)), H', ⟨by have := HJ4.out; have := HJ17.out; have := HK3.out; first | omega | exact Nat.le_refl _⟩, ⟨by repeat (first | (with_reducible first | exact HB.out | apply below_alloc | apply pw_below_drewN | apply below_drew1) | exact HB.out)⟩⟩
                              · rw [if_neg c26] at H
                                have c26b0 : decide (6 < ((rd_L1 l0 x43_3).length : Int)) = false := decide_eq_false c26
                                have c26b1 : decide (6 < (rd_L1 l0 x43_3).length) = false := decide_eq_false (by omega)
                                clear c26
                                replace H := Option.bind_eq_some_iff.mp H
                                obtain ⟨t147, A270, H⟩ := H
                                replace H : (laws_FnContentsBack.j3 k3 l0 (rd_L1 l0 x43_3) l0 (l0.length : Int) x43_3 (!t147)) = some r := H
                                have A27 := Aside0.mk A270
                                clear A270
                                have H' := Aside0.mk H
                                clear H
                                go_wp2_with (first | (go_at_call 8; (with_reducible refine (laws_clean.calls k3 40 _ _ (rd_L1 l0 x43_3) t147 _ ?side1 ?side2 A27.out).mono ?_); (case side1 => repeat (first | exact (Kd.C_below HR146_0.out HB.out) | (with_reducible refine Kd.C_alloc ?_ _) | (with_reducible refine Kd.C_drewN ?_ _) | (with_reducible refine Kd.C_drew ?_))); (case side2 => exact HC146_0.out); rintro e w28 ⟨rfl, hb⟩; have n0_ := Aside0.mk (below_step (by repeat (first | (with_reducible first | exact HB.out | apply below_alloc | apply pw_below_drewN | apply below_drew1) | exact HB.out)) hb); clear HB; have HB := n0_; clear n0_; (try clear hb); (try clear hb2); (try clear hk); (try clear hi)))
                                repeat (go_quiet (first | (go_at_call 8; (with_reducible refine (laws_clean.calls k3 40 _ _ (rd_L1 l0 x43_3) t147 _ ?side1 ?side2 A27.out).mono ?_); (case side1 => repeat (first | exact (Kd.C_below HR146_0.out HB.out) | (with_reducible refine Kd.C_alloc ?_ _) | (with_reducible refine Kd.C_drewN ?_ _) | (with_reducible refine Kd.C_drew ?_))); (case side2 => exact HC146_0.out); rintro e w28 ⟨rfl, hb⟩; have n0_ := Aside0.mk (below_step (by repeat (first | (with_reducible first | exact HB.out | apply below_alloc | apply pw_below_drewN | apply below_drew1) | exact HB.out)) hb); clear HB; have HB := n0_; clear n0_; (try clear hb); (try clear hb2); (try clear hk); (try clear hi))); try go_wp2_with (first | (go_at_call 8; (with_reducible refine (laws_clean.calls k3 40 _ _ (rd_L1 l0 x43_3) t147 _ ?side1 ?side2 A27.out).mono ?_); (case side1 => repeat (first | exact (Kd.C_below HR146_0.out HB.out) | (with_reducible refine Kd.C_alloc ?_ _) | (with_reducible refine Kd.C_drewN ?_ _) | (with_reducible refine Kd.C_drew ?_))); (case side2 => exact HC146_0.out); rintro e w28 ⟨rfl, hb⟩; have n0_ := Aside0.mk (below_step (by repeat (first | (with_reducible first | exact HB.out | apply below_alloc | apply pw_below_drewN | apply below_drew1) | exact HB.out)) hb); clear HB; have HB := n0_; clear n0_; (try clear hb); (try clear hb2); (try clear hk); (try clear hi))))
                                go_meet
                                case rel => exact ⟨_, (!t147), (by first | rfl | (simp; done) | (simp [*]; done)), H', ⟨by have := HJ4.out; have := HJ17.out; have := HK3.out; first | omega | exact Nat.le_refl _⟩, ⟨by repeat (first | (with_reducible first | exact HB.out | apply below_alloc | apply pw_below_drewN | apply below_drew1) | exact HB.out)⟩⟩
                          case rest =>
                            clear HC24
                            try clear c1
                            try clear p1
                            try clear q1
                            try clear hx1
                            try clear c2
                            try clear p2
                            try clear c3
                            try clear c14
                            try clear p14
                            try clear q14
                            try clear hx14
                            try clear c16
                            try clear c16b0
                            try clear c16b1
                            try clear c17
                            try clear c19
                            try clear c19b0
                            try clear c19b1
                            try clear c20
                            try clear c21
                            try clear c21b0
                            try clear c22
                            try clear c22b0
                            try clear c23
                            try clear c23b0
                            try clear c25
                            try clear c25b0
                            try clear c25b1
                            try clear c25b2
                            try clear c26
                            try clear c26b0
                            try clear c26b1
                            try clear hx146_0
                            try clear p146
                            try clear p2
                            try clear q146
                            obtain ⟨kq, x59_23, rfl, HA, HJ23, HB⟩ := hcut
                            cases kq with
                            | zero => exact absurd HA.out (by simp [laws_FnContentsBack.j3])
                            | succ kj23 =>
                              have H := HA.out
                              clear HA
                              simp only [laws_FnContentsBack.j3] at H
                              by_cases c29 : x59_23 = true
                              · subst c29
                                have H1 : (some true) = some r := by rw [if_pos rfl] at H; exact H
                                clear H
                                have H := H1
                                clear H1
                                obtain rfl := Option.some.inj H
                                go_wp2
                                repeat (go_quiet (fail); try go_wp2)
                                go_ret
                                exact ⟨by first | rfl | (simp [errW_none, errW_some] <;> rfl) | (simp [*, errW_none, errW_some] <;> rfl), by repeat (first | (with_reducible first | exact HB.out | apply below_alloc | apply pw_below_drewN | apply below_drew1) | exact HB.out)⟩
                              · replace c29 := Bool.eq_false_iff.mpr c29
                                subst c29
                                have H1 : (laws_FnContentsBack.l1 kj23 l0 (rd_L1 l0 x43_3) l0 (l0.length : Int) x43_3 (rd_L1 l0 x43_3) ((rd_L1 l0 x43_3).length : Int) 0) = some r := by rw [if_neg (show ¬ (false = true) by decide)] at H; exact H
                                clear H
                                have H := H1
                                clear H1
                                have H' := Aside0.mk H
                                clear H
                                go_wp2
                                repeat (go_quiet (fail); try go_wp2)
                                go_loopg [62] kj23 (fun kq v62 w' => ∃ (x62_5 : Int), v62 = .int .i64 x62_5 ∧ Aside0 (laws_FnContentsBack.l1 kq l0 (rd_L1 l0 x43_3) l0 (l0.length : Int) x43_3 (rd_L1 l0 x43_3) ((rd_L1 l0 x43_3).length : Int) x62_5 = some r) ∧ Aside0 (kq ≤ kj23) ∧ Aside0 (Below w.heap.size w w'))
                                case atStart => exact ⟨(0), (by first | rfl | (simp; done) | (simp [*]; done)), H', ⟨Nat.le_refl _⟩, ⟨by repeat (first | (with_reducible first | exact HB.out | apply below_alloc | apply pw_below_drewN | apply below_drew1) | exact HB.out)⟩⟩
                                case round =>
                                  clear H'
                                  try clear c1
                                  try clear p1
                                  try clear q1
                                  try clear hx1
                                  try clear c2
                                  try clear p2
                                  try clear c3
                                  try clear c14
                                  try clear p14
                                  try clear q14
                                  try clear hx14
                                  try clear c16
                                  try clear c16b0
                                  try clear c16b1
                                  try clear c17
                                  try clear c19
                                  try clear c19b0
                                  try clear c19b1
                                  try clear c20
                                  try clear c21
                                  try clear c21b0
                                  try clear c22
                                  try clear c22b0
                                  try clear c23
                                  try clear c23b0
                                  try clear c25
                                  try clear c25b0
                                  try clear c25b1
                                  try clear c25b2
                                  try clear c26
                                  try clear c26b0
                                  try clear c26b1
                                  try clear c29
                                  try clear hx146_0
                                  try clear p1
                                  try clear p14
                                  try clear p146
                                  try clear p2
                                  try clear q1
                                  try clear q14
                                  try clear q146
                                  obtain ⟨x62_5, rfl, HA, HK5, HB⟩ := hrel
                                  cases gk with
                                  | zero => exact absurd HA.out (by simp [laws_FnContentsBack.l1])
                                  | succ k5 =>
                                    have H := HA.out
                                    clear HA
                                    simp only [laws_FnContentsBack.l1] at H
                                    by_cases c30 : x62_5 < ((rd_L1 l0 x43_3).length : Int)
                                    · rw [if_pos c30] at H
                                      have c30b0 : decide (x62_5 < ((rd_L1 l0 x43_3).length : Int)) = true := decide_eq_true c30
                                      clear c30
                                      by_cases c31 : 0 ≤ x62_5
                                      · rw [if_pos c31] at H
                                        have c31b0 : decide (0 ≤ x62_5) = true := decide_eq_true c31
                                        clear c31
                                        by_cases c32 : x62_5 < ((rd_L1 l0 x43_3).length : Int)
                                        · rw [if_pos c32] at H
                                          have c32b0 : decide (x62_5 < ((rd_L1 l0 x43_3).length : Int)) = true := decide_eq_true c32
                                          clear c32
                                          have H' := Aside0.mk H
                                          clear H
                                          have p149 : 0 ≤ (x62_5 : Int) := of_decide_eq_true (by first | (with_reducible assumption) | assumption)
                                          have q149 : x62_5 < ((rd_L1 l0 x43_3).length : Int) := of_decide_eq_true (by first | (with_reducible assumption) | assumption)
                                          obtain ⟨ad149, e149, hx149_0⟩ := Kd.at_string HR146_0.out x62_5 p149 q149
                                          cases e149
                                          first | (replace hx149_0 := (HB.out.cell (World.block_lt_of_cell? w _ hx149_0)).trans hx149_0) | skip
                                          replace p149 := eq_true p149
                                          replace q149 := eq_true q149
                                          go_wp2
                                          repeat (go_quiet (fail); try go_wp2)
                                          go_loopg [68] k5 (fun kq v68 w' => ∃ (x68_6 : Int), v68 = .int .i64 x68_6 ∧ Aside0 (laws_FnContentsBack.l2 kq l0 (rd_L1 l0 x43_3) (rdOf ByteArray.empty (rd_L1 l0 x43_3) x62_5) l0 (l0.length : Int) x43_3 (rd_L1 l0 x43_3) ((rd_L1 l0 x43_3).length : Int) x62_5 ((rdOf ByteArray.empty (rd_L1 l0 x43_3) x62_5).size : Int) x68_6 = some r) ∧ Aside0 (kq ≤ k5) ∧ Aside0 (Below w.heap.size w w'))
                                          case atStart => exact ⟨(0), (by first | rfl | (simp; done) | (simp [*]; done)), H', ⟨Nat.le_refl _⟩, ⟨by repeat (first | (with_reducible first | exact HB.out | apply below_alloc | apply pw_below_drewN | apply below_drew1) | exact HB.out)⟩⟩
                                          case round =>
                                            clear H'
                                            try clear c1
                                            try clear p1
                                            try clear q1
                                            try clear hx1
                                            try clear c2
                                            try clear p2
                                            try clear c3
                                            try clear c14
                                            try clear p14
                                            try clear q14
                                            try clear hx14
                                            try clear c16
                                            try clear c16b0
                                            try clear c16b1
                                            try clear c17
                                            try clear c19
                                            try clear c19b0
                                            try clear c19b1
                                            try clear c20
                                            try clear c21
                                            try clear c21b0
                                            try clear c22
                                            try clear c22b0
                                            try clear c23
                                            try clear c23b0
                                            try clear c25
                                            try clear c25b0
                                            try clear c25b1
                                            try clear c25b2
                                            try clear c26
                                            try clear c26b0
                                            try clear c26b1
                                            try clear c29
                                            try clear c30
                                            try clear c30b0
                                            try clear c31
                                            try clear c31b0
                                            try clear c32
                                            try clear c32b0
                                            try clear hx146_0
                                            try clear hx149_0
                                            try clear p1
                                            try clear p14
                                            try clear p146
                                            try clear p149
                                            try clear p2
                                            try clear q1
                                            try clear q14
                                            try clear q146
                                            try clear q149
                                            obtain ⟨x68_6, rfl, HA, HK6, HB⟩ := hrel
                                            cases gk with
                                            | zero => exact absurd HA.out (by simp [laws_FnContentsBack.l2])
                                            | succ k6 =>
                                              have H := HA.out
                                              clear HA
                                              simp only [laws_FnContentsBack.l2] at H
                                              by_cases c33 : x68_6 < ((rdOf ByteArray.empty (rd_L1 l0 x43_3) x62_5).size : Int)
                                              · rw [if_pos c33] at H
                                                have c33b0 : decide (x68_6 < ((rdOf ByteArray.empty (rd_L1 l0 x43_3) x62_5).size : Int)) = true := decide_eq_true c33
                                                clear c33
                                                by_cases c34 : 0 ≤ x68_6
                                                · rw [if_pos c34] at H
                                                  have c34b0 : decide (0 ≤ x68_6) = true := decide_eq_true c34
                                                  clear c34
                                                  by_cases c35 : x68_6 < ((rdOf ByteArray.empty (rd_L1 l0 x43_3) x62_5).size : Int)
                                                  · rw [if_pos c35] at H
                                                    have c35b0 : decide (x68_6 < ((rdOf ByteArray.empty (rd_L1 l0 x43_3) x62_5).size : Int)) = true := decide_eq_true c35
                                                    clear c35
                                                    by_cases c37 : (bt (rdOf ByteArray.empty (rd_L1 l0 x43_3) x62_5) x68_6) = 10
                                                    · rw [if_pos c37] at H
                                                      have c37b0 : ((bt (rdOf ByteArray.empty (rd_L1 l0 x43_3) x62_5) x68_6) == 10) = true := beq_iff_eq.mpr c37
                                                      have c37b1 : ((bt (rdOf ByteArray.empty (rd_L1 l0 x43_3) x62_5) x68_6) != 10) = false := bne_eq_false_iff_eq.mpr c37
                                                      clear c37
                                                      obtain rfl := Option.some.inj H
                                                      have p36 : 0 ≤ (x68_6 : Int) := of_decide_eq_true (by first | (with_reducible assumption) | assumption)
                                                      have q36 : x68_6 < ((rdOf ByteArray.empty (rd_L1 l0 x43_3) x62_5).size : Int) := of_decide_eq_true (by first | (with_reducible assumption) | assumption)
                                                      have hx36 := bt_at (rdOf ByteArray.empty (rd_L1 l0 x43_3) x62_5) x68_6
                                                      replace p36 := eq_true p36
                                                      replace q36 := eq_true q36
                                                      go_wp2
                                                      repeat (go_quiet (fail); try go_wp2)
                                                      go_ret
                                                      exact ⟨by first | rfl | (simp [errW_none, errW_some] <;> rfl) | (simp [*, errW_none, errW_some] <;> rfl), by repeat (first | (with_reducible first | exact HB.out | apply below_alloc | apply pw_below_drewN | apply below_drew1) | exact HB.out)⟩
                                                    · rw [if_neg c37] at H
                                                      have c37b0 : ((bt (rdOf ByteArray.empty (rd_L1 l0 x43_3) x62_5) x68_6) == 10) = false := beq_eq_false_iff_ne.mpr c37
                                                      have c37b1 : ((bt (rdOf ByteArray.empty (rd_L1 l0 x43_3) x62_5) x68_6) != 10) = true := bne_iff_ne.mpr c37
                                                      by_cases c39 : (bt (rdOf ByteArray.empty (rd_L1 l0 x43_3) x62_5) x68_6) = 7
                                                      · rw [if_pos c39] at H
                                                        have c39b0 : ((bt (rdOf ByteArray.empty (rd_L1 l0 x43_3) x62_5) x68_6) == 7) = true := beq_iff_eq.mpr c39
                                                        have c39b1 : ((bt (rdOf ByteArray.empty (rd_L1 l0 x43_3) x62_5) x68_6) != 7) = false := bne_eq_false_iff_eq.mpr c39
                                                        clear c39
                                                        obtain rfl := Option.some.inj H
                                                        have p36 : 0 ≤ (x68_6 : Int) := of_decide_eq_true (by first | (with_reducible assumption) | assumption)
                                                        have q36 : x68_6 < ((rdOf ByteArray.empty (rd_L1 l0 x43_3) x62_5).size : Int) := of_decide_eq_true (by first | (with_reducible assumption) | assumption)
                                                        have hx36 := bt_at (rdOf ByteArray.empty (rd_L1 l0 x43_3) x62_5) x68_6
                                                        replace p36 := eq_true p36
                                                        replace q36 := eq_true q36
                                                        have p38 : 0 ≤ (x68_6 : Int) := of_decide_eq_true (by first | (with_reducible assumption) | assumption)
                                                        have q38 : x68_6 < ((rdOf ByteArray.empty (rd_L1 l0 x43_3) x62_5).size : Int) := of_decide_eq_true (by first | (with_reducible assumption) | assumption)
                                                        have hx38 := bt_at (rdOf ByteArray.empty (rd_L1 l0 x43_3) x62_5) x68_6
                                                        replace p38 := eq_true p38
                                                        replace q38 := eq_true q38
                                                        go_wp2
                                                        repeat (go_quiet (fail); try go_wp2)
                                                        go_ret
                                                        exact ⟨by first | rfl | (simp [errW_none, errW_some] <;> rfl) | (simp [*, errW_none, errW_some] <;> rfl), by repeat (first | (with_reducible first | exact HB.out | apply below_alloc | apply pw_below_drewN | apply below_drew1) | exact HB.out)⟩
                                                      · rw [if_neg c39] at H
                                                        have c39b0 : ((bt (rdOf ByteArray.empty (rd_L1 l0 x43_3) x62_5) x68_6) == 7) = false := beq_eq_false_iff_ne.mpr c39
                                                        have c39b1 : ((bt (rdOf ByteArray.empty (rd_L1 l0 x43_3) x62_5) x68_6) != 7) = true := bne_iff_ne.mpr c39
                                                        have H' := Aside0.mk H
                                                        clear H
                                                        have p36 : 0 ≤ (x68_6 : Int) := of_decide_eq_true (by first | (with_reducible assumption) | assumption)
                                                        have q36 : x68_6 < ((rdOf ByteArray.empty (rd_L1 l0 x43_3) x62_5).size : Int) := of_decide_eq_true (by first | (with_reducible assumption) | assumption)
                                                        have hx36 := bt_at (rdOf ByteArray.empty (rd_L1 l0 x43_3) x62_5) x68_6
                                                        replace p36 := eq_true p36
                                                        replace q36 := eq_true q36
                                                        have p38 : 0 ≤ (x68_6 : Int) := of_decide_eq_true (by first | (with_reducible assumption) | assumption)
                                                        have q38 : x68_6 < ((rdOf ByteArray.empty (rd_L1 l0 x43_3) x62_5).size : Int) := of_decide_eq_true (by first | (with_reducible assumption) | assumption)
                                                        have hx38 := bt_at (rdOf ByteArray.empty (rd_L1 l0 x43_3) x62_5) x68_6
                                                        replace p38 := eq_true p38
                                                        replace q38 := eq_true q38
                                                        go_wp2
                                                        repeat (go_quiet (fail); try go_wp2)
                                                        go_roundg k6
                                                        case measure => have := HJ4.out; have := HJ17.out; have := HK3.out; have := HJ23.out; have := HK5.out; have := HK6.out; omega
                                                        case rel => exact ⟨(wrap64 (x68_6 + 1)), (by first | rfl | (simp; done) | (simp [*]; done)), H', ⟨by have := HJ4.out; have := HJ17.out; have := HK3.out; have := HJ23.out; have := HK5.out; have := HK6.out; omega⟩, ⟨by repeat (first | (with_reducible first | exact HB.out | apply below_alloc | apply pw_below_drewN | apply below_drew1) | exact HB.out)⟩⟩
                                                  · rw [if_neg c35] at H
                                                    exact absurd H (by simp)
                                                · rw [if_neg c34] at H
                                                  exact absurd H (by simp)
                                              · rw [if_neg c33] at H
                                                have c33b0 : decide (x68_6 < ((rdOf ByteArray.empty (rd_L1 l0 x43_3) x62_5).size : Int)) = false := decide_eq_false c33
                                                clear c33
                                                have H' := Aside0.mk H
                                                clear H
                                                go_wp2
                                                repeat (go_quiet (fail); try go_wp2)
                                                go_roundg k6
                                                case measure => have := HJ4.out; have := HJ17.out; have := HK3.out; have := HJ23.out; have := HK5.out; have := HK6.out; omega
                                                case rel => exact ⟨(wrap64 (x62_5 + 1)), (by first | rfl | (simp; done) | (simp [*]; done)), H', ⟨by have := HJ4.out; have := HJ17.out; have := HK3.out; have := HJ23.out; have := HK5.out; have := HK6.out; omega⟩, ⟨by repeat (first | (with_reducible first | exact HB.out | apply below_alloc | apply pw_below_drewN | apply below_drew1) | exact HB.out)⟩⟩
                                        · rw [if_neg c32] at H
                                          exact absurd H (by simp)
                                      · rw [if_neg c31] at H
                                        exact absurd H (by simp)
                                    · rw [if_neg c30] at H
                                      have c30b0 : decide (x62_5 < ((rd_L1 l0 x43_3).length : Int)) = false := decide_eq_false c30
                                      clear c30
                                      by_cases c40 : ((rd_L1 l0 x43_3).length : Int) = 1
                                      · rw [if_pos c40] at H
                                        have c40b0 : (((rd_L1 l0 x43_3).length : Int) == 1) = true := beq_iff_eq.mpr c40
                                        have c40b1 : (((rd_L1 l0 x43_3).length : Int) != 1) = false := bne_eq_false_iff_eq.mpr c40
                                        clear c40
                                        by_cases c41 : 0 < ((rd_L1 l0 x43_3).length : Int)
                                        · rw [if_pos c41] at H
                                          have c41b0 : decide (0 < ((rd_L1 l0 x43_3).length : Int)) = true := decide_eq_true c41
                                          have c41b1 : decide (0 < (rd_L1 l0 x43_3).length) = true := decide_eq_true (by omega)
                                          clear c41
                                          by_cases c42 : (rdOf ByteArray.empty (rd_L1 l0 x43_3) 0).toList = ([] : List UInt8)
                                          · rw [if_pos c42] at H
                                            have c42b0 : ((rdOf ByteArray.empty (rd_L1 l0 x43_3) 0).toList == ([] : List UInt8)) = true := beq_iff_eq.mpr c42
                                            have c42b1 : ((rdOf ByteArray.empty (rd_L1 l0 x43_3) 0).toList != ([] : List UInt8)) = false := bne_eq_false_iff_eq.mpr c42
                                            clear c42
                                            obtain rfl := Option.some.inj H
                                            have p148 : 0 ≤ (0 : Int) := (by omega)
                                            have q148 : 0 < ((rd_L1 l0 x43_3).length : Int) := of_decide_eq_true (by first | (with_reducible assumption) | assumption)
                                            obtain ⟨ad148, e148, hx148_0⟩ := Kd.at_string HR146_0.out 0 p148 q148
                                            cases e148
                                            have qi148 : (0 < (rd_L1 l0 x43_3).length) = True := eq_true (by omega)
                                            (try rw [show ((0 : Int)).toNat = 0 from rfl] at hx148_0)
                                            (try rw [Addr.add_zero'] at hx148_0)
                                            first | (replace hx148_0 := (HB.out.cell (World.block_lt_of_cell? w _ hx148_0)).trans hx148_0) | skip
                                            replace p148 := eq_true p148
                                            replace q148 := eq_true q148
                                            go_wp2
                                            repeat (go_quiet (fail); try go_wp2)
                                            go_ret
                                            exact ⟨by first | rfl | (simp [errW_none, errW_some] <;> rfl) | (simp [*, errW_none, errW_some] <;> rfl), by repeat (first | (with_reducible first | exact HB.out | apply below_alloc | apply pw_below_drewN | apply below_drew1) | exact HB.out)⟩
                                          · rw [if_neg c42] at H
                                            have c42b0 : ((rdOf ByteArray.empty (rd_L1 l0 x43_3) 0).toList == ([] : List UInt8)) = false := beq_eq_false_iff_ne.mpr c42
                                            have c42b1 : ((rdOf ByteArray.empty (rd_L1 l0 x43_3) 0).toList != ([] : List UInt8)) = true := bne_iff_ne.mpr c42
                                            have H' := Aside0.mk H
                                            clear H
                                            have p148 : 0 ≤ (0 : Int) := (by omega)
                                            have q148 : 0 < ((rd_L1 l0 x43_3).length : Int) := of_decide_eq_true (by first | (with_reducible assumption) | assumption)
                                            obtain ⟨ad148, e148, hx148_0⟩ := Kd.at_string HR146_0.out 0 p148 q148
                                            cases e148
                                            have qi148 : (0 < (rd_L1 l0 x43_3).length) = True := eq_true (by omega)
                                            (try rw [show ((0 : Int)).toNat = 0 from rfl] at hx148_0)
                                            (try rw [Addr.add_zero'] at hx148_0)
                                            first | (replace hx148_0 := (HB.out.cell (World.block_lt_of_cell? w _ hx148_0)).trans hx148_0) | skip
                                            replace p148 := eq_true p148
                                            replace q148 := eq_true q148
                                            go_wp2
                                            repeat (go_quiet (fail); try go_wp2)
                                            go_roundg k5
                                            case measure => have := HJ4.out; have := HJ17.out; have := HK3.out; have := HJ23.out; have := HK5.out; omega
                                            case rel => exact ⟨(wrap64 (x43_3 + 1)), (by first | rfl | (simp; done) | (simp [*]; done)), H', ⟨by have := HJ4.out; have := HJ17.out; have := HK3.out; have := HJ23.out; have := HK5.out; omega⟩, ⟨by repeat (first | (with_reducible first | exact HB.out | apply below_alloc | apply pw_below_drewN | apply below_drew1) | exact HB.out)⟩⟩
                                        · rw [if_neg c41] at H
                                          exact absurd H (by simp)
                                      · rw [if_neg c40] at H
                                        have c40b0 : (((rd_L1 l0 x43_3).length : Int) == 1) = false := beq_eq_false_iff_ne.mpr c40
                                        have c40b1 : (((rd_L1 l0 x43_3).length : Int) != 1) = true := bne_iff_ne.mpr c40
                                        have H' := Aside0.mk H
                                        clear H
                                        go_wp2
                                        repeat (go_quiet (fail); try go_wp2)
                                        go_roundg k5
                                        case measure => have := HJ4.out; have := HJ17.out; have := HK3.out; have := HJ23.out; have := HK5.out; omega
                                        case rel => exact ⟨(wrap64 (x43_3 + 1)), (by first | rfl | (simp; done) | (simp [*]; done)), H', ⟨by have := HJ4.out; have := HJ17.out; have := HK3.out; have := HJ23.out; have := HK5.out; omega⟩, ⟨by repeat (first | (with_reducible first | exact HB.out | apply below_alloc | apply pw_below_drewN | apply below_drew1) | exact HB.out)⟩⟩
                        · rw [if_neg c23] at H
                          exact absurd H (by simp)
                      · rw [if_neg c22] at H
                        exact absurd H (by simp)
                    · rw [if_neg c21] at H
                      have c21b0 : decide (x43_3 < (l0.length : Int)) = false := decide_eq_false c21
                      clear c21
                      replace H := Option.bind_eq_some_iff.mp H
                      obtain ⟨⟨t150, t151⟩, A430, H⟩ := H
                      replace H : ((impl_ContentsOf.f k3 t150).bind fun t152 => (if t151 = (t150.size : Int) then (laws_FnContentsBack.j6 k3 l0 t152 ((t152.length : Int) != (l0.length : Int))) else (laws_FnContentsBack.j6 k3 l0 t152 true))) = some r := H
                      have A43 := Aside0.mk A430
                      clear A430
                      replace H := Option.bind_eq_some_iff.mp H
                      obtain ⟨t152, A440, H⟩ := H
                      replace H : (if t151 = (t150.size : Int) then (laws_FnContentsBack.j6 k3 l0 t152 ((t152.length : Int) != (l0.length : Int))) else (laws_FnContentsBack.j6 k3 l0 t152 true)) = some r := H
                      have A44 := Aside0.mk A440
                      clear A440
                      have HC45 := Aside0.mk H
                      clear H
                      go_upto_region 28 with (first | (go_at_call 7; (with_reducible refine (impl_ContentsText.calls _ _ l0 t150 t151 _ ?side1 ?side2 A43.out).mono ?_); (case side1 => repeat (first | exact (Kd.C_below HR0.out HB.out) | (with_reducible refine Kd.C_alloc ?_ _) | (with_reducible refine Kd.C_drewN ?_ _) | (with_reducible refine Kd.C_drew ?_))); (case side2 => exact HC0.out); rintro e w46 ⟨rfl, hb⟩; have n0_ := Aside0.mk (below_step (by repeat (first | (with_reducible first | exact HB.out | apply below_alloc | apply pw_below_drewN | apply below_drew1) | exact HB.out)) hb); clear HB; have HB := n0_; clear n0_; (try clear hb); (try clear hb2); (try clear hk); (try clear hi)) | (go_at_call 9; (with_reducible refine (impl_ContentsOf.calls k3 t150 t152 _ A44.out).mono ?_); rintro e w47 ⟨v153, rfl, ho0, hb⟩; have n0_ := Aside0.mk (Kd.N_lower (Kd.N_mono (ok' := fun k_ => True) (Kd.S_N (Kd.S_bound ho0)) (fun k_ hk_ => trivial)) (below_size (by repeat (first | (with_reducible first | exact HB.out | apply below_alloc | apply pw_below_drewN | apply below_drew1) | exact HB.out)))); have n1_ := Aside0.mk (below_step (by repeat (first | (with_reducible first | exact HB.out | apply below_alloc | apply pw_below_drewN | apply below_drew1) | exact HB.out)) hb); clear HB; have HO154 := n0_; have HB := n1_; clear n0_ n1_; (try clear hb); (try clear hb2); (try clear hk); (try clear hi); (try clear ho0)))
                      repeat (go_quiet (first | (go_at_call 7; (with_reducible refine (impl_ContentsText.calls _ _ l0 t150 t151 _ ?side1 ?side2 A43.out).mono ?_); (case side1 => repeat (first | exact (Kd.C_below HR0.out HB.out) | (with_reducible refine Kd.C_alloc ?_ _) | (with_reducible refine Kd.C_drewN ?_ _) | (with_reducible refine Kd.C_drew ?_))); (case side2 => exact HC0.out); rintro e w46 ⟨rfl, hb⟩; have n0_ := Aside0.mk (below_step (by repeat (first | (with_reducible first | exact HB.out | apply below_alloc | apply pw_below_drewN | apply below_drew1) | exact HB.out)) hb); clear HB; have HB := n0_; clear n0_; (try clear hb); (try clear hb2); (try clear hk); (try clear hi)) | (go_at_call 9; (with_reducible refine (impl_ContentsOf.calls k3 t150 t152 _ A44.out).mono ?_); rintro e w47 ⟨v153, rfl, ho0, hb⟩; have n0_ := Aside0.mk (Kd.N_lower (Kd.N_mono (ok' := fun k_ => True) (Kd.S_N (Kd.S_bound ho0)) (fun k_ hk_ => trivial)) (below_size (by repeat (first | (with_reducible first | exact HB.out | apply below_alloc | apply pw_below_drewN | apply below_drew1) | exact HB.out)))); have n1_ := Aside0.mk (below_step (by repeat (first | (with_reducible first | exact HB.out | apply below_alloc | apply pw_below_drewN | apply below_drew1) | exact HB.out)) hb); clear HB; have HO154 := n0_; have HB := n1_; clear n0_ n1_; (try clear hb); (try clear hb2); (try clear hk); (try clear hi); (try clear ho0))); go_upto_region 28 with (first | (go_at_call 7; (with_reducible refine (impl_ContentsText.calls _ _ l0 t150 t151 _ ?side1 ?side2 A43.out).mono ?_); (case side1 => repeat (first | exact (Kd.C_below HR0.out HB.out) | (with_reducible refine Kd.C_alloc ?_ _) | (with_reducible refine Kd.C_drewN ?_ _) | (with_reducible refine Kd.C_drew ?_))); (case side2 => exact HC0.out); rintro e w46 ⟨rfl, hb⟩; have n0_ := Aside0.mk (below_step (by repeat (first | (with_reducible first | exact HB.out | apply below_alloc | apply pw_below_drewN | apply below_drew1) | exact HB.out)) hb); clear HB; have HB := n0_; clear n0_; (try clear hb); (try clear hb2); (try clear hk); (try clear hi)) | (go_at_call 9; (with_reducible refine (impl_ContentsOf.calls k3 t150 t152 _ A44.out).mono ?_); rintro e w47 ⟨v153, rfl, ho0, hb⟩; have n0_ := Aside0.mk (Kd.N_lower (Kd.N_mono (ok' := fun k_ => True) (Kd.S_N (Kd.S_bound ho0)) (fun k_ hk_ => trivial)) (below_size (by repeat (first | (with_reducible first | exact HB.out | apply below_alloc | apply pw_below_drewN | apply below_drew1) | exact HB.out)))); have n1_ := Aside0.mk (below_step (by repeat (first | (with_reducible first | exact HB.out | apply below_alloc | apply pw_below_drewN | apply below_drew1) | exact HB.out)) hb); clear HB; have HO154 := n0_; have HB := n1_; clear n0_ n1_; (try clear hb); (try clear hb2); (try clear hk); (try clear hi); (try clear ho0))))
                      (try simp only [Act.put, List.setIfInBounds_toArray, List.set_cons_zero, List.set_cons_succ])
                      go_cut [110] (fun v110 wc => ∃ (kq : Nat) (x110_44 : Bool), v110 = .bool x110_44 ∧ Aside0 (laws_FnContentsBack.j6 kq l0 t152 x110_44 = some r) ∧ Aside0 (kq ≤ k3) ∧ Aside0 (Kd.N (Kd.slice 9 Kd.string) 26 wc w.heap.size (fun _ => True) v153 t152) ∧ Aside0 (Below w.heap.size w wc))
                      case first =>
                        have H := HC45.out
                        clear HC45
                        by_cases c48 : t151 = (t150.size : Int)
                        · rw [if_pos c48] at H
                          have c48b0 : (t151 == (t150.size : Int)) = true := beq_iff_eq.mpr c48
                          have c48b1 : (t151 != (t150.size : Int)) = false := bne_eq_false_iff_eq.mpr c48
                          clear c48
                          (first | rw [c48b0] | (simp only [i64_w, i32_w]; rw [c48b0]) | skip)
                          have H' := Aside0.mk H
                          clear H
                          obtain ⟨Ao49, co49, eo49⟩ := Kd.N_slice HO154.out
                          subst eo49
                          go_wp2
                          repeat (go_quiet (fail); try go_wp2)
                          go_meet
                          case rel => exact ⟨_, (((t152.length : Int) != (l0.length : Int))), (by first | rfl | (simp; done) | (simp [*]; done)), H', ⟨by have := HJ4.out; have := HJ17.out; have := HK3.out; first | omega | exact Nat.le_refl _⟩, ⟨by (with_reducible repeat (first | apply Kd.N_alloc | apply Kd.N_drewN | apply Kd.N_drew)); exact HO154.out⟩, ⟨by repeat (first | (with_reducible first | exact HB.out | apply below_alloc | apply pw_below_drewN | apply below_drew1) | exact HB.out)⟩⟩
                        · rw [if_neg c48] at H
                          have c48b0 : (t151 == (t150.size : Int)) = false := beq_eq_false_iff_ne.mpr c48
                          have c48b1 : (t151 != (t150.size : Int)) = true := bne_iff_ne.mpr c48
                          (first | rw [c48b0] | (simp only [i64_w, i32_w]; rw [c48b0]) | skip)
                          have H' := Aside0.mk H
                          clear H
                          go_wp2
                          repeat (go_quiet (fail); try go_wp2)
                          go_meet
                          case rel => exact ⟨_, (true), (by first | rfl | (simp; done) | (simp [*]; done)), H', ⟨by have := HJ4.out; have := HJ17.out; have := HK3.out; first | omega | exact Nat.le_refl _⟩, ⟨by (with_reducible repeat (first | apply Kd.N_alloc | apply Kd.N_drewN | apply Kd.N_drew)); exact HO154.out⟩, ⟨by repeat (first | (with_reducible first | exact HB.out | apply below_alloc | apply pw_below_drewN | apply below_drew1) | exact HB.out)⟩⟩
                      case rest =>
                        clear HC45
                        try clear c1
                        try clear p1
                        try clear q1
                        try clear hx1
                        try clear qi1
                        try clear c2
                        try clear p2
                        try clear c3
                        try clear p3
                        try clear q3
                        try clear hx3
                        try clear c4
                        try clear p6
                        try clear c14
                        try clear p14
                        try clear q14
                        try clear hx14
                        try clear qi14
                        try clear c16
                        try clear c16b0
                        try clear c16b1
                        try clear c17
                        try clear c19
                        try clear c19b0
                        try clear c19b1
                        try clear c20
                        try clear c21
                        try clear c21b0
                        try clear c22
                        try clear c22b0
                        try clear c23
                        try clear c23b0
                        try clear c25
                        try clear c25b0
                        try clear c25b1
                        try clear c25b2
                        try clear c26
                        try clear c26b0
                        try clear c26b1
                        try clear c29
                        try clear c30
                        try clear c30b0
                        try clear c31
                        try clear c31b0
                        try clear c32
                        try clear c32b0
                        try clear c33
                        try clear c33b0
                        try clear c34
                        try clear c34b0
                        try clear c35
                        try clear c35b0
                        try clear p36
                        try clear q36
                        try clear hx36
                        try clear c37
                        try clear c37b0
                        try clear c37b1
                        try clear p38
                        try clear q38
                        try clear hx38
                        try clear c39
                        try clear c39b0
                        try clear c39b1
                        try clear c40
                        try clear c40b0
                        try clear c40b1
                        try clear c41
                        try clear c41b0
                        try clear c41b1
                        try clear c42
                        try clear c42b0
                        try clear c42b1
                        try clear c48
                        try clear c48b0
                        try clear c48b1
                        try clear hx146_0
                        try clear hx148_0
                        try clear hx149_0
                        try clear p1
                        try clear p14
                        try clear p146
                        try clear p148
                        try clear p149
                        try clear p2
                        try clear p36
                        try clear p38
                        try clear q1
                        try clear q14
                        try clear q146
                        try clear q148
                        try clear q149
                        try clear q36
                        try clear q38
                        obtain ⟨kq, x110_44, rfl, HA, HJ44, HO_12, HB⟩ := hcut
                        cases kq with
                        | zero => exact absurd HA.out (by simp [laws_FnContentsBack.j6])
                        | succ kj44 =>
                          have H := HA.out
                          clear HA
                          simp only [laws_FnContentsBack.j6] at H
                          by_cases c50 : x110_44 = true
                          · subst c50
                            have H1 : (some false) = some r := by rw [if_pos rfl] at H; exact H
                            clear H
                            have H := H1
                            clear H1
                            obtain rfl := Option.some.inj H
                            go_wp2
                            repeat (go_quiet (fail); try go_wp2)
                            go_ret
                            exact ⟨by first | rfl | (simp [errW_none, errW_some] <;> rfl) | (simp [*, errW_none, errW_some] <;> rfl), by repeat (first | (with_reducible first | exact HB.out | apply below_alloc | apply pw_below_drewN | apply below_drew1) | exact HB.out)⟩
                          · replace c50 := Bool.eq_false_iff.mpr c50
                            subst c50
                            have H1 : (laws_FnContentsBack.l3 kj44 l0 t152 (l0.length : Int) 0) = some r := by rw [if_neg (show ¬ (false = true) by decide)] at H; exact H
                            clear H
                            have H := H1
                            clear H1
                            have H' := Aside0.mk H
                            clear H
                            go_wp2
                            repeat (go_quiet (fail); try go_wp2)
                            go_loopg [113] kj44 (fun kq v113 w' => ∃ (x113_5 : Int), v113 = .int .i64 x113_5 ∧ Aside0 (laws_FnContentsBack.l3 kq l0 t152 (l0.length : Int) x113_5 = some r) ∧ Aside0 (kq ≤ kj44) ∧ Aside0 (Kd.N (Kd.slice 9 Kd.string) 26 w' w.heap.size (fun _ => True) v153 t152) ∧ Aside0 (Below w.heap.size w w'))
                            case atStart => exact ⟨(0), (by first | rfl | (simp; done) | (simp [*]; done)), H', ⟨Nat.le_refl _⟩, ⟨by (with_reducible repeat (first | apply Kd.N_alloc | apply Kd.N_drewN | apply Kd.N_drew)); exact HO_12.out⟩, ⟨by repeat (first | (with_reducible first | exact HB.out | apply below_alloc | apply pw_below_drewN | apply below_drew1) | exact HB.out)⟩⟩
                            case round =>
                              clear H'
                              try clear c1
                              try clear p1
                              try clear q1
                              try clear hx1
                              try clear qi1
                              try clear c2
                              try clear p2
                              try clear c3
                              try clear p3
                              try clear q3
                              try clear hx3
                              try clear c4
                              try clear c5
                              try clear p6
                              try clear c14
                              try clear p14
                              try clear q14
                              try clear hx14
                              try clear qi14
                              try clear c16
                              try clear c16b0
                              try clear c16b1
                              try clear c17
                              try clear c19
                              try clear c19b0
                              try clear c19b1
                              try clear c20
                              try clear c21
                              try clear c21b0
                              try clear c22
                              try clear c22b0
                              try clear c23
                              try clear c23b0
                              try clear c25
                              try clear c25b0
                              try clear c25b1
                              try clear c25b2
                              try clear c26
                              try clear c26b0
                              try clear c26b1
                              try clear c29
                              try clear c30
                              try clear c30b0
                              try clear c31
                              try clear c31b0
                              try clear c32
                              try clear c32b0
                              try clear c33
                              try clear c33b0
                              try clear c34
                              try clear c34b0
                              try clear c35
                              try clear c35b0
                              try clear p36
                              try clear q36
                              try clear hx36
                              try clear c37
                              try clear c37b0
                              try clear c37b1
                              try clear p38
                              try clear q38
                              try clear hx38
                              try clear c39
                              try clear c39b0
                              try clear c39b1
                              try clear c40
                              try clear c40b0
                              try clear c40b1
                              try clear c41
                              try clear c41b0
                              try clear c41b1
                              try clear c42
                              try clear c42b0
                              try clear c42b1
                              try clear c48
                              try clear c48b0
                              try clear c48b1
                              try clear c50
                              try clear hx146_0
                              try clear hx148_0
                              try clear hx149_0
                              try clear p1
                              try clear p14
                              try clear p146
                              try clear p148
                              try clear p149
                              try clear p2
                              try clear p3
                              try clear p36
                              try clear p38
                              try clear p6
                              try clear q1
                              try clear q14
                              try clear q146
                              try clear q148
                              try clear q149
                              try clear q3
                              try clear q36
                              try clear q38
                              obtain ⟨x113_5, rfl, HA, HK5, HO_12, HB⟩ := hrel
                              cases gk with
                              | zero => exact absurd HA.out (by simp [laws_FnContentsBack.l3])
                              | succ k5 =>
                                have H := HA.out
                                clear HA
                                simp only [laws_FnContentsBack.l3] at H
                                by_cases c51 : x113_5 < (l0.length : Int)
                                · rw [if_pos c51] at H
                                  have c51b0 : decide (x113_5 < (l0.length : Int)) = true := decide_eq_true c51
                                  clear c51
                                  by_cases c52 : 0 ≤ x113_5
                                  · rw [if_pos c52] at H
                                    have c52b0 : decide (0 ≤ x113_5) = true := decide_eq_true c52
                                    clear c52
                                    by_cases c53 : x113_5 < (t152.length : Int)
                                    · rw [if_pos c53] at H
                                      have c53b0 : decide (x113_5 < (t152.length : Int)) = true := decide_eq_true c53
                                      clear c53
                                      by_cases c54 : x113_5 < (l0.length : Int)
                                      · rw [if_pos c54] at H
                                        have c54b0 : decide (x113_5 < (l0.length : Int)) = true := decide_eq_true c54
                                        clear c54
                                        replace H := Option.bind_eq_some_iff.mp H
                                        obtain ⟨t157, A550, H⟩ := H
                                        replace H : (if t157 = true then (laws_FnContentsBack.l3 k5 l0 t152 (l0.length : Int) (wrap64 (x113_5 + 1))) else (some false)) = some r := H
                                        have A55 := Aside0.mk A550
                                        clear A550
                                        by_cases c56 : t157 = true
                                        · subst c56
                                          have H1 : (laws_FnContentsBack.l3 k5 l0 t152 (l0.length : Int) (wrap64 (x113_5 + 1))) = some r := by rw [if_pos rfl] at H; exact H
                                          clear H
                                          have H := H1
                                          clear H1
                                          have H' := Aside0.mk H
                                          clear H
                                          obtain ⟨Ao57, co57, eo57⟩ := Kd.N_slice HO_12.out
                                          subst eo57
                                          have p155 : 0 ≤ (x113_5 : Int) := of_decide_eq_true (by first | (with_reducible assumption) | assumption)
                                          have q155 : x113_5 < (t152.length : Int) := of_decide_eq_true (by first | (with_reducible assumption) | assumption)
                                          obtain ⟨ad155, A155_0, c155_0, e155, hx155_0, hl155_0, hi155_0⟩ := at_L1 (Kd.N_reads' HO_12.out).2.2 x113_5 p155 q155
                                          cases e155
                                          obtain ⟨ce155, hce155, hMe155, hcc155⟩ := Kd.N_get HO_12.out [] x113_5 p155 (by first | exact q155 | exact of_decide_eq_true (by first | (with_reducible assumption) | assumption) | (have e_ := (Kd.N_reads' HO_12.out).1; omega))
                                          obtain ⟨ua155_0, uc155_0, rfl, ul155_0, ge155_0⟩ := Kd.FK_slice_open hMe155
                                          have hv155_0 := hcc155 0 _ rfl
                                          rw [Nat.add_zero, show ((Kd.slice 9 Kd.string)).sz = 1 from rfl, Nat.mul_one] at hv155_0
                                          replace hv155_0 := Option.some.inj (hv155_0.symm.trans hx155_0)
                                          injection hv155_0 with hva_ hvn_ hvc_
                                          rw [hva_] at ge155_0
                                          rw [hvc_] at ul155_0
                                          have HL155_0 := Aside0.mk (show Kd.V Kd.string 9 _ w.heap.size _ _ (rd_L1 t152 x113_5) from Kd.V_mk ul155_0 ge155_0)
                                          clear hva_ hvn_ hvc_ ge155_0 ul155_0
                                          clear hcc155 hce155
                                          have HR155_0 := Aside0.mk hi155_0
                                          have HC155_0 := Aside0.mk hl155_0
                                          clear hi155_0 hl155_0
                                          replace p155 := eq_true p155
                                          replace q155 := eq_true q155
                                          have p156 : 0 ≤ (x113_5 : Int) := of_decide_eq_true (by first | (with_reducible assumption) | assumption)
                                          have q156 : x113_5 < (l0.length : Int) := of_decide_eq_true (by first | (with_reducible assumption) | assumption)
                                          obtain ⟨ad156, A156_0, c156_0, e156, hx156_0, hl156_0, hi156_0⟩ := at_L1 HR0.out x113_5 p156 q156
                                          cases e156
                                          first | (replace hx156_0 := (HB.out.cell (World.block_lt_of_cell? w _ hx156_0)).trans hx156_0) | skip
                                          have HR156_0 := Aside0.mk hi156_0
                                          have HC156_0 := Aside0.mk hl156_0
                                          clear hi156_0 hl156_0
                                          replace p156 := eq_true p156
                                          replace q156 := eq_true q156
                                          go_wp2_with (first | (go_at_call 10; (with_reducible refine (laws_sameTexts.calls k5 _ _ (rd_L1 t152 x113_5) _ _ (rd_L1 l0 x113_5) true _ ?side1 ?side2 ?side3 ?side4 A55.out).mono ?_); (case side1 => repeat (first | exact (by repeat (first | (with_reducible exact HR155_0.out) | (with_reducible refine Kd.C_alloc ?_ _) | (with_reducible refine Kd.C_drewN ?_ _) | (with_reducible refine Kd.C_drew ?_) | exact HR155_0.out)) | (with_reducible refine Kd.C_alloc ?_ _) | (with_reducible refine Kd.C_drewN ?_ _) | (with_reducible refine Kd.C_drew ?_))); (case side2 => exact HC155_0.out); (case side3 => repeat (first | exact (Kd.C_below HR156_0.out HB.out) | (with_reducible refine Kd.C_alloc ?_ _) | (with_reducible refine Kd.C_drewN ?_ _) | (with_reducible refine Kd.C_drew ?_))); (case side4 => exact HC156_0.out); rintro e w' ⟨rfl, ⟨nd, rfl⟩⟩; (try first | exact ⟨rfl, _, World.drewN_drewN _ _ _⟩ | exact ⟨rfl, _, Eq.trans (World.drewN_drewN _ _ _) (congrArg (World.drewN _) (Nat.add_assoc _ _ _))⟩)))
                                          repeat (go_quiet (first | (go_at_call 10; (with_reducible refine (laws_sameTexts.calls k5 _ _ (rd_L1 t152 x113_5) _ _ (rd_L1 l0 x113_5) true _ ?side1 ?side2 ?side3 ?side4 A55.out).mono ?_); (case side1 => repeat (first | exact (by repeat (first | (with_reducible exact HR155_0.out) | (with_reducible refine Kd.C_alloc ?_ _) | (with_reducible refine Kd.C_drewN ?_ _) | (with_reducible refine Kd.C_drew ?_) | exact HR155_0.out)) | (with_reducible refine Kd.C_alloc ?_ _) | (with_reducible refine Kd.C_drewN ?_ _) | (with_reducible refine Kd.C_drew ?_))); (case side2 => exact HC155_0.out); (case side3 => repeat (first | exact (Kd.C_below HR156_0.out HB.out) | (with_reducible refine Kd.C_alloc ?_ _) | (with_reducible refine Kd.C_drewN ?_ _) | (with_reducible refine Kd.C_drew ?_))); (case side4 => exact HC156_0.out); rintro e w' ⟨rfl, ⟨nd, rfl⟩⟩; (try first | exact ⟨rfl, _, World.drewN_drewN _ _ _⟩ | exact ⟨rfl, _, Eq.trans (World.drewN_drewN _ _ _) (congrArg (World.drewN _) (Nat.add_assoc _ _ _))⟩))); try go_wp2_with (first | (go_at_call 10; (with_reducible refine (laws_sameTexts.calls k5 _ _ (rd_L1 t152 x113_5) _ _ (rd_L1 l0 x113_5) true _ ?side1 ?side2 ?side3 ?side4 A55.out).mono ?_); (case side1 => repeat (first | exact (by repeat (first | (with_reducible exact HR155_0.out) | (with_reducible refine Kd.C_alloc ?_ _) | (with_reducible refine Kd.C_drewN ?_ _) | (with_reducible refine Kd.C_drew ?_) | exact HR155_0.out)) | (with_reducible refine Kd.C_alloc ?_ _) | (with_reducible refine Kd.C_drewN ?_ _) | (with_reducible refine Kd.C_drew ?_))); (case side2 => exact HC155_0.out); (case side3 => repeat (first | exact (Kd.C_below HR156_0.out HB.out) | (with_reducible refine Kd.C_alloc ?_ _) | (with_reducible refine Kd.C_drewN ?_ _) | (with_reducible refine Kd.C_drew ?_))); (case side4 => exact HC156_0.out); rintro e w' ⟨rfl, ⟨nd, rfl⟩⟩; (try first | exact ⟨rfl, _, World.drewN_drewN _ _ _⟩ | exact ⟨rfl, _, Eq.trans (World.drewN_drewN _ _ _) (congrArg (World.drewN _) (Nat.add_assoc _ _ _))⟩))))
                                          go_roundg k5
                                          case measure => have := HJ4.out; have := HJ17.out; have := HK3.out; have := HJ44.out; have := HK5.out; omega
                                          case rel => exact ⟨(wrap64 (x113_5 + 1)), (by first | rfl | (simp; done) | (simp [*]; done)), H', ⟨by have := HJ4.out; have := HJ17.out; have := HK3.out; have := HJ44.out; have := HK5.out; omega⟩, ⟨by (with_reducible repeat (first | apply Kd.N_alloc | apply Kd.N_drewN | apply Kd.N_drew)); exact HO_12.out⟩, ⟨by repeat (first | (with_reducible first | exact HB.out | apply below_alloc | apply pw_below_drewN | apply below_drew1) | exact HB.out)⟩⟩
                                        · replace c56 := Bool.eq_false_iff.mpr c56
                                          subst c56
                                          have H1 : (some false) = some r := by rw [if_neg (show ¬ (false = true) by decide)] at H; exact H
                                          clear H
                                          have H := H1
                                          clear H1
                                          obtain rfl := Option.some.inj H
                                          obtain ⟨Ao58, co58, eo58⟩ := Kd.N_slice HO_12.out
                                          subst eo58
                                          have p155 : 0 ≤ (x113_5 : Int) := of_decide_eq_true (by first | (with_reducible assumption) | assumption)
                                          have q155 : x113_5 < (t152.length : Int) := of_decide_eq_true (by first | (with_reducible assumption) | assumption)
                                          obtain ⟨ad155, A155_0, c155_0, e155, hx155_0, hl155_0, hi155_0⟩ := at_L1 (Kd.N_reads' HO_12.out).2.2 x113_5 p155 q155
                                          cases e155
                                          obtain ⟨ce155, hce155, hMe155, hcc155⟩ := Kd.N_get HO_12.out [] x113_5 p155 (by first | exact q155 | exact of_decide_eq_true (by first | (with_reducible assumption) | assumption) | (have e_ := (Kd.N_reads' HO_12.out).1; omega))
                                          obtain ⟨ua155_0, uc155_0, rfl, ul155_0, ge155_0⟩ := Kd.FK_slice_open hMe155
                                          have hv155_0 := hcc155 0 _ rfl
                                          rw [Nat.add_zero, show ((Kd.slice 9 Kd.string)).sz = 1 from rfl, Nat.mul_one] at hv155_0
                                          replace hv155_0 := Option.some.inj (hv155_0.symm.trans hx155_0)
                                          injection hv155_0 with hva_ hvn_ hvc_
                                          rw [hva_] at ge155_0
                                          rw [hvc_] at ul155_0
                                          have HL155_0 := Aside0.mk (show Kd.V Kd.string 9 _ w.heap.size _ _ (rd_L1 t152 x113_5) from Kd.V_mk ul155_0 ge155_0)
                                          clear hva_ hvn_ hvc_ ge155_0 ul155_0
                                          clear hcc155 hce155
                                          have HR155_0 := Aside0.mk hi155_0
                                          have HC155_0 := Aside0.mk hl155_0
                                          clear hi155_0 hl155_0
                                          replace p155 := eq_true p155
                                          replace q155 := eq_true q155
                                          have p156 : 0 ≤ (x113_5 : Int) := of_decide_eq_true (by first | (with_reducible assumption) | assumption)
                                          have q156 : x113_5 < (l0.length : Int) := of_decide_eq_true (by first | (with_reducible assumption) | assumption)
                                          obtain ⟨ad156, A156_0, c156_0, e156, hx156_0, hl156_0, hi156_0⟩ := at_L1 HR0.out x113_5 p156 q156
                                          cases e156
                                          first | (replace hx156_0 := (HB.out.cell (World.block_lt_of_cell? w _ hx156_0)).trans hx156_0) | skip
                                          have HR156_0 := Aside0.mk hi156_0
                                          have HC156_0 := Aside0.mk hl156_0
                                          clear hi156_0 hl156_0
                                          replace p156 := eq_true p156
                                          replace q156 := eq_true q156
                                          go_wp2_with (first | (go_at_call 10; (with_reducible refine (laws_sameTexts.calls k5 _ _ (rd_L1 t152 x113_5) _ _ (rd_L1 l0 x113_5) false _ ?side1 ?side2 ?side3 ?side4 A55.out).mono ?_); (case side1 => repeat (first | exact (by repeat (first | (with_reducible exact HR155_0.out) | (with_reducible refine Kd.C_alloc ?_ _) | (with_reducible refine Kd.C_drewN ?_ _) | (with_reducible refine Kd.C_drew ?_) | exact HR155_0.out)) | (with_reducible refine Kd.C_alloc ?_ _) | (with_reducible refine Kd.C_drewN ?_ _) | (with_reducible refine Kd.C_drew ?_))); (case side2 => exact HC155_0.out); (case side3 => repeat (first | exact (Kd.C_below HR156_0.out HB.out) | (with_reducible refine Kd.C_alloc ?_ _) | (with_reducible refine Kd.C_drewN ?_ _) | (with_reducible refine Kd.C_drew ?_))); (case side4 => exact HC156_0.out); rintro e w' ⟨rfl, ⟨nd, rfl⟩⟩; (try first | exact ⟨rfl, _, World.drewN_drewN _ _ _⟩ | exact ⟨rfl, _, Eq.trans (World.drewN_drewN _ _ _) (congrArg (World.drewN _) (Nat.add_assoc _ _ _))⟩)))
                                          repeat (go_quiet (first | (go_at_call 10; (with_reducible refine (laws_sameTexts.calls k5 _ _ (rd_L1 t152 x113_5) _ _ (rd_L1 l0 x113_5) false _ ?side1 ?side2 ?side3 ?side4 A55.out).mono ?_); (case side1 => repeat (first | exact (by repeat (first | (with_reducible exact HR155_0.out) | (with_reducible refine Kd.C_alloc ?_ _) | (with_reducible refine Kd.C_drewN ?_ _) | (with_reducible refine Kd.C_drew ?_) | exact HR155_0.out)) | (with_reducible refine Kd.C_alloc ?_ _) | (with_reducible refine Kd.C_drewN ?_ _) | (with_reducible refine Kd.C_drew ?_))); (case side2 => exact HC155_0.out); (case side3 => repeat (first | exact (Kd.C_below HR156_0.out HB.out) | (with_reducible refine Kd.C_alloc ?_ _) | (with_reducible refine Kd.C_drewN ?_ _) | (with_reducible refine Kd.C_drew ?_))); (case side4 => exact HC156_0.out); rintro e w' ⟨rfl, ⟨nd, rfl⟩⟩; (try first | exact ⟨rfl, _, World.drewN_drewN _ _ _⟩ | exact ⟨rfl, _, Eq.trans (World.drewN_drewN _ _ _) (congrArg (World.drewN _) (Nat.add_assoc _ _ _))⟩))); try go_wp2_with (first | (go_at_call 10; (with_reducible refine (laws_sameTexts.calls k5 _ _ (rd_L1 t152 x113_5) _ _ (rd_L1 l0 x113_5) false _ ?side1 ?side2 ?side3 ?side4 A55.out).mono ?_); (case side1 => repeat (first | exact (by repeat (first | (with_reducible exact HR155_0.out) | (with_reducible refine Kd.C_alloc ?_ _) | (with_reducible refine Kd.C_drewN ?_ _) | (with_reducible refine Kd.C_drew ?_) | exact HR155_0.out)) | (with_reducible refine Kd.C_alloc ?_ _) | (with_reducible refine Kd.C_drewN ?_ _) | (with_reducible refine Kd.C_drew ?_))); (case side2 => exact HC155_0.out); (case side3 => repeat (first | exact (Kd.C_below HR156_0.out HB.out) | (with_reducible refine Kd.C_alloc ?_ _) | (with_reducible refine Kd.C_drewN ?_ _) | (with_reducible refine Kd.C_drew ?_))); (case side4 => exact HC156_0.out); rintro e w' ⟨rfl, ⟨nd, rfl⟩⟩; (try first | exact ⟨rfl, _, World.drewN_drewN _ _ _⟩ | exact ⟨rfl, _, Eq.trans (World.drewN_drewN _ _ _) (congrArg (World.drewN _) (Nat.add_assoc _ _ _))⟩))))
                                          go_ret
                                          exact ⟨by first | rfl | (simp [errW_none, errW_some] <;> rfl) | (simp [*, errW_none, errW_some] <;> rfl), by repeat (first | (with_reducible first | exact HB.out | apply below_alloc | apply pw_below_drewN | apply below_drew1) | exact HB.out)⟩
                                      · rw [if_neg c54] at H
                                        exact absurd H (by simp)
                                    · rw [if_neg c53] at H
                                      exact absurd H (by simp)
                                  · rw [if_neg c52] at H
                                    exact absurd H (by simp)
                                · rw [if_neg c51] at H
                                  have c51b0 : decide (x113_5 < (l0.length : Int)) = false := decide_eq_false c51
                                  clear c51
                                  obtain rfl := Option.some.inj H
                                  go_wp2
                                  repeat (go_quiet (fail); try go_wp2)
                                  go_ret
                                  exact ⟨by first | rfl | (simp [errW_none, errW_some] <;> rfl) | (simp [*, errW_none, errW_some] <;> rfl), by repeat (first | (with_reducible first | exact HB.out | apply below_alloc | apply pw_below_drewN | apply below_drew1) | exact HB.out)⟩
  · replace c3 := Bool.eq_false_iff.mpr c3
    subst c3
    have H1 : (some true) = some r := by rw [if_neg (show ¬ (false = true) by decide)] at H; exact H
    clear H
    have H := H1
    clear H1
    obtain rfl := Option.some.inj H
    go_enter Try.func3, Try.ntmps3
    go_wp2_with (first | (go_at_call 6; (with_reducible refine (laws_zzFits9.calls k _ _ l0 false _ ?side1 ?side2 A2.out).mono ?_); (case side1 => repeat (first | exact HR0.out | (with_reducible refine Kd.C_alloc ?_ _) | (with_reducible refine Kd.C_drewN ?_ _) | (with_reducible refine Kd.C_drew ?_))); (case side2 => exact HC0.out); rintro e w' ⟨rfl, ⟨nd, rfl⟩⟩; (try first | exact ⟨rfl, _, World.drewN_drewN _ _ _⟩ | exact ⟨rfl, _, Eq.trans (World.drewN_drewN _ _ _) (congrArg (World.drewN _) (Nat.add_assoc _ _ _))⟩)))
    repeat (go_quiet (first | (go_at_call 6; (with_reducible refine (laws_zzFits9.calls k _ _ l0 false _ ?side1 ?side2 A2.out).mono ?_); (case side1 => repeat (first | exact HR0.out | (with_reducible refine Kd.C_alloc ?_ _) | (with_reducible refine Kd.C_drewN ?_ _) | (with_reducible refine Kd.C_drew ?_))); (case side2 => exact HC0.out); rintro e w' ⟨rfl, ⟨nd, rfl⟩⟩; (try first | exact ⟨rfl, _, World.drewN_drewN _ _ _⟩ | exact ⟨rfl, _, Eq.trans (World.drewN_drewN _ _ _) (congrArg (World.drewN _) (Nat.add_assoc _ _ _))⟩))); try go_wp2_with (first | (go_at_call 6; (with_reducible refine (laws_zzFits9.calls k _ _ l0 false _ ?side1 ?side2 A2.out).mono ?_); (case side1 => repeat (first | exact HR0.out | (with_reducible refine Kd.C_alloc ?_ _) | (with_reducible refine Kd.C_drewN ?_ _) | (with_reducible refine Kd.C_drew ?_))); (case side2 => exact HC0.out); rintro e w' ⟨rfl, ⟨nd, rfl⟩⟩; (try first | exact ⟨rfl, _, World.drewN_drewN _ _ _⟩ | exact ⟨rfl, _, Eq.trans (World.drewN_drewN _ _ _) (congrArg (World.drewN _) (Nat.add_assoc _ _ _))⟩))))
    go_ret
    exact ⟨by first | rfl | (simp [errW_none, errW_some] <;> rfl) | (simp [*, errW_none, errW_some] <;> rfl), by repeat (first | (with_reducible first | exact HB.out | apply below_alloc | apply pw_below_drewN | apply below_drew1) | exact HB.out)⟩

end Go.Proofs.Ythecfligfhpccaa.P
