-- PRINTED by print.py (a twelfth state) out of the translation. Not trusted: Lean checks it.
import Derived.Test.YthecfligfhpccaaP0
import Derived.Test.YthecfligfhpccaaP6
import Derived.Test.YthecfligfhpccaaP8
import Derived.Test.YthecfligfhpccaaP12
import Derived.Test.YthecfligfhpccaaP13
import Derived.Test.YthecfligfhpccaaP15
import Derived.Test.YthecfligfhpccaaEFilS
import Derived.Test.YthecfligfhpccaaEHeads
namespace Go.Proofs.Ythecfligfhpccaa.P
open Go.RowKit Go.Proofs.YthecfligfhpccaaW.PrintWords Go.Proofs.YthecfligfhpccaaW.PrintLast Go.Proofs.YthecfligfhpccaaW.PrintMore
attribute [local go_sem] max2_int min2_int max_two min_two max_three min_three max_four min_four   -- for this text's walks alone
set_option linter.unusedVariables false
set_option linter.unusedSimpArgs false

/-! ### laws_FnFilterText: function 4 -/
mutual
def laws_FnFilterText.l0 : Nat → List (List ByteArray) → List (List ByteArray) → Int → Int → Option (Bool)
  | 0, _, _, _, _ => none
  | k + 1, x0, x26, x27, x28 => if x28 < x27 then (if 0 ≤ x28 then (if x28 < (x26.length : Int) then (if ((rd_L1 x26 x28).length : Int) > 8 then (laws_FnFilterText.j1 k x0 (rd_L1 x26 x28) x26 x27 x28 true) else ((laws_clean.f k 40 (rd_L1 x26 x28)).bind fun t188 => (laws_FnFilterText.j1 k x0 (rd_L1 x26 x28) x26 x27 x28 (!t188)))) else (none)) else (none)) else (laws_FnFilterText.l2 k x0 (x0.length : Int) 0)
def laws_FnFilterText.j1 : Nat → List (List ByteArray) → List ByteArray → List (List ByteArray) → Int → Int → Bool → Option (Bool)
  | 0, _, _, _, _, _, _ => none
  | k + 1, x0, x4, x26, x27, x28, x39 => if x39 = true then (some true) else (laws_FnFilterText.l1 k x0 x26 x27 x28 x4 (x4.length : Int) 0)
def laws_FnFilterText.l1 : Nat → List (List ByteArray) → List (List ByteArray) → Int → Int → List ByteArray → Int → Int → Option (Bool)
  | 0, _, _, _, _, _, _, _ => none
  | k + 1, x0, x26, x27, x28, x40, x41, x42 => if x42 < x41 then (if 0 ≤ x42 then (if x42 < (x40.length : Int) then ((laws_signs.f k (rdOf ByteArray.empty x40 x42)).bind fun bt190 => (if (bt190.1.length : Int) = 0 then (some true) else ((laws_plainOwn.f k (rdOf ByteArray.empty x40 x42) ([] : List ByteArray) ([] : List ByteArray) (⟨#[120]⟩ : ByteArray)).bind fun t194 => (if t194 = true then (laws_FnFilterText.l1 k x0 x26 x27 x28 x40 x41 (wrap64 (x42 + 1))) else (some true))))) else (none)) else (none)) else (laws_FnFilterText.l0 k x0 x26 x27 (wrap64 (x28 + 1)))
def laws_FnFilterText.l2 : Nat → List (List ByteArray) → Int → Int → Option (Bool)
  | 0, _, _, _ => none
  | k + 1, x0, x63, x64 => if x64 < x63 then (laws_FnFilterText.l3 k x0 x64 x63 x64 (x0.length : Int) 0) else ((impl_FilterText.f x0).bind fun t198 => (laws_FnFilterText.l4 k t198 x0 (x0.length : Int) 0))
def laws_FnFilterText.l3 : Nat → List (List ByteArray) → Int → Int → Int → Int → Int → Option (Bool)
  | 0, _, _, _, _, _, _ => none
  | k + 1, x0, x9, x63, x64, x68, x69 => if x69 < x68 then (if x9 = x69 then (laws_FnFilterText.l3 k x0 x9 x63 x64 x68 (wrap64 (x69 + 1))) else (if 0 ≤ x9 then (if x9 < (x0.length : Int) then (if 0 ≤ x69 then (if x69 < (x0.length : Int) then ((laws_heads.f k (rd_L1 x0 x9) (rd_L1 x0 x69)).bind fun t197 => (if t197 = true then (some true) else (laws_FnFilterText.l3 k x0 x9 x63 x64 x68 (wrap64 (x69 + 1))))) else (none)) else (none)) else (none)) else (none))) else (laws_FnFilterText.l2 k x0 x63 (wrap64 (x64 + 1)))
def laws_FnFilterText.l4 : Nat → ByteArray → List (List ByteArray) → Int → Int → Option (Bool)
  | 0, _, _, _, _ => none
  | k + 1, x11, x90, x91, x92 => if x92 < x91 then (if 0 ≤ x92 then (if x92 < (x90.length : Int) then (laws_FnFilterText.l5 k x11 x90 x91 x92 (rd_L1 x90 x92) ((rd_L1 x90 x92).length : Int) 0) else (none)) else (none)) else (some true)
def laws_FnFilterText.l5 : Nat → ByteArray → List (List ByteArray) → Int → Int → List ByteArray → Int → Int → Option (Bool)
  | 0, _, _, _, _, _, _, _ => none
  | k + 1, x11, x90, x91, x92, x96, x97, x98 => if x98 < x97 then (if 0 ≤ x98 then (if x98 < (x96.length : Int) then ((laws_stands.f k x11 (rdOf ByteArray.empty x96 x98)).bind fun t201 => (if t201 = true then (laws_FnFilterText.l5 k x11 x90 x91 x92 x96 x97 (wrap64 (x98 + 1))) else (some false))) else (none)) else (none)) else (laws_FnFilterText.l4 k x11 x90 x91 (wrap64 (x92 + 1)))
end
def laws_FnFilterText.f (k : Nat) (l0 : List (List ByteArray)) : Option (Bool) := (laws_zzFits9.f k l0).bind fun t179 => (if t179 = true then ((impl_FilterText.f (([(([(⟨#[97]⟩ : ByteArray)] : List ByteArray))] : List (List ByteArray)))).bind fun t186 => (if t186.toList = ([] : List UInt8) then (some false) else (if (l0.length : Int) > 8 then (some true) else (laws_FnFilterText.l0 k l0 l0 (l0.length : Int) 0)))) else (some true))
theorem laws_FnFilterText.mono_l : ∀ k, (∀ y0 y1 y2 y3, LeO (laws_FnFilterText.l0 k y0 y1 y2 y3) (laws_FnFilterText.l0 (k + 1) y0 y1 y2 y3)) ∧ (∀ y0 y1 y2 y3 y4 y5, LeO (laws_FnFilterText.j1 k y0 y1 y2 y3 y4 y5) (laws_FnFilterText.j1 (k + 1) y0 y1 y2 y3 y4 y5)) ∧ (∀ y0 y1 y2 y3 y4 y5 y6, LeO (laws_FnFilterText.l1 k y0 y1 y2 y3 y4 y5 y6) (laws_FnFilterText.l1 (k + 1) y0 y1 y2 y3 y4 y5 y6)) ∧ (∀ y0 y1 y2, LeO (laws_FnFilterText.l2 k y0 y1 y2) (laws_FnFilterText.l2 (k + 1) y0 y1 y2)) ∧ (∀ y0 y1 y2 y3 y4 y5, LeO (laws_FnFilterText.l3 k y0 y1 y2 y3 y4 y5) (laws_FnFilterText.l3 (k + 1) y0 y1 y2 y3 y4 y5)) ∧ (∀ y0 y1 y2 y3, LeO (laws_FnFilterText.l4 k y0 y1 y2 y3) (laws_FnFilterText.l4 (k + 1) y0 y1 y2 y3)) ∧ (∀ y0 y1 y2 y3 y4 y5 y6, LeO (laws_FnFilterText.l5 k y0 y1 y2 y3 y4 y5 y6) (laws_FnFilterText.l5 (k + 1) y0 y1 y2 y3 y4 y5 y6))
  | 0 => ⟨fun _ _ _ _ r h => by simp [laws_FnFilterText.l0] at h, fun _ _ _ _ _ _ r h => by simp [laws_FnFilterText.j1] at h, fun _ _ _ _ _ _ _ r h => by simp [laws_FnFilterText.l1] at h, fun _ _ _ r h => by simp [laws_FnFilterText.l2] at h, fun _ _ _ _ _ _ r h => by simp [laws_FnFilterText.l3] at h, fun _ _ _ _ r h => by simp [laws_FnFilterText.l4] at h, fun _ _ _ _ _ _ _ r h => by simp [laws_FnFilterText.l5] at h⟩
  | k + 1 => by
    obtain ⟨ih0, ih1, ih2, ih3, ih4, ih5, ih6⟩ := laws_FnFilterText.mono_l k
    refine ⟨?_, ?_, ?_, ?_, ?_, ?_, ?_⟩
    · intro y0 y1 y2 y3
      unfold laws_FnFilterText.l0
      repeat' first
      | (with_reducible exact ih0 _ _ _ _)
      | (with_reducible exact ih1 _ _ _ _ _ _)
      | (with_reducible exact ih2 _ _ _ _ _ _ _)
      | (with_reducible exact ih3 _ _ _)
      | (with_reducible exact ih4 _ _ _ _ _ _)
      | (with_reducible exact ih5 _ _ _ _)
      | (with_reducible exact ih6 _ _ _ _ _ _ _)
      | (with_reducible exact laws_clean.mono _ _ _)
      | (with_reducible exact laws_heads.mono _ _ _)
      | (with_reducible exact laws_plainOwn.mono _ _ _ _ _)
      | (with_reducible exact laws_signs.mono _ _)
      | (with_reducible exact laws_stands.mono _ _ _)
      | (with_reducible exact laws_zzFits9.mono _ _)
      | (with_reducible exact LeO.refl _)
      | (with_reducible exact LeO.none _)
      | (with_reducible refine LeO.ite ?_ ?_)
      | (with_reducible refine LeO.bind ?_ (fun _ => ?_))
      | exact ih0 _ _ _ _
      | exact ih1 _ _ _ _ _ _
      | exact ih2 _ _ _ _ _ _ _
      | exact ih3 _ _ _
      | exact ih4 _ _ _ _ _ _
      | exact ih5 _ _ _ _
      | exact ih6 _ _ _ _ _ _ _
      | exact laws_clean.mono _ _ _
      | exact laws_heads.mono _ _ _
      | exact laws_plainOwn.mono _ _ _ _ _
      | exact laws_signs.mono _ _
      | exact laws_stands.mono _ _ _
      | exact laws_zzFits9.mono _ _
      | exact LeO.none _
      | refine LeO.ite ?_ ?_
      | refine LeO.bind ?_ (fun _ => ?_)
    · intro y0 y1 y2 y3 y4 y5
      unfold laws_FnFilterText.j1
      repeat' first
      | (with_reducible exact ih0 _ _ _ _)
      | (with_reducible exact ih1 _ _ _ _ _ _)
      | (with_reducible exact ih2 _ _ _ _ _ _ _)
      | (with_reducible exact ih3 _ _ _)
      | (with_reducible exact ih4 _ _ _ _ _ _)
      | (with_reducible exact ih5 _ _ _ _)
      | (with_reducible exact ih6 _ _ _ _ _ _ _)
      | (with_reducible exact laws_clean.mono _ _ _)
      | (with_reducible exact laws_heads.mono _ _ _)
      | (with_reducible exact laws_plainOwn.mono _ _ _ _ _)
      | (with_reducible exact laws_signs.mono _ _)
      | (with_reducible exact laws_stands.mono _ _ _)
      | (with_reducible exact laws_zzFits9.mono _ _)
      | (with_reducible exact LeO.refl _)
      | (with_reducible exact LeO.none _)
      | (with_reducible refine LeO.ite ?_ ?_)
      | (with_reducible refine LeO.bind ?_ (fun _ => ?_))
      | exact ih0 _ _ _ _
      | exact ih1 _ _ _ _ _ _
      | exact ih2 _ _ _ _ _ _ _
      | exact ih3 _ _ _
      | exact ih4 _ _ _ _ _ _
      | exact ih5 _ _ _ _
      | exact ih6 _ _ _ _ _ _ _
      | exact laws_clean.mono _ _ _
      | exact laws_heads.mono _ _ _
      | exact laws_plainOwn.mono _ _ _ _ _
      | exact laws_signs.mono _ _
      | exact laws_stands.mono _ _ _
      | exact laws_zzFits9.mono _ _
      | exact LeO.none _
      | refine LeO.ite ?_ ?_
      | refine LeO.bind ?_ (fun _ => ?_)
    · intro y0 y1 y2 y3 y4 y5 y6
      unfold laws_FnFilterText.l1
      repeat' first
      | (with_reducible exact ih0 _ _ _ _)
      | (with_reducible exact ih1 _ _ _ _ _ _)
      | (with_reducible exact ih2 _ _ _ _ _ _ _)
      | (with_reducible exact ih3 _ _ _)
      | (with_reducible exact ih4 _ _ _ _ _ _)
      | (with_reducible exact ih5 _ _ _ _)
      | (with_reducible exact ih6 _ _ _ _ _ _ _)
      | (with_reducible exact laws_clean.mono _ _ _)
      | (with_reducible exact laws_heads.mono _ _ _)
      | (with_reducible exact laws_plainOwn.mono _ _ _ _ _)
      | (with_reducible exact laws_signs.mono _ _)
      | (with_reducible exact laws_stands.mono _ _ _)
      | (with_reducible exact laws_zzFits9.mono _ _)
      | (with_reducible exact LeO.refl _)
      | (with_reducible exact LeO.none _)
      | (with_reducible refine LeO.ite ?_ ?_)
      | (with_reducible refine LeO.bind ?_ (fun _ => ?_))
      | exact ih0 _ _ _ _
      | exact ih1 _ _ _ _ _ _
      | exact ih2 _ _ _ _ _ _ _
      | exact ih3 _ _ _
      | exact ih4 _ _ _ _ _ _
      | exact ih5 _ _ _ _
      | exact ih6 _ _ _ _ _ _ _
      | exact laws_clean.mono _ _ _
      | exact laws_heads.mono _ _ _
      | exact laws_plainOwn.mono _ _ _ _ _
      | exact laws_signs.mono _ _
      | exact laws_stands.mono _ _ _
      | exact laws_zzFits9.mono _ _
      | exact LeO.none _
      | refine LeO.ite ?_ ?_
      | refine LeO.bind ?_ (fun _ => ?_)
    · intro y0 y1 y2
      unfold laws_FnFilterText.l2
      repeat' first
      | (with_reducible exact ih0 _ _ _ _)
      | (with_reducible exact ih1 _ _ _ _ _ _)
      | (with_reducible exact ih2 _ _ _ _ _ _ _)
      | (with_reducible exact ih3 _ _ _)
      | (with_reducible exact ih4 _ _ _ _ _ _)
      | (with_reducible exact ih5 _ _ _ _)
      | (with_reducible exact ih6 _ _ _ _ _ _ _)
      | (with_reducible exact laws_clean.mono _ _ _)
      | (with_reducible exact laws_heads.mono _ _ _)
      | (with_reducible exact laws_plainOwn.mono _ _ _ _ _)
      | (with_reducible exact laws_signs.mono _ _)
      | (with_reducible exact laws_stands.mono _ _ _)
      | (with_reducible exact laws_zzFits9.mono _ _)
      | (with_reducible exact LeO.refl _)
      | (with_reducible exact LeO.none _)
      | (with_reducible refine LeO.ite ?_ ?_)
      | (with_reducible refine LeO.bind ?_ (fun _ => ?_))
      | exact ih0 _ _ _ _
      | exact ih1 _ _ _ _ _ _
      | exact ih2 _ _ _ _ _ _ _
      | exact ih3 _ _ _
      | exact ih4 _ _ _ _ _ _
      | exact ih5 _ _ _ _
      | exact ih6 _ _ _ _ _ _ _
      | exact laws_clean.mono _ _ _
      | exact laws_heads.mono _ _ _
      | exact laws_plainOwn.mono _ _ _ _ _
      | exact laws_signs.mono _ _
      | exact laws_stands.mono _ _ _
      | exact laws_zzFits9.mono _ _
      | exact LeO.none _
      | refine LeO.ite ?_ ?_
      | refine LeO.bind ?_ (fun _ => ?_)
    · intro y0 y1 y2 y3 y4 y5
      unfold laws_FnFilterText.l3
      repeat' first
      | (with_reducible exact ih0 _ _ _ _)
      | (with_reducible exact ih1 _ _ _ _ _ _)
      | (with_reducible exact ih2 _ _ _ _ _ _ _)
      | (with_reducible exact ih3 _ _ _)
      | (with_reducible exact ih4 _ _ _ _ _ _)
      | (with_reducible exact ih5 _ _ _ _)
      | (with_reducible exact ih6 _ _ _ _ _ _ _)
      | (with_reducible exact laws_clean.mono _ _ _)
      | (with_reducible exact laws_heads.mono _ _ _)
      | (with_reducible exact laws_plainOwn.mono _ _ _ _ _)
      | (with_reducible exact laws_signs.mono _ _)
      | (with_reducible exact laws_stands.mono _ _ _)
      | (with_reducible exact laws_zzFits9.mono _ _)
      | (with_reducible exact LeO.refl _)
      | (with_reducible exact LeO.none _)
      | (with_reducible refine LeO.ite ?_ ?_)
      | (with_reducible refine LeO.bind ?_ (fun _ => ?_))
      | exact ih0 _ _ _ _
      | exact ih1 _ _ _ _ _ _
      | exact ih2 _ _ _ _ _ _ _
      | exact ih3 _ _ _
      | exact ih4 _ _ _ _ _ _
      | exact ih5 _ _ _ _
      | exact ih6 _ _ _ _ _ _ _
      | exact laws_clean.mono _ _ _
      | exact laws_heads.mono _ _ _
      | exact laws_plainOwn.mono _ _ _ _ _
      | exact laws_signs.mono _ _
      | exact laws_stands.mono _ _ _
      | exact laws_zzFits9.mono _ _
      | exact LeO.none _
      | refine LeO.ite ?_ ?_
      | refine LeO.bind ?_ (fun _ => ?_)
    · intro y0 y1 y2 y3
      unfold laws_FnFilterText.l4
      repeat' first
      | (with_reducible exact ih0 _ _ _ _)
      | (with_reducible exact ih1 _ _ _ _ _ _)
      | (with_reducible exact ih2 _ _ _ _ _ _ _)
      | (with_reducible exact ih3 _ _ _)
      | (with_reducible exact ih4 _ _ _ _ _ _)
      | (with_reducible exact ih5 _ _ _ _)
      | (with_reducible exact ih6 _ _ _ _ _ _ _)
      | (with_reducible exact laws_clean.mono _ _ _)
      | (with_reducible exact laws_heads.mono _ _ _)
      | (with_reducible exact laws_plainOwn.mono _ _ _ _ _)
      | (with_reducible exact laws_signs.mono _ _)
      | (with_reducible exact laws_stands.mono _ _ _)
      | (with_reducible exact laws_zzFits9.mono _ _)
      | (with_reducible exact LeO.refl _)
      | (with_reducible exact LeO.none _)
      | (with_reducible refine LeO.ite ?_ ?_)
      | (with_reducible refine LeO.bind ?_ (fun _ => ?_))
      | exact ih0 _ _ _ _
      | exact ih1 _ _ _ _ _ _
      | exact ih2 _ _ _ _ _ _ _
      | exact ih3 _ _ _
      | exact ih4 _ _ _ _ _ _
      | exact ih5 _ _ _ _
      | exact ih6 _ _ _ _ _ _ _
      | exact laws_clean.mono _ _ _
      | exact laws_heads.mono _ _ _
      | exact laws_plainOwn.mono _ _ _ _ _
      | exact laws_signs.mono _ _
      | exact laws_stands.mono _ _ _
      | exact laws_zzFits9.mono _ _
      | exact LeO.none _
      | refine LeO.ite ?_ ?_
      | refine LeO.bind ?_ (fun _ => ?_)
    · intro y0 y1 y2 y3 y4 y5 y6
      unfold laws_FnFilterText.l5
      repeat' first
      | (with_reducible exact ih0 _ _ _ _)
      | (with_reducible exact ih1 _ _ _ _ _ _)
      | (with_reducible exact ih2 _ _ _ _ _ _ _)
      | (with_reducible exact ih3 _ _ _)
      | (with_reducible exact ih4 _ _ _ _ _ _)
      | (with_reducible exact ih5 _ _ _ _)
      | (with_reducible exact ih6 _ _ _ _ _ _ _)
      | (with_reducible exact laws_clean.mono _ _ _)
      | (with_reducible exact laws_heads.mono _ _ _)
      | (with_reducible exact laws_plainOwn.mono _ _ _ _ _)
      | (with_reducible exact laws_signs.mono _ _)
      | (with_reducible exact laws_stands.mono _ _ _)
      | (with_reducible exact laws_zzFits9.mono _ _)
      | (with_reducible exact LeO.refl _)
      | (with_reducible exact LeO.none _)
      | (with_reducible refine LeO.ite ?_ ?_)
      | (with_reducible refine LeO.bind ?_ (fun _ => ?_))
      | exact ih0 _ _ _ _
      | exact ih1 _ _ _ _ _ _
      | exact ih2 _ _ _ _ _ _ _
      | exact ih3 _ _ _
      | exact ih4 _ _ _ _ _ _
      | exact ih5 _ _ _ _
      | exact ih6 _ _ _ _ _ _ _
      | exact laws_clean.mono _ _ _
      | exact laws_heads.mono _ _ _
      | exact laws_plainOwn.mono _ _ _ _ _
      | exact laws_signs.mono _ _
      | exact laws_stands.mono _ _ _
      | exact laws_zzFits9.mono _ _
      | exact LeO.none _
      | refine LeO.ite ?_ ?_
      | refine LeO.bind ?_ (fun _ => ?_)
theorem laws_FnFilterText.mono : ∀ a0 k, LeO (laws_FnFilterText.f k a0) (laws_FnFilterText.f (k + 1) a0) := by
  intro a0 k
  obtain ⟨ih0, ih1, ih2, ih3, ih4, ih5, ih6⟩ := laws_FnFilterText.mono_l k
  unfold laws_FnFilterText.f
  repeat' first
      | (with_reducible exact ih0 _ _ _ _)
      | (with_reducible exact ih1 _ _ _ _ _ _)
      | (with_reducible exact ih2 _ _ _ _ _ _ _)
      | (with_reducible exact ih3 _ _ _)
      | (with_reducible exact ih4 _ _ _ _ _ _)
      | (with_reducible exact ih5 _ _ _ _)
      | (with_reducible exact ih6 _ _ _ _ _ _ _)
      | (with_reducible exact laws_clean.mono _ _ _)
      | (with_reducible exact laws_heads.mono _ _ _)
      | (with_reducible exact laws_plainOwn.mono _ _ _ _ _)
      | (with_reducible exact laws_signs.mono _ _)
      | (with_reducible exact laws_stands.mono _ _ _)
      | (with_reducible exact laws_zzFits9.mono _ _)
      | (with_reducible exact LeO.refl _)
      | (with_reducible exact LeO.none _)
      | (with_reducible refine LeO.ite ?_ ?_)
      | (with_reducible refine LeO.bind ?_ (fun _ => ?_))
      | exact ih0 _ _ _ _
      | exact ih1 _ _ _ _ _ _
      | exact ih2 _ _ _ _ _ _ _
      | exact ih3 _ _ _
      | exact ih4 _ _ _ _ _ _
      | exact ih5 _ _ _ _
      | exact ih6 _ _ _ _ _ _ _
      | exact laws_clean.mono _ _ _
      | exact laws_heads.mono _ _ _
      | exact laws_plainOwn.mono _ _ _ _ _
      | exact laws_signs.mono _ _
      | exact laws_stands.mono _ _ _
      | exact laws_zzFits9.mono _ _
      | exact LeO.none _
      | refine LeO.ite ?_ ?_
      | refine LeO.bind ?_ (fun _ => ?_)
set_option maxHeartbeats 8000000 in
set_option maxRecDepth 100000 in
theorem laws_FnFilterText.calls (k : Nat) (A0 : Option Addr) (c0 : Nat) (l0 : List (List ByteArray)) (r : Bool) (w : World) (hr0 : Kd.C (Kd.slice 9 Kd.string) w A0 l0.length l0) (hc0 : l0.length ≤ c0) (h : laws_FnFilterText.f k l0 = some r) :
    Calls Try.prog 4 #[.slice A0 l0.length c0] w fun e w' => e = .returned (.bool r) ∧ Below w.heap.size w w' := by
  have hu35 := Try.underlying35
  have HR0 := Aside0.mk hr0
  have HC0 := Aside0.mk hc0
  clear hr0 hc0
  have HB := Aside0.mk (Below.refl w.heap.size w)
  have H : ((laws_zzFits9.f k l0).bind fun t179 => (if t179 = true then ((impl_FilterText.f (([(([(⟨#[97]⟩ : ByteArray)] : List ByteArray))] : List (List ByteArray)))).bind fun t186 => (if t186.toList = ([] : List UInt8) then (some false) else (if (l0.length : Int) > 8 then (some true) else (laws_FnFilterText.l0 k l0 l0 (l0.length : Int) 0)))) else (some true))) = some r := h
  clear h
  replace H := Option.bind_eq_some_iff.mp H
  obtain ⟨t179, A20, H⟩ := H
  replace H : (if t179 = true then ((impl_FilterText.f (([(([(⟨#[97]⟩ : ByteArray)] : List ByteArray))] : List (List ByteArray)))).bind fun t186 => (if t186.toList = ([] : List UInt8) then (some false) else (if (l0.length : Int) > 8 then (some true) else (laws_FnFilterText.l0 k l0 l0 (l0.length : Int) 0)))) else (some true)) = some r := H
  have A2 := Aside0.mk A20
  clear A20
  by_cases c3 : t179 = true
  · subst c3
    have H1 : ((impl_FilterText.f (([(([(⟨#[97]⟩ : ByteArray)] : List ByteArray))] : List (List ByteArray)))).bind fun t186 => (if t186.toList = ([] : List UInt8) then (some false) else (if (l0.length : Int) > 8 then (some true) else (laws_FnFilterText.l0 k l0 l0 (l0.length : Int) 0)))) = some r := by rw [if_pos rfl] at H; exact H
    clear H
    have H := H1
    clear H1
    obtain ⟨y180, hy180⟩ : ∃ y_ : List ByteArray, y_ = (([(⟨#[97]⟩ : ByteArray)] : List ByteArray)) := ⟨_, rfl⟩
    replace H : ((impl_FilterText.f (([y180] : List (List ByteArray)))).bind fun t186 => (if t186.toList = ([] : List UInt8) then (some false) else (if (l0.length : Int) > 8 then (some true) else (laws_FnFilterText.l0 k l0 l0 (l0.length : Int) 0)))) = some r := by first | (rw [hy180]; with_reducible exact H) | (have H2_ := (Option.bind_some _ _).symm.trans H; rw [hy180]; with_reducible exact H2_) | (have H2_ := (Option.bind_some _ _).symm.trans H; with_reducible exact H2_) | with_reducible exact H | (rw [hy180]; exact H) | exact H
    have Ny180 := Aside0.mk hy180
    clear hy180
    obtain ⟨y183, hy183⟩ : ∃ y_ : List (List ByteArray), y_ = (([y180] : List (List ByteArray))) := ⟨_, rfl⟩
    replace H : ((impl_FilterText.f y183).bind fun t186 => (if t186.toList = ([] : List UInt8) then (some false) else (if (l0.length : Int) > 8 then (some true) else (laws_FnFilterText.l0 k l0 l0 (l0.length : Int) 0)))) = some r := by first | (rw [hy183]; with_reducible exact H) | (have H2_ := (Option.bind_some _ _).symm.trans H; rw [hy183]; with_reducible exact H2_) | (have H2_ := (Option.bind_some _ _).symm.trans H; with_reducible exact H2_) | with_reducible exact H | (rw [hy183]; exact H) | exact H
    have Ny183 := Aside0.mk hy183
    clear hy183
    replace H := Option.bind_eq_some_iff.mp H
    obtain ⟨t186, A40, H⟩ := H
    replace H : (if t186.toList = ([] : List UInt8) then (some false) else (if (l0.length : Int) > 8 then (some true) else (laws_FnFilterText.l0 k l0 l0 (l0.length : Int) 0))) = some r := H
    have A4 := Aside0.mk A40
    clear A40
    by_cases c5 : t186.toList = ([] : List UInt8)
    · rw [if_pos c5] at H
      have c5b0 : (t186.toList == ([] : List UInt8)) = true := beq_iff_eq.mpr c5
      have c5b1 : (t186.toList != ([] : List UInt8)) = false := bne_eq_false_iff_eq.mpr c5
      clear c5
      obtain rfl := Option.some.inj H
      go_enter Try.func4, Try.ntmps4
      go_wp2_with (first | (go_at_call 6; (with_reducible refine (laws_zzFits9.calls k _ _ l0 true _ ?side1 ?side2 A2.out).mono ?_); (case side1 => repeat (first | exact HR0.out | (with_reducible refine Kd.C_alloc ?_ _) | (with_reducible refine Kd.C_drewN ?_ _) | (with_reducible refine Kd.C_drew ?_))); (case side2 => exact HC0.out); rintro e w' ⟨rfl, ⟨nd, rfl⟩⟩; (try first | exact ⟨rfl, _, World.drewN_drewN _ _ _⟩ | exact ⟨rfl, _, Eq.trans (World.drewN_drewN _ _ _) (congrArg (World.drewN _) (Nat.add_assoc _ _ _))⟩)) | ((with_reducible refine gate_dst (N := 19) rfl ?_); refine Kd.R_lit Kd.string _ 9 ?hg (N := 19) ?hd (xs := ([(⟨#[97]⟩ : ByteArray)] : List ByteArray)) (inner := [.string (⟨#[97]⟩ : ByteArray)]) (ok := fun _ => True) (okp := fun _ => True) ?hr ?hp (fun _ hk => hk) trivial (Below.refl _ _) (Nat.le_refl _) (by simp) ?_; (case hd => rfl); (case hg => rfl); (case hr => first | (go_simp; done) | (go_simp; rfl)); (case hp => exact (Reps.one (show Kd.M Kd.string _ _ _ (⟨#[97]⟩ : ByteArray) [.string (⟨#[97]⟩ : ByteArray)] from rfl) (Reps.none _ _))); intro v181 w6 ho7 hb hg_ hnew_; clear hg_ hnew_; (first | rw [← Ny180.out] at ho7 | (simp only [Int.reduceToNat] at ho7; rw [← Ny180.out] at ho7)); have n0_ := Aside0.mk (Kd.R_lower ho7 (below_size (by repeat (first | (with_reducible first | exact HB.out | apply below_alloc | apply pw_below_drewN | apply below_drew1) | exact HB.out)))); have n1_ := Aside0.mk (below_step (by repeat (first | (with_reducible first | exact HB.out | apply below_alloc | apply pw_below_drewN | apply below_drew1) | exact HB.out)) hb); clear HB; have HO182 := n0_; have HB := n1_; clear n0_ n1_; clear hb ho7; obtain ⟨Ao8, co8, eo8⟩ := Kd.R_slice HO182.out; subst eo8) | ((with_reducible refine gate_dst (N := 20) rfl ?_); refine Kd.N_lit (Kd.slice 9 Kd.string) _ 26 ?hg (N' := 20) ?hd (xs := ([y180] : List (List ByteArray))) (inner := [.slice Ao8 y180.length co8]) (ok := (fun _ => True)) (okp := (fun _ => True)) ?hr ?hp (fun _ hk => hk) ((show ∀ k_, w6.heap.size ≤ k_ → (fun _ => True) k_ from fun k_ hk => trivial) _ (Nat.le_refl _)) (Below.refl _ _) (Nat.le_refl _) (by simp) ?_; (case hd => rfl); (case hg => rfl); (case hr => first | (go_simp; done) | (go_simp; rfl)); (case hp => exact (Reps.one (show Kd.FK (Kd.slice 9 Kd.string) _ _ y180 [.slice Ao8 y180.length co8] from (Kd.FK_slice_mk (Kd.R_reads' (Kd.R_mono (ok' := (fun _ => True)) (HO182.out) (fun k_ hk => trivial))).2.1 (Kd.R_F (Kd.R_mono (ok' := (fun _ => True)) (HO182.out) (fun k_ hk => trivial))))) (Reps.none _ _))); intro v184 w9 ho10 hb hg_ hnew_; clear hg_ hnew_; (first | rw [← Ny183.out] at ho10 | (simp only [Int.reduceToNat] at ho10; rw [← Ny183.out] at ho10)); have n0_ := Aside0.mk (Kd.N_lower ho10 (below_size (by repeat (first | (with_reducible first | exact HB.out | apply below_alloc | apply pw_below_drewN | apply below_drew1) | exact HB.out)))); have n1_ := Aside0.mk (below_step (by repeat (first | (with_reducible first | exact HB.out | apply below_alloc | apply pw_below_drewN | apply below_drew1) | exact HB.out)) hb); clear HB; clear HO182; have HO185 := n0_; have HB := n1_; clear n0_ n1_; clear hb ho10; obtain ⟨Ao11, co11, eo11⟩ := Kd.N_slice HO185.out; subst eo11) | (go_at_call 11; (with_reducible refine (impl_FilterText.calls _ _ y183 t186 _ ?side1 ?side2 A4.out).mono ?_); (case side1 => repeat (first | exact (Kd.N_reads' HO185.out).2.2 | (with_reducible refine Kd.C_alloc ?_ _) | (with_reducible refine Kd.C_drewN ?_ _) | (with_reducible refine Kd.C_drew ?_))); (case side2 => exact (Kd.N_reads' HO185.out).2.1); rintro e w12 ⟨rfl, hb⟩; have n0_ := Aside0.mk (Kd.N_below (by (with_reducible repeat (first | apply Kd.N_alloc | apply Kd.N_drewN | apply Kd.N_drew)); exact HO185.out) hb); have n1_ := Aside0.mk (below_step (by repeat (first | (with_reducible first | exact HB.out | apply below_alloc | apply pw_below_drewN | apply below_drew1) | exact HB.out)) hb); clear HO185; clear HB; have HO185 := n0_; have HB := n1_; clear n0_ n1_; (try clear hb); (try clear hb2); (try clear hk); (try clear hi)))
      repeat (go_quiet (first | (go_at_call 6; (with_reducible refine (laws_zzFits9.calls k _ _ l0 true _ ?side1 ?side2 A2.out).mono ?_); (case side1 => repeat (first | exact HR0.out | (with_reducible refine Kd.C_alloc ?_ _) | (with_reducible refine Kd.C_drewN ?_ _) | (with_reducible refine Kd.C_drew ?_))); (case side2 => exact HC0.out); rintro e w' ⟨rfl, ⟨nd, rfl⟩⟩; (try first | exact ⟨rfl, _, World.drewN_drewN _ _ _⟩ | exact ⟨rfl, _, Eq.trans (World.drewN_drewN _ _ _) (congrArg (World.drewN _) (Nat.add_assoc _ _ _))⟩)) | ((with_reducible refine gate_dst (N := 19) rfl ?_); refine Kd.R_lit Kd.string _ 9 ?hg (N := 19) ?hd (xs := ([(⟨#[97]⟩ : ByteArray)] : List ByteArray)) (inner := [.string (⟨#[97]⟩ : ByteArray)]) (ok := fun _ => True) (okp := fun _ => True) ?hr ?hp (fun _ hk => hk) trivial (Below.refl _ _) (Nat.le_refl _) (by simp) ?_; (case hd => rfl); (case hg => rfl); (case hr => first | (go_simp; done) | (go_simp; rfl)); (case hp => exact (Reps.one (show Kd.M Kd.string _ _ _ (⟨#[97]⟩ : ByteArray) [.string (⟨#[97]⟩ : ByteArray)] from rfl) (Reps.none _ _))); intro v181 w6 ho7 hb hg_ hnew_; clear hg_ hnew_; (first | rw [← Ny180.out] at ho7 | (simp only [Int.reduceToNat] at ho7; rw [← Ny180.out] at ho7)); have n0_ := Aside0.mk (Kd.R_lower ho7 (below_size (by repeat (first | (with_reducible first | exact HB.out | apply below_alloc | apply pw_below_drewN | apply below_drew1) | exact HB.out)))); have n1_ := Aside0.mk (below_step (by repeat (first | (with_reducible first | exact HB.out | apply below_alloc | apply pw_below_drewN | apply below_drew1) | exact HB.out)) hb); clear HB; have HO182 := n0_; have HB := n1_; clear n0_ n1_; clear hb ho7; obtain ⟨Ao8, co8, eo8⟩ := Kd.R_slice HO182.out; subst eo8) | ((with_reducible refine gate_dst (N := 20) rfl ?_); refine Kd.N_lit (Kd.slice 9 Kd.string) _ 26 ?hg (N' := 20) ?hd (xs := ([y180] : List (List ByteArray))) (inner := [.slice Ao8 y180.length co8]) (ok := (fun _ => True)) (okp := (fun _ => True)) ?hr ?hp (fun _ hk => hk) ((show ∀ k_, w6.heap.size ≤ k_ → (fun _ => True) k_ from fun k_ hk => trivial) _ (Nat.le_refl _)) (Below.refl _ _) (Nat.le_refl _) (by simp) ?_; (case hd => rfl); (case hg => rfl); (case hr => first | (go_simp; done) | (go_simp; rfl)); (case hp => exact (Reps.one (show Kd.FK (Kd.slice 9 Kd.string) _ _ y180 [.slice Ao8 y180.length co8] from (Kd.FK_slice_mk (Kd.R_reads' (Kd.R_mono (ok' := (fun _ => True)) (HO182.out) (fun k_ hk => trivial))).2.1 (Kd.R_F (Kd.R_mono (ok' := (fun _ => True)) (HO182.out) (fun k_ hk => trivial))))) (Reps.none _ _))); intro v184 w9 ho10 hb hg_ hnew_; clear hg_ hnew_; (first | rw [← Ny183.out] at ho10 | (simp only [Int.reduceToNat] at ho10; rw [← Ny183.out] at ho10)); have n0_ := Aside0.mk (Kd.N_lower ho10 (below_size (by repeat (first | (with_reducible first | exact HB.out | apply below_alloc | apply pw_below_drewN | apply below_drew1) | exact HB.out)))); have n1_ := Aside0.mk (below_step (by repeat (first | (with_reducible first | exact HB.out | apply below_alloc | apply pw_below_drewN | apply below_drew1) | exact HB.out)) hb); clear HB; clear HO182; have HO185 := n0_; have HB := n1_; clear n0_ n1_; clear hb ho10; obtain ⟨Ao11, co11, eo11⟩ := Kd.N_slice HO185.out; subst eo11) | (go_at_call 11; (with_reducible refine (impl_FilterText.calls _ _ y183 t186 _ ?side1 ?side2 A4.out).mono ?_); (case side1 => repeat (first | exact (Kd.N_reads' HO185.out).2.2 | (with_reducible refine Kd.C_alloc ?_ _) | (with_reducible refine Kd.C_drewN ?_ _) | (with_reducible refine Kd.C_drew ?_))); (case side2 => exact (Kd.N_reads' HO185.out).2.1); rintro e w12 ⟨rfl, hb⟩; have n0_ := Aside0.mk (Kd.N_below (by (with_reducible repeat (first | apply Kd.N_alloc | apply Kd.N_drewN | apply Kd.N_drew)); exact HO185.out) hb); have n1_ := Aside0.mk (below_step (by repeat (first | (with_reducible first | exact HB.out | apply below_alloc | apply pw_below_drewN | apply below_drew1) | exact HB.out)) hb); clear HO185; clear HB; have HO185 := n0_; have HB := n1_; clear n0_ n1_; (try clear hb); (try clear hb2); (try clear hk); (try clear hi))); try go_wp2_with (first | (go_at_call 6; (with_reducible refine (laws_zzFits9.calls k _ _ l0 true _ ?side1 ?side2 A2.out).mono ?_); (case side1 => repeat (first | exact HR0.out | (with_reducible refine Kd.C_alloc ?_ _) | (with_reducible refine Kd.C_drewN ?_ _) | (with_reducible refine Kd.C_drew ?_))); (case side2 => exact HC0.out); rintro e w' ⟨rfl, ⟨nd, rfl⟩⟩; (try first | exact ⟨rfl, _, World.drewN_drewN _ _ _⟩ | exact ⟨rfl, _, Eq.trans (World.drewN_drewN _ _ _) (congrArg (World.drewN _) (Nat.add_assoc _ _ _))⟩)) | ((with_reducible refine gate_dst (N := 19) rfl ?_); refine Kd.R_lit Kd.string _ 9 ?hg (N := 19) ?hd (xs := ([(⟨#[97]⟩ : ByteArray)] : List ByteArray)) (inner := [.string (⟨#[97]⟩ : ByteArray)]) (ok := fun _ => True) (okp := fun _ => True) ?hr ?hp (fun _ hk => hk) trivial (Below.refl _ _) (Nat.le_refl _) (by simp) ?_; (case hd => rfl); (case hg => rfl); (case hr => first | (go_simp; done) | (go_simp; rfl)); (case hp => exact (Reps.one (show Kd.M Kd.string _ _ _ (⟨#[97]⟩ : ByteArray) [.string (⟨#[97]⟩ : ByteArray)] from rfl) (Reps.none _ _))); intro v181 w6 ho7 hb hg_ hnew_; clear hg_ hnew_; (first | rw [← Ny180.out] at ho7 | (simp only [Int.reduceToNat] at ho7; rw [← Ny180.out] at ho7)); have n0_ := Aside0.mk (Kd.R_lower ho7 (below_size (by repeat (first | (with_reducible first | exact HB.out | apply below_alloc | apply pw_below_drewN | apply below_drew1) | exact HB.out)))); have n1_ := Aside0.mk (below_step (by repeat (first | (with_reducible first | exact HB.out | apply below_alloc | apply pw_below_drewN | apply below_drew1) | exact HB.out)) hb); clear HB; have HO182 := n0_; have HB := n1_; clear n0_ n1_; clear hb ho7; obtain ⟨Ao8, co8, eo8⟩ := Kd.R_slice HO182.out; subst eo8) | ((with_reducible refine gate_dst (N := 20) rfl ?_); refine Kd.N_lit (Kd.slice 9 Kd.string) _ 26 ?hg (N' := 20) ?hd (xs := ([y180] : List (List ByteArray))) (inner := [.slice Ao8 y180.length co8]) (ok := (fun _ => True)) (okp := (fun _ => True)) ?hr ?hp (fun _ hk => hk) ((show ∀ k_, w6.heap.size ≤ k_ → (fun _ => True) k_ from fun k_ hk => trivial) _ (Nat.le_refl _)) (Below.refl _ _) (Nat.le_refl _) (by simp) ?_; (case hd => rfl); (case hg => rfl); (case hr => first | (go_simp; done) | (go_simp; rfl)); (case hp => exact (Reps.one (show Kd.FK (Kd.slice 9 Kd.string) _ _ y180 [.slice Ao8 y180.length co8] from (Kd.FK_slice_mk (Kd.R_reads' (Kd.R_mono (ok' := (fun _ => True)) (HO182.out) (fun k_ hk => trivial))).2.1 (Kd.R_F (Kd.R_mono (ok' := (fun _ => True)) (HO182.out) (fun k_ hk => trivial))))) (Reps.none _ _))); intro v184 w9 ho10 hb hg_ hnew_; clear hg_ hnew_; (first | rw [← Ny183.out] at ho10 | (simp only [Int.reduceToNat] at ho10; rw [← Ny183.out] at ho10)); have n0_ := Aside0.mk (Kd.N_lower ho10 (below_size (by repeat (first | (with_reducible first | exact HB.out | apply below_alloc | apply pw_below_drewN | apply below_drew1) | exact HB.out)))); have n1_ := Aside0.mk (below_step (by repeat (first | (with_reducible first | exact HB.out | apply below_alloc | apply pw_below_drewN | apply below_drew1) | exact HB.out)) hb); clear HB; clear HO182; have HO185 := n0_; have HB := n1_; clear n0_ n1_; clear hb ho10; obtain ⟨Ao11, co11, eo11⟩ := Kd.N_slice HO185.out; subst eo11) | (go_at_call 11; (with_reducible refine (impl_FilterText.calls _ _ y183 t186 _ ?side1 ?side2 A4.out).mono ?_); (case side1 => repeat (first | exact (Kd.N_reads' HO185.out).2.2 | (with_reducible refine Kd.C_alloc ?_ _) | (with_reducible refine Kd.C_drewN ?_ _) | (with_reducible refine Kd.C_drew ?_))); (case side2 => exact (Kd.N_reads' HO185.out).2.1); rintro e w12 ⟨rfl, hb⟩; have n0_ := Aside0.mk (Kd.N_below (by (with_reducible repeat (first | apply Kd.N_alloc | apply Kd.N_drewN | apply Kd.N_drew)); exact HO185.out) hb); have n1_ := Aside0.mk (below_step (by repeat (first | (with_reducible first | exact HB.out | apply below_alloc | apply pw_below_drewN | apply below_drew1) | exact HB.out)) hb); clear HO185; clear HB; have HO185 := n0_; have HB := n1_; clear n0_ n1_; (try clear hb); (try clear hb2); (try clear hk); (try clear hi))))
      go_ret
      exact ⟨by first | rfl | (simp [errW_none, errW_some] <;> rfl) | (simp [*, errW_none, errW_some] <;> rfl), by repeat (first | (with_reducible first | exact HB.out | apply below_alloc | apply pw_below_drewN | apply below_drew1) | exact HB.out)⟩
    · rw [if_neg c5] at H
      have c5b0 : (t186.toList == ([] : List UInt8)) = false := beq_eq_false_iff_ne.mpr c5
      have c5b1 : (t186.toList != ([] : List UInt8)) = true := bne_iff_ne.mpr c5
      by_cases c13 : (l0.length : Int) > 8
      · rw [if_pos c13] at H
        have c13b0 : decide (8 < (l0.length : Int)) = true := decide_eq_true c13
        have c13b1 : decide (8 < l0.length) = true := decide_eq_true (by omega)
        clear c13
        obtain rfl := Option.some.inj H
        go_enter Try.func4, Try.ntmps4
        go_wp2_with (first | (go_at_call 6; (with_reducible refine (laws_zzFits9.calls k _ _ l0 true _ ?side1 ?side2 A2.out).mono ?_); (case side1 => repeat (first | exact HR0.out | (with_reducible refine Kd.C_alloc ?_ _) | (with_reducible refine Kd.C_drewN ?_ _) | (with_reducible refine Kd.C_drew ?_))); (case side2 => exact HC0.out); rintro e w' ⟨rfl, ⟨nd, rfl⟩⟩; (try first | exact ⟨rfl, _, World.drewN_drewN _ _ _⟩ | exact ⟨rfl, _, Eq.trans (World.drewN_drewN _ _ _) (congrArg (World.drewN _) (Nat.add_assoc _ _ _))⟩)) | ((with_reducible refine gate_dst (N := 19) rfl ?_); refine Kd.R_lit Kd.string _ 9 ?hg (N := 19) ?hd (xs := ([(⟨#[97]⟩ : ByteArray)] : List ByteArray)) (inner := [.string (⟨#[97]⟩ : ByteArray)]) (ok := fun _ => True) (okp := fun _ => True) ?hr ?hp (fun _ hk => hk) trivial (Below.refl _ _) (Nat.le_refl _) (by simp) ?_; (case hd => rfl); (case hg => rfl); (case hr => first | (go_simp; done) | (go_simp; rfl)); (case hp => exact (Reps.one (show Kd.M Kd.string _ _ _ (⟨#[97]⟩ : ByteArray) [.string (⟨#[97]⟩ : ByteArray)] from rfl) (Reps.none _ _))); intro v181 w14 ho15 hb hg_ hnew_; clear hg_ hnew_; (first | rw [← Ny180.out] at ho15 | (simp only [Int.reduceToNat] at ho15; rw [← Ny180.out] at ho15)); have n0_ := Aside0.mk (Kd.R_lower ho15 (below_size (by repeat (first | (with_reducible first | exact HB.out | apply below_alloc | apply pw_below_drewN | apply below_drew1) | exact HB.out)))); have n1_ := Aside0.mk (below_step (by repeat (first | (with_reducible first | exact HB.out | apply below_alloc | apply pw_below_drewN | apply below_drew1) | exact HB.out)) hb); clear HB; have HO182 := n0_; have HB := n1_; clear n0_ n1_; clear hb ho15; obtain ⟨Ao16, co16, eo16⟩ := Kd.R_slice HO182.out; subst eo16) | ((with_reducible refine gate_dst (N := 20) rfl ?_); refine Kd.N_lit (Kd.slice 9 Kd.string) _ 26 ?hg (N' := 20) ?hd (xs := ([y180] : List (List ByteArray))) (inner := [.slice Ao16 y180.length co16]) (ok := (fun _ => True)) (okp := (fun _ => True)) ?hr ?hp (fun _ hk => hk) ((show ∀ k_, w14.heap.size ≤ k_ → (fun _ => True) k_ from fun k_ hk => trivial) _ (Nat.le_refl _)) (Below.refl _ _) (Nat.le_refl _) (by simp) ?_; (case hd => rfl); (case hg => rfl); (case hr => first | (go_simp; done) | (go_simp; rfl)); (case hp => exact (Reps.one (show Kd.FK (Kd.slice 9 Kd.string) _ _ y180 [.slice Ao16 y180.length co16] from (Kd.FK_slice_mk (Kd.R_reads' (Kd.R_mono (ok' := (fun _ => True)) (HO182.out) (fun k_ hk => trivial))).2.1 (Kd.R_F (Kd.R_mono (ok' := (fun _ => True)) (HO182.out) (fun k_ hk => trivial))))) (Reps.none _ _))); intro v184 w17 ho18 hb hg_ hnew_; clear hg_ hnew_; (first | rw [← Ny183.out] at ho18 | (simp only [Int.reduceToNat] at ho18; rw [← Ny183.out] at ho18)); have n0_ := Aside0.mk (Kd.N_lower ho18 (below_size (by repeat (first | (with_reducible first | exact HB.out | apply below_alloc | apply pw_below_drewN | apply below_drew1) | exact HB.out)))); have n1_ := Aside0.mk (below_step (by repeat (first | (with_reducible first | exact HB.out | apply below_alloc | apply pw_below_drewN | apply below_drew1) | exact HB.out)) hb); clear HB; clear HO182; have HO185 := n0_; have HB := n1_; clear n0_ n1_; clear hb ho18; obtain ⟨Ao19, co19, eo19⟩ := Kd.N_slice HO185.out; subst eo19) | (go_at_call 11; (with_reducible refine (impl_FilterText.calls _ _ y183 t186 _ ?side1 ?side2 A4.out).mono ?_); (case side1 => repeat (first | exact (Kd.N_reads' HO185.out).2.2 | (with_reducible refine Kd.C_alloc ?_ _) | (with_reducible refine Kd.C_drewN ?_ _) | (with_reducible refine Kd.C_drew ?_))); (case side2 => exact (Kd.N_reads' HO185.out).2.1); rintro e w20 ⟨rfl, hb⟩; have n0_ := Aside0.mk (Kd.N_below (by (with_reducible repeat (first | apply Kd.N_alloc | apply Kd.N_drewN | apply Kd.N_drew)); exact HO185.out) hb); have n1_ := Aside0.mk (below_step (by repeat (first | (with_reducible first | exact HB.out | apply below_alloc | apply pw_below_drewN | apply below_drew1) | exact HB.out)) hb); clear HO185; clear HB; have HO185 := n0_; have HB := n1_; clear n0_ n1_; (try clear hb); (try clear hb2); (try clear hk); (try clear hi)))
        repeat (go_quiet (first | (go_at_call 6; (with_reducible refine (laws_zzFits9.calls k _ _ l0 true _ ?side1 ?side2 A2.out).mono ?_); (case side1 => repeat (first | exact HR0.out | (with_reducible refine Kd.C_alloc ?_ _) | (with_reducible refine Kd.C_drewN ?_ _) | (with_reducible refine Kd.C_drew ?_))); (case side2 => exact HC0.out); rintro e w' ⟨rfl, ⟨nd, rfl⟩⟩; (try first | exact ⟨rfl, _, World.drewN_drewN _ _ _⟩ | exact ⟨rfl, _, Eq.trans (World.drewN_drewN _ _ _) (congrArg (World.drewN _) (Nat.add_assoc _ _ _))⟩)) | ((with_reducible refine gate_dst (N := 19) rfl ?_); refine Kd.R_lit Kd.string _ 9 ?hg (N := 19) ?hd (xs := ([(⟨#[97]⟩ : ByteArray)] : List ByteArray)) (inner := [.string (⟨#[97]⟩ : ByteArray)]) (ok := fun _ => True) (okp := fun _ => True) ?hr ?hp (fun _ hk => hk) trivial (Below.refl _ _) (Nat.le_refl _) (by simp) ?_; (case hd => rfl); (case hg => rfl); (case hr => first | (go_simp; done) | (go_simp; rfl)); (case hp => exact (Reps.one (show Kd.M Kd.string _ _ _ (⟨#[97]⟩ : ByteArray) [.string (⟨#[97]⟩ : ByteArray)] from rfl) (Reps.none _ _))); intro v181 w14 ho15 hb hg_ hnew_; clear hg_ hnew_; (first | rw [← Ny180.out] at ho15 | (simp only [Int.reduceToNat] at ho15; rw [← Ny180.out] at ho15)); have n0_ := Aside0.mk (Kd.R_lower ho15 (below_size (by repeat (first | (with_reducible first | exact HB.out | apply below_alloc | apply pw_below_drewN | apply below_drew1) | exact HB.out)))); have n1_ := Aside0.mk (below_step (by repeat (first | (with_reducible first | exact HB.out | apply below_alloc | apply pw_below_drewN | apply below_drew1) | exact HB.out)) hb); clear HB; have HO182 := n0_; have HB := n1_; clear n0_ n1_; clear hb ho15; obtain ⟨Ao16, co16, eo16⟩ := Kd.R_slice HO182.out; subst eo16) | ((with_reducible refine gate_dst (N := 20) rfl ?_); refine Kd.N_lit (Kd.slice 9 Kd.string) _ 26 ?hg (N' := 20) ?hd (xs := ([y180] : List (List ByteArray))) (inner := [.slice Ao16 y180.length co16]) (ok := (fun _ => True)) (okp := (fun _ => True)) ?hr ?hp (fun _ hk => hk) ((show ∀ k_, w14.heap.size ≤ k_ → (fun _ => True) k_ from fun k_ hk => trivial) _ (Nat.le_refl _)) (Below.refl _ _) (Nat.le_refl _) (by simp) ?_; (case hd => rfl); (case hg => rfl); (case hr => first | (go_simp; done) | (go_simp; rfl)); (case hp => exact (Reps.one (show Kd.FK (Kd.slice 9 Kd.string) _ _ y180 [.slice Ao16 y180.length co16] from (Kd.FK_slice_mk (Kd.R_reads' (Kd.R_mono (ok' := (fun _ => True)) (HO182.out) (fun k_ hk => trivial))).2.1 (Kd.R_F (Kd.R_mono (ok' := (fun _ => True)) (HO182.out) (fun k_ hk => trivial))))) (Reps.none _ _))); intro v184 w17 ho18 hb hg_ hnew_; clear hg_ hnew_; (first | rw [← Ny183.out] at ho18 | (simp only [Int.reduceToNat] at ho18; rw [← Ny183.out] at ho18)); have n0_ := Aside0.mk (Kd.N_lower ho18 (below_size (by repeat (first | (with_reducible first | exact HB.out | apply below_alloc | apply pw_below_drewN | apply below_drew1) | exact HB.out)))); have n1_ := Aside0.mk (below_step (by repeat (first | (with_reducible first | exact HB.out | apply below_alloc | apply pw_below_drewN | apply below_drew1) | exact HB.out)) hb); clear HB; clear HO182; have HO185 := n0_; have HB := n1_; clear n0_ n1_; clear hb ho18; obtain ⟨Ao19, co19, eo19⟩ := Kd.N_slice HO185.out; subst eo19) | (go_at_call 11; (with_reducible refine (impl_FilterText.calls _ _ y183 t186 _ ?side1 ?side2 A4.out).mono ?_); (case side1 => repeat (first | exact (Kd.N_reads' HO185.out).2.2 | (with_reducible refine Kd.C_alloc ?_ _) | (with_reducible refine Kd.C_drewN ?_ _) | (with_reducible refine Kd.C_drew ?_))); (case side2 => exact (Kd.N_reads' HO185.out).2.1); rintro e w20 ⟨rfl, hb⟩; have n0_ := Aside0.mk (Kd.N_below (by (with_reducible repeat (first | apply Kd.N_alloc | apply Kd.N_drewN | apply Kd.N_drew)); exact HO185.out) hb); have n1_ := Aside0.mk (below_step (by repeat (first | (with_reducible first | exact HB.out | apply below_alloc | apply pw_below_drewN | apply below_drew1) | exact HB.out)) hb); clear HO185; clear HB; have HO185 := n0_; have HB := n1_; clear n0_ n1_; (try clear hb); (try clear hb2); (try clear hk); (try clear hi))); try go_wp2_with (first | (go_at_call 6; (with_reducible refine (laws_zzFits9.calls k _ _ l0 true _ ?side1 ?side2 A2.out).mono ?_); (case side1 => repeat (first | exact HR0.out | (with_reducible refine Kd.C_alloc ?_ _) | (with_reducible refine Kd.C_drewN ?_ _) | (with_reducible refine Kd.C_drew ?_))); (case side2 => exact HC0.out); rintro e w' ⟨rfl, ⟨nd, rfl⟩⟩; (try first | exact ⟨rfl, _, World.drewN_drewN _ _ _⟩ | exact ⟨rfl, _, Eq.trans (World.drewN_drewN _ _ _) (congrArg (World.drewN _) (Nat.add_assoc _ _ _))⟩)) | ((with_reducible refine gate_dst (N := 19) rfl ?_); refine Kd.R_lit Kd.string _ 9 ?hg (N := 19) ?hd (xs := ([(⟨#[97]⟩ : ByteArray)] : List ByteArray)) (inner := [.string (⟨#[97]⟩ : ByteArray)]) (ok := fun _ => True) (okp := fun _ => True) ?hr ?hp (fun _ hk => hk) trivial (Below.refl _ _) (Nat.le_refl _) (by simp) ?_; (case hd => rfl); (case hg => rfl); (case hr => first | (go_simp; done) | (go_simp; rfl)); (case hp => exact (Reps.one (show Kd.M Kd.string _ _ _ (⟨#[97]⟩ : ByteArray) [.string (⟨#[97]⟩ : ByteArray)] from rfl) (Reps.none _ _))); intro v181 w14 ho15 hb hg_ hnew_; clear hg_ hnew_; (first | rw [← Ny180.out] at ho15 | (simp only [Int.reduceToNat] at ho15; rw [← Ny180.out] at ho15)); have n0_ := Aside0.mk (Kd.R_lower ho15 (below_size (by repeat (first | (with_reducible first | exact HB.out | apply below_alloc | apply pw_below_drewN | apply below_drew1) | exact HB.out)))); have n1_ := Aside0.mk (below_step (by repeat (first | (with_reducible first | exact HB.out | apply below_alloc | apply pw_below_drewN | apply below_drew1) | exact HB.out)) hb); clear HB; have HO182 := n0_; have HB := n1_; clear n0_ n1_; clear hb ho15; obtain ⟨Ao16, co16, eo16⟩ := Kd.R_slice HO182.out; subst eo16) | ((with_reducible refine gate_dst (N := 20) rfl ?_); refine Kd.N_lit (Kd.slice 9 Kd.string) _ 26 ?hg (N' := 20) ?hd (xs := ([y180] : List (List ByteArray))) (inner := [.slice Ao16 y180.length co16]) (ok := (fun _ => True)) (okp := (fun _ => True)) ?hr ?hp (fun _ hk => hk) ((show ∀ k_, w14.heap.size ≤ k_ → (fun _ => True) k_ from fun k_ hk => trivial) _ (Nat.le_refl _)) (Below.refl _ _) (Nat.le_refl _) (by simp) ?_; (case hd => rfl); (case hg => rfl); (case hr => first | (go_simp; done) | (go_simp; rfl)); (case hp => exact (Reps.one (show Kd.FK (Kd.slice 9 Kd.string) _ _ y180 [.slice Ao16 y180.length co16] from (Kd.FK_slice_mk (Kd.R_reads' (Kd.R_mono (ok' := (fun _ => True)) (HO182.out) (fun k_ hk => trivial))).2.1 (Kd.R_F (Kd.R_mono (ok' := (fun _ => True)) (HO182.out) (fun k_ hk => trivial))))) (Reps.none _ _))); intro v184 w17 ho18 hb hg_ hnew_; clear hg_ hnew_; (first | rw [← Ny183.out] at ho18 | (simp only [Int.reduceToNat] at ho18; rw [← Ny183.out] at ho18)); have n0_ := Aside0.mk (Kd.N_lower ho18 (below_size (by repeat (first | (with_reducible first | exact HB.out | apply below_alloc | apply pw_below_drewN | apply below_drew1) | exact HB.out)))); have n1_ := Aside0.mk (below_step (by repeat (first | (with_reducible first | exact HB.out | apply below_alloc | apply pw_below_drewN | apply below_drew1) | exact HB.out)) hb); clear HB; clear HO182; have HO185 := n0_; have HB := n1_; clear n0_ n1_; clear hb ho18; obtain ⟨Ao19, co19, eo19⟩ := Kd.N_slice HO185.out; subst eo19) | (go_at_call 11; (with_reducible refine (impl_FilterText.calls _ _ y183 t186 _ ?side1 ?side2 A4.out).mono ?_); (case side1 => repeat (first | exact (Kd.N_reads' HO185.out).2.2 | (with_reducible refine Kd.C_alloc ?_ _) | (with_reducible refine Kd.C_drewN ?_ _) | (with_reducible refine Kd.C_drew ?_))); (case side2 => exact (Kd.N_reads' HO185.out).2.1); rintro e w20 ⟨rfl, hb⟩; have n0_ := Aside0.mk (Kd.N_below (by (with_reducible repeat (first | apply Kd.N_alloc | apply Kd.N_drewN | apply Kd.N_drew)); exact HO185.out) hb); have n1_ := Aside0.mk (below_step (by repeat (first | (with_reducible first | exact HB.out | apply below_alloc | apply pw_below_drewN | apply below_drew1) | exact HB.out)) hb); clear HO185; clear HB; have HO185 := n0_; have HB := n1_; clear n0_ n1_; (try clear hb); (try clear hb2); (try clear hk); (try clear hi))))
        go_ret
        exact ⟨by first | rfl | (simp [errW_none, errW_some] <;> rfl) | (simp [*, errW_none, errW_some] <;> rfl), by repeat (first | (with_reducible first | exact HB.out | apply below_alloc | apply pw_below_drewN | apply below_drew1) | exact HB.out)⟩
      · rw [if_neg c13] at H
        have c13b0 : decide (8 < (l0.length : Int)) = false := decide_eq_false c13
        have c13b1 : decide (8 < l0.length) = false := decide_eq_false (by omega)
        clear c13
        have H' := Aside0.mk H
        clear H
        go_enter Try.func4, Try.ntmps4
        go_wp2_with (first | (go_at_call 6; (with_reducible refine (laws_zzFits9.calls k _ _ l0 true _ ?side1 ?side2 A2.out).mono ?_); (case side1 => repeat (first | exact HR0.out | (with_reducible refine Kd.C_alloc ?_ _) | (with_reducible refine Kd.C_drewN ?_ _) | (with_reducible refine Kd.C_drew ?_))); (case side2 => exact HC0.out); rintro e w' ⟨rfl, ⟨nd, rfl⟩⟩; (try first | exact ⟨rfl, _, World.drewN_drewN _ _ _⟩ | exact ⟨rfl, _, Eq.trans (World.drewN_drewN _ _ _) (congrArg (World.drewN _) (Nat.add_assoc _ _ _))⟩)) | ((with_reducible refine gate_dst (N := 19) rfl ?_); refine Kd.R_lit Kd.string _ 9 ?hg (N := 19) ?hd (xs := ([(⟨#[97]⟩ : ByteArray)] : List ByteArray)) (inner := [.string (⟨#[97]⟩ : ByteArray)]) (ok := fun _ => True) (okp := fun _ => True) ?hr ?hp (fun _ hk => hk) trivial (Below.refl _ _) (Nat.le_refl _) (by simp) ?_; (case hd => rfl); (case hg => rfl); (case hr => first | (go_simp; done) | (go_simp; rfl)); (case hp => exact (Reps.one (show Kd.M Kd.string _ _ _ (⟨#[97]⟩ : ByteArray) [.string (⟨#[97]⟩ : ByteArray)] from rfl) (Reps.none _ _))); intro v181 w21 ho22 hb hg_ hnew_; clear hg_ hnew_; (first | rw [← Ny180.out] at ho22 | (simp only [Int.reduceToNat] at ho22; rw [← Ny180.out] at ho22)); have n0_ := Aside0.mk (Kd.R_lower ho22 (below_size (by repeat (first | (with_reducible first | exact HB.out | apply below_alloc | apply pw_below_drewN | apply below_drew1) | exact HB.out)))); have n1_ := Aside0.mk (below_step (by repeat (first | (with_reducible first | exact HB.out | apply below_alloc | apply pw_below_drewN | apply below_drew1) | exact HB.out)) hb); clear HB; have HO182 := n0_; have HB := n1_; clear n0_ n1_; clear hb ho22; obtain ⟨Ao23, co23, eo23⟩ := Kd.R_slice HO182.out; subst eo23) | ((with_reducible refine gate_dst (N := 20) rfl ?_); refine Kd.N_lit (Kd.slice 9 Kd.string) _ 26 ?hg (N' := 20) ?hd (xs := ([y180] : List (List ByteArray))) (inner := [.slice Ao23 y180.length co23]) (ok := (fun _ => True)) (okp := (fun _ => True)) ?hr ?hp (fun _ hk => hk) ((show ∀ k_, w21.heap.size ≤ k_ → (fun _ => True) k_ from fun k_ hk => trivial) _ (Nat.le_refl _)) (Below.refl _ _) (Nat.le_refl _) (by simp) ?_; (case hd => rfl); (case hg => rfl); (case hr => first | (go_simp; done) | (go_simp; rfl)); (case hp => exact (Reps.one (show Kd.FK (Kd.slice 9 Kd.string) _ _ y180 [.slice Ao23 y180.length co23] from (Kd.FK_slice_mk (Kd.R_reads' (Kd.R_mono (ok' := (fun _ => True)) (HO182.out) (fun k_ hk => trivial))).2.1 (Kd.R_F (Kd.R_mono (ok' := (fun _ => True)) (HO182.out) (fun k_ hk => trivial))))) (Reps.none _ _))); intro v184 w24 ho25 hb hg_ hnew_; clear hg_ hnew_; (first | rw [← Ny183.out] at ho25 | (simp only [Int.reduceToNat] at ho25; rw [← Ny183.out] at ho25)); have n0_ := Aside0.mk (Kd.N_lower ho25 (below_size (by repeat (first | (with_reducible first | exact HB.out | apply below_alloc | apply pw_below_drewN | apply below_drew1) | exact HB.out)))); have n1_ := Aside0.mk (below_step (by repeat (first | (with_reducible first | exact HB.out | apply below_alloc | apply pw_below_drewN | apply below_drew1) | exact HB.out)) hb); clear HB; clear HO182; have HO185 := n0_; have HB := n1_; clear n0_ n1_; clear hb ho25; obtain ⟨Ao26, co26, eo26⟩ := Kd.N_slice HO185.out; subst eo26) | (go_at_call 11; (with_reducible refine (impl_FilterText.calls _ _ y183 t186 _ ?side1 ?side2 A4.out).mono ?_); (case side1 => repeat (first | exact (Kd.N_reads' HO185.out).2.2 | (with_reducible refine Kd.C_alloc ?_ _) | (with_reducible refine Kd.C_drewN ?_ _) | (with_reducible refine Kd.C_drew ?_))); (case side2 => exact (Kd.N_reads' HO185.out).2.1); rintro e w27 ⟨rfl, hb⟩; have n0_ := Aside0.mk (Kd.N_below (by (with_reducible repeat (first | apply Kd.N_alloc | apply Kd.N_drewN | apply Kd.N_drew)); exact HO185.out) hb); have n1_ := Aside0.mk (below_step (by repeat (first | (with_reducible first | exact HB.out | apply below_alloc | apply pw_below_drewN | apply below_drew1) | exact HB.out)) hb); clear HO185; clear HB; have HO185 := n0_; have HB := n1_; clear n0_ n1_; (try clear hb); (try clear hb2); (try clear hk); (try clear hi)))
        repeat (go_quiet (first | (go_at_call 6; (with_reducible refine (laws_zzFits9.calls k _ _ l0 true _ ?side1 ?side2 A2.out).mono ?_); (case side1 => repeat (first | exact HR0.out | (with_reducible refine Kd.C_alloc ?_ _) | (with_reducible refine Kd.C_drewN ?_ _) | (with_reducible refine Kd.C_drew ?_))); (case side2 => exact HC0.out); rintro e w' ⟨rfl, ⟨nd, rfl⟩⟩; (try first | exact ⟨rfl, _, World.drewN_drewN _ _ _⟩ | exact ⟨rfl, _, Eq.trans (World.drewN_drewN _ _ _) (congrArg (World.drewN _) (Nat.add_assoc _ _ _))⟩)) | ((with_reducible refine gate_dst (N := 19) rfl ?_); refine Kd.R_lit Kd.string _ 9 ?hg (N := 19) ?hd (xs := ([(⟨#[97]⟩ : ByteArray)] : List ByteArray)) (inner := [.string (⟨#[97]⟩ : ByteArray)]) (ok := fun _ => True) (okp := fun _ => True) ?hr ?hp (fun _ hk => hk) trivial (Below.refl _ _) (Nat.le_refl _) (by simp) ?_; (case hd => rfl); (case hg => rfl); (case hr => first | (go_simp; done) | (go_simp; rfl)); (case hp => exact (Reps.one (show Kd.M Kd.string _ _ _ (⟨#[97]⟩ : ByteArray) [.string (⟨#[97]⟩ : ByteArray)] from rfl) (Reps.none _ _))); intro v181 w21 ho22 hb hg_ hnew_; clear hg_ hnew_; (first | rw [← Ny180.out] at ho22 | (simp only [Int.reduceToNat] at ho22; rw [← Ny180.out] at ho22)); have n0_ := Aside0.mk (Kd.R_lower ho22 (below_size (by repeat (first | (with_reducible first | exact HB.out | apply below_alloc | apply pw_below_drewN | apply below_drew1) | exact HB.out)))); have n1_ := Aside0.mk (below_step (by repeat (first | (with_reducible first | exact HB.out | apply below_alloc | apply pw_below_drewN | apply below_drew1) | exact HB.out)) hb); clear HB; have HO182 := n0_; have HB := n1_; clear n0_ n1_; clear hb ho22; obtain ⟨Ao23, co23, eo23⟩ := Kd.R_slice HO182.out; subst eo23) | ((with_reducible refine gate_dst (N := 20) rfl ?_); refine Kd.N_lit (Kd.slice 9 Kd.string) _ 26 ?hg (N' := 20) ?hd (xs := ([y180] : List (List ByteArray))) (inner := [.slice Ao23 y180.length co23]) (ok := (fun _ => True)) (okp := (fun _ => True)) ?hr ?hp (fun _ hk => hk) ((show ∀ k_, w21.heap.size ≤ k_ → (fun _ => True) k_ from fun k_ hk => trivial) _ (Nat.le_refl _)) (Below.refl _ _) (Nat.le_refl _) (by simp) ?_; (case hd => rfl); (case hg => rfl); (case hr => first | (go_simp; done) | (go_simp; rfl)); (case hp => exact (Reps.one (show Kd.FK (Kd.slice 9 Kd.string) _ _ y180 [.slice Ao23 y180.length co23] from (Kd.FK_slice_mk (Kd.R_reads' (Kd.R_mono (ok' := (fun _ => True)) (HO182.out) (fun k_ hk => trivial))).2.1 (Kd.R_F (Kd.R_mono (ok' := (fun _ => True)) (HO182.out) (fun k_ hk => trivial))))) (Reps.none _ _))); intro v184 w24 ho25 hb hg_ hnew_; clear hg_ hnew_; (first | rw [← Ny183.out] at ho25 | (simp only [Int.reduceToNat] at ho25; rw [← Ny183.out] at ho25)); have n0_ := Aside0.mk (Kd.N_lower ho25 (below_size (by repeat (first | (with_reducible first | exact HB.out | apply below_alloc | apply pw_below_drewN | apply below_drew1) | exact HB.out)))); have n1_ := Aside0.mk (below_step (by repeat (first | (with_reducible first | exact HB.out | apply below_alloc | apply pw_below_drewN | apply below_drew1) | exact HB.out)) hb); clear HB; clear HO182; have HO185 := n0_; have HB := n1_; clear n0_ n1_; clear hb ho25; obtain ⟨Ao26, co26, eo26⟩ := Kd.N_slice HO185.out; subst eo26) | (go_at_call 11; (with_reducible refine (impl_FilterText.calls _ _ y183 t186 _ ?side1 ?side2 A4.out).mono ?_); (case side1 => repeat (first | exact (Kd.N_reads' HO185.out).2.2 | (with_reducible refine Kd.C_alloc ?_ _) | (with_reducible refine Kd.C_drewN ?_ _) | (with_reducible refine Kd.C_drew ?_))); (case side2 => exact (Kd.N_reads' HO185.out).2.1); rintro e w27 ⟨rfl, hb⟩; have n0_ := Aside0.mk (Kd.N_below (by (with_reducible repeat (first | apply Kd.N_alloc | apply Kd.N_drewN | apply Kd.N_drew)); exact HO185.out) hb); have n1_ := Aside0.mk (below_step (by repeat (first | (with_reducible first | exact HB.out | apply below_alloc | apply pw_below_drewN | apply below_drew1) | exact HB.out)) hb); clear HO185; clear HB; have HO185 := n0_; have HB := n1_; clear n0_ n1_; (try clear hb); (try clear hb2); (try clear hk); (try clear hi))); try go_wp2_with (first | (go_at_call 6; (with_reducible refine (laws_zzFits9.calls k _ _ l0 true _ ?side1 ?side2 A2.out).mono ?_); (case side1 => repeat (first | exact HR0.out | (with_reducible refine Kd.C_alloc ?_ _) | (with_reducible refine Kd.C_drewN ?_ _) | (with_reducible refine Kd.C_drew ?_))); (case side2 => exact HC0.out); rintro e w' ⟨rfl, ⟨nd, rfl⟩⟩; (try first | exact ⟨rfl, _, World.drewN_drewN _ _ _⟩ | exact ⟨rfl, _, Eq.trans (World.drewN_drewN _ _ _) (congrArg (World.drewN _) (Nat.add_assoc _ _ _))⟩)) | ((with_reducible refine gate_dst (N := 19) rfl ?_); refine Kd.R_lit Kd.string _ 9 ?hg (N := 19) ?hd (xs := ([(⟨#[97]⟩ : ByteArray)] : List ByteArray)) (inner := [.string (⟨#[97]⟩ : ByteArray)]) (ok := fun _ => True) (okp := fun _ => True) ?hr ?hp (fun _ hk => hk) trivial (Below.refl _ _) (Nat.le_refl _) (by simp) ?_; (case hd => rfl); (case hg => rfl); (case hr => first | (go_simp; done) | (go_simp; rfl)); (case hp => exact (Reps.one (show Kd.M Kd.string _ _ _ (⟨#[97]⟩ : ByteArray) [.string (⟨#[97]⟩ : ByteArray)] from rfl) (Reps.none _ _))); intro v181 w21 ho22 hb hg_ hnew_; clear hg_ hnew_; (first | rw [← Ny180.out] at ho22 | (simp only [Int.reduceToNat] at ho22; rw [← Ny180.out] at ho22)); have n0_ := Aside0.mk (Kd.R_lower ho22 (below_size (by repeat (first | (with_reducible first | exact HB.out | apply below_alloc | apply pw_below_drewN | apply below_drew1) | exact HB.out)))); have n1_ := Aside0.mk (below_step (by repeat (first | (with_reducible first | exact HB.out | apply below_alloc | apply pw_below_drewN | apply below_drew1) | exact HB.out)) hb); clear HB; have HO182 := n0_; have HB := n1_; clear n0_ n1_; clear hb ho22; obtain ⟨Ao23, co23, eo23⟩ := Kd.R_slice HO182.out; subst eo23) | ((with_reducible refine gate_dst (N := 20) rfl ?_); refine Kd.N_lit (Kd.slice 9 Kd.string) _ 26 ?hg (N' := 20) ?hd (xs := ([y180] : List (List ByteArray))) (inner := [.slice Ao23 y180.length co23]) (ok := (fun _ => True)) (okp := (fun _ => True)) ?hr ?hp (fun _ hk => hk) ((show ∀ k_, w21.heap.size ≤ k_ → (fun _ => True) k_ from fun k_ hk => trivial) _ (Nat.le_refl _)) (Below.refl _ _) (Nat.le_refl _) (by simp) ?_; (case hd => rfl); (case hg => rfl); (case hr => first | (go_simp; done) | (go_simp; rfl)); (case hp => exact (Reps.one (show Kd.FK (Kd.slice 9 Kd.string) _ _ y180 [.slice Ao23 y180.length co23] from (Kd.FK_slice_mk (Kd.R_reads' (Kd.R_mono (ok' := (fun _ => True)) (HO182.out) (fun k_ hk => trivial))).2.1 (Kd.R_F (Kd.R_mono (ok' := (fun _ => True)) (HO182.out) (fun k_ hk => trivial))))) (Reps.none _ _))); intro v184 w24 ho25 hb hg_ hnew_; clear hg_ hnew_; (first | rw [← Ny183.out] at ho25 | (simp only [Int.reduceToNat] at ho25; rw [← Ny183.out] at ho25)); have n0_ := Aside0.mk (Kd.N_lower ho25 (below_size (by repeat (first | (with_reducible first | exact HB.out | apply below_alloc | apply pw_below_drewN | apply below_drew1) | exact HB.out)))); have n1_ := Aside0.mk (below_step (by repeat (first | (with_reducible first | exact HB.out | apply below_alloc | apply pw_below_drewN | apply below_drew1) | exact HB.out)) hb); clear HB; clear HO182; have HO185 := n0_; have HB := n1_; clear n0_ n1_; clear hb ho25; obtain ⟨Ao26, co26, eo26⟩ := Kd.N_slice HO185.out; subst eo26) | (go_at_call 11; (with_reducible refine (impl_FilterText.calls _ _ y183 t186 _ ?side1 ?side2 A4.out).mono ?_); (case side1 => repeat (first | exact (Kd.N_reads' HO185.out).2.2 | (with_reducible refine Kd.C_alloc ?_ _) | (with_reducible refine Kd.C_drewN ?_ _) | (with_reducible refine Kd.C_drew ?_))); (case side2 => exact (Kd.N_reads' HO185.out).2.1); rintro e w27 ⟨rfl, hb⟩; have n0_ := Aside0.mk (Kd.N_below (by (with_reducible repeat (first | apply Kd.N_alloc | apply Kd.N_drewN | apply Kd.N_drew)); exact HO185.out) hb); have n1_ := Aside0.mk (below_step (by repeat (first | (with_reducible first | exact HB.out | apply below_alloc | apply pw_below_drewN | apply below_drew1) | exact HB.out)) hb); clear HO185; clear HB; have HO185 := n0_; have HB := n1_; clear n0_ n1_; (try clear hb); (try clear hb2); (try clear hk); (try clear hi))))
        go_loopg [28] k (fun kq v28 w' => ∃ (x28_1 : Int), v28 = .int .i64 x28_1 ∧ Aside0 (laws_FnFilterText.l0 kq l0 l0 (l0.length : Int) x28_1 = some r) ∧ Aside0 (kq ≤ k) ∧ Aside0 (Below w.heap.size w w'))
        case atStart => exact ⟨(0), (by first | rfl | (simp; done) | (simp [*]; done)), H', ⟨Nat.le_refl _⟩, ⟨by repeat (first | (with_reducible first | exact HB.out | apply below_alloc | apply pw_below_drewN | apply below_drew1) | exact HB.out)⟩⟩
        case round =>
          clear H'
          try clear c1
          try clear p2
          try clear c3
          try clear c4
          try clear c5
          try clear c5b0
          try clear c5b1
          try clear c13
          try clear c13b0
          try clear c13b1
          obtain ⟨x28_1, rfl, HA, HK1, HB⟩ := hrel
          cases gk with
          | zero => exact absurd HA.out (by simp [laws_FnFilterText.l0])
          | succ k1 =>
            have H := HA.out
            clear HA
            simp only [laws_FnFilterText.l0] at H
            by_cases c28 : x28_1 < (l0.length : Int)
            · rw [if_pos c28] at H
              have c28b0 : decide (x28_1 < (l0.length : Int)) = true := decide_eq_true c28
              clear c28
              by_cases c29 : 0 ≤ x28_1
              · rw [if_pos c29] at H
                have c29b0 : decide (0 ≤ x28_1) = true := decide_eq_true c29
                clear c29
                by_cases c30 : x28_1 < (l0.length : Int)
                · rw [if_pos c30] at H
                  have c30b0 : decide (x28_1 < (l0.length : Int)) = true := decide_eq_true c30
                  clear c30
                  have HC31 := Aside0.mk H
                  clear H
                  have p187 : 0 ≤ (x28_1 : Int) := of_decide_eq_true (by first | (with_reducible assumption) | assumption)
                  have q187 : x28_1 < (l0.length : Int) := of_decide_eq_true (by first | (with_reducible assumption) | assumption)
                  obtain ⟨ad187, A187_0, c187_0, e187, hx187_0, hl187_0, hi187_0⟩ := at_L1 HR0.out x28_1 p187 q187
                  cases e187
                  first | (replace hx187_0 := (HB.out.cell (World.block_lt_of_cell? w _ hx187_0)).trans hx187_0) | skip
                  have HR187_0 := Aside0.mk hi187_0
                  have HC187_0 := Aside0.mk hl187_0
                  clear hi187_0 hl187_0
                  replace p187 := eq_true p187
                  replace q187 := eq_true q187
                  go_upto_region 10 with (fail)
                  repeat (go_quiet (fail); go_upto_region 10 with (fail))
                  go_cut [39] (fun v39 wc => ∃ (kq : Nat) (x39_30 : Bool), v39 = .bool x39_30 ∧ Aside0 (laws_FnFilterText.j1 kq l0 (rd_L1 l0 x28_1) l0 (l0.length : Int) x28_1 x39_30 = some r) ∧ Aside0 (kq ≤ k1) ∧ Aside0 (Below w.heap.size w wc))
                  case first =>
                    have H := HC31.out
                    clear HC31
                    by_cases c32 : ((rd_L1 l0 x28_1).length : Int) > 8
                    · rw [if_pos c32] at H
                      have c32b0 : decide (8 < ((rd_L1 l0 x28_1).length : Int)) = true := decide_eq_true c32
                      have c32b1 : decide (8 < (rd_L1 l0 x28_1).length) = true := decide_eq_true (by omega)
                      clear c32
                      (first | rw [c32b0] | (simp only [i64_w, i32_w]; rw [c32b0]) | skip)
                      have H' := Aside0.mk H
                      clear H
                      go_wp2
                      repeat (go_quiet (fail); try go_wp2)
                      go_meet
                      case rel => exact ⟨_, (true), (by first | rfl | (simp; done) | (simp [*]; done)), H', ⟨by have := HK1.out; first | omega | exact Nat.le_refl _⟩, ⟨by repeat (first | (with_reducible first | exact HB.out | apply below_alloc | apply pw_below_drewN | apply below_drew1) | exact HB.out)⟩⟩
                    · rw [if_neg c32] at H
                      have c32b0 : decide (8 < ((rd_L1 l0 x28_1).length : Int)) = false := decide_eq_false c32
                      have c32b1 : decide (8 < (rd_L1 l0 x28_1).length) = false := decide_eq_false (by omega)
                      clear c32
                      (first | rw [c32b0] | (simp only [i64_w, i32_w]; rw [c32b0]) | skip)
                      replace H := Option.bind_eq_some_iff.mp H
                      obtain ⟨t188, A330, H⟩ := H
                      replace H : (laws_FnFilterText.j1 k1 l0 (rd_L1 l0 x28_1) l0 (l0.length : Int) x28_1 (!t188)) = some r := H
                      have A33 := Aside0.mk A330
                      clear A330
                      have H' := Aside0.mk H
                      clear H
                      go_wp2_with (first | (go_at_call 8; (with_reducible refine (laws_clean.calls k1 40 _ _ (rd_L1 l0 x28_1) t188 _ ?side1 ?side2 A33.out).mono ?_); (case side1 => repeat (first | exact (Kd.C_below HR187_0.out HB.out) | (with_reducible refine Kd.C_alloc ?_ _) | (with_reducible refine Kd.C_drewN ?_ _) | (with_reducible refine Kd.C_drew ?_))); (case side2 => exact HC187_0.out); rintro e w34 ⟨rfl, hb⟩; have n0_ := Aside0.mk (below_step (by repeat (first | (with_reducible first | exact HB.out | apply below_alloc | apply pw_below_drewN | apply below_drew1) | exact HB.out)) hb); clear HB; have HB := n0_; clear n0_; (try clear hb); (try clear hb2); (try clear hk); (try clear hi)))
                      repeat (go_quiet (first | (go_at_call 8; (with_reducible refine (laws_clean.calls k1 40 _ _ (rd_L1 l0 x28_1) t188 _ ?side1 ?side2 A33.out).mono ?_); (case side1 => repeat (first | exact (Kd.C_below HR187_0.out HB.out) | (with_reducible refine Kd.C_alloc ?_ _) | (with_reducible refine Kd.C_drewN ?_ _) | (with_reducible refine Kd.C_drew ?_))); (case side2 => exact HC187_0.out); rintro e w34 ⟨rfl, hb⟩; have n0_ := Aside0.mk (below_step (by repeat (first | (with_reducible first | exact HB.out | apply below_alloc | apply pw_below_drewN | apply below_drew1) | exact HB.out)) hb); clear HB; have HB := n0_; clear n0_; (try clear hb); (try clear hb2); (try clear hk); (try clear hi))); try go_wp2_with (first | (go_at_call 8; (with_reducible refine (laws_clean.calls k1 40 _ _ (rd_L1 l0 x28_1) t188 _ ?side1 ?side2 A33.out).mono ?_); (case side1 => repeat (first | exact (Kd.C_below HR187_0.out HB.out) | (with_reducible refine Kd.C_alloc ?_ _) | (with_reducible refine Kd.C_drewN ?_ _) | (with_reducible refine Kd.C_drew ?_))); (case side2 => exact HC187_0.out); rintro e w34 ⟨rfl, hb⟩; have n0_ := Aside0.mk (below_step (by repeat (first | (with_reducible first | exact HB.out | apply below_alloc | apply pw_below_drewN | apply below_drew1) | exact HB.out)) hb); clear HB; have HB := n0_; clear n0_; (try clear hb); (try clear hb2); (try clear hk); (try clear hi))))
                      go_meet
                      case rel => exact ⟨_, (!t188), (by first | rfl | (simp; done) | (simp [*]; done)), H', ⟨by have := HK1.out; first | omega | exact Nat.le_refl _⟩, ⟨by repeat (first | (with_reducible first | exact HB.out | apply below_alloc | apply pw_below_drewN | apply below_drew1) | exact HB.out)⟩⟩
                  case rest =>
                    clear HC31
                    try clear c1
                    try clear p1
                    try clear q1
                    try clear hx1
                    try clear c2
                    try clear p2
                    try clear c3
                    try clear c4
                    try clear c5
                    try clear c5b0
                    try clear c5b1
                    try clear c13
                    try clear c13b0
                    try clear c13b1
                    try clear c18
                    try clear p18
                    try clear q18
                    try clear hx18
                    try clear c28
                    try clear c28b0
                    try clear c29
                    try clear c29b0
                    try clear c30
                    try clear c30b0
                    try clear c32
                    try clear c32b0
                    try clear c32b1
                    try clear hx187_0
                    try clear p187
                    try clear p2
                    try clear q187
                    obtain ⟨kq, x39_30, rfl, HA, HJ30, HB⟩ := hcut
                    cases kq with
                    | zero => exact absurd HA.out (by simp [laws_FnFilterText.j1])
                    | succ kj30 =>
                      have H := HA.out
                      clear HA
                      simp only [laws_FnFilterText.j1] at H
                      by_cases c35 : x39_30 = true
                      · subst c35
                        have H1 : (some true) = some r := by rw [if_pos rfl] at H; exact H
                        clear H
                        have H := H1
                        clear H1
                        obtain rfl := Option.some.inj H
                        go_wp2
                        repeat (go_quiet (fail); try go_wp2)
                        go_ret
                        exact ⟨by first | rfl | (simp [errW_none, errW_some] <;> rfl) | (simp [*, errW_none, errW_some] <;> rfl), by repeat (first | (with_reducible first | exact HB.out | apply below_alloc | apply pw_below_drewN | apply below_drew1) | exact HB.out)⟩
                      · replace c35 := Bool.eq_false_iff.mpr c35
                        subst c35
                        have H1 : (laws_FnFilterText.l1 kj30 l0 l0 (l0.length : Int) x28_1 (rd_L1 l0 x28_1) ((rd_L1 l0 x28_1).length : Int) 0) = some r := by rw [if_neg (show ¬ (false = true) by decide)] at H; exact H
                        clear H
                        have H := H1
                        clear H1
                        have H' := Aside0.mk H
                        clear H
                        go_wp2
                        repeat (go_quiet (fail); try go_wp2)
                        go_loopg [42] kj30 (fun kq v42 w' => ∃ (x42_3 : Int), v42 = .int .i64 x42_3 ∧ Aside0 (laws_FnFilterText.l1 kq l0 l0 (l0.length : Int) x28_1 (rd_L1 l0 x28_1) ((rd_L1 l0 x28_1).length : Int) x42_3 = some r) ∧ Aside0 (kq ≤ kj30) ∧ Aside0 (Below w.heap.size w w'))
                        case atStart => exact ⟨(0), (by first | rfl | (simp; done) | (simp [*]; done)), H', ⟨Nat.le_refl _⟩, ⟨by repeat (first | (with_reducible first | exact HB.out | apply below_alloc | apply pw_below_drewN | apply below_drew1) | exact HB.out)⟩⟩
                        case round =>
                          clear H'
                          try clear c1
                          try clear p1
                          try clear q1
                          try clear hx1
                          try clear c2
                          try clear p2
                          try clear c3
                          try clear c4
                          try clear c5
                          try clear c5b0
                          try clear c5b1
                          try clear c13
                          try clear c13b0
                          try clear c13b1
                          try clear c18
                          try clear p18
                          try clear q18
                          try clear hx18
                          try clear c28
                          try clear c28b0
                          try clear c29
                          try clear c29b0
                          try clear c30
                          try clear c30b0
                          try clear c32
                          try clear c32b0
                          try clear c32b1
                          try clear c35
                          try clear hx187_0
                          try clear p1
                          try clear p18
                          try clear p187
                          try clear p2
                          try clear q1
                          try clear q18
                          try clear q187
                          obtain ⟨x42_3, rfl, HA, HK3, HB⟩ := hrel
                          cases gk with
                          | zero => exact absurd HA.out (by simp [laws_FnFilterText.l1])
                          | succ k3 =>
                            have H := HA.out
                            clear HA
                            simp only [laws_FnFilterText.l1] at H
                            by_cases c36 : x42_3 < ((rd_L1 l0 x28_1).length : Int)
                            · rw [if_pos c36] at H
                              have c36b0 : decide (x42_3 < ((rd_L1 l0 x28_1).length : Int)) = true := decide_eq_true c36
                              clear c36
                              by_cases c37 : 0 ≤ x42_3
                              · rw [if_pos c37] at H
                                have c37b0 : decide (0 ≤ x42_3) = true := decide_eq_true c37
                                clear c37
                                by_cases c38 : x42_3 < ((rd_L1 l0 x28_1).length : Int)
                                · rw [if_pos c38] at H
                                  have c38b0 : decide (x42_3 < ((rd_L1 l0 x28_1).length : Int)) = true := decide_eq_true c38
                                  clear c38
                                  replace H := Option.bind_eq_some_iff.mp H
                                  obtain ⟨⟨t190, t191⟩, A390, H⟩ := H
                                  replace H : (if (t190.length : Int) = 0 then (some true) else ((laws_plainOwn.f k3 (rdOf ByteArray.empty (rd_L1 l0 x28_1) x42_3) ([] : List ByteArray) ([] : List ByteArray) (⟨#[120]⟩ : ByteArray)).bind fun t194 => (if t194 = true then (laws_FnFilterText.l1 k3 l0 l0 (l0.length : Int) x28_1 (rd_L1 l0 x28_1) ((rd_L1 l0 x28_1).length : Int) (wrap64 (x42_3 + 1))) else (some true)))) = some r := H
                                  have A39 := Aside0.mk A390
                                  clear A390
                                  by_cases c40 : (t190.length : Int) = 0
                                  · rw [if_pos c40] at H
                                    have c40b0 : ((t190.length : Int) == 0) = true := beq_iff_eq.mpr c40
                                    have c40b1 : ((t190.length : Int) != 0) = false := bne_eq_false_iff_eq.mpr c40
                                    clear c40
                                    obtain rfl := Option.some.inj H
                                    have p189 : 0 ≤ (x42_3 : Int) := of_decide_eq_true (by first | (with_reducible assumption) | assumption)
                                    have q189 : x42_3 < ((rd_L1 l0 x28_1).length : Int) := of_decide_eq_true (by first | (with_reducible assumption) | assumption)
                                    obtain ⟨ad189, e189, hx189_0⟩ := Kd.at_string HR187_0.out x42_3 p189 q189
                                    cases e189
                                    first | (replace hx189_0 := (HB.out.cell (World.block_lt_of_cell? w _ hx189_0)).trans hx189_0) | skip
                                    replace p189 := eq_true p189
                                    replace q189 := eq_true q189
                                    go_wp2_with (first | (go_at_call 12; (with_reducible refine (laws_signs.calls k3 (rdOf ByteArray.empty (rd_L1 l0 x28_1) x42_3) t190 t191 _ A39.out).mono ?_); rintro e w41 ⟨v192, rfl, ho0, hb⟩; have n0_ := Aside0.mk (Kd.R_lower ho0 (below_size (by repeat (first | (with_reducible first | exact HB.out | apply below_alloc | apply pw_below_drewN | apply below_drew1) | exact HB.out)))); have n1_ := Aside0.mk (below_step (by repeat (first | (with_reducible first | exact HB.out | apply below_alloc | apply pw_below_drewN | apply below_drew1) | exact HB.out)) hb); clear HB; have HO193 := n0_; have HB := n1_; clear n0_ n1_; (try clear hb); (try clear hb2); (try clear hk); (try clear hi); (try clear ho0); obtain ⟨Ao42, co42, eo42⟩ := Kd.R_slice HO193.out; subst eo42))
                                    repeat (go_quiet (first | (go_at_call 12; (with_reducible refine (laws_signs.calls k3 (rdOf ByteArray.empty (rd_L1 l0 x28_1) x42_3) t190 t191 _ A39.out).mono ?_); rintro e w41 ⟨v192, rfl, ho0, hb⟩; have n0_ := Aside0.mk (Kd.R_lower ho0 (below_size (by repeat (first | (with_reducible first | exact HB.out | apply below_alloc | apply pw_below_drewN | apply below_drew1) | exact HB.out)))); have n1_ := Aside0.mk (below_step (by repeat (first | (with_reducible first | exact HB.out | apply below_alloc | apply pw_below_drewN | apply below_drew1) | exact HB.out)) hb); clear HB; have HO193 := n0_; have HB := n1_; clear n0_ n1_; (try clear hb); (try clear hb2); (try clear hk); (try clear hi); (try clear ho0); obtain ⟨Ao42, co42, eo42⟩ := Kd.R_slice HO193.out; subst eo42)); try go_wp2_with (first | (go_at_call 12; (with_reducible refine (laws_signs.calls k3 (rdOf ByteArray.empty (rd_L1 l0 x28_1) x42_3) t190 t191 _ A39.out).mono ?_); rintro e w41 ⟨v192, rfl, ho0, hb⟩; have n0_ := Aside0.mk (Kd.R_lower ho0 (below_size (by repeat (first | (with_reducible first | exact HB.out | apply below_alloc | apply pw_below_drewN | apply below_drew1) | exact HB.out)))); have n1_ := Aside0.mk (below_step (by repeat (first | (with_reducible first | exact HB.out | apply below_alloc | apply pw_below_drewN | apply below_drew1) | exact HB.out)) hb); clear HB; have HO193 := n0_; have HB := n1_; clear n0_ n1_; (try clear hb); (try clear hb2); (try clear hk); (try clear hi); (try clear ho0); obtain ⟨Ao42, co42, eo42⟩ := Kd.R_slice HO193.out; subst eo42)))
                                    go_ret
                                    exact ⟨by first | rfl | (simp [errW_none, errW_some] <;> rfl) | (simp [*, errW_none, errW_some] <;> rfl), by repeat (first | (with_reducible first | exact HB.out | apply below_alloc | apply pw_below_drewN | apply below_drew1) | exact HB.out)⟩
                                  · rw [if_neg c40] at H
                                    have c40b0 : ((t190.length : Int) == 0) = false := beq_eq_false_iff_ne.mpr c40
                                    have c40b1 : ((t190.length : Int) != 0) = true := bne_iff_ne.mpr c40
                                    have c40b2 : ¬ (t190 = []) := fun h_ => c40 (by rw [h_]; rfl)
                                    replace H := Option.bind_eq_some_iff.mp H
                                    obtain ⟨t194, A430, H⟩ := H
                                    replace H : (if t194 = true then (laws_FnFilterText.l1 k3 l0 l0 (l0.length : Int) x28_1 (rd_L1 l0 x28_1) ((rd_L1 l0 x28_1).length : Int) (wrap64 (x42_3 + 1))) else (some true)) = some r := H
                                    have A43 := Aside0.mk A430
                                    clear A430
                                    by_cases c44 : t194 = true
                                    · subst c44
                                      have H1 : (laws_FnFilterText.l1 k3 l0 l0 (l0.length : Int) x28_1 (rd_L1 l0 x28_1) ((rd_L1 l0 x28_1).length : Int) (wrap64 (x42_3 + 1))) = some r := by rw [if_pos rfl] at H; exact H
                                      clear H
                                      have H := H1
                                      clear H1
                                      have H' := Aside0.mk H
                                      clear H
                                      have p189 : 0 ≤ (x42_3 : Int) := of_decide_eq_true (by first | (with_reducible assumption) | assumption)
                                      have q189 : x42_3 < ((rd_L1 l0 x28_1).length : Int) := of_decide_eq_true (by first | (with_reducible assumption) | assumption)
                                      obtain ⟨ad189, e189, hx189_0⟩ := Kd.at_string HR187_0.out x42_3 p189 q189
                                      cases e189
                                      first | (replace hx189_0 := (HB.out.cell (World.block_lt_of_cell? w _ hx189_0)).trans hx189_0) | skip
                                      replace p189 := eq_true p189
                                      replace q189 := eq_true q189
                                      go_wp2_with (first | (go_at_call 12; (with_reducible refine (laws_signs.calls k3 (rdOf ByteArray.empty (rd_L1 l0 x28_1) x42_3) t190 t191 _ A39.out).mono ?_); rintro e w45 ⟨v192, rfl, ho0, hb⟩; have n0_ := Aside0.mk (Kd.R_lower ho0 (below_size (by repeat (first | (with_reducible first | exact HB.out | apply below_alloc | apply pw_below_drewN | apply below_drew1) | exact HB.out)))); have n1_ := Aside0.mk (below_step (by repeat (first | (with_reducible first | exact HB.out | apply below_alloc | apply pw_below_drewN | apply below_drew1) | exact HB.out)) hb); clear HB; have HO193 := n0_; have HB := n1_; clear n0_ n1_; (try clear hb); (try clear hb2); (try clear hk); (try clear hi); (try clear ho0); obtain ⟨Ao46, co46, eo46⟩ := Kd.R_slice HO193.out; subst eo46) | (go_at_call 13; (refine (laws_plainOwn.calls k3 (rdOf ByteArray.empty (rd_L1 l0 x28_1) x42_3) _ _ ([] : List ByteArray) _ _ ([] : List ByteArray) (⟨#[120]⟩ : ByteArray) true _ ?side1 ?side2 ?side3 ?side4 A43.out).mono ?_); (case side1 => exact Kd.C_nil _ _); (case side2 => exact Nat.le_refl _); (case side3 => exact Kd.C_nil _ _); (case side4 => exact Nat.le_refl _); rintro e w47 ⟨rfl, hb⟩; have n0_ := Aside0.mk (Kd.R_below (by (with_reducible repeat (first | apply Kd.R_alloc | apply Kd.R_drewN | apply Kd.R_drew)); exact HO193.out) hb); have n1_ := Aside0.mk (below_step (by repeat (first | (with_reducible first | exact HB.out | apply below_alloc | apply pw_below_drewN | apply below_drew1) | exact HB.out)) hb); clear HO193; clear HB; have HO193 := n0_; have HB := n1_; clear n0_ n1_; (try clear hb); (try clear hb2); (try clear hk); (try clear hi)))
                                      repeat (go_quiet (first | (go_at_call 12; (with_reducible refine (laws_signs.calls k3 (rdOf ByteArray.empty (rd_L1 l0 x28_1) x42_3) t190 t191 _ A39.out).mono ?_); rintro e w45 ⟨v192, rfl, ho0, hb⟩; have n0_ := Aside0.mk (Kd.R_lower ho0 (below_size (by repeat (first | (with_reducible first | exact HB.out | apply below_alloc | apply pw_below_drewN | apply below_drew1) | exact HB.out)))); have n1_ := Aside0.mk (below_step (by repeat (first | (with_reducible first | exact HB.out | apply below_alloc | apply pw_below_drewN | apply below_drew1) | exact HB.out)) hb); clear HB; have HO193 := n0_; have HB := n1_; clear n0_ n1_; (try clear hb); (try clear hb2); (try clear hk); (try clear hi); (try clear ho0); obtain ⟨Ao46, co46, eo46⟩ := Kd.R_slice HO193.out; subst eo46) | (go_at_call 13; (refine (laws_plainOwn.calls k3 (rdOf ByteArray.empty (rd_L1 l0 x28_1) x42_3) _ _ ([] : List ByteArray) _ _ ([] : List ByteArray) (⟨#[120]⟩ : ByteArray) true _ ?side1 ?side2 ?side3 ?side4 A43.out).mono ?_); (case side1 => exact Kd.C_nil _ _); (case side2 => exact Nat.le_refl _); (case side3 => exact Kd.C_nil _ _); (case side4 => exact Nat.le_refl _); rintro e w47 ⟨rfl, hb⟩; have n0_ := Aside0.mk (Kd.R_below (by (with_reducible repeat (first | apply Kd.R_alloc | apply Kd.R_drewN | apply Kd.R_drew)); exact HO193.out) hb); have n1_ := Aside0.mk (below_step (by repeat (first | (with_reducible first | exact HB.out | apply below_alloc | apply pw_below_drewN | apply below_drew1) | exact HB.out)) hb); clear HO193; clear HB; have HO193 := n0_; have HB := n1_; clear n0_ n1_; (try clear hb); (try clear hb2); (try clear hk); (try clear hi))); try go_wp2_with (first | (go_at_call 12; (with_reducible refine (laws_signs.calls k3 (rdOf ByteArray.empty (rd_L1 l0 x28_1) x42_3) t190 t191 _ A39.out).mono ?_); rintro e w45 ⟨v192, rfl, ho0, hb⟩; have n0_ := Aside0.mk (Kd.R_lower ho0 (below_size (by repeat (first | (with_reducible first | exact HB.out | apply below_alloc | apply pw_below_drewN | apply below_drew1) | exact HB.out)))); have n1_ := Aside0.mk (below_step (by repeat (first | (with_reducible first | exact HB.out | apply below_alloc | apply pw_below_drewN | apply below_drew1) | exact HB.out)) hb); clear HB; have HO193 := n0_; have HB := n1_; clear n0_ n1_; (try clear hb); (try clear hb2); (try clear hk); (try clear hi); (try clear ho0); obtain ⟨Ao46, co46, eo46⟩ := Kd.R_slice HO193.out; subst eo46) | (go_at_call 13; (refine (laws_plainOwn.calls k3 (rdOf ByteArray.empty (rd_L1 l0 x28_1) x42_3) _ _ ([] : List ByteArray) _ _ ([] : List ByteArray) (⟨#[120]⟩ : ByteArray) true _ ?side1 ?side2 ?side3 ?side4 A43.out).mono ?_); (case side1 => exact Kd.C_nil _ _); (case side2 => exact Nat.le_refl _); (case side3 => exact Kd.C_nil _ _); (case side4 => exact Nat.le_refl _); rintro e w47 ⟨rfl, hb⟩; have n0_ := Aside0.mk (Kd.R_below (by (with_reducible repeat (first | apply Kd.R_alloc | apply Kd.R_drewN | apply Kd.R_drew)); exact HO193.out) hb); have n1_ := Aside0.mk (below_step (by repeat (first | (with_reducible first | exact HB.out | apply below_alloc | apply pw_below_drewN | apply below_drew1) | exact HB.out)) hb); clear HO193; clear HB; have HO193 := n0_; have HB := n1_; clear n0_ n1_; (try clear hb); (try clear hb2); (try clear hk); (try clear hi))))
                                      go_roundg k3
                                      case measure => have := HK1.out; have := HJ30.out; have := HK3.out; omega
                                      case rel => exact ⟨(wrap64 (x42_3 + 1)), (by first | rfl | (simp; done) | (simp [*]; done)), H', ⟨by have := HK1.out; have := HJ30.out; have := HK3.out; omega⟩, ⟨by repeat (first | (with_reducible first | exact HB.out | apply below_alloc | apply pw_below_drewN | apply below_drew1) | exact HB.out)⟩⟩
                                    · replace c44 := Bool.eq_false_iff.mpr c44
                                      subst c44
                                      have H1 : (some true) = some r := by rw [if_neg (show ¬ (false = true) by decide)] at H; exact H
                                      clear H
                                      have H := H1
                                      clear H1
                                      obtain rfl := Option.some.inj H
                                      have p189 : 0 ≤ (x42_3 : Int) := of_decide_eq_true (by first | (with_reducible assumption) | assumption)
                                      have q189 : x42_3 < ((rd_L1 l0 x28_1).length : Int) := of_decide_eq_true (by first | (with_reducible assumption) | assumption)
                                      obtain ⟨ad189, e189, hx189_0⟩ := Kd.at_string HR187_0.out x42_3 p189 q189
                                      cases e189
                                      first | (replace hx189_0 := (HB.out.cell (World.block_lt_of_cell? w _ hx189_0)).trans hx189_0) | skip
                                      replace p189 := eq_true p189
                                      replace q189 := eq_true q189
                                      go_wp2_with (first | (go_at_call 12; (with_reducible refine (laws_signs.calls k3 (rdOf ByteArray.empty (rd_L1 l0 x28_1) x42_3) t190 t191 _ A39.out).mono ?_); rintro e w48 ⟨v192, rfl, ho0, hb⟩; have n0_ := Aside0.mk (Kd.R_lower ho0 (below_size (by repeat (first | (with_reducible first | exact HB.out | apply below_alloc | apply pw_below_drewN | apply below_drew1) | exact HB.out)))); have n1_ := Aside0.mk (below_step (by repeat (first | (with_reducible first | exact HB.out | apply below_alloc | apply pw_below_drewN | apply below_drew1) | exact HB.out)) hb); clear HB; have HO193 := n0_; have HB := n1_; clear n0_ n1_; (try clear hb); (try clear hb2); (try clear hk); (try clear hi); (try clear ho0); obtain ⟨Ao49, co49, eo49⟩ := Kd.R_slice HO193.out; subst eo49) | (go_at_call 13; (refine (laws_plainOwn.calls k3 (rdOf ByteArray.empty (rd_L1 l0 x28_1) x42_3) _ _ ([] : List ByteArray) _ _ ([] : List ByteArray) (⟨#[120]⟩ : ByteArray) false _ ?side1 ?side2 ?side3 ?side4 A43.out).mono ?_); (case side1 => exact Kd.C_nil _ _); (case side2 => exact Nat.le_refl _); (case side3 => exact Kd.C_nil _ _); (case side4 => exact Nat.le_refl _); rintro e w50 ⟨rfl, hb⟩; have n0_ := Aside0.mk (Kd.R_below (by (with_reducible repeat (first | apply Kd.R_alloc | apply Kd.R_drewN | apply Kd.R_drew)); exact HO193.out) hb); have n1_ := Aside0.mk (below_step (by repeat (first | (with_reducible first | exact HB.out | apply below_alloc | apply pw_below_drewN | apply below_drew1) | exact HB.out)) hb); clear HO193; clear HB; have HO193 := n0_; have HB := n1_; clear n0_ n1_; (try clear hb); (try clear hb2); (try clear hk); (try clear hi)))
                                      repeat (go_quiet (first | (go_at_call 12; (with_reducible refine (laws_signs.calls k3 (rdOf ByteArray.empty (rd_L1 l0 x28_1) x42_3) t190 t191 _ A39.out).mono ?_); rintro e w48 ⟨v192, rfl, ho0, hb⟩; have n0_ := Aside0.mk (Kd.R_lower ho0 (below_size (by repeat (first | (with_reducible first | exact HB.out | apply below_alloc | apply pw_below_drewN | apply below_drew1) | exact HB.out)))); have n1_ := Aside0.mk (below_step (by repeat (first | (with_reducible first | exact HB.out | apply below_alloc | apply pw_below_drewN | apply below_drew1) | exact HB.out)) hb); clear HB; have HO193 := n0_; have HB := n1_; clear n0_ n1_; (try clear hb); (try clear hb2); (try clear hk); (try clear hi); (try clear ho0); obtain ⟨Ao49, co49, eo49⟩ := Kd.R_slice HO193.out; subst eo49) | (go_at_call 13; (refine (laws_plainOwn.calls k3 (rdOf ByteArray.empty (rd_L1 l0 x28_1) x42_3) _ _ ([] : List ByteArray) _ _ ([] : List ByteArray) (⟨#[120]⟩ : ByteArray) false _ ?side1 ?side2 ?side3 ?side4 A43.out).mono ?_); (case side1 => exact Kd.C_nil _ _); (case side2 => exact Nat.le_refl _); (case side3 => exact Kd.C_nil _ _); (case side4 => exact Nat.le_refl _); rintro e w50 ⟨rfl, hb⟩; have n0_ := Aside0.mk (Kd.R_below (by (with_reducible repeat (first | apply Kd.R_alloc | apply Kd.R_drewN | apply Kd.R_drew)); exact HO193.out) hb); have n1_ := Aside0.mk (below_step (by repeat (first | (with_reducible first | exact HB.out | apply below_alloc | apply pw_below_drewN | apply below_drew1) | exact HB.out)) hb); clear HO193; clear HB; have HO193 := n0_; have HB := n1_; clear n0_ n1_; (try clear hb); (try clear hb2); (try clear hk); (try clear hi))); try go_wp2_with (first | (go_at_call 12; (with_reducible refine (laws_signs.calls k3 (rdOf ByteArray.empty (rd_L1 l0 x28_1) x42_3) t190 t191 _ A39.out).mono ?_); rintro e w48 ⟨v192, rfl, ho0, hb⟩; have n0_ := Aside0.mk (Kd.R_lower ho0 (below_size (by repeat (first | (with_reducible first | exact HB.out | apply below_alloc | apply pw_below_drewN | apply below_drew1) | exact HB.out)))); have n1_ := Aside0.mk (below_step (by repeat (first | (with_reducible first | exact HB.out | apply below_alloc | apply pw_below_drewN | apply below_drew1) | exact HB.out)) hb); clear HB; have HO193 := n0_; have HB := n1_; clear n0_ n1_; (try clear hb); (try clear hb2); (try clear hk); (try clear hi); (try clear ho0); obtain ⟨Ao49, co49, eo49⟩ := Kd.R_slice HO193.out; subst eo49) | (go_at_call 13; (refine (laws_plainOwn.calls k3 (rdOf ByteArray.empty (rd_L1 l0 x28_1) x42_3) _ _ ([] : List ByteArray) _ _ ([] : List ByteArray) (⟨#[120]⟩ : ByteArray) false _ ?side1 ?side2 ?side3 ?side4 A43.out).mono ?_); (case side1 => exact Kd.C_nil _ _); (case side2 => exact Nat.le_refl _); (case side3 => exact Kd.C_nil _ _); (case side4 => exact Nat.le_refl _); rintro e w50 ⟨rfl, hb⟩; have n0_ := Aside0.mk (Kd.R_below (by (with_reducible repeat (first | apply Kd.R_alloc | apply Kd.R_drewN | apply Kd.R_drew)); exact HO193.out) hb); have n1_ := Aside0.mk (below_step (by repeat (first | (with_reducible first | exact HB.out | apply below_alloc | apply pw_below_drewN | apply below_drew1) | exact HB.out)) hb); clear HO193; clear HB; have HO193 := n0_; have HB := n1_; clear n0_ n1_; (try clear hb); (try clear hb2); (try clear hk); (try clear hi))))
                                      go_ret
                                      exact ⟨by first | rfl | (simp [errW_none, errW_some] <;> rfl) | (simp [*, errW_none, errW_some] <;> rfl), by repeat (first | (with_reducible first | exact HB.out | apply below_alloc | apply pw_below_drewN | apply below_drew1) | exact HB.out)⟩
                                · rw [if_neg c38] at H
                                  exact absurd H (by simp)
                              · rw [if_neg c37] at H
                                exact absurd H (by simp)
                            · rw [if_neg c36] at H
                              have c36b0 : decide (x42_3 < ((rd_L1 l0 x28_1).length : Int)) = false := decide_eq_false c36
                              clear c36
                              have H' := Aside0.mk H
                              clear H
                              go_wp2
                              repeat (go_quiet (fail); try go_wp2)
                              go_roundg k3
                              case measure => have := HK1.out; have := HJ30.out; have := HK3.out; omega
                              case rel => exact ⟨(wrap64 (x28_1 + 1)), (by first | rfl | (simp; done) | (simp [*]; done)), H', ⟨by have := HK1.out; have := HJ30.out; have := HK3.out; omega⟩, ⟨by repeat (first | (with_reducible first | exact HB.out | apply below_alloc | apply pw_below_drewN | apply below_drew1) | exact HB.out)⟩⟩
                · rw [if_neg c30] at H
                  exact absurd H (by simp)
              · rw [if_neg c29] at H
                exact absurd H (by simp)
            · rw [if_neg c28] at H
              have c28b0 : decide (x28_1 < (l0.length : Int)) = false := decide_eq_false c28
              clear c28
              have H' := Aside0.mk H
              clear H
              go_wp2
              repeat (go_quiet (fail); try go_wp2)
              go_loopg [64] k1 (fun kq v64 w' => ∃ (x64_2 : Int), v64 = .int .i64 x64_2 ∧ Aside0 (laws_FnFilterText.l2 kq l0 (l0.length : Int) x64_2 = some r) ∧ Aside0 (kq ≤ k1) ∧ Aside0 (Below w.heap.size w w'))
              case atStart => exact ⟨(0), (by first | rfl | (simp; done) | (simp [*]; done)), H', ⟨Nat.le_refl _⟩, ⟨by repeat (first | (with_reducible first | exact HB.out | apply below_alloc | apply pw_below_drewN | apply below_drew1) | exact HB.out)⟩⟩
              case round =>
                clear H'
                try clear c1
                try clear p1
                try clear q1
                try clear hx1
                try clear c2
                try clear p2
                try clear c3
                try clear c4
                try clear c5
                try clear c5b0
                try clear c5b1
                try clear p6
                try clear c13
                try clear c13b0
                try clear c13b1
                try clear c18
                try clear p18
                try clear q18
                try clear hx18
                try clear c28
                try clear c28b0
                try clear c29
                try clear c29b0
                try clear c30
                try clear c30b0
                try clear c32
                try clear c32b0
                try clear c32b1
                try clear c35
                try clear c36
                try clear c36b0
                try clear c37
                try clear c37b0
                try clear c38
                try clear c38b0
                try clear c40
                try clear c40b0
                try clear c40b1
                try clear c40b2
                try clear c44
                try clear hx187_0
                try clear hx189_0
                try clear p1
                try clear p18
                try clear p187
                try clear p189
                try clear p2
                try clear q1
                try clear q18
                try clear q187
                try clear q189
                obtain ⟨x64_2, rfl, HA, HK2, HB⟩ := hrel
                cases gk with
                | zero => exact absurd HA.out (by simp [laws_FnFilterText.l2])
                | succ k2 =>
                  have H := HA.out
                  clear HA
                  simp only [laws_FnFilterText.l2] at H
                  by_cases c51 : x64_2 < (l0.length : Int)
                  · rw [if_pos c51] at H
                    have c51b0 : decide (x64_2 < (l0.length : Int)) = true := decide_eq_true c51
                    clear c51
                    have H' := Aside0.mk H
                    clear H
                    go_wp2
                    repeat (go_quiet (fail); try go_wp2)
                    go_loopg [69] k2 (fun kq v69 w' => ∃ (x69_3 : Int), v69 = .int .i64 x69_3 ∧ Aside0 (laws_FnFilterText.l3 kq l0 x64_2 (l0.length : Int) x64_2 (l0.length : Int) x69_3 = some r) ∧ Aside0 (kq ≤ k2) ∧ Aside0 (Below w.heap.size w w'))
                    case atStart => exact ⟨(0), (by first | rfl | (simp; done) | (simp [*]; done)), H', ⟨Nat.le_refl _⟩, ⟨by repeat (first | (with_reducible first | exact HB.out | apply below_alloc | apply pw_below_drewN | apply below_drew1) | exact HB.out)⟩⟩
                    case round =>
                      clear H'
                      try clear c1
                      try clear p1
                      try clear q1
                      try clear hx1
                      try clear c2
                      try clear p2
                      try clear c3
                      try clear c4
                      try clear c5
                      try clear c5b0
                      try clear c5b1
                      try clear p6
                      try clear c13
                      try clear c13b0
                      try clear c13b1
                      try clear c18
                      try clear p18
                      try clear q18
                      try clear hx18
                      try clear c28
                      try clear c28b0
                      try clear c29
                      try clear c29b0
                      try clear c30
                      try clear c30b0
                      try clear c32
                      try clear c32b0
                      try clear c32b1
                      try clear c35
                      try clear c36
                      try clear c36b0
                      try clear c37
                      try clear c37b0
                      try clear c38
                      try clear c38b0
                      try clear c40
                      try clear c40b0
                      try clear c40b1
                      try clear c40b2
                      try clear c44
                      try clear c51
                      try clear c51b0
                      try clear hx187_0
                      try clear hx189_0
                      try clear p1
                      try clear p18
                      try clear p187
                      try clear p189
                      try clear p2
                      try clear p6
                      try clear q1
                      try clear q18
                      try clear q187
                      try clear q189
                      obtain ⟨x69_3, rfl, HA, HK3, HB⟩ := hrel
                      cases gk with
                      | zero => exact absurd HA.out (by simp [laws_FnFilterText.l3])
                      | succ k3 =>
                        have H := HA.out
                        clear HA
                        simp only [laws_FnFilterText.l3] at H
                        by_cases c52 : x69_3 < (l0.length : Int)
                        · rw [if_pos c52] at H
                          have c52b0 : decide (x69_3 < (l0.length : Int)) = true := decide_eq_true c52
                          clear c52
                          by_cases c53 : x64_2 = x69_3
                          · rw [if_pos c53] at H
                            have c53b0 : (x64_2 == x69_3) = true := beq_iff_eq.mpr c53
                            have c53b1 : (x64_2 != x69_3) = false := bne_eq_false_iff_eq.mpr c53
                            clear c53
                            have H' := Aside0.mk H
                            clear H
                            go_wp2
                            repeat (go_quiet (fail); try go_wp2)
                            go_roundg k3
                            case measure => have := HK1.out; have := HK2.out; have := HK3.out; omega
                            case rel => exact ⟨(wrap64 (x69_3 + 1)), (by first | rfl | (simp; done) | (simp [*]; done)), H', ⟨by have := HK1.out; have := HK2.out; have := HK3.out; omega⟩, ⟨by repeat (first | (with_reducible first | exact HB.out | apply below_alloc | apply pw_below_drewN | apply below_drew1) | exact HB.out)⟩⟩
                          · rw [if_neg c53] at H
                            have c53b0 : (x64_2 == x69_3) = false := beq_eq_false_iff_ne.mpr c53
                            have c53b1 : (x64_2 != x69_3) = true := bne_iff_ne.mpr c53
                            by_cases c54 : 0 ≤ x64_2
                            · rw [if_pos c54] at H
                              have c54b0 : decide (0 ≤ x64_2) = true := decide_eq_true c54
                              clear c54
                              by_cases c55 : x64_2 < (l0.length : Int)
                              · rw [if_pos c55] at H
                                have c55b0 : decide (x64_2 < (l0.length : Int)) = true := decide_eq_true c55
                                clear c55
                                by_cases c56 : 0 ≤ x69_3
                                · rw [if_pos c56] at H
                                  have c56b0 : decide (0 ≤ x69_3) = true := decide_eq_true c56
                                  clear c56
                                  by_cases c57 : x69_3 < (l0.length : Int)
                                  · rw [if_pos c57] at H
                                    have c57b0 : decide (x69_3 < (l0.length : Int)) = true := decide_eq_true c57
                                    clear c57
                                    replace H := Option.bind_eq_some_iff.mp H
                                    obtain ⟨t197, A580, H⟩ := H
                                    replace H : (if t197 = true then (some true) else (laws_FnFilterText.l3 k3 l0 x64_2 (l0.length : Int) x64_2 (l0.length : Int) (wrap64 (x69_3 + 1)))) = some r := H
                                    have A58 := Aside0.mk A580
                                    clear A580
                                    by_cases c59 : t197 = true
                                    · subst c59
                                      have H1 : (some true) = some r := by rw [if_pos rfl] at H; exact H
                                      clear H
                                      have H := H1
                                      clear H1
                                      obtain rfl := Option.some.inj H
                                      have p195 : 0 ≤ (x64_2 : Int) := of_decide_eq_true (by first | (with_reducible assumption) | assumption)
                                      have q195 : x64_2 < (l0.length : Int) := of_decide_eq_true (by first | (with_reducible assumption) | assumption)
                                      obtain ⟨ad195, A195_0, c195_0, e195, hx195_0, hl195_0, hi195_0⟩ := at_L1 HR0.out x64_2 p195 q195
                                      cases e195
                                      first | (replace hx195_0 := (HB.out.cell (World.block_lt_of_cell? w _ hx195_0)).trans hx195_0) | skip
                                      have HR195_0 := Aside0.mk hi195_0
                                      have HC195_0 := Aside0.mk hl195_0
                                      clear hi195_0 hl195_0
                                      replace p195 := eq_true p195
                                      replace q195 := eq_true q195
                                      have p196 : 0 ≤ (x69_3 : Int) := of_decide_eq_true (by first | (with_reducible assumption) | assumption)
                                      have q196 : x69_3 < (l0.length : Int) := of_decide_eq_true (by first | (with_reducible assumption) | assumption)
                                      obtain ⟨ad196, A196_0, c196_0, e196, hx196_0, hl196_0, hi196_0⟩ := at_L1 HR0.out x69_3 p196 q196
                                      obtain rfl : ad195 = ad196 := (by injection e196)
                                      first | (replace hx196_0 := (HB.out.cell (World.block_lt_of_cell? w _ hx196_0)).trans hx196_0) | skip
                                      have HR196_0 := Aside0.mk hi196_0
                                      have HC196_0 := Aside0.mk hl196_0
                                      clear hi196_0 hl196_0
                                      replace p196 := eq_true p196
                                      replace q196 := eq_true q196
                                      go_wp2_with (first | (go_at_call 14; (with_reducible refine (laws_heads.calls k3 _ _ (rd_L1 l0 x64_2) _ _ (rd_L1 l0 x69_3) true _ ?side1 ?side2 ?side3 ?side4 A58.out).mono ?_); (case side1 => repeat (first | exact (Kd.C_below HR195_0.out HB.out) | (with_reducible refine Kd.C_alloc ?_ _) | (with_reducible refine Kd.C_drewN ?_ _) | (with_reducible refine Kd.C_drew ?_))); (case side2 => exact HC195_0.out); (case side3 => repeat (first | exact (Kd.C_below HR196_0.out HB.out) | (with_reducible refine Kd.C_alloc ?_ _) | (with_reducible refine Kd.C_drewN ?_ _) | (with_reducible refine Kd.C_drew ?_))); (case side4 => exact HC196_0.out); rintro e w' ⟨rfl, ⟨nd, rfl⟩⟩; (try first | exact ⟨rfl, _, World.drewN_drewN _ _ _⟩ | exact ⟨rfl, _, Eq.trans (World.drewN_drewN _ _ _) (congrArg (World.drewN _) (Nat.add_assoc _ _ _))⟩)))
                                      repeat (go_quiet (first | (go_at_call 14; (with_reducible refine (laws_heads.calls k3 _ _ (rd_L1 l0 x64_2) _ _ (rd_L1 l0 x69_3) true _ ?side1 ?side2 ?side3 ?side4 A58.out).mono ?_); (case side1 => repeat (first | exact (Kd.C_below HR195_0.out HB.out) | (with_reducible refine Kd.C_alloc ?_ _) | (with_reducible refine Kd.C_drewN ?_ _) | (with_reducible refine Kd.C_drew ?_))); (case side2 => exact HC195_0.out); (case side3 => repeat (first | exact (Kd.C_below HR196_0.out HB.out) | (with_reducible refine Kd.C_alloc ?_ _) | (with_reducible refine Kd.C_drewN ?_ _) | (with_reducible refine Kd.C_drew ?_))); (case side4 => exact HC196_0.out); rintro e w' ⟨rfl, ⟨nd, rfl⟩⟩; (try first | exact ⟨rfl, _, World.drewN_drewN _ _ _⟩ | exact ⟨rfl, _, Eq.trans (World.drewN_drewN _ _ _) (congrArg (World.drewN _) (Nat.add_assoc _ _ _))⟩))); try go_wp2_with (first | (go_at_call 14; (with_reducible refine (laws_heads.calls k3 _ _ (rd_L1 l0 x64_2) _ _ (rd_L1 l0 x69_3) true _ ?side1 ?side2 ?side3 ?side4 A58.out).mono ?_); (case side1 => repeat (first | exact (Kd.C_below HR195_0.out HB.out) | (with_reducible refine Kd.C_alloc ?_ _) | (with_reducible refine Kd.C_drewN ?_ _) | (with_reducible refine Kd.C_drew ?_))); (case side2 => exact HC195_0.out); (case side3 => repeat (first | exact (Kd.C_below HR196_0.out HB.out) | (with_reducible refine Kd.C_alloc ?_ _) | (with_reducible refine Kd.C_drewN ?_ _) | (with_reducible refine Kd.C_drew ?_))); (case side4 => exact HC196_0.out); rintro e w' ⟨rfl, ⟨nd, rfl⟩⟩; (try first | exact ⟨rfl, _, World.drewN_drewN _ _ _⟩ | exact ⟨rfl, _, Eq.trans (World.drewN_drewN _ _ _) (congrArg (World.drewN _) (Nat.add_assoc _ _ _))⟩))))
                                      go_ret
                                      exact ⟨by first | rfl | (simp [errW_none, errW_some] <;> rfl) | (simp [*, errW_none, errW_some] <;> rfl), by repeat (first | (with_reducible first | exact HB.out | apply below_alloc | apply pw_below_drewN | apply below_drew1) | exact HB.out)⟩
                                    · replace c59 := Bool.eq_false_iff.mpr c59
                                      subst c59
                                      have H1 : (laws_FnFilterText.l3 k3 l0 x64_2 (l0.length : Int) x64_2 (l0.length : Int) (wrap64 (x69_3 + 1))) = some r := by rw [if_neg (show ¬ (false = true) by decide)] at H; exact H
                                      clear H
                                      have H := H1
                                      clear H1
                                      have H' := Aside0.mk H
                                      clear H
                                      have p195 : 0 ≤ (x64_2 : Int) := of_decide_eq_true (by first | (with_reducible assumption) | assumption)
                                      have q195 : x64_2 < (l0.length : Int) := of_decide_eq_true (by first | (with_reducible assumption) | assumption)
                                      obtain ⟨ad195, A195_0, c195_0, e195, hx195_0, hl195_0, hi195_0⟩ := at_L1 HR0.out x64_2 p195 q195
                                      cases e195
                                      first | (replace hx195_0 := (HB.out.cell (World.block_lt_of_cell? w _ hx195_0)).trans hx195_0) | skip
                                      have HR195_0 := Aside0.mk hi195_0
                                      have HC195_0 := Aside0.mk hl195_0
                                      clear hi195_0 hl195_0
                                      replace p195 := eq_true p195
                                      replace q195 := eq_true q195
                                      have p196 : 0 ≤ (x69_3 : Int) := of_decide_eq_true (by first | (with_reducible assumption) | assumption)
                                      have q196 : x69_3 < (l0.length : Int) := of_decide_eq_true (by first | (with_reducible assumption) | assumption)
                                      obtain ⟨ad196, A196_0, c196_0, e196, hx196_0, hl196_0, hi196_0⟩ := at_L1 HR0.out x69_3 p196 q196
                                      obtain rfl : ad195 = ad196 := (by injection e196)
                                      first | (replace hx196_0 := (HB.out.cell (World.block_lt_of_cell? w _ hx196_0)).trans hx196_0) | skip
                                      have HR196_0 := Aside0.mk hi196_0
                                      have HC196_0 := Aside0.mk hl196_0
                                      clear hi196_0 hl196_0
                                      replace p196 := eq_true p196
                                      replace q196 := eq_true q196
                                      go_wp2_with (first | (go_at_call 14; (with_reducible refine (laws_heads.calls k3 _ _ (rd_L1 l0 x64_2) _ _ (rd_L1 l0 x69_3) false _ ?side1 ?side2 ?side3 ?side4 A58.out).mono ?_); (case side1 => repeat (first | exact (Kd.C_below HR195_0.out HB.out) | (with_reducible refine Kd.C_alloc ?_ _) | (with_reducible refine Kd.C_drewN ?_ _) | (with_reducible refine Kd.C_drew ?_))); (case side2 => exact HC195_0.out); (case side3 => repeat (first | exact (Kd.C_below HR196_0.out HB.out) | (with_reducible refine Kd.C_alloc ?_ _) | (with_reducible refine Kd.C_drewN ?_ _) | (with_reducible refine Kd.C_drew ?_))); (case side4 => exact HC196_0.out); rintro e w' ⟨rfl, ⟨nd, rfl⟩⟩; (try first | exact ⟨rfl, _, World.drewN_drewN _ _ _⟩ | exact ⟨rfl, _, Eq.trans (World.drewN_drewN _ _ _) (congrArg (World.drewN _) (Nat.add_assoc _ _ _))⟩)))
                                      repeat (go_quiet (first | (go_at_call 14; (with_reducible refine (laws_heads.calls k3 _ _ (rd_L1 l0 x64_2) _ _ (rd_L1 l0 x69_3) false _ ?side1 ?side2 ?side3 ?side4 A58.out).mono ?_); (case side1 => repeat (first | exact (Kd.C_below HR195_0.out HB.out) | (with_reducible refine Kd.C_alloc ?_ _) | (with_reducible refine Kd.C_drewN ?_ _) | (with_reducible refine Kd.C_drew ?_))); (case side2 => exact HC195_0.out); (case side3 => repeat (first | exact (Kd.C_below HR196_0.out HB.out) | (with_reducible refine Kd.C_alloc ?_ _) | (with_reducible refine Kd.C_drewN ?_ _) | (with_reducible refine Kd.C_drew ?_))); (case side4 => exact HC196_0.out); rintro e w' ⟨rfl, ⟨nd, rfl⟩⟩; (try first | exact ⟨rfl, _, World.drewN_drewN _ _ _⟩ | exact ⟨rfl, _, Eq.trans (World.drewN_drewN _ _ _) (congrArg (World.drewN _) (Nat.add_assoc _ _ _))⟩))); try go_wp2_with (first | (go_at_call 14; (with_reducible refine (laws_heads.calls k3 _ _ (rd_L1 l0 x64_2) _ _ (rd_L1 l0 x69_3) false _ ?side1 ?side2 ?side3 ?side4 A58.out).mono ?_); (case side1 => repeat (first | exact (Kd.C_below HR195_0.out HB.out) | (with_reducible refine Kd.C_alloc ?_ _) | (with_reducible refine Kd.C_drewN ?_ _) | (with_reducible refine Kd.C_drew ?_))); (case side2 => exact HC195_0.out); (case side3 => repeat (first | exact (Kd.C_below HR196_0.out HB.out) | (with_reducible refine Kd.C_alloc ?_ _) | (with_reducible refine Kd.C_drewN ?_ _) | (with_reducible refine Kd.C_drew ?_))); (case side4 => exact HC196_0.out); rintro e w' ⟨rfl, ⟨nd, rfl⟩⟩; (try first | exact ⟨rfl, _, World.drewN_drewN _ _ _⟩ | exact ⟨rfl, _, Eq.trans (World.drewN_drewN _ _ _) (congrArg (World.drewN _) (Nat.add_assoc _ _ _))⟩))))
                                      go_roundg k3
                                      case measure => have := HK1.out; have := HK2.out; have := HK3.out; omega
                                      case rel => exact ⟨(wrap64 (x69_3 + 1)), (by first | rfl | (simp; done) | (simp [*]; done)), H', ⟨by have := HK1.out; have := HK2.out; have := HK3.out; omega⟩, ⟨by repeat (first | (with_reducible first | exact HB.out | apply below_alloc | apply pw_below_drewN | apply below_drew1) | exact HB.out)⟩⟩
                                  · rw [if_neg c57] at H
                                    exact absurd H (by simp)
                                · rw [if_neg c56] at H
                                  exact absurd H (by simp)
                              · rw [if_neg c55] at H
                                exact absurd H (by simp)
                            · rw [if_neg c54] at H
                              exact absurd H (by simp)
                        · rw [if_neg c52] at H
                          have c52b0 : decide (x69_3 < (l0.length : Int)) = false := decide_eq_false c52
                          clear c52
                          have H' := Aside0.mk H
                          clear H
                          go_wp2
                          repeat (go_quiet (fail); try go_wp2)
                          go_roundg k3
                          case measure => have := HK1.out; have := HK2.out; have := HK3.out; omega
                          case rel => exact ⟨(wrap64 (x64_2 + 1)), (by first | rfl | (simp; done) | (simp [*]; done)), H', ⟨by have := HK1.out; have := HK2.out; have := HK3.out; omega⟩, ⟨by repeat (first | (with_reducible first | exact HB.out | apply below_alloc | apply pw_below_drewN | apply below_drew1) | exact HB.out)⟩⟩
                  · rw [if_neg c51] at H
                    have c51b0 : decide (x64_2 < (l0.length : Int)) = false := decide_eq_false c51
                    clear c51
                    replace H := Option.bind_eq_some_iff.mp H
                    obtain ⟨t198, A600, H⟩ := H
                    replace H : (laws_FnFilterText.l4 k2 t198 l0 (l0.length : Int) 0) = some r := H
                    have A60 := Aside0.mk A600
                    clear A600
                    have H' := Aside0.mk H
                    clear H
                    go_wp2_with (first | (go_at_call 11; (with_reducible refine (impl_FilterText.calls _ _ l0 t198 _ ?side1 ?side2 A60.out).mono ?_); (case side1 => repeat (first | exact (Kd.C_below HR0.out HB.out) | (with_reducible refine Kd.C_alloc ?_ _) | (with_reducible refine Kd.C_drewN ?_ _) | (with_reducible refine Kd.C_drew ?_))); (case side2 => exact HC0.out); rintro e w61 ⟨rfl, hb⟩; have n0_ := Aside0.mk (below_step (by repeat (first | (with_reducible first | exact HB.out | apply below_alloc | apply pw_below_drewN | apply below_drew1) | exact HB.out)) hb); clear HB; have HB := n0_; clear n0_; (try clear hb); (try clear hb2); (try clear hk); (try clear hi)))
                    repeat (go_quiet (first | (go_at_call 11; (with_reducible refine (impl_FilterText.calls _ _ l0 t198 _ ?side1 ?side2 A60.out).mono ?_); (case side1 => repeat (first | exact (Kd.C_below HR0.out HB.out) | (with_reducible refine Kd.C_alloc ?_ _) | (with_reducible refine Kd.C_drewN ?_ _) | (with_reducible refine Kd.C_drew ?_))); (case side2 => exact HC0.out); rintro e w61 ⟨rfl, hb⟩; have n0_ := Aside0.mk (below_step (by repeat (first | (with_reducible first | exact HB.out | apply below_alloc | apply pw_below_drewN | apply below_drew1) | exact HB.out)) hb); clear HB; have HB := n0_; clear n0_; (try clear hb); (try clear hb2); (try clear hk); (try clear hi))); try go_wp2_with (first | (go_at_call 11; (with_reducible refine (impl_FilterText.calls _ _ l0 t198 _ ?side1 ?side2 A60.out).mono ?_); (case side1 => repeat (first | exact (Kd.C_below HR0.out HB.out) | (with_reducible refine Kd.C_alloc ?_ _) | (with_reducible refine Kd.C_drewN ?_ _) | (with_reducible refine Kd.C_drew ?_))); (case side2 => exact HC0.out); rintro e w61 ⟨rfl, hb⟩; have n0_ := Aside0.mk (below_step (by repeat (first | (with_reducible first | exact HB.out | apply below_alloc | apply pw_below_drewN | apply below_drew1) | exact HB.out)) hb); clear HB; have HB := n0_; clear n0_; (try clear hb); (try clear hb2); (try clear hk); (try clear hi))))
                    go_loopg [92] k2 (fun kq v92 w' => ∃ (x92_3 : Int), v92 = .int .i64 x92_3 ∧ Aside0 (laws_FnFilterText.l4 kq t198 l0 (l0.length : Int) x92_3 = some r) ∧ Aside0 (kq ≤ k2) ∧ Aside0 (Below w.heap.size w w'))
                    case atStart => exact ⟨(0), (by first | rfl | (simp; done) | (simp [*]; done)), H', ⟨Nat.le_refl _⟩, ⟨by repeat (first | (with_reducible first | exact HB.out | apply below_alloc | apply pw_below_drewN | apply below_drew1) | exact HB.out)⟩⟩
                    case round =>
                      clear H'
                      try clear c1
                      try clear p1
                      try clear q1
                      try clear hx1
                      try clear c2
                      try clear p2
                      try clear c3
                      try clear c4
                      try clear c5
                      try clear c5b0
                      try clear c5b1
                      try clear p6
                      try clear c13
                      try clear c13b0
                      try clear c13b1
                      try clear c18
                      try clear p18
                      try clear q18
                      try clear hx18
                      try clear c19
                      try clear p19
                      try clear q19
                      try clear hx19
                      try clear c28
                      try clear c28b0
                      try clear c29
                      try clear c29b0
                      try clear c30
                      try clear c30b0
                      try clear c32
                      try clear c32b0
                      try clear c32b1
                      try clear c35
                      try clear c36
                      try clear c36b0
                      try clear c37
                      try clear c37b0
                      try clear c38
                      try clear c38b0
                      try clear c40
                      try clear c40b0
                      try clear c40b1
                      try clear c40b2
                      try clear c44
                      try clear c51
                      try clear c51b0
                      try clear c52
                      try clear c52b0
                      try clear c53
                      try clear c53b0
                      try clear c53b1
                      try clear c54
                      try clear c54b0
                      try clear c55
                      try clear c55b0
                      try clear c56
                      try clear c56b0
                      try clear c57
                      try clear c57b0
                      try clear c59
                      try clear hx187_0
                      try clear hx189_0
                      try clear hx195_0
                      try clear hx196_0
                      try clear p1
                      try clear p18
                      try clear p187
                      try clear p189
                      try clear p195
                      try clear p196
                      try clear p2
                      try clear p6
                      try clear q1
                      try clear q18
                      try clear q187
                      try clear q189
                      try clear q195
                      try clear q196
                      obtain ⟨x92_3, rfl, HA, HK3, HB⟩ := hrel
                      cases gk with
                      | zero => exact absurd HA.out (by simp [laws_FnFilterText.l4])
                      | succ k3 =>
                        have H := HA.out
                        clear HA
                        simp only [laws_FnFilterText.l4] at H
                        by_cases c62 : x92_3 < (l0.length : Int)
                        · rw [if_pos c62] at H
                          have c62b0 : decide (x92_3 < (l0.length : Int)) = true := decide_eq_true c62
                          clear c62
                          by_cases c63 : 0 ≤ x92_3
                          · rw [if_pos c63] at H
                            have c63b0 : decide (0 ≤ x92_3) = true := decide_eq_true c63
                            clear c63
                            by_cases c64 : x92_3 < (l0.length : Int)
                            · rw [if_pos c64] at H
                              have c64b0 : decide (x92_3 < (l0.length : Int)) = true := decide_eq_true c64
                              clear c64
                              have H' := Aside0.mk H
                              clear H
                              have p199 : 0 ≤ (x92_3 : Int) := of_decide_eq_true (by first | (with_reducible assumption) | assumption)
                              have q199 : x92_3 < (l0.length : Int) := of_decide_eq_true (by first | (with_reducible assumption) | assumption)
                              obtain ⟨ad199, A199_0, c199_0, e199, hx199_0, hl199_0, hi199_0⟩ := at_L1 HR0.out x92_3 p199 q199
                              cases e199
                              first | (replace hx199_0 := (HB.out.cell (World.block_lt_of_cell? w _ hx199_0)).trans hx199_0) | skip
                              have HR199_0 := Aside0.mk hi199_0
                              have HC199_0 := Aside0.mk hl199_0
                              clear hi199_0 hl199_0
                              replace p199 := eq_true p199
                              replace q199 := eq_true q199
                              go_wp2
                              repeat (go_quiet (fail); try go_wp2)
                              go_loopg [98] k3 (fun kq v98 w' => ∃ (x98_4 : Int), v98 = .int .i64 x98_4 ∧ Aside0 (laws_FnFilterText.l5 kq t198 l0 (l0.length : Int) x92_3 (rd_L1 l0 x92_3) ((rd_L1 l0 x92_3).length : Int) x98_4 = some r) ∧ Aside0 (kq ≤ k3) ∧ Aside0 (Below w.heap.size w w'))
                              case atStart => exact ⟨(0), (by first | rfl | (simp; done) | (simp [*]; done)), H', ⟨Nat.le_refl _⟩, ⟨by repeat (first | (with_reducible first | exact HB.out | apply below_alloc | apply pw_below_drewN | apply below_drew1) | exact HB.out)⟩⟩
                              case round =>
                                clear H'
                                try clear c1
                                try clear p1
                                try clear q1
                                try clear hx1
                                try clear c2
                                try clear p2
                                try clear c3
                                try clear c4
                                try clear c5
                                try clear c5b0
                                try clear c5b1
                                try clear c6
                                try clear p6
                                try clear c13
                                try clear c13b0
                                try clear c13b1
                                try clear c18
                                try clear p18
                                try clear q18
                                try clear hx18
                                try clear c19
                                try clear p19
                                try clear q19
                                try clear hx19
                                try clear c28
                                try clear c28b0
                                try clear c29
                                try clear c29b0
                                try clear c30
                                try clear c30b0
                                try clear c32
                                try clear c32b0
                                try clear c32b1
                                try clear c35
                                try clear c36
                                try clear c36b0
                                try clear c37
                                try clear c37b0
                                try clear c38
                                try clear c38b0
                                try clear c40
                                try clear c40b0
                                try clear c40b1
                                try clear c40b2
                                try clear c44
                                try clear c51
                                try clear c51b0
                                try clear c52
                                try clear c52b0
                                try clear c53
                                try clear c53b0
                                try clear c53b1
                                try clear c54
                                try clear c54b0
                                try clear c55
                                try clear c55b0
                                try clear c56
                                try clear c56b0
                                try clear c57
                                try clear c57b0
                                try clear c59
                                try clear c62
                                try clear c62b0
                                try clear c63
                                try clear c63b0
                                try clear c64
                                try clear c64b0
                                try clear p64
                                try clear hx187_0
                                try clear hx189_0
                                try clear hx195_0
                                try clear hx196_0
                                try clear hx199_0
                                try clear p1
                                try clear p18
                                try clear p187
                                try clear p189
                                try clear p19
                                try clear p195
                                try clear p196
                                try clear p199
                                try clear p2
                                try clear p6
                                try clear q1
                                try clear q18
                                try clear q187
                                try clear q189
                                try clear q19
                                try clear q195
                                try clear q196
                                try clear q199
                                obtain ⟨x98_4, rfl, HA, HK4, HB⟩ := hrel
                                cases gk with
                                | zero => exact absurd HA.out (by simp [laws_FnFilterText.l5])
                                | succ k4 =>
                                  have H := HA.out
                                  clear HA
                                  simp only [laws_FnFilterText.l5] at H
                                  by_cases c65 : x98_4 < ((rd_L1 l0 x92_3).length : Int)
                                  · rw [if_pos c65] at H
                                    have c65b0 : decide (x98_4 < ((rd_L1 l0 x92_3).length : Int)) = true := decide_eq_true c65
                                    clear c65
                                    by_cases c66 : 0 ≤ x98_4
                                    · rw [if_pos c66] at H
                                      have c66b0 : decide (0 ≤ x98_4) = true := decide_eq_true c66
                                      clear c66
                                      by_cases c67 : x98_4 < ((rd_L1 l0 x92_3).length : Int)
                                      · rw [if_pos c67] at H
                                        have c67b0 : decide (x98_4 < ((rd_L1 l0 x92_3).length : Int)) = true := decide_eq_true c67
                                        clear c67
                                        replace H := Option.bind_eq_some_iff.mp H
                                        obtain ⟨t201, A680, H⟩ := H
                                        replace H : (if t201 = true then (laws_FnFilterText.l5 k4 t198 l0 (l0.length : Int) x92_3 (rd_L1 l0 x92_3) ((rd_L1 l0 x92_3).length : Int) (wrap64 (x98_4 + 1))) else (some false)) = some r := H
                                        have A68 := Aside0.mk A680
                                        clear A680
                                        by_cases c69 : t201 = true
                                        · subst c69
                                          have H1 : (laws_FnFilterText.l5 k4 t198 l0 (l0.length : Int) x92_3 (rd_L1 l0 x92_3) ((rd_L1 l0 x92_3).length : Int) (wrap64 (x98_4 + 1))) = some r := by rw [if_pos rfl] at H; exact H
                                          clear H
                                          have H := H1
                                          clear H1
                                          have H' := Aside0.mk H
                                          clear H
                                          have p200 : 0 ≤ (x98_4 : Int) := of_decide_eq_true (by first | (with_reducible assumption) | assumption)
                                          have q200 : x98_4 < ((rd_L1 l0 x92_3).length : Int) := of_decide_eq_true (by first | (with_reducible assumption) | assumption)
                                          obtain ⟨ad200, e200, hx200_0⟩ := Kd.at_string HR199_0.out x98_4 p200 q200
                                          cases e200
                                          first | (replace hx200_0 := (HB.out.cell (World.block_lt_of_cell? w _ hx200_0)).trans hx200_0) | skip
                                          replace p200 := eq_true p200
                                          replace q200 := eq_true q200
                                          go_wp2_with (first | (go_at_call 15; (with_reducible refine (laws_stands.calls k4 t198 (rdOf ByteArray.empty (rd_L1 l0 x92_3) x98_4) true _ A68.out).mono ?_); rintro e w' ⟨rfl, ⟨nd, rfl⟩⟩; (try first | exact ⟨rfl, _, World.drewN_drewN _ _ _⟩ | exact ⟨rfl, _, Eq.trans (World.drewN_drewN _ _ _) (congrArg (World.drewN _) (Nat.add_assoc _ _ _))⟩)))
                                          repeat (go_quiet (first | (go_at_call 15; (with_reducible refine (laws_stands.calls k4 t198 (rdOf ByteArray.empty (rd_L1 l0 x92_3) x98_4) true _ A68.out).mono ?_); rintro e w' ⟨rfl, ⟨nd, rfl⟩⟩; (try first | exact ⟨rfl, _, World.drewN_drewN _ _ _⟩ | exact ⟨rfl, _, Eq.trans (World.drewN_drewN _ _ _) (congrArg (World.drewN _) (Nat.add_assoc _ _ _))⟩))); try go_wp2_with (first | (go_at_call 15; (with_reducible refine (laws_stands.calls k4 t198 (rdOf ByteArray.empty (rd_L1 l0 x92_3) x98_4) true _ A68.out).mono ?_); rintro e w' ⟨rfl, ⟨nd, rfl⟩⟩; (try first | exact ⟨rfl, _, World.drewN_drewN _ _ _⟩ | exact ⟨rfl, _, Eq.trans (World.drewN_drewN _ _ _) (congrArg (World.drewN _) (Nat.add_assoc _ _ _))⟩))))
                                          go_roundg k4
                                          case measure => have := HK1.out; have := HK2.out; have := HK3.out; have := HK4.out; omega
                                          case rel => exact ⟨(wrap64 (x98_4 + 1)), (by first | rfl | (simp; done) | (simp [*]; done)), H', ⟨by have := HK1.out; have := HK2.out; have := HK3.out; have := HK4.out; omega⟩, ⟨by repeat (first | (with_reducible first | exact HB.out | apply below_alloc | apply pw_below_drewN | apply below_drew1) | exact HB.out)⟩⟩
                                        · replace c69 := Bool.eq_false_iff.mpr c69
                                          subst c69
                                          have H1 : (some false) = some r := by rw [if_neg (show ¬ (false = true) by decide)] at H; exact H
                                          clear H
                                          have H := H1
                                          clear H1
                                          obtain rfl := Option.some.inj H
                                          have p200 : 0 ≤ (x98_4 : Int) := of_decide_eq_true (by first | (with_reducible assumption) | assumption)
                                          have q200 : x98_4 < ((rd_L1 l0 x92_3).length : Int) := of_decide_eq_true (by first | (with_reducible assumption) | assumption)
                                          obtain ⟨ad200, e200, hx200_0⟩ := Kd.at_string HR199_0.out x98_4 p200 q200
                                          cases e200
                                          first | (replace hx200_0 := (HB.out.cell (World.block_lt_of_cell? w _ hx200_0)).trans hx200_0) | skip
                                          replace p200 := eq_true p200
                                          replace q200 := eq_true q200
                                          go_wp2_with (first | (go_at_call 15; (with_reducible refine (laws_stands.calls k4 t198 (rdOf ByteArray.empty (rd_L1 l0 x92_3) x98_4) false _ A68.out).mono ?_); rintro e w' ⟨rfl, ⟨nd, rfl⟩⟩; (try first | exact ⟨rfl, _, World.drewN_drewN _ _ _⟩ | exact ⟨rfl, _, Eq.trans (World.drewN_drewN _ _ _) (congrArg (World.drewN _) (Nat.add_assoc _ _ _))⟩)))
                                          repeat (go_quiet (first | (go_at_call 15; (with_reducible refine (laws_stands.calls k4 t198 (rdOf ByteArray.empty (rd_L1 l0 x92_3) x98_4) false _ A68.out).mono ?_); rintro e w' ⟨rfl, ⟨nd, rfl⟩⟩; (try first | exact ⟨rfl, _, World.drewN_drewN _ _ _⟩ | exact ⟨rfl, _, Eq.trans (World.drewN_drewN _ _ _) (congrArg (World.drewN _) (Nat.add_assoc _ _ _))⟩))); try go_wp2_with (first | (go_at_call 15; (with_reducible refine (laws_stands.calls k4 t198 (rdOf ByteArray.empty (rd_L1 l0 x92_3) x98_4) false _ A68.out).mono ?_); rintro e w' ⟨rfl, ⟨nd, rfl⟩⟩; (try first | exact ⟨rfl, _, World.drewN_drewN _ _ _⟩ | exact ⟨rfl, _, Eq.trans (World.drewN_drewN _ _ _) (congrArg (World.drewN _) (Nat.add_assoc _ _ _))⟩))))
                                          go_ret
                                          exact ⟨by first | rfl | (simp [errW_none, errW_some] <;> rfl) | (simp [*, errW_none, errW_some] <;> rfl), by repeat (first | (with_reducible first | exact HB.out | apply below_alloc | apply pw_below_drewN | apply below_drew1) | exact HB.out)⟩
                                      · rw [if_neg c67] at H
                                        exact absurd H (by simp)
                                    · rw [if_neg c66] at H
                                      exact absurd H (by simp)
                                  · rw [if_neg c65] at H
                                    have c65b0 : decide (x98_4 < ((rd_L1 l0 x92_3).length : Int)) = false := decide_eq_false c65
                                    clear c65
                                    have H' := Aside0.mk H
                                    clear H
                                    go_wp2
                                    repeat (go_quiet (fail); try go_wp2)
                                    go_roundg k4
                                    case measure => have := HK1.out; have := HK2.out; have := HK3.out; have := HK4.out; omega
                                    case rel => exact ⟨(wrap64 (x92_3 + 1)), (by first | rfl | (simp; done) | (simp [*]; done)), H', ⟨by have := HK1.out; have := HK2.out; have := HK3.out; have := HK4.out; omega⟩, ⟨by repeat (first | (with_reducible first | exact HB.out | apply below_alloc | apply pw_below_drewN | apply below_drew1) | exact HB.out)⟩⟩
                            · rw [if_neg c64] at H
                              exact absurd H (by simp)
                          · rw [if_neg c63] at H
                            exact absurd H (by simp)
                        · rw [if_neg c62] at H
                          have c62b0 : decide (x92_3 < (l0.length : Int)) = false := decide_eq_false c62
                          clear c62
                          obtain rfl := Option.some.inj H
                          go_wp2
                          repeat (go_quiet (fail); try go_wp2)
                          go_ret
                          exact ⟨by first | rfl | (simp [errW_none, errW_some] <;> rfl) | (simp [*, errW_none, errW_some] <;> rfl), by repeat (first | (with_reducible first | exact HB.out | apply below_alloc | apply pw_below_drewN | apply below_drew1) | exact HB.out)⟩
  · replace c3 := Bool.eq_false_iff.mpr c3
    subst c3
    have H1 : (some true) = some r := by rw [if_neg (show ¬ (false = true) by decide)] at H; exact H
    clear H
    have H := H1
    clear H1
    obtain rfl := Option.some.inj H
    go_enter Try.func4, Try.ntmps4
    go_wp2_with (first | (go_at_call 6; (with_reducible refine (laws_zzFits9.calls k _ _ l0 false _ ?side1 ?side2 A2.out).mono ?_); (case side1 => repeat (first | exact HR0.out | (with_reducible refine Kd.C_alloc ?_ _) | (with_reducible refine Kd.C_drewN ?_ _) | (with_reducible refine Kd.C_drew ?_))); (case side2 => exact HC0.out); rintro e w' ⟨rfl, ⟨nd, rfl⟩⟩; (try first | exact ⟨rfl, _, World.drewN_drewN _ _ _⟩ | exact ⟨rfl, _, Eq.trans (World.drewN_drewN _ _ _) (congrArg (World.drewN _) (Nat.add_assoc _ _ _))⟩)))
    repeat (go_quiet (first | (go_at_call 6; (with_reducible refine (laws_zzFits9.calls k _ _ l0 false _ ?side1 ?side2 A2.out).mono ?_); (case side1 => repeat (first | exact HR0.out | (with_reducible refine Kd.C_alloc ?_ _) | (with_reducible refine Kd.C_drewN ?_ _) | (with_reducible refine Kd.C_drew ?_))); (case side2 => exact HC0.out); rintro e w' ⟨rfl, ⟨nd, rfl⟩⟩; (try first | exact ⟨rfl, _, World.drewN_drewN _ _ _⟩ | exact ⟨rfl, _, Eq.trans (World.drewN_drewN _ _ _) (congrArg (World.drewN _) (Nat.add_assoc _ _ _))⟩))); try go_wp2_with (first | (go_at_call 6; (with_reducible refine (laws_zzFits9.calls k _ _ l0 false _ ?side1 ?side2 A2.out).mono ?_); (case side1 => repeat (first | exact HR0.out | (with_reducible refine Kd.C_alloc ?_ _) | (with_reducible refine Kd.C_drewN ?_ _) | (with_reducible refine Kd.C_drew ?_))); (case side2 => exact HC0.out); rintro e w' ⟨rfl, ⟨nd, rfl⟩⟩; (try first | exact ⟨rfl, _, World.drewN_drewN _ _ _⟩ | exact ⟨rfl, _, Eq.trans (World.drewN_drewN _ _ _) (congrArg (World.drewN _) (Nat.add_assoc _ _ _))⟩))))
    go_ret
    exact ⟨by first | rfl | (simp [errW_none, errW_some] <;> rfl) | (simp [*, errW_none, errW_some] <;> rfl), by repeat (first | (with_reducible first | exact HB.out | apply below_alloc | apply pw_below_drewN | apply below_drew1) | exact HB.out)⟩

end Go.Proofs.Ythecfligfhpccaa.P
