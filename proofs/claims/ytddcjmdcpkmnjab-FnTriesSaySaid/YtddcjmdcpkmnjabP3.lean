-- PRINTED by print.py (a twelfth state) out of the translation. Not trusted: Lean checks it.
import Derived.Test.YtddcjmdcpkmnjabP0
import Derived.Test.YtddcjmdcpkmnjabP4
import Derived.Test.YtddcjmdcpkmnjabP5
import Derived.Test.YtddcjmdcpkmnjabP6
import Derived.Test.YtddcjmdcpkmnjabP7
import Derived.Test.YtddcjmdcpkmnjabP8
import Derived.Test.YtddcjmdcpkmnjabP9
import Derived.Test.YtddcjmdcpkmnjabP11
import Derived.Test.YtddcjmdcpkmnjabP13
import Derived.Test.YtddcjmdcpkmnjabP14
import Derived.Test.YtddcjmdcpkmnjabP16
import Derived.Test.YtddcjmdcpkmnjabP17
import Derived.Test.YtddcjmdcpkmnjabP18
import Derived.Test.YtddcjmdcpkmnjabP21
import Derived.Test.YtddcjmdcpkmnjabP22
import Derived.Test.YtddcjmdcpkmnjabQTr
namespace Go.Proofs.Ytddcjmdcpkmnjab.P
open Go.RowKit Go.Proofs.YtddcjmdcpkmnjabW.PrintWords Go.Proofs.YtddcjmdcpkmnjabW.PrintLast
set_option linter.unusedVariables false
set_option linter.unusedSimpArgs false

/-! ### laws_FnTriesSay: function 3 -/
mutual
def laws_FnTriesSay.j0 : Nat → List ByteArray → List Int → ByteArray → Bool → Option (Bool)
  | 0, _, _, _, _ => none
  | k + 1, x0, x1, x2, x42 => if x42 = true then (some true) else ((laws_finds.f).bind fun t328 => (if t328 = true then (if (x0.length : Int) > 30 then (laws_FnTriesSay.j1 k x0 x1 x2 true) else ((laws_clean.f k 40 x0).bind fun t329 => (if t329 = true then ((laws_clean.f k 80 (([x2] : List ByteArray))).bind fun t333 => (laws_FnTriesSay.j1 k x0 x1 x2 (!t333))) else (laws_FnTriesSay.j1 k x0 x1 x2 true)))) else (some false)))
def laws_FnTriesSay.j1 : Nat → List ByteArray → List Int → ByteArray → Bool → Option (Bool)
  | 0, _, _, _, _ => none
  | k + 1, x0, x1, x2, x58 => if x58 = true then (some true) else ((laws_ahead.f k x0 x2).bind fun t334 => (if t334 = true then (some true) else ((spec_FairWords.f k x0 x1).bind fun t335 => (if t335 = true then ((laws_fair.f k x0 x1).bind fun t336 => (laws_FnTriesSay.j2 k x0 x1 x2 t336)) else (laws_FnTriesSay.j2 k x0 x1 x2 false)))))
def laws_FnTriesSay.j2 : Nat → List ByteArray → List Int → ByteArray → Bool → Option (Bool)
  | 0, _, _, _, _ => none
  | k + 1, x0, x1, x2, x69 => if x69 = true then ((impl_TrieFind.f x0 x1 x2).bind fun bt337 => ((spec_TrieFind.f k x0 x1 x2).bind fun bt340 => ((impl_TriePrefixes.f x0 x1 x2).bind fun bt342 => ((spec_TriePrefixes.f k x0 x1 x2).bind fun bt349 => (if bt337.2.2 = true then (if bt342.2.2 = true then (if (bt337.2.1 != bt340.2) = true then (laws_FnTriesSay.j3 k x0 x1 x2 true) else (if bt337.2.1 = true then (if bt337.1 = bt340.1 then ((laws_sameInts.f k bt342.1 bt349.1).bind fun t355 => (if t355 = true then ((laws_sameInts.f k bt342.2.1 bt349.2).bind fun t356 => (laws_FnTriesSay.j3 k x0 x1 x2 (!t356))) else (laws_FnTriesSay.j3 k x0 x1 x2 true))) else (laws_FnTriesSay.j3 k x0 x1 x2 true)) else ((laws_sameInts.f k bt342.1 bt349.1).bind fun t357 => (if t357 = true then ((laws_sameInts.f k bt342.2.1 bt349.2).bind fun t358 => (laws_FnTriesSay.j3 k x0 x1 x2 (!t358))) else (laws_FnTriesSay.j3 k x0 x1 x2 true))))) else (laws_FnTriesSay.j3 k x0 x1 x2 true)) else (laws_FnTriesSay.j3 k x0 x1 x2 true)))))) else (laws_FnTriesSay.j4 k x0 x2)
def laws_FnTriesSay.j4 : Nat → List ByteArray → ByteArray → Option (Bool)
  | 0, _, _ => none
  | k + 1, x0, x2 => (spec_FairIndex.f k x0).bind fun t364 => (if t364 = true then ((laws_rising.f k x0).bind fun t365 => (laws_FnTriesSay.j5 k x0 x2 (!t365))) else (laws_FnTriesSay.j5 k x0 x2 true))
def laws_FnTriesSay.j5 : Nat → List ByteArray → ByteArray → Bool → Option (Bool)
  | 0, _, _, _ => none
  | k + 1, x0, x2, x168 => if x168 = true then (some true) else ((impl_IndexSearch.f x0 x2).bind fun bt366 => ((impl_IndexPrefixes.f x0 x2).bind fun bt370 => ((spec_IndexPrefixes.f k x0 x2).bind fun bt377 => (if bt366.2 = true then (if bt370.2.2 = true then ((spec_IndexSearch.f k x0 x2).bind fun t383 => ((laws_sameInts.f k bt366.1 t383).bind fun t386 => (if t386 = true then ((laws_sameInts.f k bt370.1 bt377.1).bind fun t387 => (if t387 = true then (laws_FnTriesSay.j6 k bt370.2.1 bt377.2 ((bt370.2.1.length : Int) != (bt377.2.length : Int))) else (laws_FnTriesSay.j6 k bt370.2.1 bt377.2 true))) else (laws_FnTriesSay.j6 k bt370.2.1 bt377.2 true)))) else (laws_FnTriesSay.j6 k bt370.2.1 bt377.2 true)) else (laws_FnTriesSay.j6 k bt370.2.1 bt377.2 true)))))
def laws_FnTriesSay.j6 : Nat → List (List Int) → List (List Int) → Bool → Option (Bool)
  | 0, _, _, _ => none
  | k + 1, x25, x28, x214 => if x214 = true then (some false) else (laws_FnTriesSay.l0 k x25 x28 (x25.length : Int) 0)
def laws_FnTriesSay.l0 : Nat → List (List Int) → List (List Int) → Int → Int → Option (Bool)
  | 0, _, _, _, _ => none
  | k + 1, x25, x28, x216, x217 => if x217 < x216 then (if 0 ≤ x217 then (if x217 < (x25.length : Int) then (if x217 < (x28.length : Int) then ((laws_sameInts.f k (rd_L3 x25 x217) (rd_L3 x28 x217)).bind fun t390 => (if t390 = true then (laws_FnTriesSay.l0 k x25 x28 x216 (wrap64 (x217 + 1))) else (some false))) else (none)) else (none)) else (none)) else (some true)
def laws_FnTriesSay.j3 : Nat → List ByteArray → List Int → ByteArray → Bool → Option (Bool)
  | 0, _, _, _, _ => none
  | k + 1, x0, x1, x2, x130 => if x130 = true then (some false) else ((impl_TrieLongest.f x0 x1 x2).bind fun bt359 => ((spec_TrieLongest.f k x0 x1 x2).bind fun bt362 => (if bt359.2.2 = true then (if (bt359.2.1 != bt362.2) = true then (some false) else (if bt359.2.1 = true then (if bt359.1 = bt362.1 then (laws_FnTriesSay.j4 k x0 x2) else (some false)) else (laws_FnTriesSay.j4 k x0 x2))) else (some false))))
end
def laws_FnTriesSay.f (k : Nat) (l0 : List ByteArray) (l1 : List Int) (a2 : ByteArray) : Option (Bool) := (laws_zzFits4.f k l0).bind fun t327 => (if t327 = true then (if (l1.length : Int) > 2147483647 then (laws_FnTriesSay.j0 k l0 l1 a2 true) else (laws_FnTriesSay.j0 k l0 l1 a2 (decide ((a2.size : Int) > 2147483647)))) else (laws_FnTriesSay.j0 k l0 l1 a2 true))
theorem laws_FnTriesSay.mono_l : ∀ k, (∀ y0 y1 y2 y3, LeO (laws_FnTriesSay.j0 k y0 y1 y2 y3) (laws_FnTriesSay.j0 (k + 1) y0 y1 y2 y3)) ∧ (∀ y0 y1 y2 y3, LeO (laws_FnTriesSay.j1 k y0 y1 y2 y3) (laws_FnTriesSay.j1 (k + 1) y0 y1 y2 y3)) ∧ (∀ y0 y1 y2 y3, LeO (laws_FnTriesSay.j2 k y0 y1 y2 y3) (laws_FnTriesSay.j2 (k + 1) y0 y1 y2 y3)) ∧ (∀ y0 y1, LeO (laws_FnTriesSay.j4 k y0 y1) (laws_FnTriesSay.j4 (k + 1) y0 y1)) ∧ (∀ y0 y1 y2, LeO (laws_FnTriesSay.j5 k y0 y1 y2) (laws_FnTriesSay.j5 (k + 1) y0 y1 y2)) ∧ (∀ y0 y1 y2, LeO (laws_FnTriesSay.j6 k y0 y1 y2) (laws_FnTriesSay.j6 (k + 1) y0 y1 y2)) ∧ (∀ y0 y1 y2 y3, LeO (laws_FnTriesSay.l0 k y0 y1 y2 y3) (laws_FnTriesSay.l0 (k + 1) y0 y1 y2 y3)) ∧ (∀ y0 y1 y2 y3, LeO (laws_FnTriesSay.j3 k y0 y1 y2 y3) (laws_FnTriesSay.j3 (k + 1) y0 y1 y2 y3))
  | 0 => ⟨fun _ _ _ _ r h => by simp [laws_FnTriesSay.j0] at h, fun _ _ _ _ r h => by simp [laws_FnTriesSay.j1] at h, fun _ _ _ _ r h => by simp [laws_FnTriesSay.j2] at h, fun _ _ r h => by simp [laws_FnTriesSay.j4] at h, fun _ _ _ r h => by simp [laws_FnTriesSay.j5] at h, fun _ _ _ r h => by simp [laws_FnTriesSay.j6] at h, fun _ _ _ _ r h => by simp [laws_FnTriesSay.l0] at h, fun _ _ _ _ r h => by simp [laws_FnTriesSay.j3] at h⟩
  | k + 1 => by
    obtain ⟨ih0, ih1, ih2, ih3, ih4, ih5, ih6, ih7⟩ := laws_FnTriesSay.mono_l k
    refine ⟨?_, ?_, ?_, ?_, ?_, ?_, ?_, ?_⟩
    · intro y0 y1 y2 y3
      unfold laws_FnTriesSay.j0
      repeat' first
      | (with_reducible exact ih0 _ _ _ _)
      | (with_reducible exact ih1 _ _ _ _)
      | (with_reducible exact ih2 _ _ _ _)
      | (with_reducible exact ih3 _ _)
      | (with_reducible exact ih4 _ _ _)
      | (with_reducible exact ih5 _ _ _)
      | (with_reducible exact ih6 _ _ _ _)
      | (with_reducible exact ih7 _ _ _ _)
      | (with_reducible exact laws_ahead.mono _ _ _)
      | (with_reducible exact laws_clean.mono _ _ _)
      | (with_reducible exact laws_fair.mono _ _ _)
      | (with_reducible exact laws_rising.mono _ _)
      | (with_reducible exact laws_sameInts.mono _ _ _)
      | (with_reducible exact laws_zzFits4.mono _ _)
      | (with_reducible exact spec_FairIndex.mono _ _)
      | (with_reducible exact spec_FairWords.mono _ _ _)
      | (with_reducible exact spec_IndexPrefixes.mono _ _ _)
      | (with_reducible exact spec_IndexSearch.mono _ _ _)
      | (with_reducible exact spec_TrieFind.mono _ _ _ _)
      | (with_reducible exact spec_TrieLongest.mono _ _ _ _)
      | (with_reducible exact spec_TriePrefixes.mono _ _ _ _)
      | (with_reducible exact LeO.refl _)
      | (with_reducible exact LeO.none _)
      | (with_reducible refine LeO.ite ?_ ?_)
      | (with_reducible refine LeO.bind ?_ (fun _ => ?_))
      | exact ih0 _ _ _ _
      | exact ih1 _ _ _ _
      | exact ih2 _ _ _ _
      | exact ih3 _ _
      | exact ih4 _ _ _
      | exact ih5 _ _ _
      | exact ih6 _ _ _ _
      | exact ih7 _ _ _ _
      | exact laws_ahead.mono _ _ _
      | exact laws_clean.mono _ _ _
      | exact laws_fair.mono _ _ _
      | exact laws_rising.mono _ _
      | exact laws_sameInts.mono _ _ _
      | exact laws_zzFits4.mono _ _
      | exact spec_FairIndex.mono _ _
      | exact spec_FairWords.mono _ _ _
      | exact spec_IndexPrefixes.mono _ _ _
      | exact spec_IndexSearch.mono _ _ _
      | exact spec_TrieFind.mono _ _ _ _
      | exact spec_TrieLongest.mono _ _ _ _
      | exact spec_TriePrefixes.mono _ _ _ _
      | exact LeO.none _
      | refine LeO.ite ?_ ?_
      | refine LeO.bind ?_ (fun _ => ?_)
    · intro y0 y1 y2 y3
      unfold laws_FnTriesSay.j1
      repeat' first
      | (with_reducible exact ih0 _ _ _ _)
      | (with_reducible exact ih1 _ _ _ _)
      | (with_reducible exact ih2 _ _ _ _)
      | (with_reducible exact ih3 _ _)
      | (with_reducible exact ih4 _ _ _)
      | (with_reducible exact ih5 _ _ _)
      | (with_reducible exact ih6 _ _ _ _)
      | (with_reducible exact ih7 _ _ _ _)
      | (with_reducible exact laws_ahead.mono _ _ _)
      | (with_reducible exact laws_clean.mono _ _ _)
      | (with_reducible exact laws_fair.mono _ _ _)
      | (with_reducible exact laws_rising.mono _ _)
      | (with_reducible exact laws_sameInts.mono _ _ _)
      | (with_reducible exact laws_zzFits4.mono _ _)
      | (with_reducible exact spec_FairIndex.mono _ _)
      | (with_reducible exact spec_FairWords.mono _ _ _)
      | (with_reducible exact spec_IndexPrefixes.mono _ _ _)
      | (with_reducible exact spec_IndexSearch.mono _ _ _)
      | (with_reducible exact spec_TrieFind.mono _ _ _ _)
      | (with_reducible exact spec_TrieLongest.mono _ _ _ _)
      | (with_reducible exact spec_TriePrefixes.mono _ _ _ _)
      | (with_reducible exact LeO.refl _)
      | (with_reducible exact LeO.none _)
      | (with_reducible refine LeO.ite ?_ ?_)
      | (with_reducible refine LeO.bind ?_ (fun _ => ?_))
      | exact ih0 _ _ _ _
      | exact ih1 _ _ _ _
      | exact ih2 _ _ _ _
      | exact ih3 _ _
      | exact ih4 _ _ _
      | exact ih5 _ _ _
      | exact ih6 _ _ _ _
      | exact ih7 _ _ _ _
      | exact laws_ahead.mono _ _ _
      | exact laws_clean.mono _ _ _
      | exact laws_fair.mono _ _ _
      | exact laws_rising.mono _ _
      | exact laws_sameInts.mono _ _ _
      | exact laws_zzFits4.mono _ _
      | exact spec_FairIndex.mono _ _
      | exact spec_FairWords.mono _ _ _
      | exact spec_IndexPrefixes.mono _ _ _
      | exact spec_IndexSearch.mono _ _ _
      | exact spec_TrieFind.mono _ _ _ _
      | exact spec_TrieLongest.mono _ _ _ _
      | exact spec_TriePrefixes.mono _ _ _ _
      | exact LeO.none _
      | refine LeO.ite ?_ ?_
      | refine LeO.bind ?_ (fun _ => ?_)
    · intro y0 y1 y2 y3
      unfold laws_FnTriesSay.j2
      repeat' first
      | (with_reducible exact ih0 _ _ _ _)
      | (with_reducible exact ih1 _ _ _ _)
      | (with_reducible exact ih2 _ _ _ _)
      | (with_reducible exact ih3 _ _)
      | (with_reducible exact ih4 _ _ _)
      | (with_reducible exact ih5 _ _ _)
      | (with_reducible exact ih6 _ _ _ _)
      | (with_reducible exact ih7 _ _ _ _)
      | (with_reducible exact laws_ahead.mono _ _ _)
      | (with_reducible exact laws_clean.mono _ _ _)
      | (with_reducible exact laws_fair.mono _ _ _)
      | (with_reducible exact laws_rising.mono _ _)
      | (with_reducible exact laws_sameInts.mono _ _ _)
      | (with_reducible exact laws_zzFits4.mono _ _)
      | (with_reducible exact spec_FairIndex.mono _ _)
      | (with_reducible exact spec_FairWords.mono _ _ _)
      | (with_reducible exact spec_IndexPrefixes.mono _ _ _)
      | (with_reducible exact spec_IndexSearch.mono _ _ _)
      | (with_reducible exact spec_TrieFind.mono _ _ _ _)
      | (with_reducible exact spec_TrieLongest.mono _ _ _ _)
      | (with_reducible exact spec_TriePrefixes.mono _ _ _ _)
      | (with_reducible exact LeO.refl _)
      | (with_reducible exact LeO.none _)
      | (with_reducible refine LeO.ite ?_ ?_)
      | (with_reducible refine LeO.bind ?_ (fun _ => ?_))
      | exact ih0 _ _ _ _
      | exact ih1 _ _ _ _
      | exact ih2 _ _ _ _
      | exact ih3 _ _
      | exact ih4 _ _ _
      | exact ih5 _ _ _
      | exact ih6 _ _ _ _
      | exact ih7 _ _ _ _
      | exact laws_ahead.mono _ _ _
      | exact laws_clean.mono _ _ _
      | exact laws_fair.mono _ _ _
      | exact laws_rising.mono _ _
      | exact laws_sameInts.mono _ _ _
      | exact laws_zzFits4.mono _ _
      | exact spec_FairIndex.mono _ _
      | exact spec_FairWords.mono _ _ _
      | exact spec_IndexPrefixes.mono _ _ _
      | exact spec_IndexSearch.mono _ _ _
      | exact spec_TrieFind.mono _ _ _ _
      | exact spec_TrieLongest.mono _ _ _ _
      | exact spec_TriePrefixes.mono _ _ _ _
      | exact LeO.none _
      | refine LeO.ite ?_ ?_
      | refine LeO.bind ?_ (fun _ => ?_)
    · intro y0 y1
      unfold laws_FnTriesSay.j4
      repeat' first
      | (with_reducible exact ih0 _ _ _ _)
      | (with_reducible exact ih1 _ _ _ _)
      | (with_reducible exact ih2 _ _ _ _)
      | (with_reducible exact ih3 _ _)
      | (with_reducible exact ih4 _ _ _)
      | (with_reducible exact ih5 _ _ _)
      | (with_reducible exact ih6 _ _ _ _)
      | (with_reducible exact ih7 _ _ _ _)
      | (with_reducible exact laws_ahead.mono _ _ _)
      | (with_reducible exact laws_clean.mono _ _ _)
      | (with_reducible exact laws_fair.mono _ _ _)
      | (with_reducible exact laws_rising.mono _ _)
      | (with_reducible exact laws_sameInts.mono _ _ _)
      | (with_reducible exact laws_zzFits4.mono _ _)
      | (with_reducible exact spec_FairIndex.mono _ _)
      | (with_reducible exact spec_FairWords.mono _ _ _)
      | (with_reducible exact spec_IndexPrefixes.mono _ _ _)
      | (with_reducible exact spec_IndexSearch.mono _ _ _)
      | (with_reducible exact spec_TrieFind.mono _ _ _ _)
      | (with_reducible exact spec_TrieLongest.mono _ _ _ _)
      | (with_reducible exact spec_TriePrefixes.mono _ _ _ _)
      | (with_reducible exact LeO.refl _)
      | (with_reducible exact LeO.none _)
      | (with_reducible refine LeO.ite ?_ ?_)
      | (with_reducible refine LeO.bind ?_ (fun _ => ?_))
      | exact ih0 _ _ _ _
      | exact ih1 _ _ _ _
      | exact ih2 _ _ _ _
      | exact ih3 _ _
      | exact ih4 _ _ _
      | exact ih5 _ _ _
      | exact ih6 _ _ _ _
      | exact ih7 _ _ _ _
      | exact laws_ahead.mono _ _ _
      | exact laws_clean.mono _ _ _
      | exact laws_fair.mono _ _ _
      | exact laws_rising.mono _ _
      | exact laws_sameInts.mono _ _ _
      | exact laws_zzFits4.mono _ _
      | exact spec_FairIndex.mono _ _
      | exact spec_FairWords.mono _ _ _
      | exact spec_IndexPrefixes.mono _ _ _
      | exact spec_IndexSearch.mono _ _ _
      | exact spec_TrieFind.mono _ _ _ _
      | exact spec_TrieLongest.mono _ _ _ _
      | exact spec_TriePrefixes.mono _ _ _ _
      | exact LeO.none _
      | refine LeO.ite ?_ ?_
      | refine LeO.bind ?_ (fun _ => ?_)
    · intro y0 y1 y2
      unfold laws_FnTriesSay.j5
      repeat' first
      | (with_reducible exact ih0 _ _ _ _)
      | (with_reducible exact ih1 _ _ _ _)
      | (with_reducible exact ih2 _ _ _ _)
      | (with_reducible exact ih3 _ _)
      | (with_reducible exact ih4 _ _ _)
      | (with_reducible exact ih5 _ _ _)
      | (with_reducible exact ih6 _ _ _ _)
      | (with_reducible exact ih7 _ _ _ _)
      | (with_reducible exact laws_ahead.mono _ _ _)
      | (with_reducible exact laws_clean.mono _ _ _)
      | (with_reducible exact laws_fair.mono _ _ _)
      | (with_reducible exact laws_rising.mono _ _)
      | (with_reducible exact laws_sameInts.mono _ _ _)
      | (with_reducible exact laws_zzFits4.mono _ _)
      | (with_reducible exact spec_FairIndex.mono _ _)
      | (with_reducible exact spec_FairWords.mono _ _ _)
      | (with_reducible exact spec_IndexPrefixes.mono _ _ _)
      | (with_reducible exact spec_IndexSearch.mono _ _ _)
      | (with_reducible exact spec_TrieFind.mono _ _ _ _)
      | (with_reducible exact spec_TrieLongest.mono _ _ _ _)
      | (with_reducible exact spec_TriePrefixes.mono _ _ _ _)
      | (with_reducible exact LeO.refl _)
      | (with_reducible exact LeO.none _)
      | (with_reducible refine LeO.ite ?_ ?_)
      | (with_reducible refine LeO.bind ?_ (fun _ => ?_))
      | exact ih0 _ _ _ _
      | exact ih1 _ _ _ _
      | exact ih2 _ _ _ _
      | exact ih3 _ _
      | exact ih4 _ _ _
      | exact ih5 _ _ _
      | exact ih6 _ _ _ _
      | exact ih7 _ _ _ _
      | exact laws_ahead.mono _ _ _
      | exact laws_clean.mono _ _ _
      | exact laws_fair.mono _ _ _
      | exact laws_rising.mono _ _
      | exact laws_sameInts.mono _ _ _
      | exact laws_zzFits4.mono _ _
      | exact spec_FairIndex.mono _ _
      | exact spec_FairWords.mono _ _ _
      | exact spec_IndexPrefixes.mono _ _ _
      | exact spec_IndexSearch.mono _ _ _
      | exact spec_TrieFind.mono _ _ _ _
      | exact spec_TrieLongest.mono _ _ _ _
      | exact spec_TriePrefixes.mono _ _ _ _
      | exact LeO.none _
      | refine LeO.ite ?_ ?_
      | refine LeO.bind ?_ (fun _ => ?_)
    · intro y0 y1 y2
      unfold laws_FnTriesSay.j6
      repeat' first
      | (with_reducible exact ih0 _ _ _ _)
      | (with_reducible exact ih1 _ _ _ _)
      | (with_reducible exact ih2 _ _ _ _)
      | (with_reducible exact ih3 _ _)
      | (with_reducible exact ih4 _ _ _)
      | (with_reducible exact ih5 _ _ _)
      | (with_reducible exact ih6 _ _ _ _)
      | (with_reducible exact ih7 _ _ _ _)
      | (with_reducible exact laws_ahead.mono _ _ _)
      | (with_reducible exact laws_clean.mono _ _ _)
      | (with_reducible exact laws_fair.mono _ _ _)
      | (with_reducible exact laws_rising.mono _ _)
      | (with_reducible exact laws_sameInts.mono _ _ _)
      | (with_reducible exact laws_zzFits4.mono _ _)
      | (with_reducible exact spec_FairIndex.mono _ _)
      | (with_reducible exact spec_FairWords.mono _ _ _)
      | (with_reducible exact spec_IndexPrefixes.mono _ _ _)
      | (with_reducible exact spec_IndexSearch.mono _ _ _)
      | (with_reducible exact spec_TrieFind.mono _ _ _ _)
      | (with_reducible exact spec_TrieLongest.mono _ _ _ _)
      | (with_reducible exact spec_TriePrefixes.mono _ _ _ _)
      | (with_reducible exact LeO.refl _)
      | (with_reducible exact LeO.none _)
      | (with_reducible refine LeO.ite ?_ ?_)
      | (with_reducible refine LeO.bind ?_ (fun _ => ?_))
      | exact ih0 _ _ _ _
      | exact ih1 _ _ _ _
      | exact ih2 _ _ _ _
      | exact ih3 _ _
      | exact ih4 _ _ _
      | exact ih5 _ _ _
      | exact ih6 _ _ _ _
      | exact ih7 _ _ _ _
      | exact laws_ahead.mono _ _ _
      | exact laws_clean.mono _ _ _
      | exact laws_fair.mono _ _ _
      | exact laws_rising.mono _ _
      | exact laws_sameInts.mono _ _ _
      | exact laws_zzFits4.mono _ _
      | exact spec_FairIndex.mono _ _
      | exact spec_FairWords.mono _ _ _
      | exact spec_IndexPrefixes.mono _ _ _
      | exact spec_IndexSearch.mono _ _ _
      | exact spec_TrieFind.mono _ _ _ _
      | exact spec_TrieLongest.mono _ _ _ _
      | exact spec_TriePrefixes.mono _ _ _ _
      | exact LeO.none _
      | refine LeO.ite ?_ ?_
      | refine LeO.bind ?_ (fun _ => ?_)
    · intro y0 y1 y2 y3
      unfold laws_FnTriesSay.l0
      repeat' first
      | (with_reducible exact ih0 _ _ _ _)
      | (with_reducible exact ih1 _ _ _ _)
      | (with_reducible exact ih2 _ _ _ _)
      | (with_reducible exact ih3 _ _)
      | (with_reducible exact ih4 _ _ _)
      | (with_reducible exact ih5 _ _ _)
      | (with_reducible exact ih6 _ _ _ _)
      | (with_reducible exact ih7 _ _ _ _)
      | (with_reducible exact laws_ahead.mono _ _ _)
      | (with_reducible exact laws_clean.mono _ _ _)
      | (with_reducible exact laws_fair.mono _ _ _)
      | (with_reducible exact laws_rising.mono _ _)
      | (with_reducible exact laws_sameInts.mono _ _ _)
      | (with_reducible exact laws_zzFits4.mono _ _)
      | (with_reducible exact spec_FairIndex.mono _ _)
      | (with_reducible exact spec_FairWords.mono _ _ _)
      | (with_reducible exact spec_IndexPrefixes.mono _ _ _)
      | (with_reducible exact spec_IndexSearch.mono _ _ _)
      | (with_reducible exact spec_TrieFind.mono _ _ _ _)
      | (with_reducible exact spec_TrieLongest.mono _ _ _ _)
      | (with_reducible exact spec_TriePrefixes.mono _ _ _ _)
      | (with_reducible exact LeO.refl _)
      | (with_reducible exact LeO.none _)
      | (with_reducible refine LeO.ite ?_ ?_)
      | (with_reducible refine LeO.bind ?_ (fun _ => ?_))
      | exact ih0 _ _ _ _
      | exact ih1 _ _ _ _
      | exact ih2 _ _ _ _
      | exact ih3 _ _
      | exact ih4 _ _ _
      | exact ih5 _ _ _
      | exact ih6 _ _ _ _
      | exact ih7 _ _ _ _
      | exact laws_ahead.mono _ _ _
      | exact laws_clean.mono _ _ _
      | exact laws_fair.mono _ _ _
      | exact laws_rising.mono _ _
      | exact laws_sameInts.mono _ _ _
      | exact laws_zzFits4.mono _ _
      | exact spec_FairIndex.mono _ _
      | exact spec_FairWords.mono _ _ _
      | exact spec_IndexPrefixes.mono _ _ _
      | exact spec_IndexSearch.mono _ _ _
      | exact spec_TrieFind.mono _ _ _ _
      | exact spec_TrieLongest.mono _ _ _ _
      | exact spec_TriePrefixes.mono _ _ _ _
      | exact LeO.none _
      | refine LeO.ite ?_ ?_
      | refine LeO.bind ?_ (fun _ => ?_)
    · intro y0 y1 y2 y3
      unfold laws_FnTriesSay.j3
      repeat' first
      | (with_reducible exact ih0 _ _ _ _)
      | (with_reducible exact ih1 _ _ _ _)
      | (with_reducible exact ih2 _ _ _ _)
      | (with_reducible exact ih3 _ _)
      | (with_reducible exact ih4 _ _ _)
      | (with_reducible exact ih5 _ _ _)
      | (with_reducible exact ih6 _ _ _ _)
      | (with_reducible exact ih7 _ _ _ _)
      | (with_reducible exact laws_ahead.mono _ _ _)
      | (with_reducible exact laws_clean.mono _ _ _)
      | (with_reducible exact laws_fair.mono _ _ _)
      | (with_reducible exact laws_rising.mono _ _)
      | (with_reducible exact laws_sameInts.mono _ _ _)
      | (with_reducible exact laws_zzFits4.mono _ _)
      | (with_reducible exact spec_FairIndex.mono _ _)
      | (with_reducible exact spec_FairWords.mono _ _ _)
      | (with_reducible exact spec_IndexPrefixes.mono _ _ _)
      | (with_reducible exact spec_IndexSearch.mono _ _ _)
      | (with_reducible exact spec_TrieFind.mono _ _ _ _)
      | (with_reducible exact spec_TrieLongest.mono _ _ _ _)
      | (with_reducible exact spec_TriePrefixes.mono _ _ _ _)
      | (with_reducible exact LeO.refl _)
      | (with_reducible exact LeO.none _)
      | (with_reducible refine LeO.ite ?_ ?_)
      | (with_reducible refine LeO.bind ?_ (fun _ => ?_))
      | exact ih0 _ _ _ _
      | exact ih1 _ _ _ _
      | exact ih2 _ _ _ _
      | exact ih3 _ _
      | exact ih4 _ _ _
      | exact ih5 _ _ _
      | exact ih6 _ _ _ _
      | exact ih7 _ _ _ _
      | exact laws_ahead.mono _ _ _
      | exact laws_clean.mono _ _ _
      | exact laws_fair.mono _ _ _
      | exact laws_rising.mono _ _
      | exact laws_sameInts.mono _ _ _
      | exact laws_zzFits4.mono _ _
      | exact spec_FairIndex.mono _ _
      | exact spec_FairWords.mono _ _ _
      | exact spec_IndexPrefixes.mono _ _ _
      | exact spec_IndexSearch.mono _ _ _
      | exact spec_TrieFind.mono _ _ _ _
      | exact spec_TrieLongest.mono _ _ _ _
      | exact spec_TriePrefixes.mono _ _ _ _
      | exact LeO.none _
      | refine LeO.ite ?_ ?_
      | refine LeO.bind ?_ (fun _ => ?_)
theorem laws_FnTriesSay.mono : ∀ a0 a1 a2 k, LeO (laws_FnTriesSay.f k a0 a1 a2) (laws_FnTriesSay.f (k + 1) a0 a1 a2) := by
  intro a0 a1 a2 k
  obtain ⟨ih0, ih1, ih2, ih3, ih4, ih5, ih6, ih7⟩ := laws_FnTriesSay.mono_l k
  unfold laws_FnTriesSay.f
  repeat' first
      | (with_reducible exact ih0 _ _ _ _)
      | (with_reducible exact ih1 _ _ _ _)
      | (with_reducible exact ih2 _ _ _ _)
      | (with_reducible exact ih3 _ _)
      | (with_reducible exact ih4 _ _ _)
      | (with_reducible exact ih5 _ _ _)
      | (with_reducible exact ih6 _ _ _ _)
      | (with_reducible exact ih7 _ _ _ _)
      | (with_reducible exact laws_ahead.mono _ _ _)
      | (with_reducible exact laws_clean.mono _ _ _)
      | (with_reducible exact laws_fair.mono _ _ _)
      | (with_reducible exact laws_rising.mono _ _)
      | (with_reducible exact laws_sameInts.mono _ _ _)
      | (with_reducible exact laws_zzFits4.mono _ _)
      | (with_reducible exact spec_FairIndex.mono _ _)
      | (with_reducible exact spec_FairWords.mono _ _ _)
      | (with_reducible exact spec_IndexPrefixes.mono _ _ _)
      | (with_reducible exact spec_IndexSearch.mono _ _ _)
      | (with_reducible exact spec_TrieFind.mono _ _ _ _)
      | (with_reducible exact spec_TrieLongest.mono _ _ _ _)
      | (with_reducible exact spec_TriePrefixes.mono _ _ _ _)
      | (with_reducible exact LeO.refl _)
      | (with_reducible exact LeO.none _)
      | (with_reducible refine LeO.ite ?_ ?_)
      | (with_reducible refine LeO.bind ?_ (fun _ => ?_))
      | exact ih0 _ _ _ _
      | exact ih1 _ _ _ _
      | exact ih2 _ _ _ _
      | exact ih3 _ _
      | exact ih4 _ _ _
      | exact ih5 _ _ _
      | exact ih6 _ _ _ _
      | exact ih7 _ _ _ _
      | exact laws_ahead.mono _ _ _
      | exact laws_clean.mono _ _ _
      | exact laws_fair.mono _ _ _
      | exact laws_rising.mono _ _
      | exact laws_sameInts.mono _ _ _
      | exact laws_zzFits4.mono _ _
      | exact spec_FairIndex.mono _ _
      | exact spec_FairWords.mono _ _ _
      | exact spec_IndexPrefixes.mono _ _ _
      | exact spec_IndexSearch.mono _ _ _
      | exact spec_TrieFind.mono _ _ _ _
      | exact spec_TrieLongest.mono _ _ _ _
      | exact spec_TriePrefixes.mono _ _ _ _
      | exact LeO.none _
      | refine LeO.ite ?_ ?_
      | refine LeO.bind ?_ (fun _ => ?_)
set_option maxHeartbeats 8000000 in
set_option maxRecDepth 100000 in
theorem laws_FnTriesSay.calls (k : Nat) (A0 : Option Addr) (c0 : Nat) (l0 : List ByteArray) (A1 : Option Addr) (c1 : Nat) (l1 : List Int) (a2 : ByteArray) (r : Bool) (w : World) (hr0 : Kd.C Kd.string w A0 l0.length l0) (hc0 : l0.length ≤ c0) (hr1 : Kd.C (Kd.int .i64) w A1 l1.length l1) (hc1 : l1.length ≤ c1) (h : laws_FnTriesSay.f k l0 l1 a2 = some r) :
    Calls Try.prog 3 #[.slice A0 l0.length c0, .slice A1 l1.length c1, .string a2] w fun e w' => e = .returned (.bool r) ∧ Below w.heap.size w w' := by
  have HR0 := Aside0.mk hr0
  have HC0 := Aside0.mk hc0
  clear hr0 hc0
  have HR1 := Aside0.mk hr1
  have HC1 := Aside0.mk hc1
  clear hr1 hc1
  have HB := Aside0.mk (Below.refl w.heap.size w)
  have H : ((laws_zzFits4.f k l0).bind fun t327 => (if t327 = true then (if (l1.length : Int) > 2147483647 then (laws_FnTriesSay.j0 k l0 l1 a2 true) else (laws_FnTriesSay.j0 k l0 l1 a2 (decide ((a2.size : Int) > 2147483647)))) else (laws_FnTriesSay.j0 k l0 l1 a2 true))) = some r := h
  clear h
  have HC4 := Aside0.mk H
  clear H
  go_enter Try.func3, Try.ntmps3
  go_upto_region 1 with (fail)
  repeat (go_quiet (fail); go_upto_region 1 with (fail))
  go_cut [42] (fun v42 wc => ∃ (kq : Nat) (x42_3 : Bool), v42 = .bool x42_3 ∧ Aside0 (laws_FnTriesSay.j0 kq l0 l1 a2 x42_3 = some r) ∧ Aside0 (kq ≤ k) ∧ Aside0 (Below w.heap.size w wc))
  case first =>
    as_aux_lemma =>
      have H := HC4.out
      clear HC4
      replace H := Option.bind_eq_some_iff.mp H
      obtain ⟨t327, A50, H⟩ := H
      replace H : (if t327 = true then (if (l1.length : Int) > 2147483647 then (laws_FnTriesSay.j0 k l0 l1 a2 true) else (laws_FnTriesSay.j0 k l0 l1 a2 (decide ((a2.size : Int) > 2147483647)))) else (laws_FnTriesSay.j0 k l0 l1 a2 true)) = some r := H
      have A5 := Aside0.mk A50
      clear A50
      by_cases c6 : t327 = true
      · subst c6
        have H1 : (if (l1.length : Int) > 2147483647 then (laws_FnTriesSay.j0 k l0 l1 a2 true) else (laws_FnTriesSay.j0 k l0 l1 a2 (decide ((a2.size : Int) > 2147483647)))) = some r := by rw [if_pos rfl] at H; exact H
        clear H
        have H := H1
        clear H1
        by_cases c7 : (l1.length : Int) > 2147483647
        · rw [if_pos c7] at H
          have c7b0 : decide (2147483647 < (l1.length : Int)) = true := decide_eq_true c7
          have c7b1 : decide (2147483647 < l1.length) = true := decide_eq_true (by omega)
          clear c7
          (first | rw [c7b0] | (simp only [i64_w, i32_w]; rw [c7b0]) | skip)
          have H' := Aside0.mk H
          clear H
          go_wp2_with (first | (go_at_call 4; (with_reducible refine (laws_zzFits4.calls k _ _ l0 true _ ?side1 ?side2 A5.out).mono ?_); (case side1 => repeat (first | exact (Kd.C_below HR0.out HB.out) | (with_reducible refine Kd.C_alloc ?_ _) | (with_reducible refine Kd.C_drewN ?_ _) | (with_reducible refine Kd.C_drew ?_))); (case side2 => exact HC0.out); rintro e w' ⟨rfl, ⟨nd, rfl⟩⟩; (try first | exact ⟨rfl, _, World.drewN_drewN _ _ _⟩ | exact ⟨rfl, _, Eq.trans (World.drewN_drewN _ _ _) (congrArg (World.drewN _) (Nat.add_assoc _ _ _))⟩)))
          repeat (go_quiet (first | (go_at_call 4; (with_reducible refine (laws_zzFits4.calls k _ _ l0 true _ ?side1 ?side2 A5.out).mono ?_); (case side1 => repeat (first | exact (Kd.C_below HR0.out HB.out) | (with_reducible refine Kd.C_alloc ?_ _) | (with_reducible refine Kd.C_drewN ?_ _) | (with_reducible refine Kd.C_drew ?_))); (case side2 => exact HC0.out); rintro e w' ⟨rfl, ⟨nd, rfl⟩⟩; (try first | exact ⟨rfl, _, World.drewN_drewN _ _ _⟩ | exact ⟨rfl, _, Eq.trans (World.drewN_drewN _ _ _) (congrArg (World.drewN _) (Nat.add_assoc _ _ _))⟩))); try go_wp2_with (first | (go_at_call 4; (with_reducible refine (laws_zzFits4.calls k _ _ l0 true _ ?side1 ?side2 A5.out).mono ?_); (case side1 => repeat (first | exact (Kd.C_below HR0.out HB.out) | (with_reducible refine Kd.C_alloc ?_ _) | (with_reducible refine Kd.C_drewN ?_ _) | (with_reducible refine Kd.C_drew ?_))); (case side2 => exact HC0.out); rintro e w' ⟨rfl, ⟨nd, rfl⟩⟩; (try first | exact ⟨rfl, _, World.drewN_drewN _ _ _⟩ | exact ⟨rfl, _, Eq.trans (World.drewN_drewN _ _ _) (congrArg (World.drewN _) (Nat.add_assoc _ _ _))⟩))))
          go_meet
          case rel => exact ⟨_, (true), (by first | rfl | (simp; done) | (simp [*]; done)), H', ⟨by first | omega | exact Nat.le_refl _⟩, ⟨by repeat (first | (with_reducible first | exact HB.out | apply below_alloc | apply pw_below_drewN | apply below_drew1) | exact HB.out)⟩⟩
        · rw [if_neg c7] at H
          have c7b0 : decide (2147483647 < (l1.length : Int)) = false := decide_eq_false c7
          have c7b1 : decide (2147483647 < l1.length) = false := decide_eq_false (by omega)
          clear c7
          (first | rw [c7b0] | (simp only [i64_w, i32_w]; rw [c7b0]) | skip)
          have H' := Aside0.mk H
          clear H
          go_wp2_with (first | (go_at_call 4; (with_reducible refine (laws_zzFits4.calls k _ _ l0 true _ ?side1 ?side2 A5.out).mono ?_); (case side1 => repeat (first | exact (Kd.C_below HR0.out HB.out) | (with_reducible refine Kd.C_alloc ?_ _) | (with_reducible refine Kd.C_drewN ?_ _) | (with_reducible refine Kd.C_drew ?_))); (case side2 => exact HC0.out); rintro e w' ⟨rfl, ⟨nd, rfl⟩⟩; (try first | exact ⟨rfl, _, World.drewN_drewN _ _ _⟩ | exact ⟨rfl, _, Eq.trans (World.drewN_drewN _ _ _) (congrArg (World.drewN _) (Nat.add_assoc _ _ _))⟩)))
          repeat (go_quiet (first | (go_at_call 4; (with_reducible refine (laws_zzFits4.calls k _ _ l0 true _ ?side1 ?side2 A5.out).mono ?_); (case side1 => repeat (first | exact (Kd.C_below HR0.out HB.out) | (with_reducible refine Kd.C_alloc ?_ _) | (with_reducible refine Kd.C_drewN ?_ _) | (with_reducible refine Kd.C_drew ?_))); (case side2 => exact HC0.out); rintro e w' ⟨rfl, ⟨nd, rfl⟩⟩; (try first | exact ⟨rfl, _, World.drewN_drewN _ _ _⟩ | exact ⟨rfl, _, Eq.trans (World.drewN_drewN _ _ _) (congrArg (World.drewN _) (Nat.add_assoc _ _ _))⟩))); try go_wp2_with (first | (go_at_call 4; (with_reducible refine (laws_zzFits4.calls k _ _ l0 true _ ?side1 ?side2 A5.out).mono ?_); (case side1 => repeat (first | exact (Kd.C_below HR0.out HB.out) | (with_reducible refine Kd.C_alloc ?_ _) | (with_reducible refine Kd.C_drewN ?_ _) | (with_reducible refine Kd.C_drew ?_))); (case side2 => exact HC0.out); rintro e w' ⟨rfl, ⟨nd, rfl⟩⟩; (try first | exact ⟨rfl, _, World.drewN_drewN _ _ _⟩ | exact ⟨rfl, _, Eq.trans (World.drewN_drewN _ _ _) (congrArg (World.drewN _) (Nat.add_assoc _ _ _))⟩))))
          go_meet
          case rel => exact ⟨_, (decide ((a2.size : Int) > 2147483647)), (by first | rfl | (simp; done) | (simp [*]; done)), H', ⟨by first | omega | exact Nat.le_refl _⟩, ⟨by repeat (first | (with_reducible first | exact HB.out | apply below_alloc | apply pw_below_drewN | apply below_drew1) | exact HB.out)⟩⟩
      · replace c6 := Bool.eq_false_iff.mpr c6
        subst c6
        have H1 : (laws_FnTriesSay.j0 k l0 l1 a2 true) = some r := by rw [if_neg (show ¬ (false = true) by decide)] at H; exact H
        clear H
        have H := H1
        clear H1
        have H' := Aside0.mk H
        clear H
        go_wp2_with (first | (go_at_call 4; (with_reducible refine (laws_zzFits4.calls k _ _ l0 false _ ?side1 ?side2 A5.out).mono ?_); (case side1 => repeat (first | exact (Kd.C_below HR0.out HB.out) | (with_reducible refine Kd.C_alloc ?_ _) | (with_reducible refine Kd.C_drewN ?_ _) | (with_reducible refine Kd.C_drew ?_))); (case side2 => exact HC0.out); rintro e w' ⟨rfl, ⟨nd, rfl⟩⟩; (try first | exact ⟨rfl, _, World.drewN_drewN _ _ _⟩ | exact ⟨rfl, _, Eq.trans (World.drewN_drewN _ _ _) (congrArg (World.drewN _) (Nat.add_assoc _ _ _))⟩)))
        repeat (go_quiet (first | (go_at_call 4; (with_reducible refine (laws_zzFits4.calls k _ _ l0 false _ ?side1 ?side2 A5.out).mono ?_); (case side1 => repeat (first | exact (Kd.C_below HR0.out HB.out) | (with_reducible refine Kd.C_alloc ?_ _) | (with_reducible refine Kd.C_drewN ?_ _) | (with_reducible refine Kd.C_drew ?_))); (case side2 => exact HC0.out); rintro e w' ⟨rfl, ⟨nd, rfl⟩⟩; (try first | exact ⟨rfl, _, World.drewN_drewN _ _ _⟩ | exact ⟨rfl, _, Eq.trans (World.drewN_drewN _ _ _) (congrArg (World.drewN _) (Nat.add_assoc _ _ _))⟩))); try go_wp2_with (first | (go_at_call 4; (with_reducible refine (laws_zzFits4.calls k _ _ l0 false _ ?side1 ?side2 A5.out).mono ?_); (case side1 => repeat (first | exact (Kd.C_below HR0.out HB.out) | (with_reducible refine Kd.C_alloc ?_ _) | (with_reducible refine Kd.C_drewN ?_ _) | (with_reducible refine Kd.C_drew ?_))); (case side2 => exact HC0.out); rintro e w' ⟨rfl, ⟨nd, rfl⟩⟩; (try first | exact ⟨rfl, _, World.drewN_drewN _ _ _⟩ | exact ⟨rfl, _, Eq.trans (World.drewN_drewN _ _ _) (congrArg (World.drewN _) (Nat.add_assoc _ _ _))⟩))))
        go_meet
        case rel => exact ⟨_, (true), (by first | rfl | (simp; done) | (simp [*]; done)), H', ⟨by first | omega | exact Nat.le_refl _⟩, ⟨by repeat (first | (with_reducible first | exact HB.out | apply below_alloc | apply pw_below_drewN | apply below_drew1) | exact HB.out)⟩⟩
  case rest =>
    as_aux_lemma =>
      clear HC4
      try clear c1
      try clear p2
      try clear c3
      try clear c6
      try clear c7
      try clear c7b0
      try clear c7b1
      obtain ⟨kq, x42_3, rfl, HA, HJ3, HB⟩ := hcut
      cases kq with
      | zero => exact absurd HA.out (by simp [laws_FnTriesSay.j0])
      | succ kj3 =>
        have H := HA.out
        clear HA
        simp only [laws_FnTriesSay.j0] at H
        by_cases c8 : x42_3 = true
        · subst c8
          have H1 : (some true) = some r := by rw [if_pos rfl] at H; exact H
          clear H
          have H := H1
          clear H1
          obtain rfl := Option.some.inj H
          go_wp2
          repeat (go_quiet (fail); try go_wp2)
          go_ret
          exact ⟨by first | rfl | (simp [errW_none, errW_some] <;> rfl) | (simp [*, errW_none, errW_some] <;> rfl), by repeat (first | (with_reducible first | exact HB.out | apply below_alloc | apply pw_below_drewN | apply below_drew1) | exact HB.out)⟩
        · replace c8 := Bool.eq_false_iff.mpr c8
          subst c8
          have H1 : ((laws_finds.f).bind fun t328 => (if t328 = true then (if (l0.length : Int) > 30 then (laws_FnTriesSay.j1 kj3 l0 l1 a2 true) else ((laws_clean.f kj3 40 l0).bind fun t329 => (if t329 = true then ((laws_clean.f kj3 80 (([a2] : List ByteArray))).bind fun t333 => (laws_FnTriesSay.j1 kj3 l0 l1 a2 (!t333))) else (laws_FnTriesSay.j1 kj3 l0 l1 a2 true)))) else (some false))) = some r := by rw [if_neg (show ¬ (false = true) by decide)] at H; exact H
          clear H
          have H := H1
          clear H1
          replace H := Option.bind_eq_some_iff.mp H
          obtain ⟨t328, A90, H⟩ := H
          replace H : (if t328 = true then (if (l0.length : Int) > 30 then (laws_FnTriesSay.j1 kj3 l0 l1 a2 true) else ((laws_clean.f kj3 40 l0).bind fun t329 => (if t329 = true then ((laws_clean.f kj3 80 (([a2] : List ByteArray))).bind fun t333 => (laws_FnTriesSay.j1 kj3 l0 l1 a2 (!t333))) else (laws_FnTriesSay.j1 kj3 l0 l1 a2 true)))) else (some false)) = some r := H
          have A9 := Aside0.mk A90
          clear A90
          by_cases c10 : t328 = true
          · subst c10
            have H1 : (if (l0.length : Int) > 30 then (laws_FnTriesSay.j1 kj3 l0 l1 a2 true) else ((laws_clean.f kj3 40 l0).bind fun t329 => (if t329 = true then ((laws_clean.f kj3 80 (([a2] : List ByteArray))).bind fun t333 => (laws_FnTriesSay.j1 kj3 l0 l1 a2 (!t333))) else (laws_FnTriesSay.j1 kj3 l0 l1 a2 true)))) = some r := by rw [if_pos rfl] at H; exact H
            clear H
            have H := H1
            clear H1
            have HC11 := Aside0.mk H
            clear H
            go_upto_region 5 with (first | (go_at_call 5; (with_reducible refine (laws_finds.calls  true _ A9.out).mono ?_); rintro e w12 ⟨rfl, hb⟩; have n0_ := Aside0.mk (below_step (by repeat (first | (with_reducible first | exact HB.out | apply below_alloc | apply pw_below_drewN | apply below_drew1) | exact HB.out)) hb); clear HB; have HB := n0_; clear n0_; (try clear hb); (try clear hb2); (try clear hk); (try clear hi)))
            repeat (go_quiet (first | (go_at_call 5; (with_reducible refine (laws_finds.calls  true _ A9.out).mono ?_); rintro e w12 ⟨rfl, hb⟩; have n0_ := Aside0.mk (below_step (by repeat (first | (with_reducible first | exact HB.out | apply below_alloc | apply pw_below_drewN | apply below_drew1) | exact HB.out)) hb); clear HB; have HB := n0_; clear n0_; (try clear hb); (try clear hb2); (try clear hk); (try clear hi))); go_upto_region 5 with (first | (go_at_call 5; (with_reducible refine (laws_finds.calls  true _ A9.out).mono ?_); rintro e w12 ⟨rfl, hb⟩; have n0_ := Aside0.mk (below_step (by repeat (first | (with_reducible first | exact HB.out | apply below_alloc | apply pw_below_drewN | apply below_drew1) | exact HB.out)) hb); clear HB; have HB := n0_; clear n0_; (try clear hb); (try clear hb2); (try clear hk); (try clear hi))))
            (try simp only [Act.put, List.setIfInBounds_toArray, List.set_cons_zero, List.set_cons_succ])
            go_cut [58] (fun v58 wc => ∃ (kq : Nat) (x58_10 : Bool), v58 = .bool x58_10 ∧ Aside0 (laws_FnTriesSay.j1 kq l0 l1 a2 x58_10 = some r) ∧ Aside0 (kq ≤ kj3) ∧ Aside0 (Below w.heap.size w wc))
            case first =>
              as_aux_lemma =>
                have H := HC11.out
                clear HC11
                by_cases c13 : (l0.length : Int) > 30
                · rw [if_pos c13] at H
                  have c13b0 : decide (30 < (l0.length : Int)) = true := decide_eq_true c13
                  have c13b1 : decide (30 < l0.length) = true := decide_eq_true (by omega)
                  clear c13
                  (first | rw [c13b0] | (simp only [i64_w, i32_w]; rw [c13b0]) | skip)
                  have H' := Aside0.mk H
                  clear H
                  go_wp2
                  repeat (go_quiet (fail); try go_wp2)
                  go_meet
                  case rel => exact ⟨_, (true), (by first | rfl | (simp; done) | (simp [*]; done)), H', ⟨by have := HJ3.out; first | omega | exact Nat.le_refl _⟩, ⟨by repeat (first | (with_reducible first | exact HB.out | apply below_alloc | apply pw_below_drewN | apply below_drew1) | exact HB.out)⟩⟩
                · rw [if_neg c13] at H
                  have c13b0 : decide (30 < (l0.length : Int)) = false := decide_eq_false c13
                  have c13b1 : decide (30 < l0.length) = false := decide_eq_false (by omega)
                  clear c13
                  (first | rw [c13b0] | (simp only [i64_w, i32_w]; rw [c13b0]) | skip)
                  replace H := Option.bind_eq_some_iff.mp H
                  obtain ⟨t329, A140, H⟩ := H
                  replace H : (if t329 = true then ((laws_clean.f kj3 80 (([a2] : List ByteArray))).bind fun t333 => (laws_FnTriesSay.j1 kj3 l0 l1 a2 (!t333))) else (laws_FnTriesSay.j1 kj3 l0 l1 a2 true)) = some r := H
                  have A14 := Aside0.mk A140
                  clear A140
                  by_cases c15 : t329 = true
                  · subst c15
                    have H1 : ((laws_clean.f kj3 80 (([a2] : List ByteArray))).bind fun t333 => (laws_FnTriesSay.j1 kj3 l0 l1 a2 (!t333))) = some r := by rw [if_pos rfl] at H; exact H
                    clear H
                    have H := H1
                    clear H1
                    obtain ⟨y330, hy330⟩ : ∃ y_ : List ByteArray, y_ = (([a2] : List ByteArray)) := ⟨_, rfl⟩
                    replace H : ((laws_clean.f kj3 80 y330).bind fun t333 => (laws_FnTriesSay.j1 kj3 l0 l1 a2 (!t333))) = some r := by first | (rw [hy330]; with_reducible exact H) | (have H2_ := (Option.bind_some _ _).symm.trans H; rw [hy330]; with_reducible exact H2_) | (have H2_ := (Option.bind_some _ _).symm.trans H; with_reducible exact H2_) | with_reducible exact H | (rw [hy330]; exact H) | exact H
                    have Ny330 := Aside0.mk hy330
                    clear hy330
                    replace H := Option.bind_eq_some_iff.mp H
                    obtain ⟨t333, A160, H⟩ := H
                    replace H : (laws_FnTriesSay.j1 kj3 l0 l1 a2 (!t333)) = some r := H
                    have A16 := Aside0.mk A160
                    clear A160
                    have H' := Aside0.mk H
                    clear H
                    go_wp2_with (first | (go_at_call 6; (with_reducible refine (laws_clean.calls kj3 40 _ _ l0 true _ ?side1 ?side2 A14.out).mono ?_); (case side1 => repeat (first | exact (Kd.C_below HR0.out HB.out) | (with_reducible refine Kd.C_alloc ?_ _) | (with_reducible refine Kd.C_drewN ?_ _) | (with_reducible refine Kd.C_drew ?_))); (case side2 => exact HC0.out); rintro e w17 ⟨rfl, hb⟩; have n0_ := Aside0.mk (below_step (by repeat (first | (with_reducible first | exact HB.out | apply below_alloc | apply pw_below_drewN | apply below_drew1) | exact HB.out)) hb); clear HB; have HB := n0_; clear n0_; (try clear hb); (try clear hb2); (try clear hk); (try clear hi)) | ((with_reducible refine gate_dst (N := 55) rfl ?_); (try (refine gate_guard (by rfl) ?_; dsimp only)); refine Kd.R_lit Kd.string _ 9 ?hg (N := 55) ?hd (xs := ([a2] : List ByteArray)) (inner := [.string a2]) (ok := fun _ => True) (okp := fun _ => True) ?hr ?hp (fun _ hk => hk) trivial (Below.refl _ _) (Nat.le_refl _) (by simp) ?_; (case hd => rfl); (case hg => rfl); (case hr => first | (go_simp; done) | (go_simp; rfl)); (case hp => exact (Reps.one (show Kd.M Kd.string _ _ _ a2 [.string a2] from rfl) (Reps.none _ _))); intro v331 w18 ho19 hb hg_ hnew_; clear hg_ hnew_; (first | rw [← Ny330.out] at ho19 | (simp only [Int.reduceToNat] at ho19; rw [← Ny330.out] at ho19)); have n0_ := Aside0.mk (Kd.R_lower ho19 (below_size (by repeat (first | (with_reducible first | exact HB.out | apply below_alloc | apply pw_below_drewN | apply below_drew1) | exact HB.out)))); have n1_ := Aside0.mk (below_step (by repeat (first | (with_reducible first | exact HB.out | apply below_alloc | apply pw_below_drewN | apply below_drew1) | exact HB.out)) hb); clear HB; have HO332 := n0_; have HB := n1_; clear n0_ n1_; clear hb ho19; obtain ⟨Ao20, co20, eo20⟩ := Kd.R_slice HO332.out; subst eo20) | (go_at_call 6; (with_reducible refine (laws_clean.calls kj3 80 _ _ y330 t333 _ ?side1 ?side2 A16.out).mono ?_); (case side1 => repeat (first | exact (Kd.R_reads' HO332.out).2.2 | (with_reducible refine Kd.C_alloc ?_ _) | (with_reducible refine Kd.C_drewN ?_ _) | (with_reducible refine Kd.C_drew ?_))); (case side2 => exact (Kd.R_reads' HO332.out).2.1); rintro e w21 ⟨rfl, hb⟩; have n0_ := Aside0.mk (Kd.R_below (by (with_reducible repeat (first | apply Kd.R_alloc | apply Kd.R_drewN | apply Kd.R_drew)); exact HO332.out) hb); have n1_ := Aside0.mk (below_step (by repeat (first | (with_reducible first | exact HB.out | apply below_alloc | apply pw_below_drewN | apply below_drew1) | exact HB.out)) hb); clear HO332; clear HB; have HO332 := n0_; have HB := n1_; clear n0_ n1_; (try clear hb); (try clear hb2); (try clear hk); (try clear hi)))
                    repeat (go_quiet (first | (go_at_call 6; (with_reducible refine (laws_clean.calls kj3 40 _ _ l0 true _ ?side1 ?side2 A14.out).mono ?_); (case side1 => repeat (first | exact (Kd.C_below HR0.out HB.out) | (with_reducible refine Kd.C_alloc ?_ _) | (with_reducible refine Kd.C_drewN ?_ _) | (with_reducible refine Kd.C_drew ?_))); (case side2 => exact HC0.out); rintro e w17 ⟨rfl, hb⟩; have n0_ := Aside0.mk (below_step (by repeat (first | (with_reducible first | exact HB.out | apply below_alloc | apply pw_below_drewN | apply below_drew1) | exact HB.out)) hb); clear HB; have HB := n0_; clear n0_; (try clear hb); (try clear hb2); (try clear hk); (try clear hi)) | ((with_reducible refine gate_dst (N := 55) rfl ?_); (try (refine gate_guard (by rfl) ?_; dsimp only)); refine Kd.R_lit Kd.string _ 9 ?hg (N := 55) ?hd (xs := ([a2] : List ByteArray)) (inner := [.string a2]) (ok := fun _ => True) (okp := fun _ => True) ?hr ?hp (fun _ hk => hk) trivial (Below.refl _ _) (Nat.le_refl _) (by simp) ?_; (case hd => rfl); (case hg => rfl); (case hr => first | (go_simp; done) | (go_simp; rfl)); (case hp => exact (Reps.one (show Kd.M Kd.string _ _ _ a2 [.string a2] from rfl) (Reps.none _ _))); intro v331 w18 ho19 hb hg_ hnew_; clear hg_ hnew_; (first | rw [← Ny330.out] at ho19 | (simp only [Int.reduceToNat] at ho19; rw [← Ny330.out] at ho19)); have n0_ := Aside0.mk (Kd.R_lower ho19 (below_size (by repeat (first | (with_reducible first | exact HB.out | apply below_alloc | apply pw_below_drewN | apply below_drew1) | exact HB.out)))); have n1_ := Aside0.mk (below_step (by repeat (first | (with_reducible first | exact HB.out | apply below_alloc | apply pw_below_drewN | apply below_drew1) | exact HB.out)) hb); clear HB; have HO332 := n0_; have HB := n1_; clear n0_ n1_; clear hb ho19; obtain ⟨Ao20, co20, eo20⟩ := Kd.R_slice HO332.out; subst eo20) | (go_at_call 6; (with_reducible refine (laws_clean.calls kj3 80 _ _ y330 t333 _ ?side1 ?side2 A16.out).mono ?_); (case side1 => repeat (first | exact (Kd.R_reads' HO332.out).2.2 | (with_reducible refine Kd.C_alloc ?_ _) | (with_reducible refine Kd.C_drewN ?_ _) | (with_reducible refine Kd.C_drew ?_))); (case side2 => exact (Kd.R_reads' HO332.out).2.1); rintro e w21 ⟨rfl, hb⟩; have n0_ := Aside0.mk (Kd.R_below (by (with_reducible repeat (first | apply Kd.R_alloc | apply Kd.R_drewN | apply Kd.R_drew)); exact HO332.out) hb); have n1_ := Aside0.mk (below_step (by repeat (first | (with_reducible first | exact HB.out | apply below_alloc | apply pw_below_drewN | apply below_drew1) | exact HB.out)) hb); clear HO332; clear HB; have HO332 := n0_; have HB := n1_; clear n0_ n1_; (try clear hb); (try clear hb2); (try clear hk); (try clear hi))); try go_wp2_with (first | (go_at_call 6; (with_reducible refine (laws_clean.calls kj3 40 _ _ l0 true _ ?side1 ?side2 A14.out).mono ?_); (case side1 => repeat (first | exact (Kd.C_below HR0.out HB.out) | (with_reducible refine Kd.C_alloc ?_ _) | (with_reducible refine Kd.C_drewN ?_ _) | (with_reducible refine Kd.C_drew ?_))); (case side2 => exact HC0.out); rintro e w17 ⟨rfl, hb⟩; have n0_ := Aside0.mk (below_step (by repeat (first | (with_reducible first | exact HB.out | apply below_alloc | apply pw_below_drewN | apply below_drew1) | exact HB.out)) hb); clear HB; have HB := n0_; clear n0_; (try clear hb); (try clear hb2); (try clear hk); (try clear hi)) | ((with_reducible refine gate_dst (N := 55) rfl ?_); (try (refine gate_guard (by rfl) ?_; dsimp only)); refine Kd.R_lit Kd.string _ 9 ?hg (N := 55) ?hd (xs := ([a2] : List ByteArray)) (inner := [.string a2]) (ok := fun _ => True) (okp := fun _ => True) ?hr ?hp (fun _ hk => hk) trivial (Below.refl _ _) (Nat.le_refl _) (by simp) ?_; (case hd => rfl); (case hg => rfl); (case hr => first | (go_simp; done) | (go_simp; rfl)); (case hp => exact (Reps.one (show Kd.M Kd.string _ _ _ a2 [.string a2] from rfl) (Reps.none _ _))); intro v331 w18 ho19 hb hg_ hnew_; clear hg_ hnew_; (first | rw [← Ny330.out] at ho19 | (simp only [Int.reduceToNat] at ho19; rw [← Ny330.out] at ho19)); have n0_ := Aside0.mk (Kd.R_lower ho19 (below_size (by repeat (first | (with_reducible first | exact HB.out | apply below_alloc | apply pw_below_drewN | apply below_drew1) | exact HB.out)))); have n1_ := Aside0.mk (below_step (by repeat (first | (with_reducible first | exact HB.out | apply below_alloc | apply pw_below_drewN | apply below_drew1) | exact HB.out)) hb); clear HB; have HO332 := n0_; have HB := n1_; clear n0_ n1_; clear hb ho19; obtain ⟨Ao20, co20, eo20⟩ := Kd.R_slice HO332.out; subst eo20) | (go_at_call 6; (with_reducible refine (laws_clean.calls kj3 80 _ _ y330 t333 _ ?side1 ?side2 A16.out).mono ?_); (case side1 => repeat (first | exact (Kd.R_reads' HO332.out).2.2 | (with_reducible refine Kd.C_alloc ?_ _) | (with_reducible refine Kd.C_drewN ?_ _) | (with_reducible refine Kd.C_drew ?_))); (case side2 => exact (Kd.R_reads' HO332.out).2.1); rintro e w21 ⟨rfl, hb⟩; have n0_ := Aside0.mk (Kd.R_below (by (with_reducible repeat (first | apply Kd.R_alloc | apply Kd.R_drewN | apply Kd.R_drew)); exact HO332.out) hb); have n1_ := Aside0.mk (below_step (by repeat (first | (with_reducible first | exact HB.out | apply below_alloc | apply pw_below_drewN | apply below_drew1) | exact HB.out)) hb); clear HO332; clear HB; have HO332 := n0_; have HB := n1_; clear n0_ n1_; (try clear hb); (try clear hb2); (try clear hk); (try clear hi))))
                    go_meet
                    case rel => exact ⟨_, (!t333), (by first | rfl | (simp; done) | (simp [*]; done)), H', ⟨by have := HJ3.out; first | omega | exact Nat.le_refl _⟩, ⟨by repeat (first | (with_reducible first | exact HB.out | apply below_alloc | apply pw_below_drewN | apply below_drew1) | exact HB.out)⟩⟩
                  · replace c15 := Bool.eq_false_iff.mpr c15
                    subst c15
                    have H1 : (laws_FnTriesSay.j1 kj3 l0 l1 a2 true) = some r := by rw [if_neg (show ¬ (false = true) by decide)] at H; exact H
                    clear H
                    have H := H1
                    clear H1
                    have H' := Aside0.mk H
                    clear H
                    go_wp2_with (first | (go_at_call 6; (with_reducible refine (laws_clean.calls kj3 40 _ _ l0 false _ ?side1 ?side2 A14.out).mono ?_); (case side1 => repeat (first | exact (Kd.C_below HR0.out HB.out) | (with_reducible refine Kd.C_alloc ?_ _) | (with_reducible refine Kd.C_drewN ?_ _) | (with_reducible refine Kd.C_drew ?_))); (case side2 => exact HC0.out); rintro e w22 ⟨rfl, hb⟩; have n0_ := Aside0.mk (below_step (by repeat (first | (with_reducible first | exact HB.out | apply below_alloc | apply pw_below_drewN | apply below_drew1) | exact HB.out)) hb); clear HB; have HB := n0_; clear n0_; (try clear hb); (try clear hb2); (try clear hk); (try clear hi)))
                    repeat (go_quiet (first | (go_at_call 6; (with_reducible refine (laws_clean.calls kj3 40 _ _ l0 false _ ?side1 ?side2 A14.out).mono ?_); (case side1 => repeat (first | exact (Kd.C_below HR0.out HB.out) | (with_reducible refine Kd.C_alloc ?_ _) | (with_reducible refine Kd.C_drewN ?_ _) | (with_reducible refine Kd.C_drew ?_))); (case side2 => exact HC0.out); rintro e w22 ⟨rfl, hb⟩; have n0_ := Aside0.mk (below_step (by repeat (first | (with_reducible first | exact HB.out | apply below_alloc | apply pw_below_drewN | apply below_drew1) | exact HB.out)) hb); clear HB; have HB := n0_; clear n0_; (try clear hb); (try clear hb2); (try clear hk); (try clear hi))); try go_wp2_with (first | (go_at_call 6; (with_reducible refine (laws_clean.calls kj3 40 _ _ l0 false _ ?side1 ?side2 A14.out).mono ?_); (case side1 => repeat (first | exact (Kd.C_below HR0.out HB.out) | (with_reducible refine Kd.C_alloc ?_ _) | (with_reducible refine Kd.C_drewN ?_ _) | (with_reducible refine Kd.C_drew ?_))); (case side2 => exact HC0.out); rintro e w22 ⟨rfl, hb⟩; have n0_ := Aside0.mk (below_step (by repeat (first | (with_reducible first | exact HB.out | apply below_alloc | apply pw_below_drewN | apply below_drew1) | exact HB.out)) hb); clear HB; have HB := n0_; clear n0_; (try clear hb); (try clear hb2); (try clear hk); (try clear hi))))
                    go_meet
                    case rel => exact ⟨_, (true), (by first | rfl | (simp; done) | (simp [*]; done)), H', ⟨by have := HJ3.out; first | omega | exact Nat.le_refl _⟩, ⟨by repeat (first | (with_reducible first | exact HB.out | apply below_alloc | apply pw_below_drewN | apply below_drew1) | exact HB.out)⟩⟩
            case rest =>
              as_aux_lemma =>
                clear HC11
                try clear c1
                try clear p2
                try clear c3
                try clear c6
                try clear c7
                try clear c7b0
                try clear c7b1
                try clear c8
                try clear c10
                try clear c13
                try clear c13b0
                try clear c13b1
                try clear c15
                try clear p2
                obtain ⟨kq, x58_10, rfl, HA, HJ10, HB⟩ := hcut
                cases kq with
                | zero => exact absurd HA.out (by simp [laws_FnTriesSay.j1])
                | succ kj10 =>
                  have H := HA.out
                  clear HA
                  simp only [laws_FnTriesSay.j1] at H
                  by_cases c23 : x58_10 = true
                  · subst c23
                    have H1 : (some true) = some r := by rw [if_pos rfl] at H; exact H
                    clear H
                    have H := H1
                    clear H1
                    obtain rfl := Option.some.inj H
                    go_wp2
                    repeat (go_quiet (fail); try go_wp2)
                    go_ret
                    exact ⟨by first | rfl | (simp [errW_none, errW_some] <;> rfl) | (simp [*, errW_none, errW_some] <;> rfl), by repeat (first | (with_reducible first | exact HB.out | apply below_alloc | apply pw_below_drewN | apply below_drew1) | exact HB.out)⟩
                  · replace c23 := Bool.eq_false_iff.mpr c23
                    subst c23
                    have H1 : ((laws_ahead.f kj10 l0 a2).bind fun t334 => (if t334 = true then (some true) else ((spec_FairWords.f kj10 l0 l1).bind fun t335 => (if t335 = true then ((laws_fair.f kj10 l0 l1).bind fun t336 => (laws_FnTriesSay.j2 kj10 l0 l1 a2 t336)) else (laws_FnTriesSay.j2 kj10 l0 l1 a2 false))))) = some r := by rw [if_neg (show ¬ (false = true) by decide)] at H; exact H
                    clear H
                    have H := H1
                    clear H1
                    replace H := Option.bind_eq_some_iff.mp H
                    obtain ⟨t334, A240, H⟩ := H
                    replace H : (if t334 = true then (some true) else ((spec_FairWords.f kj10 l0 l1).bind fun t335 => (if t335 = true then ((laws_fair.f kj10 l0 l1).bind fun t336 => (laws_FnTriesSay.j2 kj10 l0 l1 a2 t336)) else (laws_FnTriesSay.j2 kj10 l0 l1 a2 false)))) = some r := H
                    have A24 := Aside0.mk A240
                    clear A240
                    by_cases c25 : t334 = true
                    · subst c25
                      have H1 : (some true) = some r := by rw [if_pos rfl] at H; exact H
                      clear H
                      have H := H1
                      clear H1
                      obtain rfl := Option.some.inj H
                      go_wp2_with (first | (go_at_call 7; (with_reducible refine (laws_ahead.calls kj10 _ _ l0 a2 true _ ?side1 ?side2 A24.out).mono ?_); (case side1 => repeat (first | exact (Kd.C_below HR0.out HB.out) | (with_reducible refine Kd.C_alloc ?_ _) | (with_reducible refine Kd.C_drewN ?_ _) | (with_reducible refine Kd.C_drew ?_))); (case side2 => exact HC0.out); rintro e w' ⟨rfl, ⟨nd, rfl⟩⟩; (try first | exact ⟨rfl, _, World.drewN_drewN _ _ _⟩ | exact ⟨rfl, _, Eq.trans (World.drewN_drewN _ _ _) (congrArg (World.drewN _) (Nat.add_assoc _ _ _))⟩)))
                      repeat (go_quiet (first | (go_at_call 7; (with_reducible refine (laws_ahead.calls kj10 _ _ l0 a2 true _ ?side1 ?side2 A24.out).mono ?_); (case side1 => repeat (first | exact (Kd.C_below HR0.out HB.out) | (with_reducible refine Kd.C_alloc ?_ _) | (with_reducible refine Kd.C_drewN ?_ _) | (with_reducible refine Kd.C_drew ?_))); (case side2 => exact HC0.out); rintro e w' ⟨rfl, ⟨nd, rfl⟩⟩; (try first | exact ⟨rfl, _, World.drewN_drewN _ _ _⟩ | exact ⟨rfl, _, Eq.trans (World.drewN_drewN _ _ _) (congrArg (World.drewN _) (Nat.add_assoc _ _ _))⟩))); try go_wp2_with (first | (go_at_call 7; (with_reducible refine (laws_ahead.calls kj10 _ _ l0 a2 true _ ?side1 ?side2 A24.out).mono ?_); (case side1 => repeat (first | exact (Kd.C_below HR0.out HB.out) | (with_reducible refine Kd.C_alloc ?_ _) | (with_reducible refine Kd.C_drewN ?_ _) | (with_reducible refine Kd.C_drew ?_))); (case side2 => exact HC0.out); rintro e w' ⟨rfl, ⟨nd, rfl⟩⟩; (try first | exact ⟨rfl, _, World.drewN_drewN _ _ _⟩ | exact ⟨rfl, _, Eq.trans (World.drewN_drewN _ _ _) (congrArg (World.drewN _) (Nat.add_assoc _ _ _))⟩))))
                      go_ret
                      exact ⟨by first | rfl | (simp [errW_none, errW_some] <;> rfl) | (simp [*, errW_none, errW_some] <;> rfl), by repeat (first | (with_reducible first | exact HB.out | apply below_alloc | apply pw_below_drewN | apply below_drew1) | exact HB.out)⟩
                    · replace c25 := Bool.eq_false_iff.mpr c25
                      subst c25
                      have H1 : ((spec_FairWords.f kj10 l0 l1).bind fun t335 => (if t335 = true then ((laws_fair.f kj10 l0 l1).bind fun t336 => (laws_FnTriesSay.j2 kj10 l0 l1 a2 t336)) else (laws_FnTriesSay.j2 kj10 l0 l1 a2 false))) = some r := by rw [if_neg (show ¬ (false = true) by decide)] at H; exact H
                      clear H
                      have H := H1
                      clear H1
                      have HC26 := Aside0.mk H
                      clear H
                      go_upto_region 9 with (first | (go_at_call 7; (with_reducible refine (laws_ahead.calls kj10 _ _ l0 a2 false _ ?side1 ?side2 A24.out).mono ?_); (case side1 => repeat (first | exact (Kd.C_below HR0.out HB.out) | (with_reducible refine Kd.C_alloc ?_ _) | (with_reducible refine Kd.C_drewN ?_ _) | (with_reducible refine Kd.C_drew ?_))); (case side2 => exact HC0.out); rintro e w' ⟨rfl, ⟨nd, rfl⟩⟩; (try first | exact ⟨rfl, _, World.drewN_drewN _ _ _⟩ | exact ⟨rfl, _, Eq.trans (World.drewN_drewN _ _ _) (congrArg (World.drewN _) (Nat.add_assoc _ _ _))⟩)))
                      repeat (go_quiet (first | (go_at_call 7; (with_reducible refine (laws_ahead.calls kj10 _ _ l0 a2 false _ ?side1 ?side2 A24.out).mono ?_); (case side1 => repeat (first | exact (Kd.C_below HR0.out HB.out) | (with_reducible refine Kd.C_alloc ?_ _) | (with_reducible refine Kd.C_drewN ?_ _) | (with_reducible refine Kd.C_drew ?_))); (case side2 => exact HC0.out); rintro e w' ⟨rfl, ⟨nd, rfl⟩⟩; (try first | exact ⟨rfl, _, World.drewN_drewN _ _ _⟩ | exact ⟨rfl, _, Eq.trans (World.drewN_drewN _ _ _) (congrArg (World.drewN _) (Nat.add_assoc _ _ _))⟩))); go_upto_region 9 with (first | (go_at_call 7; (with_reducible refine (laws_ahead.calls kj10 _ _ l0 a2 false _ ?side1 ?side2 A24.out).mono ?_); (case side1 => repeat (first | exact (Kd.C_below HR0.out HB.out) | (with_reducible refine Kd.C_alloc ?_ _) | (with_reducible refine Kd.C_drewN ?_ _) | (with_reducible refine Kd.C_drew ?_))); (case side2 => exact HC0.out); rintro e w' ⟨rfl, ⟨nd, rfl⟩⟩; (try first | exact ⟨rfl, _, World.drewN_drewN _ _ _⟩ | exact ⟨rfl, _, Eq.trans (World.drewN_drewN _ _ _) (congrArg (World.drewN _) (Nat.add_assoc _ _ _))⟩))))
                      (try simp only [Act.put, List.setIfInBounds_toArray, List.set_cons_zero, List.set_cons_succ])
                      go_cut [69] (fun v69 wc => ∃ (kq : Nat) (x69_25 : Bool), v69 = .bool x69_25 ∧ Aside0 (laws_FnTriesSay.j2 kq l0 l1 a2 x69_25 = some r) ∧ Aside0 (kq ≤ kj10) ∧ Aside0 (Below w.heap.size w wc))
                      case first =>
                        as_aux_lemma =>
                          have H := HC26.out
                          clear HC26
                          replace H := Option.bind_eq_some_iff.mp H
                          obtain ⟨t335, A270, H⟩ := H
                          replace H : (if t335 = true then ((laws_fair.f kj10 l0 l1).bind fun t336 => (laws_FnTriesSay.j2 kj10 l0 l1 a2 t336)) else (laws_FnTriesSay.j2 kj10 l0 l1 a2 false)) = some r := H
                          have A27 := Aside0.mk A270
                          clear A270
                          by_cases c28 : t335 = true
                          · subst c28
                            have H1 : ((laws_fair.f kj10 l0 l1).bind fun t336 => (laws_FnTriesSay.j2 kj10 l0 l1 a2 t336)) = some r := by rw [if_pos rfl] at H; exact H
                            clear H
                            have H := H1
                            clear H1
                            replace H := Option.bind_eq_some_iff.mp H
                            obtain ⟨t336, A290, H⟩ := H
                            replace H : (laws_FnTriesSay.j2 kj10 l0 l1 a2 t336) = some r := H
                            have A29 := Aside0.mk A290
                            clear A290
                            have H' := Aside0.mk H
                            clear H
                            go_wp2_with (first | (go_at_call 8; (with_reducible refine (spec_FairWords.calls kj10 _ _ l0 _ _ l1 true _ ?side1 ?side2 ?side3 ?side4 A27.out).mono ?_); (case side1 => repeat (first | exact (Kd.C_below HR0.out HB.out) | (with_reducible refine Kd.C_alloc ?_ _) | (with_reducible refine Kd.C_drewN ?_ _) | (with_reducible refine Kd.C_drew ?_))); (case side2 => exact HC0.out); (case side3 => repeat (first | exact (Kd.C_below HR1.out HB.out) | (with_reducible refine Kd.C_alloc ?_ _) | (with_reducible refine Kd.C_drewN ?_ _) | (with_reducible refine Kd.C_drew ?_))); (case side4 => exact HC1.out); rintro e w' ⟨rfl, ⟨nd, rfl⟩⟩; (try first | exact ⟨rfl, _, World.drewN_drewN _ _ _⟩ | exact ⟨rfl, _, Eq.trans (World.drewN_drewN _ _ _) (congrArg (World.drewN _) (Nat.add_assoc _ _ _))⟩)) | (go_at_call 9; (with_reducible refine (laws_fair.calls kj10 _ _ l0 _ _ l1 t336 _ ?side1 ?side2 ?side3 ?side4 A29.out).mono ?_); (case side1 => repeat (first | exact (Kd.C_below HR0.out (by repeat (first | (with_reducible first | exact HB.out | apply below_alloc | apply pw_below_drewN | apply below_drew1) | exact HB.out))) | (with_reducible refine Kd.C_alloc ?_ _) | (with_reducible refine Kd.C_drewN ?_ _) | (with_reducible refine Kd.C_drew ?_))); (case side2 => exact HC0.out); (case side3 => repeat (first | exact (Kd.C_below HR1.out (by repeat (first | (with_reducible first | exact HB.out | apply below_alloc | apply pw_below_drewN | apply below_drew1) | exact HB.out))) | (with_reducible refine Kd.C_alloc ?_ _) | (with_reducible refine Kd.C_drewN ?_ _) | (with_reducible refine Kd.C_drew ?_))); (case side4 => exact HC1.out); rintro e w30 ⟨rfl, hb⟩; have n0_ := Aside0.mk (below_step (by repeat (first | (with_reducible first | exact HB.out | apply below_alloc | apply pw_below_drewN | apply below_drew1) | exact HB.out)) hb); clear HB; have HB := n0_; clear n0_; (try clear hb); (try clear hb2); (try clear hk); (try clear hi)))
                            repeat (go_quiet (first | (go_at_call 8; (with_reducible refine (spec_FairWords.calls kj10 _ _ l0 _ _ l1 true _ ?side1 ?side2 ?side3 ?side4 A27.out).mono ?_); (case side1 => repeat (first | exact (Kd.C_below HR0.out HB.out) | (with_reducible refine Kd.C_alloc ?_ _) | (with_reducible refine Kd.C_drewN ?_ _) | (with_reducible refine Kd.C_drew ?_))); (case side2 => exact HC0.out); (case side3 => repeat (first | exact (Kd.C_below HR1.out HB.out) | (with_reducible refine Kd.C_alloc ?_ _) | (with_reducible refine Kd.C_drewN ?_ _) | (with_reducible refine Kd.C_drew ?_))); (case side4 => exact HC1.out); rintro e w' ⟨rfl, ⟨nd, rfl⟩⟩; (try first | exact ⟨rfl, _, World.drewN_drewN _ _ _⟩ | exact ⟨rfl, _, Eq.trans (World.drewN_drewN _ _ _) (congrArg (World.drewN _) (Nat.add_assoc _ _ _))⟩)) | (go_at_call 9; (with_reducible refine (laws_fair.calls kj10 _ _ l0 _ _ l1 t336 _ ?side1 ?side2 ?side3 ?side4 A29.out).mono ?_); (case side1 => repeat (first | exact (Kd.C_below HR0.out (by repeat (first | (with_reducible first | exact HB.out | apply below_alloc | apply pw_below_drewN | apply below_drew1) | exact HB.out))) | (with_reducible refine Kd.C_alloc ?_ _) | (with_reducible refine Kd.C_drewN ?_ _) | (with_reducible refine Kd.C_drew ?_))); (case side2 => exact HC0.out); (case side3 => repeat (first | exact (Kd.C_below HR1.out (by repeat (first | (with_reducible first | exact HB.out | apply below_alloc | apply pw_below_drewN | apply below_drew1) | exact HB.out))) | (with_reducible refine Kd.C_alloc ?_ _) | (with_reducible refine Kd.C_drewN ?_ _) | (with_reducible refine Kd.C_drew ?_))); (case side4 => exact HC1.out); rintro e w30 ⟨rfl, hb⟩; have n0_ := Aside0.mk (below_step (by repeat (first | (with_reducible first | exact HB.out | apply below_alloc | apply pw_below_drewN | apply below_drew1) | exact HB.out)) hb); clear HB; have HB := n0_; clear n0_; (try clear hb); (try clear hb2); (try clear hk); (try clear hi))); try go_wp2_with (first | (go_at_call 8; (with_reducible refine (spec_FairWords.calls kj10 _ _ l0 _ _ l1 true _ ?side1 ?side2 ?side3 ?side4 A27.out).mono ?_); (case side1 => repeat (first | exact (Kd.C_below HR0.out HB.out) | (with_reducible refine Kd.C_alloc ?_ _) | (with_reducible refine Kd.C_drewN ?_ _) | (with_reducible refine Kd.C_drew ?_))); (case side2 => exact HC0.out); (case side3 => repeat (first | exact (Kd.C_below HR1.out HB.out) | (with_reducible refine Kd.C_alloc ?_ _) | (with_reducible refine Kd.C_drewN ?_ _) | (with_reducible refine Kd.C_drew ?_))); (case side4 => exact HC1.out); rintro e w' ⟨rfl, ⟨nd, rfl⟩⟩; (try first | exact ⟨rfl, _, World.drewN_drewN _ _ _⟩ | exact ⟨rfl, _, Eq.trans (World.drewN_drewN _ _ _) (congrArg (World.drewN _) (Nat.add_assoc _ _ _))⟩)) | (go_at_call 9; (with_reducible refine (laws_fair.calls kj10 _ _ l0 _ _ l1 t336 _ ?side1 ?side2 ?side3 ?side4 A29.out).mono ?_); (case side1 => repeat (first | exact (Kd.C_below HR0.out (by repeat (first | (with_reducible first | exact HB.out | apply below_alloc | apply pw_below_drewN | apply below_drew1) | exact HB.out))) | (with_reducible refine Kd.C_alloc ?_ _) | (with_reducible refine Kd.C_drewN ?_ _) | (with_reducible refine Kd.C_drew ?_))); (case side2 => exact HC0.out); (case side3 => repeat (first | exact (Kd.C_below HR1.out (by repeat (first | (with_reducible first | exact HB.out | apply below_alloc | apply pw_below_drewN | apply below_drew1) | exact HB.out))) | (with_reducible refine Kd.C_alloc ?_ _) | (with_reducible refine Kd.C_drewN ?_ _) | (with_reducible refine Kd.C_drew ?_))); (case side4 => exact HC1.out); rintro e w30 ⟨rfl, hb⟩; have n0_ := Aside0.mk (below_step (by repeat (first | (with_reducible first | exact HB.out | apply below_alloc | apply pw_below_drewN | apply below_drew1) | exact HB.out)) hb); clear HB; have HB := n0_; clear n0_; (try clear hb); (try clear hb2); (try clear hk); (try clear hi))))
                            go_meet
                            case rel => exact ⟨_, (t336), (by first | rfl | (simp; done) | (simp [*]; done)), H', ⟨by have := HJ3.out; have := HJ10.out; first | omega | exact Nat.le_refl _⟩, ⟨by repeat (first | (with_reducible first | exact HB.out | apply below_alloc | apply pw_below_drewN | apply below_drew1) | exact HB.out)⟩⟩
                          · replace c28 := Bool.eq_false_iff.mpr c28
                            subst c28
                            have H1 : (laws_FnTriesSay.j2 kj10 l0 l1 a2 false) = some r := by rw [if_neg (show ¬ (false = true) by decide)] at H; exact H
                            clear H
                            have H := H1
                            clear H1
                            have H' := Aside0.mk H
                            clear H
                            go_wp2_with (first | (go_at_call 8; (with_reducible refine (spec_FairWords.calls kj10 _ _ l0 _ _ l1 false _ ?side1 ?side2 ?side3 ?side4 A27.out).mono ?_); (case side1 => repeat (first | exact (Kd.C_below HR0.out HB.out) | (with_reducible refine Kd.C_alloc ?_ _) | (with_reducible refine Kd.C_drewN ?_ _) | (with_reducible refine Kd.C_drew ?_))); (case side2 => exact HC0.out); (case side3 => repeat (first | exact (Kd.C_below HR1.out HB.out) | (with_reducible refine Kd.C_alloc ?_ _) | (with_reducible refine Kd.C_drewN ?_ _) | (with_reducible refine Kd.C_drew ?_))); (case side4 => exact HC1.out); rintro e w' ⟨rfl, ⟨nd, rfl⟩⟩; (try first | exact ⟨rfl, _, World.drewN_drewN _ _ _⟩ | exact ⟨rfl, _, Eq.trans (World.drewN_drewN _ _ _) (congrArg (World.drewN _) (Nat.add_assoc _ _ _))⟩)))
                            repeat (go_quiet (first | (go_at_call 8; (with_reducible refine (spec_FairWords.calls kj10 _ _ l0 _ _ l1 false _ ?side1 ?side2 ?side3 ?side4 A27.out).mono ?_); (case side1 => repeat (first | exact (Kd.C_below HR0.out HB.out) | (with_reducible refine Kd.C_alloc ?_ _) | (with_reducible refine Kd.C_drewN ?_ _) | (with_reducible refine Kd.C_drew ?_))); (case side2 => exact HC0.out); (case side3 => repeat (first | exact (Kd.C_below HR1.out HB.out) | (with_reducible refine Kd.C_alloc ?_ _) | (with_reducible refine Kd.C_drewN ?_ _) | (with_reducible refine Kd.C_drew ?_))); (case side4 => exact HC1.out); rintro e w' ⟨rfl, ⟨nd, rfl⟩⟩; (try first | exact ⟨rfl, _, World.drewN_drewN _ _ _⟩ | exact ⟨rfl, _, Eq.trans (World.drewN_drewN _ _ _) (congrArg (World.drewN _) (Nat.add_assoc _ _ _))⟩))); try go_wp2_with (first | (go_at_call 8; (with_reducible refine (spec_FairWords.calls kj10 _ _ l0 _ _ l1 false _ ?side1 ?side2 ?side3 ?side4 A27.out).mono ?_); (case side1 => repeat (first | exact (Kd.C_below HR0.out HB.out) | (with_reducible refine Kd.C_alloc ?_ _) | (with_reducible refine Kd.C_drewN ?_ _) | (with_reducible refine Kd.C_drew ?_))); (case side2 => exact HC0.out); (case side3 => repeat (first | exact (Kd.C_below HR1.out HB.out) | (with_reducible refine Kd.C_alloc ?_ _) | (with_reducible refine Kd.C_drewN ?_ _) | (with_reducible refine Kd.C_drew ?_))); (case side4 => exact HC1.out); rintro e w' ⟨rfl, ⟨nd, rfl⟩⟩; (try first | exact ⟨rfl, _, World.drewN_drewN _ _ _⟩ | exact ⟨rfl, _, Eq.trans (World.drewN_drewN _ _ _) (congrArg (World.drewN _) (Nat.add_assoc _ _ _))⟩))))
                            go_meet
                            case rel => exact ⟨_, (false), (by first | rfl | (simp; done) | (simp [*]; done)), H', ⟨by have := HJ3.out; have := HJ10.out; first | omega | exact Nat.le_refl _⟩, ⟨by repeat (first | (with_reducible first | exact HB.out | apply below_alloc | apply pw_below_drewN | apply below_drew1) | exact HB.out)⟩⟩
                      case rest =>
                        as_aux_lemma =>
                          clear HC26
                          try clear c1
                          try clear c2
                          try clear p2
                          try clear c3
                          try clear c6
                          try clear c7
                          try clear c7b0
                          try clear c7b1
                          try clear c8
                          try clear c10
                          try clear c13
                          try clear c13b0
                          try clear c13b1
                          try clear c15
                          try clear c23
                          try clear c25
                          try clear c28
                          try clear p2
                          obtain ⟨kq, x69_25, rfl, HA, HJ25, HB⟩ := hcut
                          cases kq with
                          | zero => exact absurd HA.out (by simp [laws_FnTriesSay.j2])
                          | succ kj25 =>
                            have H := HA.out
                            clear HA
                            simp only [laws_FnTriesSay.j2] at H
                            have HC31 := Aside0.mk H
                            clear H
                            go_upto_if 69 with (fail)
                            repeat (go_quiet (fail); go_upto_if 69 with (fail))
                            go_cut [] (fun wc => ∃ (kq : Nat), Aside0 (laws_FnTriesSay.j4 kq l0 a2 = some r) ∧ Aside0 (kq ≤ kj25) ∧ Aside0 (Below w.heap.size w wc))
                            case first =>
                              as_aux_lemma =>
                                have H := HC31.out
                                clear HC31
                                by_cases c32 : x69_25 = true
                                · subst c32
                                  have H1 : ((impl_TrieFind.f l0 l1 a2).bind fun bt337 => ((spec_TrieFind.f kj25 l0 l1 a2).bind fun bt340 => ((impl_TriePrefixes.f l0 l1 a2).bind fun bt342 => ((spec_TriePrefixes.f kj25 l0 l1 a2).bind fun bt349 => (if bt337.2.2 = true then (if bt342.2.2 = true then (if (bt337.2.1 != bt340.2) = true then (laws_FnTriesSay.j3 kj25 l0 l1 a2 true) else (if bt337.2.1 = true then (if bt337.1 = bt340.1 then ((laws_sameInts.f kj25 bt342.1 bt349.1).bind fun t355 => (if t355 = true then ((laws_sameInts.f kj25 bt342.2.1 bt349.2).bind fun t356 => (laws_FnTriesSay.j3 kj25 l0 l1 a2 (!t356))) else (laws_FnTriesSay.j3 kj25 l0 l1 a2 true))) else (laws_FnTriesSay.j3 kj25 l0 l1 a2 true)) else ((laws_sameInts.f kj25 bt342.1 bt349.1).bind fun t357 => (if t357 = true then ((laws_sameInts.f kj25 bt342.2.1 bt349.2).bind fun t358 => (laws_FnTriesSay.j3 kj25 l0 l1 a2 (!t358))) else (laws_FnTriesSay.j3 kj25 l0 l1 a2 true))))) else (laws_FnTriesSay.j3 kj25 l0 l1 a2 true)) else (laws_FnTriesSay.j3 kj25 l0 l1 a2 true)))))) = some r := by rw [if_pos rfl] at H; exact H
                                  clear H
                                  have H := H1
                                  clear H1
                                  replace H := Option.bind_eq_some_iff.mp H
                                  obtain ⟨⟨t337, t338, t339⟩, A330, H⟩ := H
                                  replace H : ((spec_TrieFind.f kj25 l0 l1 a2).bind fun bt340 => ((impl_TriePrefixes.f l0 l1 a2).bind fun bt342 => ((spec_TriePrefixes.f kj25 l0 l1 a2).bind fun bt349 => (if t339 = true then (if bt342.2.2 = true then (if (t338 != bt340.2) = true then (laws_FnTriesSay.j3 kj25 l0 l1 a2 true) else (if t338 = true then (if t337 = bt340.1 then ((laws_sameInts.f kj25 bt342.1 bt349.1).bind fun t355 => (if t355 = true then ((laws_sameInts.f kj25 bt342.2.1 bt349.2).bind fun t356 => (laws_FnTriesSay.j3 kj25 l0 l1 a2 (!t356))) else (laws_FnTriesSay.j3 kj25 l0 l1 a2 true))) else (laws_FnTriesSay.j3 kj25 l0 l1 a2 true)) else ((laws_sameInts.f kj25 bt342.1 bt349.1).bind fun t357 => (if t357 = true then ((laws_sameInts.f kj25 bt342.2.1 bt349.2).bind fun t358 => (laws_FnTriesSay.j3 kj25 l0 l1 a2 (!t358))) else (laws_FnTriesSay.j3 kj25 l0 l1 a2 true))))) else (laws_FnTriesSay.j3 kj25 l0 l1 a2 true)) else (laws_FnTriesSay.j3 kj25 l0 l1 a2 true))))) = some r := H
                                  have A33 := Aside0.mk A330
                                  clear A330
                                  replace H := Option.bind_eq_some_iff.mp H
                                  obtain ⟨⟨t340, t341⟩, A340, H⟩ := H
                                  replace H : ((impl_TriePrefixes.f l0 l1 a2).bind fun bt342 => ((spec_TriePrefixes.f kj25 l0 l1 a2).bind fun bt349 => (if t339 = true then (if bt342.2.2 = true then (if (t338 != t341) = true then (laws_FnTriesSay.j3 kj25 l0 l1 a2 true) else (if t338 = true then (if t337 = t340 then ((laws_sameInts.f kj25 bt342.1 bt349.1).bind fun t355 => (if t355 = true then ((laws_sameInts.f kj25 bt342.2.1 bt349.2).bind fun t356 => (laws_FnTriesSay.j3 kj25 l0 l1 a2 (!t356))) else (laws_FnTriesSay.j3 kj25 l0 l1 a2 true))) else (laws_FnTriesSay.j3 kj25 l0 l1 a2 true)) else ((laws_sameInts.f kj25 bt342.1 bt349.1).bind fun t357 => (if t357 = true then ((laws_sameInts.f kj25 bt342.2.1 bt349.2).bind fun t358 => (laws_FnTriesSay.j3 kj25 l0 l1 a2 (!t358))) else (laws_FnTriesSay.j3 kj25 l0 l1 a2 true))))) else (laws_FnTriesSay.j3 kj25 l0 l1 a2 true)) else (laws_FnTriesSay.j3 kj25 l0 l1 a2 true)))) = some r := H
                                  have A34 := Aside0.mk A340
                                  clear A340
                                  replace H := Option.bind_eq_some_iff.mp H
                                  obtain ⟨⟨t342, t343, t344⟩, A350, H⟩ := H
                                  replace H : ((spec_TriePrefixes.f kj25 l0 l1 a2).bind fun bt349 => (if t339 = true then (if t344 = true then (if (t338 != t341) = true then (laws_FnTriesSay.j3 kj25 l0 l1 a2 true) else (if t338 = true then (if t337 = t340 then ((laws_sameInts.f kj25 t342 bt349.1).bind fun t355 => (if t355 = true then ((laws_sameInts.f kj25 t343 bt349.2).bind fun t356 => (laws_FnTriesSay.j3 kj25 l0 l1 a2 (!t356))) else (laws_FnTriesSay.j3 kj25 l0 l1 a2 true))) else (laws_FnTriesSay.j3 kj25 l0 l1 a2 true)) else ((laws_sameInts.f kj25 t342 bt349.1).bind fun t357 => (if t357 = true then ((laws_sameInts.f kj25 t343 bt349.2).bind fun t358 => (laws_FnTriesSay.j3 kj25 l0 l1 a2 (!t358))) else (laws_FnTriesSay.j3 kj25 l0 l1 a2 true))))) else (laws_FnTriesSay.j3 kj25 l0 l1 a2 true)) else (laws_FnTriesSay.j3 kj25 l0 l1 a2 true))) = some r := H
                                  have A35 := Aside0.mk A350
                                  clear A350
                                  replace H := Option.bind_eq_some_iff.mp H
                                  obtain ⟨⟨t349, t350⟩, A360, H⟩ := H
                                  replace H : (if t339 = true then (if t344 = true then (if (t338 != t341) = true then (laws_FnTriesSay.j3 kj25 l0 l1 a2 true) else (if t338 = true then (if t337 = t340 then ((laws_sameInts.f kj25 t342 t349).bind fun t355 => (if t355 = true then ((laws_sameInts.f kj25 t343 t350).bind fun t356 => (laws_FnTriesSay.j3 kj25 l0 l1 a2 (!t356))) else (laws_FnTriesSay.j3 kj25 l0 l1 a2 true))) else (laws_FnTriesSay.j3 kj25 l0 l1 a2 true)) else ((laws_sameInts.f kj25 t342 t349).bind fun t357 => (if t357 = true then ((laws_sameInts.f kj25 t343 t350).bind fun t358 => (laws_FnTriesSay.j3 kj25 l0 l1 a2 (!t358))) else (laws_FnTriesSay.j3 kj25 l0 l1 a2 true))))) else (laws_FnTriesSay.j3 kj25 l0 l1 a2 true)) else (laws_FnTriesSay.j3 kj25 l0 l1 a2 true)) = some r := H
                                  have A36 := Aside0.mk A360
                                  clear A360
                                  have HC37 := Aside0.mk H
                                  clear H
                                  go_upto_region 14 with (first | (go_at_call 10; (with_reducible refine (impl_TrieFind.calls _ _ l0 _ _ l1 a2 t337 t338 t339 _ ?side1 ?side2 ?side3 ?side4 A33.out).mono ?_); (case side1 => repeat (first | exact (Kd.C_below HR0.out HB.out) | (with_reducible refine Kd.C_alloc ?_ _) | (with_reducible refine Kd.C_drewN ?_ _) | (with_reducible refine Kd.C_drew ?_))); (case side2 => exact HC0.out); (case side3 => repeat (first | exact (Kd.C_below HR1.out HB.out) | (with_reducible refine Kd.C_alloc ?_ _) | (with_reducible refine Kd.C_drewN ?_ _) | (with_reducible refine Kd.C_drew ?_))); (case side4 => exact HC1.out); rintro e w38 ⟨rfl, hb⟩; have n0_ := Aside0.mk (below_step (by repeat (first | (with_reducible first | exact HB.out | apply below_alloc | apply pw_below_drewN | apply below_drew1) | exact HB.out)) hb); clear HB; have HB := n0_; clear n0_; (try clear hb); (try clear hb2); (try clear hk); (try clear hi)) | (go_at_call 11; (with_reducible refine (spec_TrieFind.calls kj25 _ _ l0 _ _ l1 a2 t340 t341 _ ?side1 ?side2 ?side3 ?side4 A34.out).mono ?_); (case side1 => repeat (first | exact (Kd.C_below HR0.out HB.out) | (with_reducible refine Kd.C_alloc ?_ _) | (with_reducible refine Kd.C_drewN ?_ _) | (with_reducible refine Kd.C_drew ?_))); (case side2 => exact HC0.out); (case side3 => repeat (first | exact (Kd.C_below HR1.out HB.out) | (with_reducible refine Kd.C_alloc ?_ _) | (with_reducible refine Kd.C_drewN ?_ _) | (with_reducible refine Kd.C_drew ?_))); (case side4 => exact HC1.out); rintro e w' ⟨rfl, ⟨nd, rfl⟩⟩; (try first | exact ⟨rfl, _, World.drewN_drewN _ _ _⟩ | exact ⟨rfl, _, Eq.trans (World.drewN_drewN _ _ _) (congrArg (World.drewN _) (Nat.add_assoc _ _ _))⟩)) | (go_at_call 12; (with_reducible refine (impl_TriePrefixes.calls _ _ l0 _ _ l1 a2 t342 t343 t344 _ ?side1 ?side2 ?side3 ?side4 A35.out).mono ?_); (case side1 => repeat (first | exact (Kd.C_below HR0.out (by repeat (first | (with_reducible first | exact HB.out | apply below_alloc | apply pw_below_drewN | apply below_drew1) | exact HB.out))) | (with_reducible refine Kd.C_alloc ?_ _) | (with_reducible refine Kd.C_drewN ?_ _) | (with_reducible refine Kd.C_drew ?_))); (case side2 => exact HC0.out); (case side3 => repeat (first | exact (Kd.C_below HR1.out (by repeat (first | (with_reducible first | exact HB.out | apply below_alloc | apply pw_below_drewN | apply below_drew1) | exact HB.out))) | (with_reducible refine Kd.C_alloc ?_ _) | (with_reducible refine Kd.C_drewN ?_ _) | (with_reducible refine Kd.C_drew ?_))); (case side4 => exact HC1.out); rintro e w39 ⟨v345, v347, rfl, ho0, ho1, hb⟩; have n0_ := Aside0.mk (Kd.R_lower ho0 (below_size (by repeat (first | (with_reducible first | exact HB.out | apply below_alloc | apply pw_below_drewN | apply below_drew1) | exact HB.out)))); have n1_ := Aside0.mk (Kd.R_lower ho1 (below_size (by repeat (first | (with_reducible first | exact HB.out | apply below_alloc | apply pw_below_drewN | apply below_drew1) | exact HB.out)))); have n2_ := Aside0.mk (below_step (by repeat (first | (with_reducible first | exact HB.out | apply below_alloc | apply pw_below_drewN | apply below_drew1) | exact HB.out)) hb); clear HB; have HO346 := n0_; have HO348 := n1_; have HB := n2_; clear n0_ n1_ n2_; (try clear hb); (try clear hb2); (try clear hk); (try clear hi); (try clear ho0); (try clear ho1)) | (go_at_call 13; (with_reducible refine (spec_TriePrefixes.calls kj25 _ _ l0 _ _ l1 a2 t349 t350 _ ?side1 ?side2 ?side3 ?side4 A36.out).mono ?_); (case side1 => repeat (first | exact (Kd.C_below HR0.out HB.out) | (with_reducible refine Kd.C_alloc ?_ _) | (with_reducible refine Kd.C_drewN ?_ _) | (with_reducible refine Kd.C_drew ?_))); (case side2 => exact HC0.out); (case side3 => repeat (first | exact (Kd.C_below HR1.out HB.out) | (with_reducible refine Kd.C_alloc ?_ _) | (with_reducible refine Kd.C_drewN ?_ _) | (with_reducible refine Kd.C_drew ?_))); (case side4 => exact HC1.out); rintro e w40 ⟨v351, v353, rfl, ho0, ho1, hb⟩; have n0_ := Aside0.mk (Kd.R_mono (Kd.R_told (Kd.R_told (Kd.R_old (by (with_reducible repeat (first | apply Kd.R_alloc | apply Kd.R_drewN | apply Kd.R_drew)); exact HO346.out) hb) (by first | exact Kd.N_base ho0 | exact Kd.S_base ho0 | exact Kd.R_base ho0)) (by first | exact Kd.N_base ho1 | exact Kd.S_base ho1 | exact Kd.R_base ho1)) (fun _ h_ => h_.1)); have n1_ := Aside0.mk (Kd.R_mono (Kd.R_told (Kd.R_told (Kd.R_old (by (with_reducible repeat (first | apply Kd.R_alloc | apply Kd.R_drewN | apply Kd.R_drew)); exact HO348.out) hb) (by first | exact Kd.N_base ho0 | exact Kd.S_base ho0 | exact Kd.R_base ho0)) (by first | exact Kd.N_base ho1 | exact Kd.S_base ho1 | exact Kd.R_base ho1)) (fun _ h_ => h_.1)); have n2_ := Aside0.mk (Kd.R_lower (Kd.R_new' (Kd.R_new' ho0 (Kd.R_lt (by (with_reducible repeat (first | apply Kd.R_alloc | apply Kd.R_drewN | apply Kd.R_drew)); exact HO346.out))) (Kd.R_lt (by (with_reducible repeat (first | apply Kd.R_alloc | apply Kd.R_drewN | apply Kd.R_drew)); exact HO348.out))) (below_size (by repeat (first | (with_reducible first | exact HB.out | apply below_alloc | apply pw_below_drewN | apply below_drew1) | exact HB.out)))); have n3_ := Aside0.mk (Kd.R_lower (Kd.R_new' (Kd.R_new' ho1 (Kd.R_lt (by (with_reducible repeat (first | apply Kd.R_alloc | apply Kd.R_drewN | apply Kd.R_drew)); exact HO346.out))) (Kd.R_lt (by (with_reducible repeat (first | apply Kd.R_alloc | apply Kd.R_drewN | apply Kd.R_drew)); exact HO348.out))) (below_size (by repeat (first | (with_reducible first | exact HB.out | apply below_alloc | apply pw_below_drewN | apply below_drew1) | exact HB.out)))); have n4_ := Aside0.mk (below_step (by repeat (first | (with_reducible first | exact HB.out | apply below_alloc | apply pw_below_drewN | apply below_drew1) | exact HB.out)) hb); clear HO346; clear HO348; clear HB; have HO346 := n0_; have HO348 := n1_; have HO352 := n2_; have HO354 := n3_; have HB := n4_; clear n0_ n1_ n2_ n3_ n4_; (try clear hb); (try clear hb2); (try clear hk); (try clear hi); (try clear ho0); (try clear ho1)))
                                  repeat (go_quiet (first | (go_at_call 10; (with_reducible refine (impl_TrieFind.calls _ _ l0 _ _ l1 a2 t337 t338 t339 _ ?side1 ?side2 ?side3 ?side4 A33.out).mono ?_); (case side1 => repeat (first | exact (Kd.C_below HR0.out HB.out) | (with_reducible refine Kd.C_alloc ?_ _) | (with_reducible refine Kd.C_drewN ?_ _) | (with_reducible refine Kd.C_drew ?_))); (case side2 => exact HC0.out); (case side3 => repeat (first | exact (Kd.C_below HR1.out HB.out) | (with_reducible refine Kd.C_alloc ?_ _) | (with_reducible refine Kd.C_drewN ?_ _) | (with_reducible refine Kd.C_drew ?_))); (case side4 => exact HC1.out); rintro e w38 ⟨rfl, hb⟩; have n0_ := Aside0.mk (below_step (by repeat (first | (with_reducible first | exact HB.out | apply below_alloc | apply pw_below_drewN | apply below_drew1) | exact HB.out)) hb); clear HB; have HB := n0_; clear n0_; (try clear hb); (try clear hb2); (try clear hk); (try clear hi)) | (go_at_call 11; (with_reducible refine (spec_TrieFind.calls kj25 _ _ l0 _ _ l1 a2 t340 t341 _ ?side1 ?side2 ?side3 ?side4 A34.out).mono ?_); (case side1 => repeat (first | exact (Kd.C_below HR0.out HB.out) | (with_reducible refine Kd.C_alloc ?_ _) | (with_reducible refine Kd.C_drewN ?_ _) | (with_reducible refine Kd.C_drew ?_))); (case side2 => exact HC0.out); (case side3 => repeat (first | exact (Kd.C_below HR1.out HB.out) | (with_reducible refine Kd.C_alloc ?_ _) | (with_reducible refine Kd.C_drewN ?_ _) | (with_reducible refine Kd.C_drew ?_))); (case side4 => exact HC1.out); rintro e w' ⟨rfl, ⟨nd, rfl⟩⟩; (try first | exact ⟨rfl, _, World.drewN_drewN _ _ _⟩ | exact ⟨rfl, _, Eq.trans (World.drewN_drewN _ _ _) (congrArg (World.drewN _) (Nat.add_assoc _ _ _))⟩)) | (go_at_call 12; (with_reducible refine (impl_TriePrefixes.calls _ _ l0 _ _ l1 a2 t342 t343 t344 _ ?side1 ?side2 ?side3 ?side4 A35.out).mono ?_); (case side1 => repeat (first | exact (Kd.C_below HR0.out (by repeat (first | (with_reducible first | exact HB.out | apply below_alloc | apply pw_below_drewN | apply below_drew1) | exact HB.out))) | (with_reducible refine Kd.C_alloc ?_ _) | (with_reducible refine Kd.C_drewN ?_ _) | (with_reducible refine Kd.C_drew ?_))); (case side2 => exact HC0.out); (case side3 => repeat (first | exact (Kd.C_below HR1.out (by repeat (first | (with_reducible first | exact HB.out | apply below_alloc | apply pw_below_drewN | apply below_drew1) | exact HB.out))) | (with_reducible refine Kd.C_alloc ?_ _) | (with_reducible refine Kd.C_drewN ?_ _) | (with_reducible refine Kd.C_drew ?_))); (case side4 => exact HC1.out); rintro e w39 ⟨v345, v347, rfl, ho0, ho1, hb⟩; have n0_ := Aside0.mk (Kd.R_lower ho0 (below_size (by repeat (first | (with_reducible first | exact HB.out | apply below_alloc | apply pw_below_drewN | apply below_drew1) | exact HB.out)))); have n1_ := Aside0.mk (Kd.R_lower ho1 (below_size (by repeat (first | (with_reducible first | exact HB.out | apply below_alloc | apply pw_below_drewN | apply below_drew1) | exact HB.out)))); have n2_ := Aside0.mk (below_step (by repeat (first | (with_reducible first | exact HB.out | apply below_alloc | apply pw_below_drewN | apply below_drew1) | exact HB.out)) hb); clear HB; have HO346 := n0_; have HO348 := n1_; have HB := n2_; clear n0_ n1_ n2_; (try clear hb); (try clear hb2); (try clear hk); (try clear hi); (try clear ho0); (try clear ho1)) | (go_at_call 13; (with_reducible refine (spec_TriePrefixes.calls kj25 _ _ l0 _ _ l1 a2 t349 t350 _ ?side1 ?side2 ?side3 ?side4 A36.out).mono ?_); (case side1 => repeat (first | exact (Kd.C_below HR0.out HB.out) | (with_reducible refine Kd.C_alloc ?_ _) | (with_reducible refine Kd.C_drewN ?_ _) | (with_reducible refine Kd.C_drew ?_))); (case side2 => exact HC0.out); (case side3 => repeat (first | exact (Kd.C_below HR1.out HB.out) | (with_reducible refine Kd.C_alloc ?_ _) | (with_reducible refine Kd.C_drewN ?_ _) | (with_reducible refine Kd.C_drew ?_))); (case side4 => exact HC1.out); rintro e w40 ⟨v351, v353, rfl, ho0, ho1, hb⟩; have n0_ := Aside0.mk (Kd.R_mono (Kd.R_told (Kd.R_told (Kd.R_old (by (with_reducible repeat (first | apply Kd.R_alloc | apply Kd.R_drewN | apply Kd.R_drew)); exact HO346.out) hb) (by first | exact Kd.N_base ho0 | exact Kd.S_base ho0 | exact Kd.R_base ho0)) (by first | exact Kd.N_base ho1 | exact Kd.S_base ho1 | exact Kd.R_base ho1)) (fun _ h_ => h_.1)); have n1_ := Aside0.mk (Kd.R_mono (Kd.R_told (Kd.R_told (Kd.R_old (by (with_reducible repeat (first | apply Kd.R_alloc | apply Kd.R_drewN | apply Kd.R_drew)); exact HO348.out) hb) (by first | exact Kd.N_base ho0 | exact Kd.S_base ho0 | exact Kd.R_base ho0)) (by first | exact Kd.N_base ho1 | exact Kd.S_base ho1 | exact Kd.R_base ho1)) (fun _ h_ => h_.1)); have n2_ := Aside0.mk (Kd.R_lower (Kd.R_new' (Kd.R_new' ho0 (Kd.R_lt (by (with_reducible repeat (first | apply Kd.R_alloc | apply Kd.R_drewN | apply Kd.R_drew)); exact HO346.out))) (Kd.R_lt (by (with_reducible repeat (first | apply Kd.R_alloc | apply Kd.R_drewN | apply Kd.R_drew)); exact HO348.out))) (below_size (by repeat (first | (with_reducible first | exact HB.out | apply below_alloc | apply pw_below_drewN | apply below_drew1) | exact HB.out)))); have n3_ := Aside0.mk (Kd.R_lower (Kd.R_new' (Kd.R_new' ho1 (Kd.R_lt (by (with_reducible repeat (first | apply Kd.R_alloc | apply Kd.R_drewN | apply Kd.R_drew)); exact HO346.out))) (Kd.R_lt (by (with_reducible repeat (first | apply Kd.R_alloc | apply Kd.R_drewN | apply Kd.R_drew)); exact HO348.out))) (below_size (by repeat (first | (with_reducible first | exact HB.out | apply below_alloc | apply pw_below_drewN | apply below_drew1) | exact HB.out)))); have n4_ := Aside0.mk (below_step (by repeat (first | (with_reducible first | exact HB.out | apply below_alloc | apply pw_below_drewN | apply below_drew1) | exact HB.out)) hb); clear HO346; clear HO348; clear HB; have HO346 := n0_; have HO348 := n1_; have HO352 := n2_; have HO354 := n3_; have HB := n4_; clear n0_ n1_ n2_ n3_ n4_; (try clear hb); (try clear hb2); (try clear hk); (try clear hi); (try clear ho0); (try clear ho1))); go_upto_region 14 with (first | (go_at_call 10; (with_reducible refine (impl_TrieFind.calls _ _ l0 _ _ l1 a2 t337 t338 t339 _ ?side1 ?side2 ?side3 ?side4 A33.out).mono ?_); (case side1 => repeat (first | exact (Kd.C_below HR0.out HB.out) | (with_reducible refine Kd.C_alloc ?_ _) | (with_reducible refine Kd.C_drewN ?_ _) | (with_reducible refine Kd.C_drew ?_))); (case side2 => exact HC0.out); (case side3 => repeat (first | exact (Kd.C_below HR1.out HB.out) | (with_reducible refine Kd.C_alloc ?_ _) | (with_reducible refine Kd.C_drewN ?_ _) | (with_reducible refine Kd.C_drew ?_))); (case side4 => exact HC1.out); rintro e w38 ⟨rfl, hb⟩; have n0_ := Aside0.mk (below_step (by repeat (first | (with_reducible first | exact HB.out | apply below_alloc | apply pw_below_drewN | apply below_drew1) | exact HB.out)) hb); clear HB; have HB := n0_; clear n0_; (try clear hb); (try clear hb2); (try clear hk); (try clear hi)) | (go_at_call 11; (with_reducible refine (spec_TrieFind.calls kj25 _ _ l0 _ _ l1 a2 t340 t341 _ ?side1 ?side2 ?side3 ?side4 A34.out).mono ?_); (case side1 => repeat (first | exact (Kd.C_below HR0.out HB.out) | (with_reducible refine Kd.C_alloc ?_ _) | (with_reducible refine Kd.C_drewN ?_ _) | (with_reducible refine Kd.C_drew ?_))); (case side2 => exact HC0.out); (case side3 => repeat (first | exact (Kd.C_below HR1.out HB.out) | (with_reducible refine Kd.C_alloc ?_ _) | (with_reducible refine Kd.C_drewN ?_ _) | (with_reducible refine Kd.C_drew ?_))); (case side4 => exact HC1.out); rintro e w' ⟨rfl, ⟨nd, rfl⟩⟩; (try first | exact ⟨rfl, _, World.drewN_drewN _ _ _⟩ | exact ⟨rfl, _, Eq.trans (World.drewN_drewN _ _ _) (congrArg (World.drewN _) (Nat.add_assoc _ _ _))⟩)) | (go_at_call 12; (with_reducible refine (impl_TriePrefixes.calls _ _ l0 _ _ l1 a2 t342 t343 t344 _ ?side1 ?side2 ?side3 ?side4 A35.out).mono ?_); (case side1 => repeat (first | exact (Kd.C_below HR0.out (by repeat (first | (with_reducible first | exact HB.out | apply below_alloc | apply pw_below_drewN | apply below_drew1) | exact HB.out))) | (with_reducible refine Kd.C_alloc ?_ _) | (with_reducible refine Kd.C_drewN ?_ _) | (with_reducible refine Kd.C_drew ?_))); (case side2 => exact HC0.out); (case side3 => repeat (first | exact (Kd.C_below HR1.out (by repeat (first | (with_reducible first | exact HB.out | apply below_alloc | apply pw_below_drewN | apply below_drew1) | exact HB.out))) | (with_reducible refine Kd.C_alloc ?_ _) | (with_reducible refine Kd.C_drewN ?_ _) | (with_reducible refine Kd.C_drew ?_))); (case side4 => exact HC1.out); rintro e w39 ⟨v345, v347, rfl, ho0, ho1, hb⟩; have n0_ := Aside0.mk (Kd.R_lower ho0 (below_size (by repeat (first | (with_reducible first | exact HB.out | apply below_alloc | apply pw_below_drewN | apply below_drew1) | exact HB.out)))); have n1_ := Aside0.mk (Kd.R_lower ho1 (below_size (by repeat (first | (with_reducible first | exact HB.out | apply below_alloc | apply pw_below_drewN | apply below_drew1) | exact HB.out)))); have n2_ := Aside0.mk (below_step (by repeat (first | (with_reducible first | exact HB.out | apply below_alloc | apply pw_below_drewN | apply below_drew1) | exact HB.out)) hb); clear HB; have HO346 := n0_; have HO348 := n1_; have HB := n2_; clear n0_ n1_ n2_; (try clear hb); (try clear hb2); (try clear hk); (try clear hi); (try clear ho0); (try clear ho1)) | (go_at_call 13; (with_reducible refine (spec_TriePrefixes.calls kj25 _ _ l0 _ _ l1 a2 t349 t350 _ ?side1 ?side2 ?side3 ?side4 A36.out).mono ?_); (case side1 => repeat (first | exact (Kd.C_below HR0.out HB.out) | (with_reducible refine Kd.C_alloc ?_ _) | (with_reducible refine Kd.C_drewN ?_ _) | (with_reducible refine Kd.C_drew ?_))); (case side2 => exact HC0.out); (case side3 => repeat (first | exact (Kd.C_below HR1.out HB.out) | (with_reducible refine Kd.C_alloc ?_ _) | (with_reducible refine Kd.C_drewN ?_ _) | (with_reducible refine Kd.C_drew ?_))); (case side4 => exact HC1.out); rintro e w40 ⟨v351, v353, rfl, ho0, ho1, hb⟩; have n0_ := Aside0.mk (Kd.R_mono (Kd.R_told (Kd.R_told (Kd.R_old (by (with_reducible repeat (first | apply Kd.R_alloc | apply Kd.R_drewN | apply Kd.R_drew)); exact HO346.out) hb) (by first | exact Kd.N_base ho0 | exact Kd.S_base ho0 | exact Kd.R_base ho0)) (by first | exact Kd.N_base ho1 | exact Kd.S_base ho1 | exact Kd.R_base ho1)) (fun _ h_ => h_.1)); have n1_ := Aside0.mk (Kd.R_mono (Kd.R_told (Kd.R_told (Kd.R_old (by (with_reducible repeat (first | apply Kd.R_alloc | apply Kd.R_drewN | apply Kd.R_drew)); exact HO348.out) hb) (by first | exact Kd.N_base ho0 | exact Kd.S_base ho0 | exact Kd.R_base ho0)) (by first | exact Kd.N_base ho1 | exact Kd.S_base ho1 | exact Kd.R_base ho1)) (fun _ h_ => h_.1)); have n2_ := Aside0.mk (Kd.R_lower (Kd.R_new' (Kd.R_new' ho0 (Kd.R_lt (by (with_reducible repeat (first | apply Kd.R_alloc | apply Kd.R_drewN | apply Kd.R_drew)); exact HO346.out))) (Kd.R_lt (by (with_reducible repeat (first | apply Kd.R_alloc | apply Kd.R_drewN | apply Kd.R_drew)); exact HO348.out))) (below_size (by repeat (first | (with_reducible first | exact HB.out | apply below_alloc | apply pw_below_drewN | apply below_drew1) | exact HB.out)))); have n3_ := Aside0.mk (Kd.R_lower (Kd.R_new' (Kd.R_new' ho1 (Kd.R_lt (by (with_reducible repeat (first | apply Kd.R_alloc | apply Kd.R_drewN | apply Kd.R_drew)); exact HO346.out))) (Kd.R_lt (by (with_reducible repeat (first | apply Kd.R_alloc | apply Kd.R_drewN | apply Kd.R_drew)); exact HO348.out))) (below_size (by repeat (first | (with_reducible first | exact HB.out | apply below_alloc | apply pw_below_drewN | apply below_drew1) | exact HB.out)))); have n4_ := Aside0.mk (below_step (by repeat (first | (with_reducible first | exact HB.out | apply below_alloc | apply pw_below_drewN | apply below_drew1) | exact HB.out)) hb); clear HO346; clear HO348; clear HB; have HO346 := n0_; have HO348 := n1_; have HO352 := n2_; have HO354 := n3_; have HB := n4_; clear n0_ n1_ n2_ n3_ n4_; (try clear hb); (try clear hb2); (try clear hk); (try clear hi); (try clear ho0); (try clear ho1))))
                                  (try simp only [Act.put, List.setIfInBounds_toArray, List.set_cons_zero, List.set_cons_succ])
                                  go_cut [130] (fun v130 wc => ∃ (kq : Nat) (x130_36 : Bool), v130 = .bool x130_36 ∧ Aside0 (laws_FnTriesSay.j3 kq l0 l1 a2 x130_36 = some r) ∧ Aside0 (kq ≤ kj25) ∧ Aside0 (Below w.heap.size w wc))
                                  case first =>
                                    as_aux_lemma =>
                                      have H := HC37.out
                                      clear HC37
                                      by_cases c41 : t339 = true
                                      · subst c41
                                        have H1 : (if t344 = true then (if (t338 != t341) = true then (laws_FnTriesSay.j3 kj25 l0 l1 a2 true) else (if t338 = true then (if t337 = t340 then ((laws_sameInts.f kj25 t342 t349).bind fun t355 => (if t355 = true then ((laws_sameInts.f kj25 t343 t350).bind fun t356 => (laws_FnTriesSay.j3 kj25 l0 l1 a2 (!t356))) else (laws_FnTriesSay.j3 kj25 l0 l1 a2 true))) else (laws_FnTriesSay.j3 kj25 l0 l1 a2 true)) else ((laws_sameInts.f kj25 t342 t349).bind fun t357 => (if t357 = true then ((laws_sameInts.f kj25 t343 t350).bind fun t358 => (laws_FnTriesSay.j3 kj25 l0 l1 a2 (!t358))) else (laws_FnTriesSay.j3 kj25 l0 l1 a2 true))))) else (laws_FnTriesSay.j3 kj25 l0 l1 a2 true)) = some r := by rw [if_pos rfl] at H; exact H
                                        clear H
                                        have H := H1
                                        clear H1
                                        by_cases c42 : t344 = true
                                        · subst c42
                                          have H1 : (if (t338 != t341) = true then (laws_FnTriesSay.j3 kj25 l0 l1 a2 true) else (if t338 = true then (if t337 = t340 then ((laws_sameInts.f kj25 t342 t349).bind fun t355 => (if t355 = true then ((laws_sameInts.f kj25 t343 t350).bind fun t356 => (laws_FnTriesSay.j3 kj25 l0 l1 a2 (!t356))) else (laws_FnTriesSay.j3 kj25 l0 l1 a2 true))) else (laws_FnTriesSay.j3 kj25 l0 l1 a2 true)) else ((laws_sameInts.f kj25 t342 t349).bind fun t357 => (if t357 = true then ((laws_sameInts.f kj25 t343 t350).bind fun t358 => (laws_FnTriesSay.j3 kj25 l0 l1 a2 (!t358))) else (laws_FnTriesSay.j3 kj25 l0 l1 a2 true))))) = some r := by rw [if_pos rfl] at H; exact H
                                          clear H
                                          have H := H1
                                          clear H1
                                          by_cases c43 : (t338 != t341) = true
                                          · rw [if_pos c43] at H
                                            have c43b0 : (t338 != t341) = true := c43
                                            (try (have c43b1 : decide (t338 = t341) = false := by simpa using c43))
                                            (try (have c43b2 : (t338 == t341) = false := by simpa using c43))
                                            (try (have c43b3 : ¬ (t338 = t341) := by simpa using c43))
                                            clear c43
                                            (first | rw [c43b0] | (simp only [i64_w, i32_w]; rw [c43b0]) | skip)
                                            have H' := Aside0.mk H
                                            clear H
                                            go_wp2
                                            repeat (go_quiet (fail); try go_wp2)
                                            go_meet
                                            case rel => exact ⟨_, (true), (by first | rfl | (simp; done) | (simp [*]; done)), H', ⟨by have := HJ3.out; have := HJ10.out; have := HJ25.out; first | omega | exact Nat.le_refl _⟩, ⟨by repeat (first | (with_reducible first | exact HB.out | apply below_alloc | apply pw_below_drewN | apply below_drew1) | exact HB.out)⟩⟩
                                          · rw [if_neg c43] at H
                                            have c43b0 : (t338 != t341) = false := by simpa using c43
                                            (try (have c43b1 : decide (t338 = t341) = true := by simpa using c43))
                                            (try (have c43b2 : (t338 == t341) = true := by simpa using c43))
                                            clear c43
                                            (first | rw [c43b0] | (simp only [i64_w, i32_w]; rw [c43b0]) | skip)
                                            by_cases c44 : t338 = true
                                            · subst c44
                                              have H1 : (if t337 = t340 then ((laws_sameInts.f kj25 t342 t349).bind fun t355 => (if t355 = true then ((laws_sameInts.f kj25 t343 t350).bind fun t356 => (laws_FnTriesSay.j3 kj25 l0 l1 a2 (!t356))) else (laws_FnTriesSay.j3 kj25 l0 l1 a2 true))) else (laws_FnTriesSay.j3 kj25 l0 l1 a2 true)) = some r := by rw [if_pos rfl] at H; exact H
                                              clear H
                                              have H := H1
                                              clear H1
                                              by_cases c45 : t337 = t340
                                              · rw [if_pos c45] at H
                                                have c45b0 : (t337 == t340) = true := beq_iff_eq.mpr c45
                                                have c45b1 : (t337 != t340) = false := bne_eq_false_iff_eq.mpr c45
                                                clear c45
                                                replace H := Option.bind_eq_some_iff.mp H
                                                obtain ⟨t355, A460, H⟩ := H
                                                replace H : (if t355 = true then ((laws_sameInts.f kj25 t343 t350).bind fun t356 => (laws_FnTriesSay.j3 kj25 l0 l1 a2 (!t356))) else (laws_FnTriesSay.j3 kj25 l0 l1 a2 true)) = some r := H
                                                have A46 := Aside0.mk A460
                                                clear A460
                                                by_cases c47 : t355 = true
                                                · subst c47
                                                  have H1 : ((laws_sameInts.f kj25 t343 t350).bind fun t356 => (laws_FnTriesSay.j3 kj25 l0 l1 a2 (!t356))) = some r := by rw [if_pos rfl] at H; exact H
                                                  clear H
                                                  have H := H1
                                                  clear H1
                                                  replace H := Option.bind_eq_some_iff.mp H
                                                  obtain ⟨t356, A480, H⟩ := H
                                                  replace H : (laws_FnTriesSay.j3 kj25 l0 l1 a2 (!t356)) = some r := H
                                                  have A48 := Aside0.mk A480
                                                  clear A480
                                                  have H' := Aside0.mk H
                                                  clear H
                                                  obtain ⟨Ao49, co49, eo49⟩ := Kd.R_slice HO346.out
                                                  subst eo49
                                                  obtain ⟨Ao50, co50, eo50⟩ := Kd.R_slice HO352.out
                                                  subst eo50
                                                  go_wp2_with (first | (go_at_call 14; (with_reducible refine (laws_sameInts.calls kj25 _ _ t342 _ _ t349 true _ ?side1 ?side2 ?side3 ?side4 A46.out).mono ?_); (case side1 => repeat (first | exact (Kd.R_reads' HO346.out).2.2 | (with_reducible refine Kd.C_alloc ?_ _) | (with_reducible refine Kd.C_drewN ?_ _) | (with_reducible refine Kd.C_drew ?_))); (case side2 => exact (Kd.R_reads' HO346.out).2.1); (case side3 => repeat (first | exact (Kd.R_reads' HO352.out).2.2 | (with_reducible refine Kd.C_alloc ?_ _) | (with_reducible refine Kd.C_drewN ?_ _) | (with_reducible refine Kd.C_drew ?_))); (case side4 => exact (Kd.R_reads' HO352.out).2.1); rintro e w' ⟨rfl, ⟨nd, rfl⟩⟩; (try first | exact ⟨rfl, _, World.drewN_drewN _ _ _⟩ | exact ⟨rfl, _, Eq.trans (World.drewN_drewN _ _ _) (congrArg (World.drewN _) (Nat.add_assoc _ _ _))⟩); obtain ⟨Ao51, co51, eo51⟩ := Kd.R_slice HO348.out; subst eo51; obtain ⟨Ao52, co52, eo52⟩ := Kd.R_slice HO354.out; subst eo52) | (go_at_call 14; (with_reducible refine (laws_sameInts.calls kj25 _ _ t343 _ _ t350 t356 _ ?side1 ?side2 ?side3 ?side4 A48.out).mono ?_); (case side1 => repeat (first | exact (Kd.R_reads' HO348.out).2.2 | (with_reducible refine Kd.C_alloc ?_ _) | (with_reducible refine Kd.C_drewN ?_ _) | (with_reducible refine Kd.C_drew ?_))); (case side2 => exact (Kd.R_reads' HO348.out).2.1); (case side3 => repeat (first | exact (Kd.R_reads' HO354.out).2.2 | (with_reducible refine Kd.C_alloc ?_ _) | (with_reducible refine Kd.C_drewN ?_ _) | (with_reducible refine Kd.C_drew ?_))); (case side4 => exact (Kd.R_reads' HO354.out).2.1); rintro e w' ⟨rfl, ⟨nd, rfl⟩⟩; (try first | exact ⟨rfl, _, World.drewN_drewN _ _ _⟩ | exact ⟨rfl, _, Eq.trans (World.drewN_drewN _ _ _) (congrArg (World.drewN _) (Nat.add_assoc _ _ _))⟩)))
                                                  repeat (go_quiet (first | (go_at_call 14; (with_reducible refine (laws_sameInts.calls kj25 _ _ t342 _ _ t349 true _ ?side1 ?side2 ?side3 ?side4 A46.out).mono ?_); (case side1 => repeat (first | exact (Kd.R_reads' HO346.out).2.2 | (with_reducible refine Kd.C_alloc ?_ _) | (with_reducible refine Kd.C_drewN ?_ _) | (with_reducible refine Kd.C_drew ?_))); (case side2 => exact (Kd.R_reads' HO346.out).2.1); (case side3 => repeat (first | exact (Kd.R_reads' HO352.out).2.2 | (with_reducible refine Kd.C_alloc ?_ _) | (with_reducible refine Kd.C_drewN ?_ _) | (with_reducible refine Kd.C_drew ?_))); (case side4 => exact (Kd.R_reads' HO352.out).2.1); rintro e w' ⟨rfl, ⟨nd, rfl⟩⟩; (try first | exact ⟨rfl, _, World.drewN_drewN _ _ _⟩ | exact ⟨rfl, _, Eq.trans (World.drewN_drewN _ _ _) (congrArg (World.drewN _) (Nat.add_assoc _ _ _))⟩); obtain ⟨Ao51, co51, eo51⟩ := Kd.R_slice HO348.out; subst eo51; obtain ⟨Ao52, co52, eo52⟩ := Kd.R_slice HO354.out; subst eo52) | (go_at_call 14; (with_reducible refine (laws_sameInts.calls kj25 _ _ t343 _ _ t350 t356 _ ?side1 ?side2 ?side3 ?side4 A48.out).mono ?_); (case side1 => repeat (first | exact (Kd.R_reads' HO348.out).2.2 | (with_reducible refine Kd.C_alloc ?_ _) | (with_reducible refine Kd.C_drewN ?_ _) | (with_reducible refine Kd.C_drew ?_))); (case side2 => exact (Kd.R_reads' HO348.out).2.1); (case side3 => repeat (first | exact (Kd.R_reads' HO354.out).2.2 | (with_reducible refine Kd.C_alloc ?_ _) | (with_reducible refine Kd.C_drewN ?_ _) | (with_reducible refine Kd.C_drew ?_))); (case side4 => exact (Kd.R_reads' HO354.out).2.1); rintro e w' ⟨rfl, ⟨nd, rfl⟩⟩; (try first | exact ⟨rfl, _, World.drewN_drewN _ _ _⟩ | exact ⟨rfl, _, Eq.trans (World.drewN_drewN _ _ _) (congrArg (World.drewN _) (Nat.add_assoc _ _ _))⟩))); try go_wp2_with (first | (go_at_call 14; (with_reducible refine (laws_sameInts.calls kj25 _ _ t342 _ _ t349 true _ ?side1 ?side2 ?side3 ?side4 A46.out).mono ?_); (case side1 => repeat (first | exact (Kd.R_reads' HO346.out).2.2 | (with_reducible refine Kd.C_alloc ?_ _) | (with_reducible refine Kd.C_drewN ?_ _) | (with_reducible refine Kd.C_drew ?_))); (case side2 => exact (Kd.R_reads' HO346.out).2.1); (case side3 => repeat (first | exact (Kd.R_reads' HO352.out).2.2 | (with_reducible refine Kd.C_alloc ?_ _) | (with_reducible refine Kd.C_drewN ?_ _) | (with_reducible refine Kd.C_drew ?_))); (case side4 => exact (Kd.R_reads' HO352.out).2.1); rintro e w' ⟨rfl, ⟨nd, rfl⟩⟩; (try first | exact ⟨rfl, _, World.drewN_drewN _ _ _⟩ | exact ⟨rfl, _, Eq.trans (World.drewN_drewN _ _ _) (congrArg (World.drewN _) (Nat.add_assoc _ _ _))⟩); obtain ⟨Ao51, co51, eo51⟩ := Kd.R_slice HO348.out; subst eo51; obtain ⟨Ao52, co52, eo52⟩ := Kd.R_slice HO354.out; subst eo52) | (go_at_call 14; (with_reducible refine (laws_sameInts.calls kj25 _ _ t343 _ _ t350 t356 _ ?side1 ?side2 ?side3 ?side4 A48.out).mono ?_); (case side1 => repeat (first | exact (Kd.R_reads' HO348.out).2.2 | (with_reducible refine Kd.C_alloc ?_ _) | (with_reducible refine Kd.C_drewN ?_ _) | (with_reducible refine Kd.C_drew ?_))); (case side2 => exact (Kd.R_reads' HO348.out).2.1); (case side3 => repeat (first | exact (Kd.R_reads' HO354.out).2.2 | (with_reducible refine Kd.C_alloc ?_ _) | (with_reducible refine Kd.C_drewN ?_ _) | (with_reducible refine Kd.C_drew ?_))); (case side4 => exact (Kd.R_reads' HO354.out).2.1); rintro e w' ⟨rfl, ⟨nd, rfl⟩⟩; (try first | exact ⟨rfl, _, World.drewN_drewN _ _ _⟩ | exact ⟨rfl, _, Eq.trans (World.drewN_drewN _ _ _) (congrArg (World.drewN _) (Nat.add_assoc _ _ _))⟩))))
                                                  go_meet
                                                  case rel => exact ⟨_, (!t356), (by first | rfl | (simp; done) | (simp [*]; done)), H', ⟨by have := HJ3.out; have := HJ10.out; have := HJ25.out; first | omega | exact Nat.le_refl _⟩, ⟨by repeat (first | (with_reducible first | exact HB.out | apply below_alloc | apply pw_below_drewN | apply below_drew1) | exact HB.out)⟩⟩
                                                · replace c47 := Bool.eq_false_iff.mpr c47
                                                  subst c47
                                                  have H1 : (laws_FnTriesSay.j3 kj25 l0 l1 a2 true) = some r := by rw [if_neg (show ¬ (false = true) by decide)] at H; exact H
                                                  clear H
                                                  have H := H1
                                                  clear H1
                                                  have H' := Aside0.mk H
                                                  clear H
                                                  obtain ⟨Ao53, co53, eo53⟩ := Kd.R_slice HO346.out
                                                  subst eo53
                                                  obtain ⟨Ao54, co54, eo54⟩ := Kd.R_slice HO352.out
                                                  subst eo54
                                                  go_wp2_with (first | (go_at_call 14; (with_reducible refine (laws_sameInts.calls kj25 _ _ t342 _ _ t349 false _ ?side1 ?side2 ?side3 ?side4 A46.out).mono ?_); (case side1 => repeat (first | exact (Kd.R_reads' HO346.out).2.2 | (with_reducible refine Kd.C_alloc ?_ _) | (with_reducible refine Kd.C_drewN ?_ _) | (with_reducible refine Kd.C_drew ?_))); (case side2 => exact (Kd.R_reads' HO346.out).2.1); (case side3 => repeat (first | exact (Kd.R_reads' HO352.out).2.2 | (with_reducible refine Kd.C_alloc ?_ _) | (with_reducible refine Kd.C_drewN ?_ _) | (with_reducible refine Kd.C_drew ?_))); (case side4 => exact (Kd.R_reads' HO352.out).2.1); rintro e w' ⟨rfl, ⟨nd, rfl⟩⟩; (try first | exact ⟨rfl, _, World.drewN_drewN _ _ _⟩ | exact ⟨rfl, _, Eq.trans (World.drewN_drewN _ _ _) (congrArg (World.drewN _) (Nat.add_assoc _ _ _))⟩)))
                                                  repeat (go_quiet (first | (go_at_call 14; (with_reducible refine (laws_sameInts.calls kj25 _ _ t342 _ _ t349 false _ ?side1 ?side2 ?side3 ?side4 A46.out).mono ?_); (case side1 => repeat (first | exact (Kd.R_reads' HO346.out).2.2 | (with_reducible refine Kd.C_alloc ?_ _) | (with_reducible refine Kd.C_drewN ?_ _) | (with_reducible refine Kd.C_drew ?_))); (case side2 => exact (Kd.R_reads' HO346.out).2.1); (case side3 => repeat (first | exact (Kd.R_reads' HO352.out).2.2 | (with_reducible refine Kd.C_alloc ?_ _) | (with_reducible refine Kd.C_drewN ?_ _) | (with_reducible refine Kd.C_drew ?_))); (case side4 => exact (Kd.R_reads' HO352.out).2.1); rintro e w' ⟨rfl, ⟨nd, rfl⟩⟩; (try first | exact ⟨rfl, _, World.drewN_drewN _ _ _⟩ | exact ⟨rfl, _, Eq.trans (World.drewN_drewN _ _ _) (congrArg (World.drewN _) (Nat.add_assoc _ _ _))⟩))); try go_wp2_with (first | (go_at_call 14; (with_reducible refine (laws_sameInts.calls kj25 _ _ t342 _ _ t349 false _ ?side1 ?side2 ?side3 ?side4 A46.out).mono ?_); (case side1 => repeat (first | exact (Kd.R_reads' HO346.out).2.2 | (with_reducible refine Kd.C_alloc ?_ _) | (with_reducible refine Kd.C_drewN ?_ _) | (with_reducible refine Kd.C_drew ?_))); (case side2 => exact (Kd.R_reads' HO346.out).2.1); (case side3 => repeat (first | exact (Kd.R_reads' HO352.out).2.2 | (with_reducible refine Kd.C_alloc ?_ _) | (with_reducible refine Kd.C_drewN ?_ _) | (with_reducible refine Kd.C_drew ?_))); (case side4 => exact (Kd.R_reads' HO352.out).2.1); rintro e w' ⟨rfl, ⟨nd, rfl⟩⟩; (try first | exact ⟨rfl, _, World.drewN_drewN _ _ _⟩ | exact ⟨rfl, _, Eq.trans (World.drewN_drewN _ _ _) (congrArg (World.drewN _) (Nat.add_assoc _ _ _))⟩))))
                                                  go_meet
                                                  case rel => exact ⟨_, (true), (by first | rfl | (simp; done) | (simp [*]; done)), H', ⟨by have := HJ3.out; have := HJ10.out; have := HJ25.out; first | omega | exact Nat.le_refl _⟩, ⟨by repeat (first | (with_reducible first | exact HB.out | apply below_alloc | apply pw_below_drewN | apply below_drew1) | exact HB.out)⟩⟩
                                              · rw [if_neg c45] at H
                                                have c45b0 : (t337 == t340) = false := beq_eq_false_iff_ne.mpr c45
                                                have c45b1 : (t337 != t340) = true := bne_iff_ne.mpr c45
                                                have H' := Aside0.mk H
                                                clear H
                                                go_wp2
                                                repeat (go_quiet (fail); try go_wp2)
                                                go_meet
                                                case rel => exact ⟨_, (true), (by first | rfl | (simp; done) | (simp [*]; done)), H', ⟨by have := HJ3.out; have := HJ10.out; have := HJ25.out; first | omega | exact Nat.le_refl _⟩, ⟨by repeat (first | (with_reducible first | exact HB.out | apply below_alloc | apply pw_below_drewN | apply below_drew1) | exact HB.out)⟩⟩
                                            · replace c44 := Bool.eq_false_iff.mpr c44
                                              subst c44
                                              have H1 : ((laws_sameInts.f kj25 t342 t349).bind fun t357 => (if t357 = true then ((laws_sameInts.f kj25 t343 t350).bind fun t358 => (laws_FnTriesSay.j3 kj25 l0 l1 a2 (!t358))) else (laws_FnTriesSay.j3 kj25 l0 l1 a2 true))) = some r := by rw [if_neg (show ¬ (false = true) by decide)] at H; exact H
                                              clear H
                                              have H := H1
                                              clear H1
                                              replace H := Option.bind_eq_some_iff.mp H
                                              obtain ⟨t357, A550, H⟩ := H
                                              replace H : (if t357 = true then ((laws_sameInts.f kj25 t343 t350).bind fun t358 => (laws_FnTriesSay.j3 kj25 l0 l1 a2 (!t358))) else (laws_FnTriesSay.j3 kj25 l0 l1 a2 true)) = some r := H
                                              have A55 := Aside0.mk A550
                                              clear A550
                                              by_cases c56 : t357 = true
                                              · subst c56
                                                have H1 : ((laws_sameInts.f kj25 t343 t350).bind fun t358 => (laws_FnTriesSay.j3 kj25 l0 l1 a2 (!t358))) = some r := by rw [if_pos rfl] at H; exact H
                                                clear H
                                                have H := H1
                                                clear H1
                                                replace H := Option.bind_eq_some_iff.mp H
                                                obtain ⟨t358, A570, H⟩ := H
                                                replace H : (laws_FnTriesSay.j3 kj25 l0 l1 a2 (!t358)) = some r := H
                                                have A57 := Aside0.mk A570
                                                clear A570
                                                have H' := Aside0.mk H
                                                clear H
                                                obtain ⟨Ao58, co58, eo58⟩ := Kd.R_slice HO346.out
                                                subst eo58
                                                obtain ⟨Ao59, co59, eo59⟩ := Kd.R_slice HO352.out
                                                subst eo59
                                                go_wp2_with (first | (go_at_call 14; (with_reducible refine (laws_sameInts.calls kj25 _ _ t342 _ _ t349 true _ ?side1 ?side2 ?side3 ?side4 A55.out).mono ?_); (case side1 => repeat (first | exact (Kd.R_reads' HO346.out).2.2 | (with_reducible refine Kd.C_alloc ?_ _) | (with_reducible refine Kd.C_drewN ?_ _) | (with_reducible refine Kd.C_drew ?_))); (case side2 => exact (Kd.R_reads' HO346.out).2.1); (case side3 => repeat (first | exact (Kd.R_reads' HO352.out).2.2 | (with_reducible refine Kd.C_alloc ?_ _) | (with_reducible refine Kd.C_drewN ?_ _) | (with_reducible refine Kd.C_drew ?_))); (case side4 => exact (Kd.R_reads' HO352.out).2.1); rintro e w' ⟨rfl, ⟨nd, rfl⟩⟩; (try first | exact ⟨rfl, _, World.drewN_drewN _ _ _⟩ | exact ⟨rfl, _, Eq.trans (World.drewN_drewN _ _ _) (congrArg (World.drewN _) (Nat.add_assoc _ _ _))⟩); obtain ⟨Ao60, co60, eo60⟩ := Kd.R_slice HO348.out; subst eo60; obtain ⟨Ao61, co61, eo61⟩ := Kd.R_slice HO354.out; subst eo61) | (go_at_call 14; (with_reducible refine (laws_sameInts.calls kj25 _ _ t343 _ _ t350 t358 _ ?side1 ?side2 ?side3 ?side4 A57.out).mono ?_); (case side1 => repeat (first | exact (Kd.R_reads' HO348.out).2.2 | (with_reducible refine Kd.C_alloc ?_ _) | (with_reducible refine Kd.C_drewN ?_ _) | (with_reducible refine Kd.C_drew ?_))); (case side2 => exact (Kd.R_reads' HO348.out).2.1); (case side3 => repeat (first | exact (Kd.R_reads' HO354.out).2.2 | (with_reducible refine Kd.C_alloc ?_ _) | (with_reducible refine Kd.C_drewN ?_ _) | (with_reducible refine Kd.C_drew ?_))); (case side4 => exact (Kd.R_reads' HO354.out).2.1); rintro e w' ⟨rfl, ⟨nd, rfl⟩⟩; (try first | exact ⟨rfl, _, World.drewN_drewN _ _ _⟩ | exact ⟨rfl, _, Eq.trans (World.drewN_drewN _ _ _) (congrArg (World.drewN _) (Nat.add_assoc _ _ _))⟩)))
                                                repeat (go_quiet (first | (go_at_call 14; (with_reducible refine (laws_sameInts.calls kj25 _ _ t342 _ _ t349 true _ ?side1 ?side2 ?side3 ?side4 A55.out).mono ?_); (case side1 => repeat (first | exact (Kd.R_reads' HO346.out).2.2 | (with_reducible refine Kd.C_alloc ?_ _) | (with_reducible refine Kd.C_drewN ?_ _) | (with_reducible refine Kd.C_drew ?_))); (case side2 => exact (Kd.R_reads' HO346.out).2.1); (case side3 => repeat (first | exact (Kd.R_reads' HO352.out).2.2 | (with_reducible refine Kd.C_alloc ?_ _) | (with_reducible refine Kd.C_drewN ?_ _) | (with_reducible refine Kd.C_drew ?_))); (case side4 => exact (Kd.R_reads' HO352.out).2.1); rintro e w' ⟨rfl, ⟨nd, rfl⟩⟩; (try first | exact ⟨rfl, _, World.drewN_drewN _ _ _⟩ | exact ⟨rfl, _, Eq.trans (World.drewN_drewN _ _ _) (congrArg (World.drewN _) (Nat.add_assoc _ _ _))⟩); obtain ⟨Ao60, co60, eo60⟩ := Kd.R_slice HO348.out; subst eo60; obtain ⟨Ao61, co61, eo61⟩ := Kd.R_slice HO354.out; subst eo61) | (go_at_call 14; (with_reducible refine (laws_sameInts.calls kj25 _ _ t343 _ _ t350 t358 _ ?side1 ?side2 ?side3 ?side4 A57.out).mono ?_); (case side1 => repeat (first | exact (Kd.R_reads' HO348.out).2.2 | (with_reducible refine Kd.C_alloc ?_ _) | (with_reducible refine Kd.C_drewN ?_ _) | (with_reducible refine Kd.C_drew ?_))); (case side2 => exact (Kd.R_reads' HO348.out).2.1); (case side3 => repeat (first | exact (Kd.R_reads' HO354.out).2.2 | (with_reducible refine Kd.C_alloc ?_ _) | (with_reducible refine Kd.C_drewN ?_ _) | (with_reducible refine Kd.C_drew ?_))); (case side4 => exact (Kd.R_reads' HO354.out).2.1); rintro e w' ⟨rfl, ⟨nd, rfl⟩⟩; (try first | exact ⟨rfl, _, World.drewN_drewN _ _ _⟩ | exact ⟨rfl, _, Eq.trans (World.drewN_drewN _ _ _) (congrArg (World.drewN _) (Nat.add_assoc _ _ _))⟩))); try go_wp2_with (first | (go_at_call 14; (with_reducible refine (laws_sameInts.calls kj25 _ _ t342 _ _ t349 true _ ?side1 ?side2 ?side3 ?side4 A55.out).mono ?_); (case side1 => repeat (first | exact (Kd.R_reads' HO346.out).2.2 | (with_reducible refine Kd.C_alloc ?_ _) | (with_reducible refine Kd.C_drewN ?_ _) | (with_reducible refine Kd.C_drew ?_))); (case side2 => exact (Kd.R_reads' HO346.out).2.1); (case side3 => repeat (first | exact (Kd.R_reads' HO352.out).2.2 | (with_reducible refine Kd.C_alloc ?_ _) | (with_reducible refine Kd.C_drewN ?_ _) | (with_reducible refine Kd.C_drew ?_))); (case side4 => exact (Kd.R_reads' HO352.out).2.1); rintro e w' ⟨rfl, ⟨nd, rfl⟩⟩; (try first | exact ⟨rfl, _, World.drewN_drewN _ _ _⟩ | exact ⟨rfl, _, Eq.trans (World.drewN_drewN _ _ _) (congrArg (World.drewN _) (Nat.add_assoc _ _ _))⟩); obtain ⟨Ao60, co60, eo60⟩ := Kd.R_slice HO348.out; subst eo60; obtain ⟨Ao61, co61, eo61⟩ := Kd.R_slice HO354.out; subst eo61) | (go_at_call 14; (with_reducible refine (laws_sameInts.calls kj25 _ _ t343 _ _ t350 t358 _ ?side1 ?side2 ?side3 ?side4 A57.out).mono ?_); (case side1 => repeat (first | exact (Kd.R_reads' HO348.out).2.2 | (with_reducible refine Kd.C_alloc ?_ _) | (with_reducible refine Kd.C_drewN ?_ _) | (with_reducible refine Kd.C_drew ?_))); (case side2 => exact (Kd.R_reads' HO348.out).2.1); (case side3 => repeat (first | exact (Kd.R_reads' HO354.out).2.2 | (with_reducible refine Kd.C_alloc ?_ _) | (with_reducible refine Kd.C_drewN ?_ _) | (with_reducible refine Kd.C_drew ?_))); (case side4 => exact (Kd.R_reads' HO354.out).2.1); rintro e w' ⟨rfl, ⟨nd, rfl⟩⟩; (try first | exact ⟨rfl, _, World.drewN_drewN _ _ _⟩ | exact ⟨rfl, _, Eq.trans (World.drewN_drewN _ _ _) (congrArg (World.drewN _) (Nat.add_assoc _ _ _))⟩))))
                                                go_meet
                                                case rel => exact ⟨_, (!t358), (by first | rfl | (simp; done) | (simp [*]; done)), H', ⟨by have := HJ3.out; have := HJ10.out; have := HJ25.out; first | omega | exact Nat.le_refl _⟩, ⟨by repeat (first | (with_reducible first | exact HB.out | apply below_alloc | apply pw_below_drewN | apply below_drew1) | exact HB.out)⟩⟩
                                              · replace c56 := Bool.eq_false_iff.mpr c56
                                                subst c56
                                                have H1 : (laws_FnTriesSay.j3 kj25 l0 l1 a2 true) = some r := by rw [if_neg (show ¬ (false = true) by decide)] at H; exact H
                                                clear H
                                                have H := H1
                                                clear H1
                                                have H' := Aside0.mk H
                                                clear H
                                                obtain ⟨Ao62, co62, eo62⟩ := Kd.R_slice HO346.out
                                                subst eo62
                                                obtain ⟨Ao63, co63, eo63⟩ := Kd.R_slice HO352.out
                                                subst eo63
                                                go_wp2_with (first | (go_at_call 14; (with_reducible refine (laws_sameInts.calls kj25 _ _ t342 _ _ t349 false _ ?side1 ?side2 ?side3 ?side4 A55.out).mono ?_); (case side1 => repeat (first | exact (Kd.R_reads' HO346.out).2.2 | (with_reducible refine Kd.C_alloc ?_ _) | (with_reducible refine Kd.C_drewN ?_ _) | (with_reducible refine Kd.C_drew ?_))); (case side2 => exact (Kd.R_reads' HO346.out).2.1); (case side3 => repeat (first | exact (Kd.R_reads' HO352.out).2.2 | (with_reducible refine Kd.C_alloc ?_ _) | (with_reducible refine Kd.C_drewN ?_ _) | (with_reducible refine Kd.C_drew ?_))); (case side4 => exact (Kd.R_reads' HO352.out).2.1); rintro e w' ⟨rfl, ⟨nd, rfl⟩⟩; (try first | exact ⟨rfl, _, World.drewN_drewN _ _ _⟩ | exact ⟨rfl, _, Eq.trans (World.drewN_drewN _ _ _) (congrArg (World.drewN _) (Nat.add_assoc _ _ _))⟩)))
                                                repeat (go_quiet (first | (go_at_call 14; (with_reducible refine (laws_sameInts.calls kj25 _ _ t342 _ _ t349 false _ ?side1 ?side2 ?side3 ?side4 A55.out).mono ?_); (case side1 => repeat (first | exact (Kd.R_reads' HO346.out).2.2 | (with_reducible refine Kd.C_alloc ?_ _) | (with_reducible refine Kd.C_drewN ?_ _) | (with_reducible refine Kd.C_drew ?_))); (case side2 => exact (Kd.R_reads' HO346.out).2.1); (case side3 => repeat (first | exact (Kd.R_reads' HO352.out).2.2 | (with_reducible refine Kd.C_alloc ?_ _) | (with_reducible refine Kd.C_drewN ?_ _) | (with_reducible refine Kd.C_drew ?_))); (case side4 => exact (Kd.R_reads' HO352.out).2.1); rintro e w' ⟨rfl, ⟨nd, rfl⟩⟩; (try first | exact ⟨rfl, _, World.drewN_drewN _ _ _⟩ | exact ⟨rfl, _, Eq.trans (World.drewN_drewN _ _ _) (congrArg (World.drewN _) (Nat.add_assoc _ _ _))⟩))); try go_wp2_with (first | (go_at_call 14; (with_reducible refine (laws_sameInts.calls kj25 _ _ t342 _ _ t349 false _ ?side1 ?side2 ?side3 ?side4 A55.out).mono ?_); (case side1 => repeat (first | exact (Kd.R_reads' HO346.out).2.2 | (with_reducible refine Kd.C_alloc ?_ _) | (with_reducible refine Kd.C_drewN ?_ _) | (with_reducible refine Kd.C_drew ?_))); (case side2 => exact (Kd.R_reads' HO346.out).2.1); (case side3 => repeat (first | exact (Kd.R_reads' HO352.out).2.2 | (with_reducible refine Kd.C_alloc ?_ _) | (with_reducible refine Kd.C_drewN ?_ _) | (with_reducible refine Kd.C_drew ?_))); (case side4 => exact (Kd.R_reads' HO352.out).2.1); rintro e w' ⟨rfl, ⟨nd, rfl⟩⟩; (try first | exact ⟨rfl, _, World.drewN_drewN _ _ _⟩ | exact ⟨rfl, _, Eq.trans (World.drewN_drewN _ _ _) (congrArg (World.drewN _) (Nat.add_assoc _ _ _))⟩))))
                                                go_meet
                                                case rel => exact ⟨_, (true), (by first | rfl | (simp; done) | (simp [*]; done)), H', ⟨by have := HJ3.out; have := HJ10.out; have := HJ25.out; first | omega | exact Nat.le_refl _⟩, ⟨by repeat (first | (with_reducible first | exact HB.out | apply below_alloc | apply pw_below_drewN | apply below_drew1) | exact HB.out)⟩⟩
                                        · replace c42 := Bool.eq_false_iff.mpr c42
                                          subst c42
                                          have H1 : (laws_FnTriesSay.j3 kj25 l0 l1 a2 true) = some r := by rw [if_neg (show ¬ (false = true) by decide)] at H; exact H
                                          clear H
                                          have H := H1
                                          clear H1
                                          have H' := Aside0.mk H
                                          clear H
                                          go_wp2
                                          repeat (go_quiet (fail); try go_wp2)
                                          go_meet
                                          case rel => exact ⟨_, (true), (by first | rfl | (simp; done) | (simp [*]; done)), H', ⟨by have := HJ3.out; have := HJ10.out; have := HJ25.out; first | omega | exact Nat.le_refl _⟩, ⟨by repeat (first | (with_reducible first | exact HB.out | apply below_alloc | apply pw_below_drewN | apply below_drew1) | exact HB.out)⟩⟩
                                      · replace c41 := Bool.eq_false_iff.mpr c41
                                        subst c41
                                        have H1 : (laws_FnTriesSay.j3 kj25 l0 l1 a2 true) = some r := by rw [if_neg (show ¬ (false = true) by decide)] at H; exact H
                                        clear H
                                        have H := H1
                                        clear H1
                                        have H' := Aside0.mk H
                                        clear H
                                        go_wp2
                                        repeat (go_quiet (fail); try go_wp2)
                                        go_meet
                                        case rel => exact ⟨_, (true), (by first | rfl | (simp; done) | (simp [*]; done)), H', ⟨by have := HJ3.out; have := HJ10.out; have := HJ25.out; first | omega | exact Nat.le_refl _⟩, ⟨by repeat (first | (with_reducible first | exact HB.out | apply below_alloc | apply pw_below_drewN | apply below_drew1) | exact HB.out)⟩⟩
                                  case rest =>
                                    as_aux_lemma =>
                                      clear HC37
                                      try clear c1
                                      try clear c2
                                      try clear p2
                                      try clear c3
                                      try clear c4
                                      try clear c5
                                      try clear c6
                                      try clear c7
                                      try clear c7b0
                                      try clear c7b1
                                      try clear c8
                                      try clear c10
                                      try clear c13
                                      try clear c13b0
                                      try clear c13b1
                                      try clear c15
                                      try clear c23
                                      try clear c25
                                      try clear c28
                                      try clear c32
                                      try clear c41
                                      try clear c42
                                      try clear c43
                                      try clear c43b0
                                      try clear c43b1
                                      try clear c43b2
                                      try clear c44
                                      try clear c45
                                      try clear c45b0
                                      try clear c45b1
                                      try clear c47
                                      try clear c56
                                      try clear p2
                                      obtain ⟨kq, x130_36, rfl, HA, HJ36, HB⟩ := hcut
                                      cases kq with
                                      | zero => exact absurd HA.out (by simp [laws_FnTriesSay.j3])
                                      | succ kj36 =>
                                        have H := HA.out
                                        clear HA
                                        simp only [laws_FnTriesSay.j3] at H
                                        by_cases c64 : x130_36 = true
                                        · subst c64
                                          have H1 : (some false) = some r := by rw [if_pos rfl] at H; exact H
                                          clear H
                                          have H := H1
                                          clear H1
                                          obtain rfl := Option.some.inj H
                                          go_wp2
                                          repeat (go_quiet (fail); try go_wp2)
                                          go_ret
                                          exact ⟨by first | rfl | (simp [errW_none, errW_some] <;> rfl) | (simp [*, errW_none, errW_some] <;> rfl), by repeat (first | (with_reducible first | exact HB.out | apply below_alloc | apply pw_below_drewN | apply below_drew1) | exact HB.out)⟩
                                        · replace c64 := Bool.eq_false_iff.mpr c64
                                          subst c64
                                          have H1 : ((impl_TrieLongest.f l0 l1 a2).bind fun bt359 => ((spec_TrieLongest.f kj36 l0 l1 a2).bind fun bt362 => (if bt359.2.2 = true then (if (bt359.2.1 != bt362.2) = true then (some false) else (if bt359.2.1 = true then (if bt359.1 = bt362.1 then (laws_FnTriesSay.j4 kj36 l0 a2) else (some false)) else (laws_FnTriesSay.j4 kj36 l0 a2))) else (some false)))) = some r := by rw [if_neg (show ¬ (false = true) by decide)] at H; exact H
                                          clear H
                                          have H := H1
                                          clear H1
                                          replace H := Option.bind_eq_some_iff.mp H
                                          obtain ⟨⟨t359, t360, t361⟩, A650, H⟩ := H
                                          replace H : ((spec_TrieLongest.f kj36 l0 l1 a2).bind fun bt362 => (if t361 = true then (if (t360 != bt362.2) = true then (some false) else (if t360 = true then (if t359 = bt362.1 then (laws_FnTriesSay.j4 kj36 l0 a2) else (some false)) else (laws_FnTriesSay.j4 kj36 l0 a2))) else (some false))) = some r := H
                                          have A65 := Aside0.mk A650
                                          clear A650
                                          replace H := Option.bind_eq_some_iff.mp H
                                          obtain ⟨⟨t362, t363⟩, A660, H⟩ := H
                                          replace H : (if t361 = true then (if (t360 != t363) = true then (some false) else (if t360 = true then (if t359 = t362 then (laws_FnTriesSay.j4 kj36 l0 a2) else (some false)) else (laws_FnTriesSay.j4 kj36 l0 a2))) else (some false)) = some r := H
                                          have A66 := Aside0.mk A660
                                          clear A660
                                          by_cases c67 : t361 = true
                                          · subst c67
                                            have H1 : (if (t360 != t363) = true then (some false) else (if t360 = true then (if t359 = t362 then (laws_FnTriesSay.j4 kj36 l0 a2) else (some false)) else (laws_FnTriesSay.j4 kj36 l0 a2))) = some r := by rw [if_pos rfl] at H; exact H
                                            clear H
                                            have H := H1
                                            clear H1
                                            by_cases c68 : (t360 != t363) = true
                                            · rw [if_pos c68] at H
                                              have c68b0 : (t360 != t363) = true := c68
                                              (try (have c68b1 : decide (t360 = t363) = false := by simpa using c68))
                                              (try (have c68b2 : (t360 == t363) = false := by simpa using c68))
                                              (try (have c68b3 : ¬ (t360 = t363) := by simpa using c68))
                                              clear c68
                                              obtain rfl := Option.some.inj H
                                              go_wp2_with (first | (go_at_call 15; (with_reducible refine (impl_TrieLongest.calls _ _ l0 _ _ l1 a2 t359 t360 true _ ?side1 ?side2 ?side3 ?side4 A65.out).mono ?_); (case side1 => repeat (first | exact (Kd.C_below HR0.out HB.out) | (with_reducible refine Kd.C_alloc ?_ _) | (with_reducible refine Kd.C_drewN ?_ _) | (with_reducible refine Kd.C_drew ?_))); (case side2 => exact HC0.out); (case side3 => repeat (first | exact (Kd.C_below HR1.out HB.out) | (with_reducible refine Kd.C_alloc ?_ _) | (with_reducible refine Kd.C_drewN ?_ _) | (with_reducible refine Kd.C_drew ?_))); (case side4 => exact HC1.out); rintro e w69 ⟨rfl, hb⟩; have n0_ := Aside0.mk (below_step (by repeat (first | (with_reducible first | exact HB.out | apply below_alloc | apply pw_below_drewN | apply below_drew1) | exact HB.out)) hb); clear HB; have HB := n0_; clear n0_; (try clear hb); (try clear hb2); (try clear hk); (try clear hi)) | (go_at_call 16; (with_reducible refine (spec_TrieLongest.calls kj36 _ _ l0 _ _ l1 a2 t362 t363 _ ?side1 ?side2 ?side3 ?side4 A66.out).mono ?_); (case side1 => repeat (first | exact (Kd.C_below HR0.out HB.out) | (with_reducible refine Kd.C_alloc ?_ _) | (with_reducible refine Kd.C_drewN ?_ _) | (with_reducible refine Kd.C_drew ?_))); (case side2 => exact HC0.out); (case side3 => repeat (first | exact (Kd.C_below HR1.out HB.out) | (with_reducible refine Kd.C_alloc ?_ _) | (with_reducible refine Kd.C_drewN ?_ _) | (with_reducible refine Kd.C_drew ?_))); (case side4 => exact HC1.out); rintro e w70 ⟨rfl, hb⟩; have n0_ := Aside0.mk (below_step (by repeat (first | (with_reducible first | exact HB.out | apply below_alloc | apply pw_below_drewN | apply below_drew1) | exact HB.out)) hb); clear HB; have HB := n0_; clear n0_; (try clear hb); (try clear hb2); (try clear hk); (try clear hi)))
                                              repeat (go_quiet (first | (go_at_call 15; (with_reducible refine (impl_TrieLongest.calls _ _ l0 _ _ l1 a2 t359 t360 true _ ?side1 ?side2 ?side3 ?side4 A65.out).mono ?_); (case side1 => repeat (first | exact (Kd.C_below HR0.out HB.out) | (with_reducible refine Kd.C_alloc ?_ _) | (with_reducible refine Kd.C_drewN ?_ _) | (with_reducible refine Kd.C_drew ?_))); (case side2 => exact HC0.out); (case side3 => repeat (first | exact (Kd.C_below HR1.out HB.out) | (with_reducible refine Kd.C_alloc ?_ _) | (with_reducible refine Kd.C_drewN ?_ _) | (with_reducible refine Kd.C_drew ?_))); (case side4 => exact HC1.out); rintro e w69 ⟨rfl, hb⟩; have n0_ := Aside0.mk (below_step (by repeat (first | (with_reducible first | exact HB.out | apply below_alloc | apply pw_below_drewN | apply below_drew1) | exact HB.out)) hb); clear HB; have HB := n0_; clear n0_; (try clear hb); (try clear hb2); (try clear hk); (try clear hi)) | (go_at_call 16; (with_reducible refine (spec_TrieLongest.calls kj36 _ _ l0 _ _ l1 a2 t362 t363 _ ?side1 ?side2 ?side3 ?side4 A66.out).mono ?_); (case side1 => repeat (first | exact (Kd.C_below HR0.out HB.out) | (with_reducible refine Kd.C_alloc ?_ _) | (with_reducible refine Kd.C_drewN ?_ _) | (with_reducible refine Kd.C_drew ?_))); (case side2 => exact HC0.out); (case side3 => repeat (first | exact (Kd.C_below HR1.out HB.out) | (with_reducible refine Kd.C_alloc ?_ _) | (with_reducible refine Kd.C_drewN ?_ _) | (with_reducible refine Kd.C_drew ?_))); (case side4 => exact HC1.out); rintro e w70 ⟨rfl, hb⟩; have n0_ := Aside0.mk (below_step (by repeat (first | (with_reducible first | exact HB.out | apply below_alloc | apply pw_below_drewN | apply below_drew1) | exact HB.out)) hb); clear HB; have HB := n0_; clear n0_; (try clear hb); (try clear hb2); (try clear hk); (try clear hi))); try go_wp2_with (first | (go_at_call 15; (with_reducible refine (impl_TrieLongest.calls _ _ l0 _ _ l1 a2 t359 t360 true _ ?side1 ?side2 ?side3 ?side4 A65.out).mono ?_); (case side1 => repeat (first | exact (Kd.C_below HR0.out HB.out) | (with_reducible refine Kd.C_alloc ?_ _) | (with_reducible refine Kd.C_drewN ?_ _) | (with_reducible refine Kd.C_drew ?_))); (case side2 => exact HC0.out); (case side3 => repeat (first | exact (Kd.C_below HR1.out HB.out) | (with_reducible refine Kd.C_alloc ?_ _) | (with_reducible refine Kd.C_drewN ?_ _) | (with_reducible refine Kd.C_drew ?_))); (case side4 => exact HC1.out); rintro e w69 ⟨rfl, hb⟩; have n0_ := Aside0.mk (below_step (by repeat (first | (with_reducible first | exact HB.out | apply below_alloc | apply pw_below_drewN | apply below_drew1) | exact HB.out)) hb); clear HB; have HB := n0_; clear n0_; (try clear hb); (try clear hb2); (try clear hk); (try clear hi)) | (go_at_call 16; (with_reducible refine (spec_TrieLongest.calls kj36 _ _ l0 _ _ l1 a2 t362 t363 _ ?side1 ?side2 ?side3 ?side4 A66.out).mono ?_); (case side1 => repeat (first | exact (Kd.C_below HR0.out HB.out) | (with_reducible refine Kd.C_alloc ?_ _) | (with_reducible refine Kd.C_drewN ?_ _) | (with_reducible refine Kd.C_drew ?_))); (case side2 => exact HC0.out); (case side3 => repeat (first | exact (Kd.C_below HR1.out HB.out) | (with_reducible refine Kd.C_alloc ?_ _) | (with_reducible refine Kd.C_drewN ?_ _) | (with_reducible refine Kd.C_drew ?_))); (case side4 => exact HC1.out); rintro e w70 ⟨rfl, hb⟩; have n0_ := Aside0.mk (below_step (by repeat (first | (with_reducible first | exact HB.out | apply below_alloc | apply pw_below_drewN | apply below_drew1) | exact HB.out)) hb); clear HB; have HB := n0_; clear n0_; (try clear hb); (try clear hb2); (try clear hk); (try clear hi))))
                                              go_ret
                                              exact ⟨by first | rfl | (simp [errW_none, errW_some] <;> rfl) | (simp [*, errW_none, errW_some] <;> rfl), by repeat (first | (with_reducible first | exact HB.out | apply below_alloc | apply pw_below_drewN | apply below_drew1) | exact HB.out)⟩
                                            · rw [if_neg c68] at H
                                              have c68b0 : (t360 != t363) = false := by simpa using c68
                                              (try (have c68b1 : decide (t360 = t363) = true := by simpa using c68))
                                              (try (have c68b2 : (t360 == t363) = true := by simpa using c68))
                                              clear c68
                                              by_cases c71 : t360 = true
                                              · subst c71
                                                have H1 : (if t359 = t362 then (laws_FnTriesSay.j4 kj36 l0 a2) else (some false)) = some r := by rw [if_pos rfl] at H; exact H
                                                clear H
                                                have H := H1
                                                clear H1
                                                by_cases c72 : t359 = t362
                                                · rw [if_pos c72] at H
                                                  have c72b0 : (t359 == t362) = true := beq_iff_eq.mpr c72
                                                  have c72b1 : (t359 != t362) = false := bne_eq_false_iff_eq.mpr c72
                                                  clear c72
                                                  have H' := Aside0.mk H
                                                  clear H
                                                  go_wp2_with (first | (go_at_call 15; (with_reducible refine (impl_TrieLongest.calls _ _ l0 _ _ l1 a2 t359 true true _ ?side1 ?side2 ?side3 ?side4 A65.out).mono ?_); (case side1 => repeat (first | exact (Kd.C_below HR0.out HB.out) | (with_reducible refine Kd.C_alloc ?_ _) | (with_reducible refine Kd.C_drewN ?_ _) | (with_reducible refine Kd.C_drew ?_))); (case side2 => exact HC0.out); (case side3 => repeat (first | exact (Kd.C_below HR1.out HB.out) | (with_reducible refine Kd.C_alloc ?_ _) | (with_reducible refine Kd.C_drewN ?_ _) | (with_reducible refine Kd.C_drew ?_))); (case side4 => exact HC1.out); rintro e w73 ⟨rfl, hb⟩; have n0_ := Aside0.mk (below_step (by repeat (first | (with_reducible first | exact HB.out | apply below_alloc | apply pw_below_drewN | apply below_drew1) | exact HB.out)) hb); clear HB; have HB := n0_; clear n0_; (try clear hb); (try clear hb2); (try clear hk); (try clear hi)) | (go_at_call 16; (with_reducible refine (spec_TrieLongest.calls kj36 _ _ l0 _ _ l1 a2 t362 t363 _ ?side1 ?side2 ?side3 ?side4 A66.out).mono ?_); (case side1 => repeat (first | exact (Kd.C_below HR0.out HB.out) | (with_reducible refine Kd.C_alloc ?_ _) | (with_reducible refine Kd.C_drewN ?_ _) | (with_reducible refine Kd.C_drew ?_))); (case side2 => exact HC0.out); (case side3 => repeat (first | exact (Kd.C_below HR1.out HB.out) | (with_reducible refine Kd.C_alloc ?_ _) | (with_reducible refine Kd.C_drewN ?_ _) | (with_reducible refine Kd.C_drew ?_))); (case side4 => exact HC1.out); rintro e w74 ⟨rfl, hb⟩; have n0_ := Aside0.mk (below_step (by repeat (first | (with_reducible first | exact HB.out | apply below_alloc | apply pw_below_drewN | apply below_drew1) | exact HB.out)) hb); clear HB; have HB := n0_; clear n0_; (try clear hb); (try clear hb2); (try clear hk); (try clear hi)))
                                                  repeat (go_quiet (first | (go_at_call 15; (with_reducible refine (impl_TrieLongest.calls _ _ l0 _ _ l1 a2 t359 true true _ ?side1 ?side2 ?side3 ?side4 A65.out).mono ?_); (case side1 => repeat (first | exact (Kd.C_below HR0.out HB.out) | (with_reducible refine Kd.C_alloc ?_ _) | (with_reducible refine Kd.C_drewN ?_ _) | (with_reducible refine Kd.C_drew ?_))); (case side2 => exact HC0.out); (case side3 => repeat (first | exact (Kd.C_below HR1.out HB.out) | (with_reducible refine Kd.C_alloc ?_ _) | (with_reducible refine Kd.C_drewN ?_ _) | (with_reducible refine Kd.C_drew ?_))); (case side4 => exact HC1.out); rintro e w73 ⟨rfl, hb⟩; have n0_ := Aside0.mk (below_step (by repeat (first | (with_reducible first | exact HB.out | apply below_alloc | apply pw_below_drewN | apply below_drew1) | exact HB.out)) hb); clear HB; have HB := n0_; clear n0_; (try clear hb); (try clear hb2); (try clear hk); (try clear hi)) | (go_at_call 16; (with_reducible refine (spec_TrieLongest.calls kj36 _ _ l0 _ _ l1 a2 t362 t363 _ ?side1 ?side2 ?side3 ?side4 A66.out).mono ?_); (case side1 => repeat (first | exact (Kd.C_below HR0.out HB.out) | (with_reducible refine Kd.C_alloc ?_ _) | (with_reducible refine Kd.C_drewN ?_ _) | (with_reducible refine Kd.C_drew ?_))); (case side2 => exact HC0.out); (case side3 => repeat (first | exact (Kd.C_below HR1.out HB.out) | (with_reducible refine Kd.C_alloc ?_ _) | (with_reducible refine Kd.C_drewN ?_ _) | (with_reducible refine Kd.C_drew ?_))); (case side4 => exact HC1.out); rintro e w74 ⟨rfl, hb⟩; have n0_ := Aside0.mk (below_step (by repeat (first | (with_reducible first | exact HB.out | apply below_alloc | apply pw_below_drewN | apply below_drew1) | exact HB.out)) hb); clear HB; have HB := n0_; clear n0_; (try clear hb); (try clear hb2); (try clear hk); (try clear hi))); try go_wp2_with (first | (go_at_call 15; (with_reducible refine (impl_TrieLongest.calls _ _ l0 _ _ l1 a2 t359 true true _ ?side1 ?side2 ?side3 ?side4 A65.out).mono ?_); (case side1 => repeat (first | exact (Kd.C_below HR0.out HB.out) | (with_reducible refine Kd.C_alloc ?_ _) | (with_reducible refine Kd.C_drewN ?_ _) | (with_reducible refine Kd.C_drew ?_))); (case side2 => exact HC0.out); (case side3 => repeat (first | exact (Kd.C_below HR1.out HB.out) | (with_reducible refine Kd.C_alloc ?_ _) | (with_reducible refine Kd.C_drewN ?_ _) | (with_reducible refine Kd.C_drew ?_))); (case side4 => exact HC1.out); rintro e w73 ⟨rfl, hb⟩; have n0_ := Aside0.mk (below_step (by repeat (first | (with_reducible first | exact HB.out | apply below_alloc | apply pw_below_drewN | apply below_drew1) | exact HB.out)) hb); clear HB; have HB := n0_; clear n0_; (try clear hb); (try clear hb2); (try clear hk); (try clear hi)) | (go_at_call 16; (with_reducible refine (spec_TrieLongest.calls kj36 _ _ l0 _ _ l1 a2 t362 t363 _ ?side1 ?side2 ?side3 ?side4 A66.out).mono ?_); (case side1 => repeat (first | exact (Kd.C_below HR0.out HB.out) | (with_reducible refine Kd.C_alloc ?_ _) | (with_reducible refine Kd.C_drewN ?_ _) | (with_reducible refine Kd.C_drew ?_))); (case side2 => exact HC0.out); (case side3 => repeat (first | exact (Kd.C_below HR1.out HB.out) | (with_reducible refine Kd.C_alloc ?_ _) | (with_reducible refine Kd.C_drewN ?_ _) | (with_reducible refine Kd.C_drew ?_))); (case side4 => exact HC1.out); rintro e w74 ⟨rfl, hb⟩; have n0_ := Aside0.mk (below_step (by repeat (first | (with_reducible first | exact HB.out | apply below_alloc | apply pw_below_drewN | apply below_drew1) | exact HB.out)) hb); clear HB; have HB := n0_; clear n0_; (try clear hb); (try clear hb2); (try clear hk); (try clear hi))))
                                                  go_meet
                                                  case rel => exact ⟨_, H', ⟨by have := HJ3.out; have := HJ10.out; have := HJ25.out; have := HJ36.out; first | omega | exact Nat.le_refl _⟩, ⟨by repeat (first | (with_reducible first | exact HB.out | apply below_alloc | apply pw_below_drewN | apply below_drew1) | exact HB.out)⟩⟩
                                                · rw [if_neg c72] at H
                                                  have c72b0 : (t359 == t362) = false := beq_eq_false_iff_ne.mpr c72
                                                  have c72b1 : (t359 != t362) = true := bne_iff_ne.mpr c72
                                                  obtain rfl := Option.some.inj H
                                                  go_wp2_with (first | (go_at_call 15; (with_reducible refine (impl_TrieLongest.calls _ _ l0 _ _ l1 a2 t359 true true _ ?side1 ?side2 ?side3 ?side4 A65.out).mono ?_); (case side1 => repeat (first | exact (Kd.C_below HR0.out HB.out) | (with_reducible refine Kd.C_alloc ?_ _) | (with_reducible refine Kd.C_drewN ?_ _) | (with_reducible refine Kd.C_drew ?_))); (case side2 => exact HC0.out); (case side3 => repeat (first | exact (Kd.C_below HR1.out HB.out) | (with_reducible refine Kd.C_alloc ?_ _) | (with_reducible refine Kd.C_drewN ?_ _) | (with_reducible refine Kd.C_drew ?_))); (case side4 => exact HC1.out); rintro e w75 ⟨rfl, hb⟩; have n0_ := Aside0.mk (below_step (by repeat (first | (with_reducible first | exact HB.out | apply below_alloc | apply pw_below_drewN | apply below_drew1) | exact HB.out)) hb); clear HB; have HB := n0_; clear n0_; (try clear hb); (try clear hb2); (try clear hk); (try clear hi)) | (go_at_call 16; (with_reducible refine (spec_TrieLongest.calls kj36 _ _ l0 _ _ l1 a2 t362 t363 _ ?side1 ?side2 ?side3 ?side4 A66.out).mono ?_); (case side1 => repeat (first | exact (Kd.C_below HR0.out HB.out) | (with_reducible refine Kd.C_alloc ?_ _) | (with_reducible refine Kd.C_drewN ?_ _) | (with_reducible refine Kd.C_drew ?_))); (case side2 => exact HC0.out); (case side3 => repeat (first | exact (Kd.C_below HR1.out HB.out) | (with_reducible refine Kd.C_alloc ?_ _) | (with_reducible refine Kd.C_drewN ?_ _) | (with_reducible refine Kd.C_drew ?_))); (case side4 => exact HC1.out); rintro e w76 ⟨rfl, hb⟩; have n0_ := Aside0.mk (below_step (by repeat (first | (with_reducible first | exact HB.out | apply below_alloc | apply pw_below_drewN | apply below_drew1) | exact HB.out)) hb); clear HB; have HB := n0_; clear n0_; (try clear hb); (try clear hb2); (try clear hk); (try clear hi)))
                                                  repeat (go_quiet (first | (go_at_call 15; (with_reducible refine (impl_TrieLongest.calls _ _ l0 _ _ l1 a2 t359 true true _ ?side1 ?side2 ?side3 ?side4 A65.out).mono ?_); (case side1 => repeat (first | exact (Kd.C_below HR0.out HB.out) | (with_reducible refine Kd.C_alloc ?_ _) | (with_reducible refine Kd.C_drewN ?_ _) | (with_reducible refine Kd.C_drew ?_))); (case side2 => exact HC0.out); (case side3 => repeat (first | exact (Kd.C_below HR1.out HB.out) | (with_reducible refine Kd.C_alloc ?_ _) | (with_reducible refine Kd.C_drewN ?_ _) | (with_reducible refine Kd.C_drew ?_))); (case side4 => exact HC1.out); rintro e w75 ⟨rfl, hb⟩; have n0_ := Aside0.mk (below_step (by repeat (first | (with_reducible first | exact HB.out | apply below_alloc | apply pw_below_drewN | apply below_drew1) | exact HB.out)) hb); clear HB; have HB := n0_; clear n0_; (try clear hb); (try clear hb2); (try clear hk); (try clear hi)) | (go_at_call 16; (with_reducible refine (spec_TrieLongest.calls kj36 _ _ l0 _ _ l1 a2 t362 t363 _ ?side1 ?side2 ?side3 ?side4 A66.out).mono ?_); (case side1 => repeat (first | exact (Kd.C_below HR0.out HB.out) | (with_reducible refine Kd.C_alloc ?_ _) | (with_reducible refine Kd.C_drewN ?_ _) | (with_reducible refine Kd.C_drew ?_))); (case side2 => exact HC0.out); (case side3 => repeat (first | exact (Kd.C_below HR1.out HB.out) | (with_reducible refine Kd.C_alloc ?_ _) | (with_reducible refine Kd.C_drewN ?_ _) | (with_reducible refine Kd.C_drew ?_))); (case side4 => exact HC1.out); rintro e w76 ⟨rfl, hb⟩; have n0_ := Aside0.mk (below_step (by repeat (first | (with_reducible first | exact HB.out | apply below_alloc | apply pw_below_drewN | apply below_drew1) | exact HB.out)) hb); clear HB; have HB := n0_; clear n0_; (try clear hb); (try clear hb2); (try clear hk); (try clear hi))); try go_wp2_with (first | (go_at_call 15; (with_reducible refine (impl_TrieLongest.calls _ _ l0 _ _ l1 a2 t359 true true _ ?side1 ?side2 ?side3 ?side4 A65.out).mono ?_); (case side1 => repeat (first | exact (Kd.C_below HR0.out HB.out) | (with_reducible refine Kd.C_alloc ?_ _) | (with_reducible refine Kd.C_drewN ?_ _) | (with_reducible refine Kd.C_drew ?_))); (case side2 => exact HC0.out); (case side3 => repeat (first | exact (Kd.C_below HR1.out HB.out) | (with_reducible refine Kd.C_alloc ?_ _) | (with_reducible refine Kd.C_drewN ?_ _) | (with_reducible refine Kd.C_drew ?_))); (case side4 => exact HC1.out); rintro e w75 ⟨rfl, hb⟩; have n0_ := Aside0.mk (below_step (by repeat (first | (with_reducible first | exact HB.out | apply below_alloc | apply pw_below_drewN | apply below_drew1) | exact HB.out)) hb); clear HB; have HB := n0_; clear n0_; (try clear hb); (try clear hb2); (try clear hk); (try clear hi)) | (go_at_call 16; (with_reducible refine (spec_TrieLongest.calls kj36 _ _ l0 _ _ l1 a2 t362 t363 _ ?side1 ?side2 ?side3 ?side4 A66.out).mono ?_); (case side1 => repeat (first | exact (Kd.C_below HR0.out HB.out) | (with_reducible refine Kd.C_alloc ?_ _) | (with_reducible refine Kd.C_drewN ?_ _) | (with_reducible refine Kd.C_drew ?_))); (case side2 => exact HC0.out); (case side3 => repeat (first | exact (Kd.C_below HR1.out HB.out) | (with_reducible refine Kd.C_alloc ?_ _) | (with_reducible refine Kd.C_drewN ?_ _) | (with_reducible refine Kd.C_drew ?_))); (case side4 => exact HC1.out); rintro e w76 ⟨rfl, hb⟩; have n0_ := Aside0.mk (below_step (by repeat (first | (with_reducible first | exact HB.out | apply below_alloc | apply pw_below_drewN | apply below_drew1) | exact HB.out)) hb); clear HB; have HB := n0_; clear n0_; (try clear hb); (try clear hb2); (try clear hk); (try clear hi))))
                                                  go_ret
                                                  exact ⟨by first | rfl | (simp [errW_none, errW_some] <;> rfl) | (simp [*, errW_none, errW_some] <;> rfl), by repeat (first | (with_reducible first | exact HB.out | apply below_alloc | apply pw_below_drewN | apply below_drew1) | exact HB.out)⟩
                                              · replace c71 := Bool.eq_false_iff.mpr c71
                                                subst c71
                                                have H1 : (laws_FnTriesSay.j4 kj36 l0 a2) = some r := by rw [if_neg (show ¬ (false = true) by decide)] at H; exact H
                                                clear H
                                                have H := H1
                                                clear H1
                                                have H' := Aside0.mk H
                                                clear H
                                                go_wp2_with (first | (go_at_call 15; (with_reducible refine (impl_TrieLongest.calls _ _ l0 _ _ l1 a2 t359 false true _ ?side1 ?side2 ?side3 ?side4 A65.out).mono ?_); (case side1 => repeat (first | exact (Kd.C_below HR0.out HB.out) | (with_reducible refine Kd.C_alloc ?_ _) | (with_reducible refine Kd.C_drewN ?_ _) | (with_reducible refine Kd.C_drew ?_))); (case side2 => exact HC0.out); (case side3 => repeat (first | exact (Kd.C_below HR1.out HB.out) | (with_reducible refine Kd.C_alloc ?_ _) | (with_reducible refine Kd.C_drewN ?_ _) | (with_reducible refine Kd.C_drew ?_))); (case side4 => exact HC1.out); rintro e w77 ⟨rfl, hb⟩; have n0_ := Aside0.mk (below_step (by repeat (first | (with_reducible first | exact HB.out | apply below_alloc | apply pw_below_drewN | apply below_drew1) | exact HB.out)) hb); clear HB; have HB := n0_; clear n0_; (try clear hb); (try clear hb2); (try clear hk); (try clear hi)) | (go_at_call 16; (with_reducible refine (spec_TrieLongest.calls kj36 _ _ l0 _ _ l1 a2 t362 t363 _ ?side1 ?side2 ?side3 ?side4 A66.out).mono ?_); (case side1 => repeat (first | exact (Kd.C_below HR0.out HB.out) | (with_reducible refine Kd.C_alloc ?_ _) | (with_reducible refine Kd.C_drewN ?_ _) | (with_reducible refine Kd.C_drew ?_))); (case side2 => exact HC0.out); (case side3 => repeat (first | exact (Kd.C_below HR1.out HB.out) | (with_reducible refine Kd.C_alloc ?_ _) | (with_reducible refine Kd.C_drewN ?_ _) | (with_reducible refine Kd.C_drew ?_))); (case side4 => exact HC1.out); rintro e w78 ⟨rfl, hb⟩; have n0_ := Aside0.mk (below_step (by repeat (first | (with_reducible first | exact HB.out | apply below_alloc | apply pw_below_drewN | apply below_drew1) | exact HB.out)) hb); clear HB; have HB := n0_; clear n0_; (try clear hb); (try clear hb2); (try clear hk); (try clear hi)))
                                                repeat (go_quiet (first | (go_at_call 15; (with_reducible refine (impl_TrieLongest.calls _ _ l0 _ _ l1 a2 t359 false true _ ?side1 ?side2 ?side3 ?side4 A65.out).mono ?_); (case side1 => repeat (first | exact (Kd.C_below HR0.out HB.out) | (with_reducible refine Kd.C_alloc ?_ _) | (with_reducible refine Kd.C_drewN ?_ _) | (with_reducible refine Kd.C_drew ?_))); (case side2 => exact HC0.out); (case side3 => repeat (first | exact (Kd.C_below HR1.out HB.out) | (with_reducible refine Kd.C_alloc ?_ _) | (with_reducible refine Kd.C_drewN ?_ _) | (with_reducible refine Kd.C_drew ?_))); (case side4 => exact HC1.out); rintro e w77 ⟨rfl, hb⟩; have n0_ := Aside0.mk (below_step (by repeat (first | (with_reducible first | exact HB.out | apply below_alloc | apply pw_below_drewN | apply below_drew1) | exact HB.out)) hb); clear HB; have HB := n0_; clear n0_; (try clear hb); (try clear hb2); (try clear hk); (try clear hi)) | (go_at_call 16; (with_reducible refine (spec_TrieLongest.calls kj36 _ _ l0 _ _ l1 a2 t362 t363 _ ?side1 ?side2 ?side3 ?side4 A66.out).mono ?_); (case side1 => repeat (first | exact (Kd.C_below HR0.out HB.out) | (with_reducible refine Kd.C_alloc ?_ _) | (with_reducible refine Kd.C_drewN ?_ _) | (with_reducible refine Kd.C_drew ?_))); (case side2 => exact HC0.out); (case side3 => repeat (first | exact (Kd.C_below HR1.out HB.out) | (with_reducible refine Kd.C_alloc ?_ _) | (with_reducible refine Kd.C_drewN ?_ _) | (with_reducible refine Kd.C_drew ?_))); (case side4 => exact HC1.out); rintro e w78 ⟨rfl, hb⟩; have n0_ := Aside0.mk (below_step (by repeat (first | (with_reducible first | exact HB.out | apply below_alloc | apply pw_below_drewN | apply below_drew1) | exact HB.out)) hb); clear HB; have HB := n0_; clear n0_; (try clear hb); (try clear hb2); (try clear hk); (try clear hi))); try go_wp2_with (first | (go_at_call 15; (with_reducible refine (impl_TrieLongest.calls _ _ l0 _ _ l1 a2 t359 false true _ ?side1 ?side2 ?side3 ?side4 A65.out).mono ?_); (case side1 => repeat (first | exact (Kd.C_below HR0.out HB.out) | (with_reducible refine Kd.C_alloc ?_ _) | (with_reducible refine Kd.C_drewN ?_ _) | (with_reducible refine Kd.C_drew ?_))); (case side2 => exact HC0.out); (case side3 => repeat (first | exact (Kd.C_below HR1.out HB.out) | (with_reducible refine Kd.C_alloc ?_ _) | (with_reducible refine Kd.C_drewN ?_ _) | (with_reducible refine Kd.C_drew ?_))); (case side4 => exact HC1.out); rintro e w77 ⟨rfl, hb⟩; have n0_ := Aside0.mk (below_step (by repeat (first | (with_reducible first | exact HB.out | apply below_alloc | apply pw_below_drewN | apply below_drew1) | exact HB.out)) hb); clear HB; have HB := n0_; clear n0_; (try clear hb); (try clear hb2); (try clear hk); (try clear hi)) | (go_at_call 16; (with_reducible refine (spec_TrieLongest.calls kj36 _ _ l0 _ _ l1 a2 t362 t363 _ ?side1 ?side2 ?side3 ?side4 A66.out).mono ?_); (case side1 => repeat (first | exact (Kd.C_below HR0.out HB.out) | (with_reducible refine Kd.C_alloc ?_ _) | (with_reducible refine Kd.C_drewN ?_ _) | (with_reducible refine Kd.C_drew ?_))); (case side2 => exact HC0.out); (case side3 => repeat (first | exact (Kd.C_below HR1.out HB.out) | (with_reducible refine Kd.C_alloc ?_ _) | (with_reducible refine Kd.C_drewN ?_ _) | (with_reducible refine Kd.C_drew ?_))); (case side4 => exact HC1.out); rintro e w78 ⟨rfl, hb⟩; have n0_ := Aside0.mk (below_step (by repeat (first | (with_reducible first | exact HB.out | apply below_alloc | apply pw_below_drewN | apply below_drew1) | exact HB.out)) hb); clear HB; have HB := n0_; clear n0_; (try clear hb); (try clear hb2); (try clear hk); (try clear hi))))
                                                go_meet
                                                case rel => exact ⟨_, H', ⟨by have := HJ3.out; have := HJ10.out; have := HJ25.out; have := HJ36.out; first | omega | exact Nat.le_refl _⟩, ⟨by repeat (first | (with_reducible first | exact HB.out | apply below_alloc | apply pw_below_drewN | apply below_drew1) | exact HB.out)⟩⟩
                                          · replace c67 := Bool.eq_false_iff.mpr c67
                                            subst c67
                                            have H1 : (some false) = some r := by rw [if_neg (show ¬ (false = true) by decide)] at H; exact H
                                            clear H
                                            have H := H1
                                            clear H1
                                            obtain rfl := Option.some.inj H
                                            go_wp2_with (first | (go_at_call 15; (with_reducible refine (impl_TrieLongest.calls _ _ l0 _ _ l1 a2 t359 t360 false _ ?side1 ?side2 ?side3 ?side4 A65.out).mono ?_); (case side1 => repeat (first | exact (Kd.C_below HR0.out HB.out) | (with_reducible refine Kd.C_alloc ?_ _) | (with_reducible refine Kd.C_drewN ?_ _) | (with_reducible refine Kd.C_drew ?_))); (case side2 => exact HC0.out); (case side3 => repeat (first | exact (Kd.C_below HR1.out HB.out) | (with_reducible refine Kd.C_alloc ?_ _) | (with_reducible refine Kd.C_drewN ?_ _) | (with_reducible refine Kd.C_drew ?_))); (case side4 => exact HC1.out); rintro e w79 ⟨rfl, hb⟩; have n0_ := Aside0.mk (below_step (by repeat (first | (with_reducible first | exact HB.out | apply below_alloc | apply pw_below_drewN | apply below_drew1) | exact HB.out)) hb); clear HB; have HB := n0_; clear n0_; (try clear hb); (try clear hb2); (try clear hk); (try clear hi)) | (go_at_call 16; (with_reducible refine (spec_TrieLongest.calls kj36 _ _ l0 _ _ l1 a2 t362 t363 _ ?side1 ?side2 ?side3 ?side4 A66.out).mono ?_); (case side1 => repeat (first | exact (Kd.C_below HR0.out HB.out) | (with_reducible refine Kd.C_alloc ?_ _) | (with_reducible refine Kd.C_drewN ?_ _) | (with_reducible refine Kd.C_drew ?_))); (case side2 => exact HC0.out); (case side3 => repeat (first | exact (Kd.C_below HR1.out HB.out) | (with_reducible refine Kd.C_alloc ?_ _) | (with_reducible refine Kd.C_drewN ?_ _) | (with_reducible refine Kd.C_drew ?_))); (case side4 => exact HC1.out); rintro e w80 ⟨rfl, hb⟩; have n0_ := Aside0.mk (below_step (by repeat (first | (with_reducible first | exact HB.out | apply below_alloc | apply pw_below_drewN | apply below_drew1) | exact HB.out)) hb); clear HB; have HB := n0_; clear n0_; (try clear hb); (try clear hb2); (try clear hk); (try clear hi)))
                                            repeat (go_quiet (first | (go_at_call 15; (with_reducible refine (impl_TrieLongest.calls _ _ l0 _ _ l1 a2 t359 t360 false _ ?side1 ?side2 ?side3 ?side4 A65.out).mono ?_); (case side1 => repeat (first | exact (Kd.C_below HR0.out HB.out) | (with_reducible refine Kd.C_alloc ?_ _) | (with_reducible refine Kd.C_drewN ?_ _) | (with_reducible refine Kd.C_drew ?_))); (case side2 => exact HC0.out); (case side3 => repeat (first | exact (Kd.C_below HR1.out HB.out) | (with_reducible refine Kd.C_alloc ?_ _) | (with_reducible refine Kd.C_drewN ?_ _) | (with_reducible refine Kd.C_drew ?_))); (case side4 => exact HC1.out); rintro e w79 ⟨rfl, hb⟩; have n0_ := Aside0.mk (below_step (by repeat (first | (with_reducible first | exact HB.out | apply below_alloc | apply pw_below_drewN | apply below_drew1) | exact HB.out)) hb); clear HB; have HB := n0_; clear n0_; (try clear hb); (try clear hb2); (try clear hk); (try clear hi)) | (go_at_call 16; (with_reducible refine (spec_TrieLongest.calls kj36 _ _ l0 _ _ l1 a2 t362 t363 _ ?side1 ?side2 ?side3 ?side4 A66.out).mono ?_); (case side1 => repeat (first | exact (Kd.C_below HR0.out HB.out) | (with_reducible refine Kd.C_alloc ?_ _) | (with_reducible refine Kd.C_drewN ?_ _) | (with_reducible refine Kd.C_drew ?_))); (case side2 => exact HC0.out); (case side3 => repeat (first | exact (Kd.C_below HR1.out HB.out) | (with_reducible refine Kd.C_alloc ?_ _) | (with_reducible refine Kd.C_drewN ?_ _) | (with_reducible refine Kd.C_drew ?_))); (case side4 => exact HC1.out); rintro e w80 ⟨rfl, hb⟩; have n0_ := Aside0.mk (below_step (by repeat (first | (with_reducible first | exact HB.out | apply below_alloc | apply pw_below_drewN | apply below_drew1) | exact HB.out)) hb); clear HB; have HB := n0_; clear n0_; (try clear hb); (try clear hb2); (try clear hk); (try clear hi))); try go_wp2_with (first | (go_at_call 15; (with_reducible refine (impl_TrieLongest.calls _ _ l0 _ _ l1 a2 t359 t360 false _ ?side1 ?side2 ?side3 ?side4 A65.out).mono ?_); (case side1 => repeat (first | exact (Kd.C_below HR0.out HB.out) | (with_reducible refine Kd.C_alloc ?_ _) | (with_reducible refine Kd.C_drewN ?_ _) | (with_reducible refine Kd.C_drew ?_))); (case side2 => exact HC0.out); (case side3 => repeat (first | exact (Kd.C_below HR1.out HB.out) | (with_reducible refine Kd.C_alloc ?_ _) | (with_reducible refine Kd.C_drewN ?_ _) | (with_reducible refine Kd.C_drew ?_))); (case side4 => exact HC1.out); rintro e w79 ⟨rfl, hb⟩; have n0_ := Aside0.mk (below_step (by repeat (first | (with_reducible first | exact HB.out | apply below_alloc | apply pw_below_drewN | apply below_drew1) | exact HB.out)) hb); clear HB; have HB := n0_; clear n0_; (try clear hb); (try clear hb2); (try clear hk); (try clear hi)) | (go_at_call 16; (with_reducible refine (spec_TrieLongest.calls kj36 _ _ l0 _ _ l1 a2 t362 t363 _ ?side1 ?side2 ?side3 ?side4 A66.out).mono ?_); (case side1 => repeat (first | exact (Kd.C_below HR0.out HB.out) | (with_reducible refine Kd.C_alloc ?_ _) | (with_reducible refine Kd.C_drewN ?_ _) | (with_reducible refine Kd.C_drew ?_))); (case side2 => exact HC0.out); (case side3 => repeat (first | exact (Kd.C_below HR1.out HB.out) | (with_reducible refine Kd.C_alloc ?_ _) | (with_reducible refine Kd.C_drewN ?_ _) | (with_reducible refine Kd.C_drew ?_))); (case side4 => exact HC1.out); rintro e w80 ⟨rfl, hb⟩; have n0_ := Aside0.mk (below_step (by repeat (first | (with_reducible first | exact HB.out | apply below_alloc | apply pw_below_drewN | apply below_drew1) | exact HB.out)) hb); clear HB; have HB := n0_; clear n0_; (try clear hb); (try clear hb2); (try clear hk); (try clear hi))))
                                            go_ret
                                            exact ⟨by first | rfl | (simp [errW_none, errW_some] <;> rfl) | (simp [*, errW_none, errW_some] <;> rfl), by repeat (first | (with_reducible first | exact HB.out | apply below_alloc | apply pw_below_drewN | apply below_drew1) | exact HB.out)⟩
                                · replace c32 := Bool.eq_false_iff.mpr c32
                                  subst c32
                                  have H1 : (laws_FnTriesSay.j4 kj25 l0 a2) = some r := by rw [if_neg (show ¬ (false = true) by decide)] at H; exact H
                                  clear H
                                  have H := H1
                                  clear H1
                                  have H' := Aside0.mk H
                                  clear H
                                  go_wp2
                                  repeat (go_quiet (fail); try go_wp2)
                                  go_meet
                                  case rel => exact ⟨_, H', ⟨by have := HJ3.out; have := HJ10.out; have := HJ25.out; first | omega | exact Nat.le_refl _⟩, ⟨by repeat (first | (with_reducible first | exact HB.out | apply below_alloc | apply pw_below_drewN | apply below_drew1) | exact HB.out)⟩⟩
                            case rest =>
                              as_aux_lemma =>
                                clear HC31
                                try clear c1
                                try clear c2
                                try clear p2
                                try clear c3
                                try clear c4
                                try clear c5
                                try clear c6
                                try clear c7
                                try clear c7b0
                                try clear c7b1
                                try clear c8
                                try clear c10
                                try clear c13
                                try clear c13b0
                                try clear c13b1
                                try clear c15
                                try clear c23
                                try clear c25
                                try clear c28
                                try clear c32
                                try clear c41
                                try clear c42
                                try clear c43
                                try clear c43b0
                                try clear c43b1
                                try clear c43b2
                                try clear c44
                                try clear c45
                                try clear c45b0
                                try clear c45b1
                                try clear c47
                                try clear c56
                                try clear c64
                                try clear c67
                                try clear c68
                                try clear c68b0
                                try clear c68b1
                                try clear c68b2
                                try clear c71
                                try clear c72
                                try clear c72b0
                                try clear c72b1
                                try clear p2
                                obtain ⟨kq, HA, HJ30, HB⟩ := hcut
                                cases kq with
                                | zero => exact absurd HA.out (by simp [laws_FnTriesSay.j4])
                                | succ kj30 =>
                                  have H := HA.out
                                  clear HA
                                  simp only [laws_FnTriesSay.j4] at H
                                  have HC81 := Aside0.mk H
                                  clear H
                                  go_upto_region 20 with (fail)
                                  repeat (go_quiet (fail); go_upto_region 20 with (fail))
                                  go_cut [168] (fun v168 wc => ∃ (kq : Nat) (x168_80 : Bool), v168 = .bool x168_80 ∧ Aside0 (laws_FnTriesSay.j5 kq l0 a2 x168_80 = some r) ∧ Aside0 (kq ≤ kj30) ∧ Aside0 (Below w.heap.size w wc))
                                  case first =>
                                    as_aux_lemma =>
                                      have H := HC81.out
                                      clear HC81
                                      replace H := Option.bind_eq_some_iff.mp H
                                      obtain ⟨t364, A820, H⟩ := H
                                      replace H : (if t364 = true then ((laws_rising.f kj30 l0).bind fun t365 => (laws_FnTriesSay.j5 kj30 l0 a2 (!t365))) else (laws_FnTriesSay.j5 kj30 l0 a2 true)) = some r := H
                                      have A82 := Aside0.mk A820
                                      clear A820
                                      by_cases c83 : t364 = true
                                      · subst c83
                                        have H1 : ((laws_rising.f kj30 l0).bind fun t365 => (laws_FnTriesSay.j5 kj30 l0 a2 (!t365))) = some r := by rw [if_pos rfl] at H; exact H
                                        clear H
                                        have H := H1
                                        clear H1
                                        replace H := Option.bind_eq_some_iff.mp H
                                        obtain ⟨t365, A840, H⟩ := H
                                        replace H : (laws_FnTriesSay.j5 kj30 l0 a2 (!t365)) = some r := H
                                        have A84 := Aside0.mk A840
                                        clear A840
                                        have H' := Aside0.mk H
                                        clear H
                                        go_wp2_with (first | (go_at_call 17; (with_reducible refine (spec_FairIndex.calls kj30 _ _ l0 true _ ?side1 ?side2 A82.out).mono ?_); (case side1 => repeat (first | exact (Kd.C_below HR0.out HB.out) | (with_reducible refine Kd.C_alloc ?_ _) | (with_reducible refine Kd.C_drewN ?_ _) | (with_reducible refine Kd.C_drew ?_))); (case side2 => exact HC0.out); rintro e w' ⟨rfl, ⟨nd, rfl⟩⟩; (try first | exact ⟨rfl, _, World.drewN_drewN _ _ _⟩ | exact ⟨rfl, _, Eq.trans (World.drewN_drewN _ _ _) (congrArg (World.drewN _) (Nat.add_assoc _ _ _))⟩)) | (go_at_call 18; (with_reducible refine (laws_rising.calls kj30 _ _ l0 t365 _ ?side1 ?side2 A84.out).mono ?_); (case side1 => repeat (first | exact (Kd.C_below HR0.out (by repeat (first | (with_reducible first | exact HB.out | apply below_alloc | apply pw_below_drewN | apply below_drew1) | exact HB.out))) | (with_reducible refine Kd.C_alloc ?_ _) | (with_reducible refine Kd.C_drewN ?_ _) | (with_reducible refine Kd.C_drew ?_))); (case side2 => exact HC0.out); rintro e w85 ⟨rfl, hb⟩; have n0_ := Aside0.mk (below_step (by repeat (first | (with_reducible first | exact HB.out | apply below_alloc | apply pw_below_drewN | apply below_drew1) | exact HB.out)) hb); clear HB; have HB := n0_; clear n0_; (try clear hb); (try clear hb2); (try clear hk); (try clear hi)))
                                        repeat (go_quiet (first | (go_at_call 17; (with_reducible refine (spec_FairIndex.calls kj30 _ _ l0 true _ ?side1 ?side2 A82.out).mono ?_); (case side1 => repeat (first | exact (Kd.C_below HR0.out HB.out) | (with_reducible refine Kd.C_alloc ?_ _) | (with_reducible refine Kd.C_drewN ?_ _) | (with_reducible refine Kd.C_drew ?_))); (case side2 => exact HC0.out); rintro e w' ⟨rfl, ⟨nd, rfl⟩⟩; (try first | exact ⟨rfl, _, World.drewN_drewN _ _ _⟩ | exact ⟨rfl, _, Eq.trans (World.drewN_drewN _ _ _) (congrArg (World.drewN _) (Nat.add_assoc _ _ _))⟩)) | (go_at_call 18; (with_reducible refine (laws_rising.calls kj30 _ _ l0 t365 _ ?side1 ?side2 A84.out).mono ?_); (case side1 => repeat (first | exact (Kd.C_below HR0.out (by repeat (first | (with_reducible first | exact HB.out | apply below_alloc | apply pw_below_drewN | apply below_drew1) | exact HB.out))) | (with_reducible refine Kd.C_alloc ?_ _) | (with_reducible refine Kd.C_drewN ?_ _) | (with_reducible refine Kd.C_drew ?_))); (case side2 => exact HC0.out); rintro e w85 ⟨rfl, hb⟩; have n0_ := Aside0.mk (below_step (by repeat (first | (with_reducible first | exact HB.out | apply below_alloc | apply pw_below_drewN | apply below_drew1) | exact HB.out)) hb); clear HB; have HB := n0_; clear n0_; (try clear hb); (try clear hb2); (try clear hk); (try clear hi))); try go_wp2_with (first | (go_at_call 17; (with_reducible refine (spec_FairIndex.calls kj30 _ _ l0 true _ ?side1 ?side2 A82.out).mono ?_); (case side1 => repeat (first | exact (Kd.C_below HR0.out HB.out) | (with_reducible refine Kd.C_alloc ?_ _) | (with_reducible refine Kd.C_drewN ?_ _) | (with_reducible refine Kd.C_drew ?_))); (case side2 => exact HC0.out); rintro e w' ⟨rfl, ⟨nd, rfl⟩⟩; (try first | exact ⟨rfl, _, World.drewN_drewN _ _ _⟩ | exact ⟨rfl, _, Eq.trans (World.drewN_drewN _ _ _) (congrArg (World.drewN _) (Nat.add_assoc _ _ _))⟩)) | (go_at_call 18; (with_reducible refine (laws_rising.calls kj30 _ _ l0 t365 _ ?side1 ?side2 A84.out).mono ?_); (case side1 => repeat (first | exact (Kd.C_below HR0.out (by repeat (first | (with_reducible first | exact HB.out | apply below_alloc | apply pw_below_drewN | apply below_drew1) | exact HB.out))) | (with_reducible refine Kd.C_alloc ?_ _) | (with_reducible refine Kd.C_drewN ?_ _) | (with_reducible refine Kd.C_drew ?_))); (case side2 => exact HC0.out); rintro e w85 ⟨rfl, hb⟩; have n0_ := Aside0.mk (below_step (by repeat (first | (with_reducible first | exact HB.out | apply below_alloc | apply pw_below_drewN | apply below_drew1) | exact HB.out)) hb); clear HB; have HB := n0_; clear n0_; (try clear hb); (try clear hb2); (try clear hk); (try clear hi))))
                                        go_meet
                                        case rel => exact ⟨_, (!t365), (by first | rfl | (simp; done) | (simp [*]; done)), H', ⟨by have := HJ3.out; have := HJ10.out; have := HJ25.out; have := HJ30.out; first | omega | exact Nat.le_refl _⟩, ⟨by repeat (first | (with_reducible first | exact HB.out | apply below_alloc | apply pw_below_drewN | apply below_drew1) | exact HB.out)⟩⟩
                                      · replace c83 := Bool.eq_false_iff.mpr c83
                                        subst c83
                                        have H1 : (laws_FnTriesSay.j5 kj30 l0 a2 true) = some r := by rw [if_neg (show ¬ (false = true) by decide)] at H; exact H
                                        clear H
                                        have H := H1
                                        clear H1
                                        have H' := Aside0.mk H
                                        clear H
                                        go_wp2_with (first | (go_at_call 17; (with_reducible refine (spec_FairIndex.calls kj30 _ _ l0 false _ ?side1 ?side2 A82.out).mono ?_); (case side1 => repeat (first | exact (Kd.C_below HR0.out HB.out) | (with_reducible refine Kd.C_alloc ?_ _) | (with_reducible refine Kd.C_drewN ?_ _) | (with_reducible refine Kd.C_drew ?_))); (case side2 => exact HC0.out); rintro e w' ⟨rfl, ⟨nd, rfl⟩⟩; (try first | exact ⟨rfl, _, World.drewN_drewN _ _ _⟩ | exact ⟨rfl, _, Eq.trans (World.drewN_drewN _ _ _) (congrArg (World.drewN _) (Nat.add_assoc _ _ _))⟩)))
                                        repeat (go_quiet (first | (go_at_call 17; (with_reducible refine (spec_FairIndex.calls kj30 _ _ l0 false _ ?side1 ?side2 A82.out).mono ?_); (case side1 => repeat (first | exact (Kd.C_below HR0.out HB.out) | (with_reducible refine Kd.C_alloc ?_ _) | (with_reducible refine Kd.C_drewN ?_ _) | (with_reducible refine Kd.C_drew ?_))); (case side2 => exact HC0.out); rintro e w' ⟨rfl, ⟨nd, rfl⟩⟩; (try first | exact ⟨rfl, _, World.drewN_drewN _ _ _⟩ | exact ⟨rfl, _, Eq.trans (World.drewN_drewN _ _ _) (congrArg (World.drewN _) (Nat.add_assoc _ _ _))⟩))); try go_wp2_with (first | (go_at_call 17; (with_reducible refine (spec_FairIndex.calls kj30 _ _ l0 false _ ?side1 ?side2 A82.out).mono ?_); (case side1 => repeat (first | exact (Kd.C_below HR0.out HB.out) | (with_reducible refine Kd.C_alloc ?_ _) | (with_reducible refine Kd.C_drewN ?_ _) | (with_reducible refine Kd.C_drew ?_))); (case side2 => exact HC0.out); rintro e w' ⟨rfl, ⟨nd, rfl⟩⟩; (try first | exact ⟨rfl, _, World.drewN_drewN _ _ _⟩ | exact ⟨rfl, _, Eq.trans (World.drewN_drewN _ _ _) (congrArg (World.drewN _) (Nat.add_assoc _ _ _))⟩))))
                                        go_meet
                                        case rel => exact ⟨_, (true), (by first | rfl | (simp; done) | (simp [*]; done)), H', ⟨by have := HJ3.out; have := HJ10.out; have := HJ25.out; have := HJ30.out; first | omega | exact Nat.le_refl _⟩, ⟨by repeat (first | (with_reducible first | exact HB.out | apply below_alloc | apply pw_below_drewN | apply below_drew1) | exact HB.out)⟩⟩
                                  case rest =>
                                    as_aux_lemma =>
                                      clear HC81
                                      try clear c1
                                      try clear c2
                                      try clear p2
                                      try clear c3
                                      try clear c4
                                      try clear c5
                                      try clear c6
                                      try clear c7
                                      try clear c7b0
                                      try clear c7b1
                                      try clear c8
                                      try clear c10
                                      try clear c13
                                      try clear c13b0
                                      try clear c13b1
                                      try clear c15
                                      try clear c23
                                      try clear c25
                                      try clear c28
                                      try clear c32
                                      try clear c41
                                      try clear c42
                                      try clear c43
                                      try clear c43b0
                                      try clear c43b1
                                      try clear c43b2
                                      try clear c44
                                      try clear c45
                                      try clear c45b0
                                      try clear c45b1
                                      try clear c47
                                      try clear c56
                                      try clear c64
                                      try clear c67
                                      try clear c68
                                      try clear c68b0
                                      try clear c68b1
                                      try clear c68b2
                                      try clear c71
                                      try clear c72
                                      try clear c72b0
                                      try clear c72b1
                                      try clear c83
                                      try clear p2
                                      obtain ⟨kq, x168_80, rfl, HA, HJ80, HB⟩ := hcut
                                      cases kq with
                                      | zero => exact absurd HA.out (by simp [laws_FnTriesSay.j5])
                                      | succ kj80 =>
                                        have H := HA.out
                                        clear HA
                                        simp only [laws_FnTriesSay.j5] at H
                                        by_cases c86 : x168_80 = true
                                        · subst c86
                                          have H1 : (some true) = some r := by rw [if_pos rfl] at H; exact H
                                          clear H
                                          have H := H1
                                          clear H1
                                          obtain rfl := Option.some.inj H
                                          go_wp2
                                          repeat (go_quiet (fail); try go_wp2)
                                          go_ret
                                          exact ⟨by first | rfl | (simp [errW_none, errW_some] <;> rfl) | (simp [*, errW_none, errW_some] <;> rfl), by repeat (first | (with_reducible first | exact HB.out | apply below_alloc | apply pw_below_drewN | apply below_drew1) | exact HB.out)⟩
                                        · replace c86 := Bool.eq_false_iff.mpr c86
                                          subst c86
                                          have H1 : ((impl_IndexSearch.f l0 a2).bind fun bt366 => ((impl_IndexPrefixes.f l0 a2).bind fun bt370 => ((spec_IndexPrefixes.f kj80 l0 a2).bind fun bt377 => (if bt366.2 = true then (if bt370.2.2 = true then ((spec_IndexSearch.f kj80 l0 a2).bind fun t383 => ((laws_sameInts.f kj80 bt366.1 t383).bind fun t386 => (if t386 = true then ((laws_sameInts.f kj80 bt370.1 bt377.1).bind fun t387 => (if t387 = true then (laws_FnTriesSay.j6 kj80 bt370.2.1 bt377.2 ((bt370.2.1.length : Int) != (bt377.2.length : Int))) else (laws_FnTriesSay.j6 kj80 bt370.2.1 bt377.2 true))) else (laws_FnTriesSay.j6 kj80 bt370.2.1 bt377.2 true)))) else (laws_FnTriesSay.j6 kj80 bt370.2.1 bt377.2 true)) else (laws_FnTriesSay.j6 kj80 bt370.2.1 bt377.2 true))))) = some r := by rw [if_neg (show ¬ (false = true) by decide)] at H; exact H
                                          clear H
                                          have H := H1
                                          clear H1
                                          replace H := Option.bind_eq_some_iff.mp H
                                          obtain ⟨⟨t366, t367⟩, A870, H⟩ := H
                                          replace H : ((impl_IndexPrefixes.f l0 a2).bind fun bt370 => ((spec_IndexPrefixes.f kj80 l0 a2).bind fun bt377 => (if t367 = true then (if bt370.2.2 = true then ((spec_IndexSearch.f kj80 l0 a2).bind fun t383 => ((laws_sameInts.f kj80 t366 t383).bind fun t386 => (if t386 = true then ((laws_sameInts.f kj80 bt370.1 bt377.1).bind fun t387 => (if t387 = true then (laws_FnTriesSay.j6 kj80 bt370.2.1 bt377.2 ((bt370.2.1.length : Int) != (bt377.2.length : Int))) else (laws_FnTriesSay.j6 kj80 bt370.2.1 bt377.2 true))) else (laws_FnTriesSay.j6 kj80 bt370.2.1 bt377.2 true)))) else (laws_FnTriesSay.j6 kj80 bt370.2.1 bt377.2 true)) else (laws_FnTriesSay.j6 kj80 bt370.2.1 bt377.2 true)))) = some r := H
                                          have A87 := Aside0.mk A870
                                          clear A870
                                          replace H := Option.bind_eq_some_iff.mp H
                                          obtain ⟨⟨t370, t371, t372⟩, A880, H⟩ := H
                                          replace H : ((spec_IndexPrefixes.f kj80 l0 a2).bind fun bt377 => (if t367 = true then (if t372 = true then ((spec_IndexSearch.f kj80 l0 a2).bind fun t383 => ((laws_sameInts.f kj80 t366 t383).bind fun t386 => (if t386 = true then ((laws_sameInts.f kj80 t370 bt377.1).bind fun t387 => (if t387 = true then (laws_FnTriesSay.j6 kj80 t371 bt377.2 ((t371.length : Int) != (bt377.2.length : Int))) else (laws_FnTriesSay.j6 kj80 t371 bt377.2 true))) else (laws_FnTriesSay.j6 kj80 t371 bt377.2 true)))) else (laws_FnTriesSay.j6 kj80 t371 bt377.2 true)) else (laws_FnTriesSay.j6 kj80 t371 bt377.2 true))) = some r := H
                                          have A88 := Aside0.mk A880
                                          clear A880
                                          replace H := Option.bind_eq_some_iff.mp H
                                          obtain ⟨⟨t377, t378⟩, A890, H⟩ := H
                                          replace H : (if t367 = true then (if t372 = true then ((spec_IndexSearch.f kj80 l0 a2).bind fun t383 => ((laws_sameInts.f kj80 t366 t383).bind fun t386 => (if t386 = true then ((laws_sameInts.f kj80 t370 t377).bind fun t387 => (if t387 = true then (laws_FnTriesSay.j6 kj80 t371 t378 ((t371.length : Int) != (t378.length : Int))) else (laws_FnTriesSay.j6 kj80 t371 t378 true))) else (laws_FnTriesSay.j6 kj80 t371 t378 true)))) else (laws_FnTriesSay.j6 kj80 t371 t378 true)) else (laws_FnTriesSay.j6 kj80 t371 t378 true)) = some r := H
                                          have A89 := Aside0.mk A890
                                          clear A890
                                          have HC90 := Aside0.mk H
                                          clear H
                                          go_upto_region 25 with (first | (go_at_call 19; (with_reducible refine (impl_IndexSearch.calls _ _ l0 a2 t366 t367 _ ?side1 ?side2 A87.out).mono ?_); (case side1 => repeat (first | exact (Kd.C_below HR0.out HB.out) | (with_reducible refine Kd.C_alloc ?_ _) | (with_reducible refine Kd.C_drewN ?_ _) | (with_reducible refine Kd.C_drew ?_))); (case side2 => exact HC0.out); rintro e w91 ⟨v368, rfl, ho0, hb⟩; have n0_ := Aside0.mk (Kd.R_lower ho0 (below_size (by repeat (first | (with_reducible first | exact HB.out | apply below_alloc | apply pw_below_drewN | apply below_drew1) | exact HB.out)))); have n1_ := Aside0.mk (below_step (by repeat (first | (with_reducible first | exact HB.out | apply below_alloc | apply pw_below_drewN | apply below_drew1) | exact HB.out)) hb); clear HB; have HO369 := n0_; have HB := n1_; clear n0_ n1_; (try clear hb); (try clear hb2); (try clear hk); (try clear hi); (try clear ho0)) | (go_at_call 20; (with_reducible refine (impl_IndexPrefixes.calls _ _ l0 a2 t370 t371 t372 _ ?side1 ?side2 A88.out).mono ?_); (case side1 => repeat (first | exact (Kd.C_below HR0.out HB.out) | (with_reducible refine Kd.C_alloc ?_ _) | (with_reducible refine Kd.C_drewN ?_ _) | (with_reducible refine Kd.C_drew ?_))); (case side2 => exact HC0.out); rintro e w92 ⟨v373, v375, rfl, ho0, ho1, hb⟩; have n0_ := Aside0.mk (Kd.R_elder' (by (with_reducible repeat (first | apply Kd.R_alloc | apply Kd.R_drewN | apply Kd.R_drew)); exact HO369.out) (by first | exact Kd.N_base ho0 | exact Kd.S_base ho0 | exact Kd.R_base ho0) hb); have n1_ := Aside0.mk (Kd.R_lower (Kd.R_new' ho0 (Kd.R_lt (by (with_reducible repeat (first | apply Kd.R_alloc | apply Kd.R_drewN | apply Kd.R_drew)); exact HO369.out))) (below_size (by repeat (first | (with_reducible first | exact HB.out | apply below_alloc | apply pw_below_drewN | apply below_drew1) | exact HB.out)))); have n2_ := Aside0.mk (Kd.S_lower (Kd.S_new' ho1 (Kd.R_lt (by (with_reducible repeat (first | apply Kd.R_alloc | apply Kd.R_drewN | apply Kd.R_drew)); exact HO369.out))) (below_size (by repeat (first | (with_reducible first | exact HB.out | apply below_alloc | apply pw_below_drewN | apply below_drew1) | exact HB.out)))); have n3_ := Aside0.mk (below_step (by repeat (first | (with_reducible first | exact HB.out | apply below_alloc | apply pw_below_drewN | apply below_drew1) | exact HB.out)) hb); clear HO369; clear HB; have HO369 := n0_; have HO374 := n1_; have HO376 := n2_; have HB := n3_; clear n0_ n1_ n2_ n3_; (try clear hb); (try clear hb2); (try clear hk); (try clear hi); (try clear ho0); (try clear ho1)) | (go_at_call 21; (with_reducible refine (spec_IndexPrefixes.calls kj80 _ _ l0 a2 t377 t378 _ ?side1 ?side2 A89.out).mono ?_); (case side1 => repeat (first | exact (Kd.C_below HR0.out HB.out) | (with_reducible refine Kd.C_alloc ?_ _) | (with_reducible refine Kd.C_drewN ?_ _) | (with_reducible refine Kd.C_drew ?_))); (case side2 => exact HC0.out); rintro e w93 ⟨v379, v381, rfl, ho0, ho1, hb⟩; have n0_ := Aside0.mk (Kd.R_elder' (by (with_reducible repeat (first | apply Kd.R_alloc | apply Kd.R_drewN | apply Kd.R_drew)); exact HO369.out) (by first | exact Kd.N_base ho0 | exact Kd.S_base ho0 | exact Kd.R_base ho0) hb); have n1_ := Aside0.mk (Kd.R_elder' (by (with_reducible repeat (first | apply Kd.R_alloc | apply Kd.R_drewN | apply Kd.R_drew)); exact HO374.out) (by first | exact Kd.N_base ho0 | exact Kd.S_base ho0 | exact Kd.R_base ho0) hb); have n2_ := Aside0.mk (Kd.S_mono (Kd.S_told (Kd.S_told (Kd.S_old (by (with_reducible repeat (first | apply Kd.S_alloc | apply Kd.S_drewN | apply Kd.S_drew)); exact HO376.out) hb) (by first | exact Kd.N_base ho0 | exact Kd.S_base ho0 | exact Kd.R_base ho0)) (by first | exact Kd.N_base ho1 | exact Kd.S_base ho1 | exact Kd.R_base ho1)) (fun _ h_ => h_.1)); have n3_ := Aside0.mk (Kd.R_lower (Kd.R_new' (Kd.R_new' ho0 (Kd.R_lt (by (with_reducible repeat (first | apply Kd.R_alloc | apply Kd.R_drewN | apply Kd.R_drew)); exact HO369.out))) (Kd.R_lt (by (with_reducible repeat (first | apply Kd.R_alloc | apply Kd.R_drewN | apply Kd.R_drew)); exact HO374.out))) (below_size (by repeat (first | (with_reducible first | exact HB.out | apply below_alloc | apply pw_below_drewN | apply below_drew1) | exact HB.out)))); have n4_ := Aside0.mk (Kd.S_lower (Kd.S_new' (Kd.S_new' (Kd.S_new' ho1 (Kd.R_lt (by (with_reducible repeat (first | apply Kd.R_alloc | apply Kd.R_drewN | apply Kd.R_drew)); exact HO369.out))) (Kd.R_lt (by (with_reducible repeat (first | apply Kd.R_alloc | apply Kd.R_drewN | apply Kd.R_drew)); exact HO374.out))) (Kd.S_lt (by (with_reducible repeat (first | apply Kd.S_alloc | apply Kd.S_drewN | apply Kd.S_drew)); exact HO376.out))) (below_size (by repeat (first | (with_reducible first | exact HB.out | apply below_alloc | apply pw_below_drewN | apply below_drew1) | exact HB.out)))); have n5_ := Aside0.mk (below_step (by repeat (first | (with_reducible first | exact HB.out | apply below_alloc | apply pw_below_drewN | apply below_drew1) | exact HB.out)) hb); clear HO369; clear HO374; clear HO376; clear HB; have HO369 := n0_; have HO374 := n1_; have HO376 := n2_; have HO380 := n3_; have HO382 := n4_; have HB := n5_; clear n0_ n1_ n2_ n3_ n4_ n5_; (try clear hb); (try clear hb2); (try clear hk); (try clear hi); (try clear ho0); (try clear ho1)))
                                          repeat (go_quiet (first | (go_at_call 19; (with_reducible refine (impl_IndexSearch.calls _ _ l0 a2 t366 t367 _ ?side1 ?side2 A87.out).mono ?_); (case side1 => repeat (first | exact (Kd.C_below HR0.out HB.out) | (with_reducible refine Kd.C_alloc ?_ _) | (with_reducible refine Kd.C_drewN ?_ _) | (with_reducible refine Kd.C_drew ?_))); (case side2 => exact HC0.out); rintro e w91 ⟨v368, rfl, ho0, hb⟩; have n0_ := Aside0.mk (Kd.R_lower ho0 (below_size (by repeat (first | (with_reducible first | exact HB.out | apply below_alloc | apply pw_below_drewN | apply below_drew1) | exact HB.out)))); have n1_ := Aside0.mk (below_step (by repeat (first | (with_reducible first | exact HB.out | apply below_alloc | apply pw_below_drewN | apply below_drew1) | exact HB.out)) hb); clear HB; have HO369 := n0_; have HB := n1_; clear n0_ n1_; (try clear hb); (try clear hb2); (try clear hk); (try clear hi); (try clear ho0)) | (go_at_call 20; (with_reducible refine (impl_IndexPrefixes.calls _ _ l0 a2 t370 t371 t372 _ ?side1 ?side2 A88.out).mono ?_); (case side1 => repeat (first | exact (Kd.C_below HR0.out HB.out) | (with_reducible refine Kd.C_alloc ?_ _) | (with_reducible refine Kd.C_drewN ?_ _) | (with_reducible refine Kd.C_drew ?_))); (case side2 => exact HC0.out); rintro e w92 ⟨v373, v375, rfl, ho0, ho1, hb⟩; have n0_ := Aside0.mk (Kd.R_elder' (by (with_reducible repeat (first | apply Kd.R_alloc | apply Kd.R_drewN | apply Kd.R_drew)); exact HO369.out) (by first | exact Kd.N_base ho0 | exact Kd.S_base ho0 | exact Kd.R_base ho0) hb); have n1_ := Aside0.mk (Kd.R_lower (Kd.R_new' ho0 (Kd.R_lt (by (with_reducible repeat (first | apply Kd.R_alloc | apply Kd.R_drewN | apply Kd.R_drew)); exact HO369.out))) (below_size (by repeat (first | (with_reducible first | exact HB.out | apply below_alloc | apply pw_below_drewN | apply below_drew1) | exact HB.out)))); have n2_ := Aside0.mk (Kd.S_lower (Kd.S_new' ho1 (Kd.R_lt (by (with_reducible repeat (first | apply Kd.R_alloc | apply Kd.R_drewN | apply Kd.R_drew)); exact HO369.out))) (below_size (by repeat (first | (with_reducible first | exact HB.out | apply below_alloc | apply pw_below_drewN | apply below_drew1) | exact HB.out)))); have n3_ := Aside0.mk (below_step (by repeat (first | (with_reducible first | exact HB.out | apply below_alloc | apply pw_below_drewN | apply below_drew1) | exact HB.out)) hb); clear HO369; clear HB; have HO369 := n0_; have HO374 := n1_; have HO376 := n2_; have HB := n3_; clear n0_ n1_ n2_ n3_; (try clear hb); (try clear hb2); (try clear hk); (try clear hi); (try clear ho0); (try clear ho1)) | (go_at_call 21; (with_reducible refine (spec_IndexPrefixes.calls kj80 _ _ l0 a2 t377 t378 _ ?side1 ?side2 A89.out).mono ?_); (case side1 => repeat (first | exact (Kd.C_below HR0.out HB.out) | (with_reducible refine Kd.C_alloc ?_ _) | (with_reducible refine Kd.C_drewN ?_ _) | (with_reducible refine Kd.C_drew ?_))); (case side2 => exact HC0.out); rintro e w93 ⟨v379, v381, rfl, ho0, ho1, hb⟩; have n0_ := Aside0.mk (Kd.R_elder' (by (with_reducible repeat (first | apply Kd.R_alloc | apply Kd.R_drewN | apply Kd.R_drew)); exact HO369.out) (by first | exact Kd.N_base ho0 | exact Kd.S_base ho0 | exact Kd.R_base ho0) hb); have n1_ := Aside0.mk (Kd.R_elder' (by (with_reducible repeat (first | apply Kd.R_alloc | apply Kd.R_drewN | apply Kd.R_drew)); exact HO374.out) (by first | exact Kd.N_base ho0 | exact Kd.S_base ho0 | exact Kd.R_base ho0) hb); have n2_ := Aside0.mk (Kd.S_mono (Kd.S_told (Kd.S_told (Kd.S_old (by (with_reducible repeat (first | apply Kd.S_alloc | apply Kd.S_drewN | apply Kd.S_drew)); exact HO376.out) hb) (by first | exact Kd.N_base ho0 | exact Kd.S_base ho0 | exact Kd.R_base ho0)) (by first | exact Kd.N_base ho1 | exact Kd.S_base ho1 | exact Kd.R_base ho1)) (fun _ h_ => h_.1)); have n3_ := Aside0.mk (Kd.R_lower (Kd.R_new' (Kd.R_new' ho0 (Kd.R_lt (by (with_reducible repeat (first | apply Kd.R_alloc | apply Kd.R_drewN | apply Kd.R_drew)); exact HO369.out))) (Kd.R_lt (by (with_reducible repeat (first | apply Kd.R_alloc | apply Kd.R_drewN | apply Kd.R_drew)); exact HO374.out))) (below_size (by repeat (first | (with_reducible first | exact HB.out | apply below_alloc | apply pw_below_drewN | apply below_drew1) | exact HB.out)))); have n4_ := Aside0.mk (Kd.S_lower (Kd.S_new' (Kd.S_new' (Kd.S_new' ho1 (Kd.R_lt (by (with_reducible repeat (first | apply Kd.R_alloc | apply Kd.R_drewN | apply Kd.R_drew)); exact HO369.out))) (Kd.R_lt (by (with_reducible repeat (first | apply Kd.R_alloc | apply Kd.R_drewN | apply Kd.R_drew)); exact HO374.out))) (Kd.S_lt (by (with_reducible repeat (first | apply Kd.S_alloc | apply Kd.S_drewN | apply Kd.S_drew)); exact HO376.out))) (below_size (by repeat (first | (with_reducible first | exact HB.out | apply below_alloc | apply pw_below_drewN | apply below_drew1) | exact HB.out)))); have n5_ := Aside0.mk (below_step (by repeat (first | (with_reducible first | exact HB.out | apply below_alloc | apply pw_below_drewN | apply below_drew1) | exact HB.out)) hb); clear HO369; clear HO374; clear HO376; clear HB; have HO369 := n0_; have HO374 := n1_; have HO376 := n2_; have HO380 := n3_; have HO382 := n4_; have HB := n5_; clear n0_ n1_ n2_ n3_ n4_ n5_; (try clear hb); (try clear hb2); (try clear hk); (try clear hi); (try clear ho0); (try clear ho1))); go_upto_region 25 with (first | (go_at_call 19; (with_reducible refine (impl_IndexSearch.calls _ _ l0 a2 t366 t367 _ ?side1 ?side2 A87.out).mono ?_); (case side1 => repeat (first | exact (Kd.C_below HR0.out HB.out) | (with_reducible refine Kd.C_alloc ?_ _) | (with_reducible refine Kd.C_drewN ?_ _) | (with_reducible refine Kd.C_drew ?_))); (case side2 => exact HC0.out); rintro e w91 ⟨v368, rfl, ho0, hb⟩; have n0_ := Aside0.mk (Kd.R_lower ho0 (below_size (by repeat (first | (with_reducible first | exact HB.out | apply below_alloc | apply pw_below_drewN | apply below_drew1) | exact HB.out)))); have n1_ := Aside0.mk (below_step (by repeat (first | (with_reducible first | exact HB.out | apply below_alloc | apply pw_below_drewN | apply below_drew1) | exact HB.out)) hb); clear HB; have HO369 := n0_; have HB := n1_; clear n0_ n1_; (try clear hb); (try clear hb2); (try clear hk); (try clear hi); (try clear ho0)) | (go_at_call 20; (with_reducible refine (impl_IndexPrefixes.calls _ _ l0 a2 t370 t371 t372 _ ?side1 ?side2 A88.out).mono ?_); (case side1 => repeat (first | exact (Kd.C_below HR0.out HB.out) | (with_reducible refine Kd.C_alloc ?_ _) | (with_reducible refine Kd.C_drewN ?_ _) | (with_reducible refine Kd.C_drew ?_))); (case side2 => exact HC0.out); rintro e w92 ⟨v373, v375, rfl, ho0, ho1, hb⟩; have n0_ := Aside0.mk (Kd.R_elder' (by (with_reducible repeat (first | apply Kd.R_alloc | apply Kd.R_drewN | apply Kd.R_drew)); exact HO369.out) (by first | exact Kd.N_base ho0 | exact Kd.S_base ho0 | exact Kd.R_base ho0) hb); have n1_ := Aside0.mk (Kd.R_lower (Kd.R_new' ho0 (Kd.R_lt (by (with_reducible repeat (first | apply Kd.R_alloc | apply Kd.R_drewN | apply Kd.R_drew)); exact HO369.out))) (below_size (by repeat (first | (with_reducible first | exact HB.out | apply below_alloc | apply pw_below_drewN | apply below_drew1) | exact HB.out)))); have n2_ := Aside0.mk (Kd.S_lower (Kd.S_new' ho1 (Kd.R_lt (by (with_reducible repeat (first | apply Kd.R_alloc | apply Kd.R_drewN | apply Kd.R_drew)); exact HO369.out))) (below_size (by repeat (first | (with_reducible first | exact HB.out | apply below_alloc | apply pw_below_drewN | apply below_drew1) | exact HB.out)))); have n3_ := Aside0.mk (below_step (by repeat (first | (with_reducible first | exact HB.out | apply below_alloc | apply pw_below_drewN | apply below_drew1) | exact HB.out)) hb); clear HO369; clear HB; have HO369 := n0_; have HO374 := n1_; have HO376 := n2_; have HB := n3_; clear n0_ n1_ n2_ n3_; (try clear hb); (try clear hb2); (try clear hk); (try clear hi); (try clear ho0); (try clear ho1)) | (go_at_call 21; (with_reducible refine (spec_IndexPrefixes.calls kj80 _ _ l0 a2 t377 t378 _ ?side1 ?side2 A89.out).mono ?_); (case side1 => repeat (first | exact (Kd.C_below HR0.out HB.out) | (with_reducible refine Kd.C_alloc ?_ _) | (with_reducible refine Kd.C_drewN ?_ _) | (with_reducible refine Kd.C_drew ?_))); (case side2 => exact HC0.out); rintro e w93 ⟨v379, v381, rfl, ho0, ho1, hb⟩; have n0_ := Aside0.mk (Kd.R_elder' (by (with_reducible repeat (first | apply Kd.R_alloc | apply Kd.R_drewN | apply Kd.R_drew)); exact HO369.out) (by first | exact Kd.N_base ho0 | exact Kd.S_base ho0 | exact Kd.R_base ho0) hb); have n1_ := Aside0.mk (Kd.R_elder' (by (with_reducible repeat (first | apply Kd.R_alloc | apply Kd.R_drewN | apply Kd.R_drew)); exact HO374.out) (by first | exact Kd.N_base ho0 | exact Kd.S_base ho0 | exact Kd.R_base ho0) hb); have n2_ := Aside0.mk (Kd.S_mono (Kd.S_told (Kd.S_told (Kd.S_old (by (with_reducible repeat (first | apply Kd.S_alloc | apply Kd.S_drewN | apply Kd.S_drew)); exact HO376.out) hb) (by first | exact Kd.N_base ho0 | exact Kd.S_base ho0 | exact Kd.R_base ho0)) (by first | exact Kd.N_base ho1 | exact Kd.S_base ho1 | exact Kd.R_base ho1)) (fun _ h_ => h_.1)); have n3_ := Aside0.mk (Kd.R_lower (Kd.R_new' (Kd.R_new' ho0 (Kd.R_lt (by (with_reducible repeat (first | apply Kd.R_alloc | apply Kd.R_drewN | apply Kd.R_drew)); exact HO369.out))) (Kd.R_lt (by (with_reducible repeat (first | apply Kd.R_alloc | apply Kd.R_drewN | apply Kd.R_drew)); exact HO374.out))) (below_size (by repeat (first | (with_reducible first | exact HB.out | apply below_alloc | apply pw_below_drewN | apply below_drew1) | exact HB.out)))); have n4_ := Aside0.mk (Kd.S_lower (Kd.S_new' (Kd.S_new' (Kd.S_new' ho1 (Kd.R_lt (by (with_reducible repeat (first | apply Kd.R_alloc | apply Kd.R_drewN | apply Kd.R_drew)); exact HO369.out))) (Kd.R_lt (by (with_reducible repeat (first | apply Kd.R_alloc | apply Kd.R_drewN | apply Kd.R_drew)); exact HO374.out))) (Kd.S_lt (by (with_reducible repeat (first | apply Kd.S_alloc | apply Kd.S_drewN | apply Kd.S_drew)); exact HO376.out))) (below_size (by repeat (first | (with_reducible first | exact HB.out | apply below_alloc | apply pw_below_drewN | apply below_drew1) | exact HB.out)))); have n5_ := Aside0.mk (below_step (by repeat (first | (with_reducible first | exact HB.out | apply below_alloc | apply pw_below_drewN | apply below_drew1) | exact HB.out)) hb); clear HO369; clear HO374; clear HO376; clear HB; have HO369 := n0_; have HO374 := n1_; have HO376 := n2_; have HO380 := n3_; have HO382 := n4_; have HB := n5_; clear n0_ n1_ n2_ n3_ n4_ n5_; (try clear hb); (try clear hb2); (try clear hk); (try clear hi); (try clear ho0); (try clear ho1))))
                                          (try simp only [Act.put, List.setIfInBounds_toArray, List.set_cons_zero, List.set_cons_succ])
                                          go_cut [214] (fun v214 wc => ∃ (kq : Nat) (x214_89 : Bool), v214 = .bool x214_89 ∧ Aside0 (laws_FnTriesSay.j6 kq t371 t378 x214_89 = some r) ∧ Aside0 (kq ≤ kj80) ∧ Aside0 (Kd.S (Kd.slice 3 (Kd.int .i64)) 23 wc w.heap.size (fun k_ => some k_ ≠ (v381 : Value).ownBlock) v375 t371) ∧ Aside0 (Kd.S (Kd.slice 3 (Kd.int .i64)) 23 wc w.heap.size (fun k_ => some k_ ≠ (v375 : Value).ownBlock) v381 t378) ∧ Aside0 (Below w.heap.size w wc))
                                          case first =>
                                            as_aux_lemma =>
                                              have H := HC90.out
                                              clear HC90
                                              by_cases c94 : t367 = true
                                              · subst c94
                                                have H1 : (if t372 = true then ((spec_IndexSearch.f kj80 l0 a2).bind fun t383 => ((laws_sameInts.f kj80 t366 t383).bind fun t386 => (if t386 = true then ((laws_sameInts.f kj80 t370 t377).bind fun t387 => (if t387 = true then (laws_FnTriesSay.j6 kj80 t371 t378 ((t371.length : Int) != (t378.length : Int))) else (laws_FnTriesSay.j6 kj80 t371 t378 true))) else (laws_FnTriesSay.j6 kj80 t371 t378 true)))) else (laws_FnTriesSay.j6 kj80 t371 t378 true)) = some r := by rw [if_pos rfl] at H; exact H
                                                clear H
                                                have H := H1
                                                clear H1
                                                by_cases c95 : t372 = true
                                                · subst c95
                                                  have H1 : ((spec_IndexSearch.f kj80 l0 a2).bind fun t383 => ((laws_sameInts.f kj80 t366 t383).bind fun t386 => (if t386 = true then ((laws_sameInts.f kj80 t370 t377).bind fun t387 => (if t387 = true then (laws_FnTriesSay.j6 kj80 t371 t378 ((t371.length : Int) != (t378.length : Int))) else (laws_FnTriesSay.j6 kj80 t371 t378 true))) else (laws_FnTriesSay.j6 kj80 t371 t378 true)))) = some r := by rw [if_pos rfl] at H; exact H
                                                  clear H
                                                  have H := H1
                                                  clear H1
                                                  replace H := Option.bind_eq_some_iff.mp H
                                                  obtain ⟨t383, A960, H⟩ := H
                                                  replace H : ((laws_sameInts.f kj80 t366 t383).bind fun t386 => (if t386 = true then ((laws_sameInts.f kj80 t370 t377).bind fun t387 => (if t387 = true then (laws_FnTriesSay.j6 kj80 t371 t378 ((t371.length : Int) != (t378.length : Int))) else (laws_FnTriesSay.j6 kj80 t371 t378 true))) else (laws_FnTriesSay.j6 kj80 t371 t378 true))) = some r := H
                                                  have A96 := Aside0.mk A960
                                                  clear A960
                                                  replace H := Option.bind_eq_some_iff.mp H
                                                  obtain ⟨t386, A970, H⟩ := H
                                                  replace H : (if t386 = true then ((laws_sameInts.f kj80 t370 t377).bind fun t387 => (if t387 = true then (laws_FnTriesSay.j6 kj80 t371 t378 ((t371.length : Int) != (t378.length : Int))) else (laws_FnTriesSay.j6 kj80 t371 t378 true))) else (laws_FnTriesSay.j6 kj80 t371 t378 true)) = some r := H
                                                  have A97 := Aside0.mk A970
                                                  clear A970
                                                  by_cases c98 : t386 = true
                                                  · subst c98
                                                    have H1 : ((laws_sameInts.f kj80 t370 t377).bind fun t387 => (if t387 = true then (laws_FnTriesSay.j6 kj80 t371 t378 ((t371.length : Int) != (t378.length : Int))) else (laws_FnTriesSay.j6 kj80 t371 t378 true))) = some r := by rw [if_pos rfl] at H; exact H
                                                    clear H
                                                    have H := H1
                                                    clear H1
                                                    replace H := Option.bind_eq_some_iff.mp H
                                                    obtain ⟨t387, A990, H⟩ := H
                                                    replace H : (if t387 = true then (laws_FnTriesSay.j6 kj80 t371 t378 ((t371.length : Int) != (t378.length : Int))) else (laws_FnTriesSay.j6 kj80 t371 t378 true)) = some r := H
                                                    have A99 := Aside0.mk A990
                                                    clear A990
                                                    by_cases c100 : t387 = true
                                                    · subst c100
                                                      have H1 : (laws_FnTriesSay.j6 kj80 t371 t378 ((t371.length : Int) != (t378.length : Int))) = some r := by rw [if_pos rfl] at H; exact H
                                                      clear H
                                                      have H := H1
                                                      clear H1
                                                      have H' := Aside0.mk H
                                                      clear H
                                                      go_wp2_with (first | (go_at_call 22; (with_reducible refine (spec_IndexSearch.calls kj80 _ _ l0 a2 t383 _ ?side1 ?side2 A96.out).mono ?_); (case side1 => repeat (first | exact (Kd.C_below HR0.out HB.out) | (with_reducible refine Kd.C_alloc ?_ _) | (with_reducible refine Kd.C_drewN ?_ _) | (with_reducible refine Kd.C_drew ?_))); (case side2 => exact HC0.out); rintro e w101 ⟨v384, rfl, ho0, hb⟩; have n0_ := Aside0.mk (Kd.R_elder' (by (with_reducible repeat (first | apply Kd.R_alloc | apply Kd.R_drewN | apply Kd.R_drew)); exact HO369.out) (by first | exact Kd.N_base ho0 | exact Kd.S_base ho0 | exact Kd.R_base ho0) hb); have n1_ := Aside0.mk (Kd.R_elder' (by (with_reducible repeat (first | apply Kd.R_alloc | apply Kd.R_drewN | apply Kd.R_drew)); exact HO374.out) (by first | exact Kd.N_base ho0 | exact Kd.S_base ho0 | exact Kd.R_base ho0) hb); have n2_ := Aside0.mk (Kd.S_elder' (by (with_reducible repeat (first | apply Kd.S_alloc | apply Kd.S_drewN | apply Kd.S_drew)); exact HO376.out) (by first | exact Kd.N_base ho0 | exact Kd.S_base ho0 | exact Kd.R_base ho0) hb); have n3_ := Aside0.mk (Kd.R_elder' (by (with_reducible repeat (first | apply Kd.R_alloc | apply Kd.R_drewN | apply Kd.R_drew)); exact HO380.out) (by first | exact Kd.N_base ho0 | exact Kd.S_base ho0 | exact Kd.R_base ho0) hb); have n4_ := Aside0.mk (Kd.S_elder' (by (with_reducible repeat (first | apply Kd.S_alloc | apply Kd.S_drewN | apply Kd.S_drew)); exact HO382.out) (by first | exact Kd.N_base ho0 | exact Kd.S_base ho0 | exact Kd.R_base ho0) hb); have n5_ := Aside0.mk (Kd.R_lower (Kd.R_new' (Kd.R_new' (Kd.R_new' ho0 (Kd.R_lt (by (with_reducible repeat (first | apply Kd.R_alloc | apply Kd.R_drewN | apply Kd.R_drew)); exact HO369.out))) (Kd.R_lt (by (with_reducible repeat (first | apply Kd.R_alloc | apply Kd.R_drewN | apply Kd.R_drew)); exact HO374.out))) (Kd.R_lt (by (with_reducible repeat (first | apply Kd.R_alloc | apply Kd.R_drewN | apply Kd.R_drew)); exact HO380.out))) (below_size (by repeat (first | (with_reducible first | exact HB.out | apply below_alloc | apply pw_below_drewN | apply below_drew1) | exact HB.out)))); have n6_ := Aside0.mk (below_step (by repeat (first | (with_reducible first | exact HB.out | apply below_alloc | apply pw_below_drewN | apply below_drew1) | exact HB.out)) hb); clear HO369; clear HO374; clear HO376; clear HO380; clear HO382; clear HB; have HO369 := n0_; have HO374 := n1_; have HO376 := n2_; have HO380 := n3_; have HO382 := n4_; have HO385 := n5_; have HB := n6_; clear n0_ n1_ n2_ n3_ n4_ n5_ n6_; (try clear hb); (try clear hb2); (try clear hk); (try clear hi); (try clear ho0); obtain ⟨Ao102, co102, eo102⟩ := Kd.R_slice HO369.out; subst eo102; obtain ⟨Ao103, co103, eo103⟩ := Kd.R_slice HO385.out; subst eo103) | (go_at_call 14; (with_reducible refine (laws_sameInts.calls kj80 _ _ t366 _ _ t383 true _ ?side1 ?side2 ?side3 ?side4 A97.out).mono ?_); (case side1 => repeat (first | exact (Kd.R_reads' HO369.out).2.2 | (with_reducible refine Kd.C_alloc ?_ _) | (with_reducible refine Kd.C_drewN ?_ _) | (with_reducible refine Kd.C_drew ?_))); (case side2 => exact (Kd.R_reads' HO369.out).2.1); (case side3 => repeat (first | exact (Kd.R_reads' HO385.out).2.2 | (with_reducible refine Kd.C_alloc ?_ _) | (with_reducible refine Kd.C_drewN ?_ _) | (with_reducible refine Kd.C_drew ?_))); (case side4 => exact (Kd.R_reads' HO385.out).2.1); rintro e w' ⟨rfl, ⟨nd, rfl⟩⟩; (try first | exact ⟨rfl, _, World.drewN_drewN _ _ _⟩ | exact ⟨rfl, _, Eq.trans (World.drewN_drewN _ _ _) (congrArg (World.drewN _) (Nat.add_assoc _ _ _))⟩); obtain ⟨Ao104, co104, eo104⟩ := Kd.R_slice HO374.out; subst eo104; obtain ⟨Ao105, co105, eo105⟩ := Kd.R_slice HO380.out; subst eo105) | (go_at_call 14; (with_reducible refine (laws_sameInts.calls kj80 _ _ t370 _ _ t377 true _ ?side1 ?side2 ?side3 ?side4 A99.out).mono ?_); (case side1 => repeat (first | exact (Kd.R_reads' HO374.out).2.2 | (with_reducible refine Kd.C_alloc ?_ _) | (with_reducible refine Kd.C_drewN ?_ _) | (with_reducible refine Kd.C_drew ?_))); (case side2 => exact (Kd.R_reads' HO374.out).2.1); (case side3 => repeat (first | exact (Kd.R_reads' HO380.out).2.2 | (with_reducible refine Kd.C_alloc ?_ _) | (with_reducible refine Kd.C_drewN ?_ _) | (with_reducible refine Kd.C_drew ?_))); (case side4 => exact (Kd.R_reads' HO380.out).2.1); rintro e w' ⟨rfl, ⟨nd, rfl⟩⟩; (try first | exact ⟨rfl, _, World.drewN_drewN _ _ _⟩ | exact ⟨rfl, _, Eq.trans (World.drewN_drewN _ _ _) (congrArg (World.drewN _) (Nat.add_assoc _ _ _))⟩); obtain ⟨Ao106, co106, eo106⟩ := Kd.S_slice HO376.out; subst eo106; obtain ⟨Ao107, co107, eo107⟩ := Kd.S_slice HO382.out; subst eo107))
                                                      repeat (go_quiet (first | (go_at_call 22; (with_reducible refine (spec_IndexSearch.calls kj80 _ _ l0 a2 t383 _ ?side1 ?side2 A96.out).mono ?_); (case side1 => repeat (first | exact (Kd.C_below HR0.out HB.out) | (with_reducible refine Kd.C_alloc ?_ _) | (with_reducible refine Kd.C_drewN ?_ _) | (with_reducible refine Kd.C_drew ?_))); (case side2 => exact HC0.out); rintro e w101 ⟨v384, rfl, ho0, hb⟩; have n0_ := Aside0.mk (Kd.R_elder' (by (with_reducible repeat (first | apply Kd.R_alloc | apply Kd.R_drewN | apply Kd.R_drew)); exact HO369.out) (by first | exact Kd.N_base ho0 | exact Kd.S_base ho0 | exact Kd.R_base ho0) hb); have n1_ := Aside0.mk (Kd.R_elder' (by (with_reducible repeat (first | apply Kd.R_alloc | apply Kd.R_drewN | apply Kd.R_drew)); exact HO374.out) (by first | exact Kd.N_base ho0 | exact Kd.S_base ho0 | exact Kd.R_base ho0) hb); have n2_ := Aside0.mk (Kd.S_elder' (by (with_reducible repeat (first | apply Kd.S_alloc | apply Kd.S_drewN | apply Kd.S_drew)); exact HO376.out) (by first | exact Kd.N_base ho0 | exact Kd.S_base ho0 | exact Kd.R_base ho0) hb); have n3_ := Aside0.mk (Kd.R_elder' (by (with_reducible repeat (first | apply Kd.R_alloc | apply Kd.R_drewN | apply Kd.R_drew)); exact HO380.out) (by first | exact Kd.N_base ho0 | exact Kd.S_base ho0 | exact Kd.R_base ho0) hb); have n4_ := Aside0.mk (Kd.S_elder' (by (with_reducible repeat (first | apply Kd.S_alloc | apply Kd.S_drewN | apply Kd.S_drew)); exact HO382.out) (by first | exact Kd.N_base ho0 | exact Kd.S_base ho0 | exact Kd.R_base ho0) hb); have n5_ := Aside0.mk (Kd.R_lower (Kd.R_new' (Kd.R_new' (Kd.R_new' ho0 (Kd.R_lt (by (with_reducible repeat (first | apply Kd.R_alloc | apply Kd.R_drewN | apply Kd.R_drew)); exact HO369.out))) (Kd.R_lt (by (with_reducible repeat (first | apply Kd.R_alloc | apply Kd.R_drewN | apply Kd.R_drew)); exact HO374.out))) (Kd.R_lt (by (with_reducible repeat (first | apply Kd.R_alloc | apply Kd.R_drewN | apply Kd.R_drew)); exact HO380.out))) (below_size (by repeat (first | (with_reducible first | exact HB.out | apply below_alloc | apply pw_below_drewN | apply below_drew1) | exact HB.out)))); have n6_ := Aside0.mk (below_step (by repeat (first | (with_reducible first | exact HB.out | apply below_alloc | apply pw_below_drewN | apply below_drew1) | exact HB.out)) hb); clear HO369; clear HO374; clear HO376; clear HO380; clear HO382; clear HB; have HO369 := n0_; have HO374 := n1_; have HO376 := n2_; have HO380 := n3_; have HO382 := n4_; have HO385 := n5_; have HB := n6_; clear n0_ n1_ n2_ n3_ n4_ n5_ n6_; (try clear hb); (try clear hb2); (try clear hk); (try clear hi); (try clear ho0); obtain ⟨Ao102, co102, eo102⟩ := Kd.R_slice HO369.out; subst eo102; obtain ⟨Ao103, co103, eo103⟩ := Kd.R_slice HO385.out; subst eo103) | (go_at_call 14; (with_reducible refine (laws_sameInts.calls kj80 _ _ t366 _ _ t383 true _ ?side1 ?side2 ?side3 ?side4 A97.out).mono ?_); (case side1 => repeat (first | exact (Kd.R_reads' HO369.out).2.2 | (with_reducible refine Kd.C_alloc ?_ _) | (with_reducible refine Kd.C_drewN ?_ _) | (with_reducible refine Kd.C_drew ?_))); (case side2 => exact (Kd.R_reads' HO369.out).2.1); (case side3 => repeat (first | exact (Kd.R_reads' HO385.out).2.2 | (with_reducible refine Kd.C_alloc ?_ _) | (with_reducible refine Kd.C_drewN ?_ _) | (with_reducible refine Kd.C_drew ?_))); (case side4 => exact (Kd.R_reads' HO385.out).2.1); rintro e w' ⟨rfl, ⟨nd, rfl⟩⟩; (try first | exact ⟨rfl, _, World.drewN_drewN _ _ _⟩ | exact ⟨rfl, _, Eq.trans (World.drewN_drewN _ _ _) (congrArg (World.drewN _) (Nat.add_assoc _ _ _))⟩); obtain ⟨Ao104, co104, eo104⟩ := Kd.R_slice HO374.out; subst eo104; obtain ⟨Ao105, co105, eo105⟩ := Kd.R_slice HO380.out; subst eo105) | (go_at_call 14; (with_reducible refine (laws_sameInts.calls kj80 _ _ t370 _ _ t377 true _ ?side1 ?side2 ?side3 ?side4 A99.out).mono ?_); (case side1 => repeat (first | exact (Kd.R_reads' HO374.out).2.2 | (with_reducible refine Kd.C_alloc ?_ _) | (with_reducible refine Kd.C_drewN ?_ _) | (with_reducible refine Kd.C_drew ?_))); (case side2 => exact (Kd.R_reads' HO374.out).2.1); (case side3 => repeat (first | exact (Kd.R_reads' HO380.out).2.2 | (with_reducible refine Kd.C_alloc ?_ _) | (with_reducible refine Kd.C_drewN ?_ _) | (with_reducible refine Kd.C_drew ?_))); (case side4 => exact (Kd.R_reads' HO380.out).2.1); rintro e w' ⟨rfl, ⟨nd, rfl⟩⟩; (try first | exact ⟨rfl, _, World.drewN_drewN _ _ _⟩ | exact ⟨rfl, _, Eq.trans (World.drewN_drewN _ _ _) (congrArg (World.drewN _) (Nat.add_assoc _ _ _))⟩); obtain ⟨Ao106, co106, eo106⟩ := Kd.S_slice HO376.out; subst eo106; obtain ⟨Ao107, co107, eo107⟩ := Kd.S_slice HO382.out; subst eo107)); try go_wp2_with (first | (go_at_call 22; (with_reducible refine (spec_IndexSearch.calls kj80 _ _ l0 a2 t383 _ ?side1 ?side2 A96.out).mono ?_); (case side1 => repeat (first | exact (Kd.C_below HR0.out HB.out) | (with_reducible refine Kd.C_alloc ?_ _) | (with_reducible refine Kd.C_drewN ?_ _) | (with_reducible refine Kd.C_drew ?_))); (case side2 => exact HC0.out); rintro e w101 ⟨v384, rfl, ho0, hb⟩; have n0_ := Aside0.mk (Kd.R_elder' (by (with_reducible repeat (first | apply Kd.R_alloc | apply Kd.R_drewN | apply Kd.R_drew)); exact HO369.out) (by first | exact Kd.N_base ho0 | exact Kd.S_base ho0 | exact Kd.R_base ho0) hb); have n1_ := Aside0.mk (Kd.R_elder' (by (with_reducible repeat (first | apply Kd.R_alloc | apply Kd.R_drewN | apply Kd.R_drew)); exact HO374.out) (by first | exact Kd.N_base ho0 | exact Kd.S_base ho0 | exact Kd.R_base ho0) hb); have n2_ := Aside0.mk (Kd.S_elder' (by (with_reducible repeat (first | apply Kd.S_alloc | apply Kd.S_drewN | apply Kd.S_drew)); exact HO376.out) (by first | exact Kd.N_base ho0 | exact Kd.S_base ho0 | exact Kd.R_base ho0) hb); have n3_ := Aside0.mk (Kd.R_elder' (by (with_reducible repeat (first | apply Kd.R_alloc | apply Kd.R_drewN | apply Kd.R_drew)); exact HO380.out) (by first | exact Kd.N_base ho0 | exact Kd.S_base ho0 | exact Kd.R_base ho0) hb); have n4_ := Aside0.mk (Kd.S_elder' (by (with_reducible repeat (first | apply Kd.S_alloc | apply Kd.S_drewN | apply Kd.S_drew)); exact HO382.out) (by first | exact Kd.N_base ho0 | exact Kd.S_base ho0 | exact Kd.R_base ho0) hb); have n5_ := Aside0.mk (Kd.R_lower (Kd.R_new' (Kd.R_new' (Kd.R_new' ho0 (Kd.R_lt (by (with_reducible repeat (first | apply Kd.R_alloc | apply Kd.R_drewN | apply Kd.R_drew)); exact HO369.out))) (Kd.R_lt (by (with_reducible repeat (first | apply Kd.R_alloc | apply Kd.R_drewN | apply Kd.R_drew)); exact HO374.out))) (Kd.R_lt (by (with_reducible repeat (first | apply Kd.R_alloc | apply Kd.R_drewN | apply Kd.R_drew)); exact HO380.out))) (below_size (by repeat (first | (with_reducible first | exact HB.out | apply below_alloc | apply pw_below_drewN | apply below_drew1) | exact HB.out)))); have n6_ := Aside0.mk (below_step (by repeat (first | (with_reducible first | exact HB.out | apply below_alloc | apply pw_below_drewN | apply below_drew1) | exact HB.out)) hb); clear HO369; clear HO374; clear HO376; clear HO380; clear HO382; clear HB; have HO369 := n0_; have HO374 := n1_; have HO376 := n2_; have HO380 := n3_; have HO382 := n4_; have HO385 := n5_; have HB := n6_; clear n0_ n1_ n2_ n3_ n4_ n5_ n6_; (try clear hb); (try clear hb2); (try clear hk); (try clear hi); (try clear ho0); obtain ⟨Ao102, co102, eo102⟩ := Kd.R_slice HO369.out; subst eo102; obtain ⟨Ao103, co103, eo103⟩ := Kd.R_slice HO385.out; subst eo103) | (go_at_call 14; (with_reducible refine (laws_sameInts.calls kj80 _ _ t366 _ _ t383 true _ ?side1 ?side2 ?side3 ?side4 A97.out).mono ?_); (case side1 => repeat (first | exact (Kd.R_reads' HO369.out).2.2 | (with_reducible refine Kd.C_alloc ?_ _) | (with_reducible refine Kd.C_drewN ?_ _) | (with_reducible refine Kd.C_drew ?_))); (case side2 => exact (Kd.R_reads' HO369.out).2.1); (case side3 => repeat (first | exact (Kd.R_reads' HO385.out).2.2 | (with_reducible refine Kd.C_alloc ?_ _) | (with_reducible refine Kd.C_drewN ?_ _) | (with_reducible refine Kd.C_drew ?_))); (case side4 => exact (Kd.R_reads' HO385.out).2.1); rintro e w' ⟨rfl, ⟨nd, rfl⟩⟩; (try first | exact ⟨rfl, _, World.drewN_drewN _ _ _⟩ | exact ⟨rfl, _, Eq.trans (World.drewN_drewN _ _ _) (congrArg (World.drewN _) (Nat.add_assoc _ _ _))⟩); obtain ⟨Ao104, co104, eo104⟩ := Kd.R_slice HO374.out; subst eo104; obtain ⟨Ao105, co105, eo105⟩ := Kd.R_slice HO380.out; subst eo105) | (go_at_call 14; (with_reducible refine (laws_sameInts.calls kj80 _ _ t370 _ _ t377 true _ ?side1 ?side2 ?side3 ?side4 A99.out).mono ?_); (case side1 => repeat (first | exact (Kd.R_reads' HO374.out).2.2 | (with_reducible refine Kd.C_alloc ?_ _) | (with_reducible refine Kd.C_drewN ?_ _) | (with_reducible refine Kd.C_drew ?_))); (case side2 => exact (Kd.R_reads' HO374.out).2.1); (case side3 => repeat (first | exact (Kd.R_reads' HO380.out).2.2 | (with_reducible refine Kd.C_alloc ?_ _) | (with_reducible refine Kd.C_drewN ?_ _) | (with_reducible refine Kd.C_drew ?_))); (case side4 => exact (Kd.R_reads' HO380.out).2.1); rintro e w' ⟨rfl, ⟨nd, rfl⟩⟩; (try first | exact ⟨rfl, _, World.drewN_drewN _ _ _⟩ | exact ⟨rfl, _, Eq.trans (World.drewN_drewN _ _ _) (congrArg (World.drewN _) (Nat.add_assoc _ _ _))⟩); obtain ⟨Ao106, co106, eo106⟩ := Kd.S_slice HO376.out; subst eo106; obtain ⟨Ao107, co107, eo107⟩ := Kd.S_slice HO382.out; subst eo107)))
                                                      go_meet
                                                      case rel => exact ⟨_, (((t371.length : Int) != (t378.length : Int))), (by first | rfl | (simp; done) | (simp [*]; done)), H', ⟨by have := HJ3.out; have := HJ10.out; have := HJ25.out; have := HJ30.out; have := HJ80.out; first | omega | exact Nat.le_refl _⟩, ⟨by (with_reducible repeat (first | apply Kd.S_alloc | apply Kd.S_drewN | apply Kd.S_drew)); exact Kd.S_mono HO376.out (fun _ hk => hk.1.2)⟩, ⟨by (with_reducible repeat (first | apply Kd.S_alloc | apply Kd.S_drewN | apply Kd.S_drew)); exact Kd.S_mono HO382.out (fun _ hk => hk.1.2)⟩, ⟨by repeat (first | (with_reducible first | exact HB.out | apply below_alloc | apply pw_below_drewN | apply below_drew1) | exact HB.out)⟩⟩
                                                    · replace c100 := Bool.eq_false_iff.mpr c100
                                                      subst c100
                                                      have H1 : (laws_FnTriesSay.j6 kj80 t371 t378 true) = some r := by rw [if_neg (show ¬ (false = true) by decide)] at H; exact H
                                                      clear H
                                                      have H := H1
                                                      clear H1
                                                      have H' := Aside0.mk H
                                                      clear H
                                                      go_wp2_with (first | (go_at_call 22; (with_reducible refine (spec_IndexSearch.calls kj80 _ _ l0 a2 t383 _ ?side1 ?side2 A96.out).mono ?_); (case side1 => repeat (first | exact (Kd.C_below HR0.out HB.out) | (with_reducible refine Kd.C_alloc ?_ _) | (with_reducible refine Kd.C_drewN ?_ _) | (with_reducible refine Kd.C_drew ?_))); (case side2 => exact HC0.out); rintro e w108 ⟨v384, rfl, ho0, hb⟩; have n0_ := Aside0.mk (Kd.R_elder' (by (with_reducible repeat (first | apply Kd.R_alloc | apply Kd.R_drewN | apply Kd.R_drew)); exact HO369.out) (by first | exact Kd.N_base ho0 | exact Kd.S_base ho0 | exact Kd.R_base ho0) hb); have n1_ := Aside0.mk (Kd.R_elder' (by (with_reducible repeat (first | apply Kd.R_alloc | apply Kd.R_drewN | apply Kd.R_drew)); exact HO374.out) (by first | exact Kd.N_base ho0 | exact Kd.S_base ho0 | exact Kd.R_base ho0) hb); have n2_ := Aside0.mk (Kd.S_elder' (by (with_reducible repeat (first | apply Kd.S_alloc | apply Kd.S_drewN | apply Kd.S_drew)); exact HO376.out) (by first | exact Kd.N_base ho0 | exact Kd.S_base ho0 | exact Kd.R_base ho0) hb); have n3_ := Aside0.mk (Kd.R_elder' (by (with_reducible repeat (first | apply Kd.R_alloc | apply Kd.R_drewN | apply Kd.R_drew)); exact HO380.out) (by first | exact Kd.N_base ho0 | exact Kd.S_base ho0 | exact Kd.R_base ho0) hb); have n4_ := Aside0.mk (Kd.S_elder' (by (with_reducible repeat (first | apply Kd.S_alloc | apply Kd.S_drewN | apply Kd.S_drew)); exact HO382.out) (by first | exact Kd.N_base ho0 | exact Kd.S_base ho0 | exact Kd.R_base ho0) hb); have n5_ := Aside0.mk (Kd.R_lower (Kd.R_new' (Kd.R_new' (Kd.R_new' ho0 (Kd.R_lt (by (with_reducible repeat (first | apply Kd.R_alloc | apply Kd.R_drewN | apply Kd.R_drew)); exact HO369.out))) (Kd.R_lt (by (with_reducible repeat (first | apply Kd.R_alloc | apply Kd.R_drewN | apply Kd.R_drew)); exact HO374.out))) (Kd.R_lt (by (with_reducible repeat (first | apply Kd.R_alloc | apply Kd.R_drewN | apply Kd.R_drew)); exact HO380.out))) (below_size (by repeat (first | (with_reducible first | exact HB.out | apply below_alloc | apply pw_below_drewN | apply below_drew1) | exact HB.out)))); have n6_ := Aside0.mk (below_step (by repeat (first | (with_reducible first | exact HB.out | apply below_alloc | apply pw_below_drewN | apply below_drew1) | exact HB.out)) hb); clear HO369; clear HO374; clear HO376; clear HO380; clear HO382; clear HB; have HO369 := n0_; have HO374 := n1_; have HO376 := n2_; have HO380 := n3_; have HO382 := n4_; have HO385 := n5_; have HB := n6_; clear n0_ n1_ n2_ n3_ n4_ n5_ n6_; (try clear hb); (try clear hb2); (try clear hk); (try clear hi); (try clear ho0); obtain ⟨Ao109, co109, eo109⟩ := Kd.R_slice HO369.out; subst eo109; obtain ⟨Ao110, co110, eo110⟩ := Kd.R_slice HO385.out; subst eo110) | (go_at_call 14; (with_reducible refine (laws_sameInts.calls kj80 _ _ t366 _ _ t383 true _ ?side1 ?side2 ?side3 ?side4 A97.out).mono ?_); (case side1 => repeat (first | exact (Kd.R_reads' HO369.out).2.2 | (with_reducible refine Kd.C_alloc ?_ _) | (with_reducible refine Kd.C_drewN ?_ _) | (with_reducible refine Kd.C_drew ?_))); (case side2 => exact (Kd.R_reads' HO369.out).2.1); (case side3 => repeat (first | exact (Kd.R_reads' HO385.out).2.2 | (with_reducible refine Kd.C_alloc ?_ _) | (with_reducible refine Kd.C_drewN ?_ _) | (with_reducible refine Kd.C_drew ?_))); (case side4 => exact (Kd.R_reads' HO385.out).2.1); rintro e w' ⟨rfl, ⟨nd, rfl⟩⟩; (try first | exact ⟨rfl, _, World.drewN_drewN _ _ _⟩ | exact ⟨rfl, _, Eq.trans (World.drewN_drewN _ _ _) (congrArg (World.drewN _) (Nat.add_assoc _ _ _))⟩); obtain ⟨Ao111, co111, eo111⟩ := Kd.R_slice HO374.out; subst eo111; obtain ⟨Ao112, co112, eo112⟩ := Kd.R_slice HO380.out; subst eo112) | (go_at_call 14; (with_reducible refine (laws_sameInts.calls kj80 _ _ t370 _ _ t377 false _ ?side1 ?side2 ?side3 ?side4 A99.out).mono ?_); (case side1 => repeat (first | exact (Kd.R_reads' HO374.out).2.2 | (with_reducible refine Kd.C_alloc ?_ _) | (with_reducible refine Kd.C_drewN ?_ _) | (with_reducible refine Kd.C_drew ?_))); (case side2 => exact (Kd.R_reads' HO374.out).2.1); (case side3 => repeat (first | exact (Kd.R_reads' HO380.out).2.2 | (with_reducible refine Kd.C_alloc ?_ _) | (with_reducible refine Kd.C_drewN ?_ _) | (with_reducible refine Kd.C_drew ?_))); (case side4 => exact (Kd.R_reads' HO380.out).2.1); rintro e w' ⟨rfl, ⟨nd, rfl⟩⟩; (try first | exact ⟨rfl, _, World.drewN_drewN _ _ _⟩ | exact ⟨rfl, _, Eq.trans (World.drewN_drewN _ _ _) (congrArg (World.drewN _) (Nat.add_assoc _ _ _))⟩)))
                                                      repeat (go_quiet (first | (go_at_call 22; (with_reducible refine (spec_IndexSearch.calls kj80 _ _ l0 a2 t383 _ ?side1 ?side2 A96.out).mono ?_); (case side1 => repeat (first | exact (Kd.C_below HR0.out HB.out) | (with_reducible refine Kd.C_alloc ?_ _) | (with_reducible refine Kd.C_drewN ?_ _) | (with_reducible refine Kd.C_drew ?_))); (case side2 => exact HC0.out); rintro e w108 ⟨v384, rfl, ho0, hb⟩; have n0_ := Aside0.mk (Kd.R_elder' (by (with_reducible repeat (first | apply Kd.R_alloc | apply Kd.R_drewN | apply Kd.R_drew)); exact HO369.out) (by first | exact Kd.N_base ho0 | exact Kd.S_base ho0 | exact Kd.R_base ho0) hb); have n1_ := Aside0.mk (Kd.R_elder' (by (with_reducible repeat (first | apply Kd.R_alloc | apply Kd.R_drewN | apply Kd.R_drew)); exact HO374.out) (by first | exact Kd.N_base ho0 | exact Kd.S_base ho0 | exact Kd.R_base ho0) hb); have n2_ := Aside0.mk (Kd.S_elder' (by (with_reducible repeat (first | apply Kd.S_alloc | apply Kd.S_drewN | apply Kd.S_drew)); exact HO376.out) (by first | exact Kd.N_base ho0 | exact Kd.S_base ho0 | exact Kd.R_base ho0) hb); have n3_ := Aside0.mk (Kd.R_elder' (by (with_reducible repeat (first | apply Kd.R_alloc | apply Kd.R_drewN | apply Kd.R_drew)); exact HO380.out) (by first | exact Kd.N_base ho0 | exact Kd.S_base ho0 | exact Kd.R_base ho0) hb); have n4_ := Aside0.mk (Kd.S_elder' (by (with_reducible repeat (first | apply Kd.S_alloc | apply Kd.S_drewN | apply Kd.S_drew)); exact HO382.out) (by first | exact Kd.N_base ho0 | exact Kd.S_base ho0 | exact Kd.R_base ho0) hb); have n5_ := Aside0.mk (Kd.R_lower (Kd.R_new' (Kd.R_new' (Kd.R_new' ho0 (Kd.R_lt (by (with_reducible repeat (first | apply Kd.R_alloc | apply Kd.R_drewN | apply Kd.R_drew)); exact HO369.out))) (Kd.R_lt (by (with_reducible repeat (first | apply Kd.R_alloc | apply Kd.R_drewN | apply Kd.R_drew)); exact HO374.out))) (Kd.R_lt (by (with_reducible repeat (first | apply Kd.R_alloc | apply Kd.R_drewN | apply Kd.R_drew)); exact HO380.out))) (below_size (by repeat (first | (with_reducible first | exact HB.out | apply below_alloc | apply pw_below_drewN | apply below_drew1) | exact HB.out)))); have n6_ := Aside0.mk (below_step (by repeat (first | (with_reducible first | exact HB.out | apply below_alloc | apply pw_below_drewN | apply below_drew1) | exact HB.out)) hb); clear HO369; clear HO374; clear HO376; clear HO380; clear HO382; clear HB; have HO369 := n0_; have HO374 := n1_; have HO376 := n2_; have HO380 := n3_; have HO382 := n4_; have HO385 := n5_; have HB := n6_; clear n0_ n1_ n2_ n3_ n4_ n5_ n6_; (try clear hb); (try clear hb2); (try clear hk); (try clear hi); (try clear ho0); obtain ⟨Ao109, co109, eo109⟩ := Kd.R_slice HO369.out; subst eo109; obtain ⟨Ao110, co110, eo110⟩ := Kd.R_slice HO385.out; subst eo110) | (go_at_call 14; (with_reducible refine (laws_sameInts.calls kj80 _ _ t366 _ _ t383 true _ ?side1 ?side2 ?side3 ?side4 A97.out).mono ?_); (case side1 => repeat (first | exact (Kd.R_reads' HO369.out).2.2 | (with_reducible refine Kd.C_alloc ?_ _) | (with_reducible refine Kd.C_drewN ?_ _) | (with_reducible refine Kd.C_drew ?_))); (case side2 => exact (Kd.R_reads' HO369.out).2.1); (case side3 => repeat (first | exact (Kd.R_reads' HO385.out).2.2 | (with_reducible refine Kd.C_alloc ?_ _) | (with_reducible refine Kd.C_drewN ?_ _) | (with_reducible refine Kd.C_drew ?_))); (case side4 => exact (Kd.R_reads' HO385.out).2.1); rintro e w' ⟨rfl, ⟨nd, rfl⟩⟩; (try first | exact ⟨rfl, _, World.drewN_drewN _ _ _⟩ | exact ⟨rfl, _, Eq.trans (World.drewN_drewN _ _ _) (congrArg (World.drewN _) (Nat.add_assoc _ _ _))⟩); obtain ⟨Ao111, co111, eo111⟩ := Kd.R_slice HO374.out; subst eo111; obtain ⟨Ao112, co112, eo112⟩ := Kd.R_slice HO380.out; subst eo112) | (go_at_call 14; (with_reducible refine (laws_sameInts.calls kj80 _ _ t370 _ _ t377 false _ ?side1 ?side2 ?side3 ?side4 A99.out).mono ?_); (case side1 => repeat (first | exact (Kd.R_reads' HO374.out).2.2 | (with_reducible refine Kd.C_alloc ?_ _) | (with_reducible refine Kd.C_drewN ?_ _) | (with_reducible refine Kd.C_drew ?_))); (case side2 => exact (Kd.R_reads' HO374.out).2.1); (case side3 => repeat (first | exact (Kd.R_reads' HO380.out).2.2 | (with_reducible refine Kd.C_alloc ?_ _) | (with_reducible refine Kd.C_drewN ?_ _) | (with_reducible refine Kd.C_drew ?_))); (case side4 => exact (Kd.R_reads' HO380.out).2.1); rintro e w' ⟨rfl, ⟨nd, rfl⟩⟩; (try first | exact ⟨rfl, _, World.drewN_drewN _ _ _⟩ | exact ⟨rfl, _, Eq.trans (World.drewN_drewN _ _ _) (congrArg (World.drewN _) (Nat.add_assoc _ _ _))⟩))); try go_wp2_with (first | (go_at_call 22; (with_reducible refine (spec_IndexSearch.calls kj80 _ _ l0 a2 t383 _ ?side1 ?side2 A96.out).mono ?_); (case side1 => repeat (first | exact (Kd.C_below HR0.out HB.out) | (with_reducible refine Kd.C_alloc ?_ _) | (with_reducible refine Kd.C_drewN ?_ _) | (with_reducible refine Kd.C_drew ?_))); (case side2 => exact HC0.out); rintro e w108 ⟨v384, rfl, ho0, hb⟩; have n0_ := Aside0.mk (Kd.R_elder' (by (with_reducible repeat (first | apply Kd.R_alloc | apply Kd.R_drewN | apply Kd.R_drew)); exact HO369.out) (by first | exact Kd.N_base ho0 | exact Kd.S_base ho0 | exact Kd.R_base ho0) hb); have n1_ := Aside0.mk (Kd.R_elder' (by (with_reducible repeat (first | apply Kd.R_alloc | apply Kd.R_drewN | apply Kd.R_drew)); exact HO374.out) (by first | exact Kd.N_base ho0 | exact Kd.S_base ho0 | exact Kd.R_base ho0) hb); have n2_ := Aside0.mk (Kd.S_elder' (by (with_reducible repeat (first | apply Kd.S_alloc | apply Kd.S_drewN | apply Kd.S_drew)); exact HO376.out) (by first | exact Kd.N_base ho0 | exact Kd.S_base ho0 | exact Kd.R_base ho0) hb); have n3_ := Aside0.mk (Kd.R_elder' (by (with_reducible repeat (first | apply Kd.R_alloc | apply Kd.R_drewN | apply Kd.R_drew)); exact HO380.out) (by first | exact Kd.N_base ho0 | exact Kd.S_base ho0 | exact Kd.R_base ho0) hb); have n4_ := Aside0.mk (Kd.S_elder' (by (with_reducible repeat (first | apply Kd.S_alloc | apply Kd.S_drewN | apply Kd.S_drew)); exact HO382.out) (by first | exact Kd.N_base ho0 | exact Kd.S_base ho0 | exact Kd.R_base ho0) hb); have n5_ := Aside0.mk (Kd.R_lower (Kd.R_new' (Kd.R_new' (Kd.R_new' ho0 (Kd.R_lt (by (with_reducible repeat (first | apply Kd.R_alloc | apply Kd.R_drewN | apply Kd.R_drew)); exact HO369.out))) (Kd.R_lt (by (with_reducible repeat (first | apply Kd.R_alloc | apply Kd.R_drewN | apply Kd.R_drew)); exact HO374.out))) (Kd.R_lt (by (with_reducible repeat (first | apply Kd.R_alloc | apply Kd.R_drewN | apply Kd.R_drew)); exact HO380.out))) (below_size (by repeat (first | (with_reducible first | exact HB.out | apply below_alloc | apply pw_below_drewN | apply below_drew1) | exact HB.out)))); have n6_ := Aside0.mk (below_step (by repeat (first | (with_reducible first | exact HB.out | apply below_alloc | apply pw_below_drewN | apply below_drew1) | exact HB.out)) hb); clear HO369; clear HO374; clear HO376; clear HO380; clear HO382; clear HB; have HO369 := n0_; have HO374 := n1_; have HO376 := n2_; have HO380 := n3_; have HO382 := n4_; have HO385 := n5_; have HB := n6_; clear n0_ n1_ n2_ n3_ n4_ n5_ n6_; (try clear hb); (try clear hb2); (try clear hk); (try clear hi); (try clear ho0); obtain ⟨Ao109, co109, eo109⟩ := Kd.R_slice HO369.out; subst eo109; obtain ⟨Ao110, co110, eo110⟩ := Kd.R_slice HO385.out; subst eo110) | (go_at_call 14; (with_reducible refine (laws_sameInts.calls kj80 _ _ t366 _ _ t383 true _ ?side1 ?side2 ?side3 ?side4 A97.out).mono ?_); (case side1 => repeat (first | exact (Kd.R_reads' HO369.out).2.2 | (with_reducible refine Kd.C_alloc ?_ _) | (with_reducible refine Kd.C_drewN ?_ _) | (with_reducible refine Kd.C_drew ?_))); (case side2 => exact (Kd.R_reads' HO369.out).2.1); (case side3 => repeat (first | exact (Kd.R_reads' HO385.out).2.2 | (with_reducible refine Kd.C_alloc ?_ _) | (with_reducible refine Kd.C_drewN ?_ _) | (with_reducible refine Kd.C_drew ?_))); (case side4 => exact (Kd.R_reads' HO385.out).2.1); rintro e w' ⟨rfl, ⟨nd, rfl⟩⟩; (try first | exact ⟨rfl, _, World.drewN_drewN _ _ _⟩ | exact ⟨rfl, _, Eq.trans (World.drewN_drewN _ _ _) (congrArg (World.drewN _) (Nat.add_assoc _ _ _))⟩); obtain ⟨Ao111, co111, eo111⟩ := Kd.R_slice HO374.out; subst eo111; obtain ⟨Ao112, co112, eo112⟩ := Kd.R_slice HO380.out; subst eo112) | (go_at_call 14; (with_reducible refine (laws_sameInts.calls kj80 _ _ t370 _ _ t377 false _ ?side1 ?side2 ?side3 ?side4 A99.out).mono ?_); (case side1 => repeat (first | exact (Kd.R_reads' HO374.out).2.2 | (with_reducible refine Kd.C_alloc ?_ _) | (with_reducible refine Kd.C_drewN ?_ _) | (with_reducible refine Kd.C_drew ?_))); (case side2 => exact (Kd.R_reads' HO374.out).2.1); (case side3 => repeat (first | exact (Kd.R_reads' HO380.out).2.2 | (with_reducible refine Kd.C_alloc ?_ _) | (with_reducible refine Kd.C_drewN ?_ _) | (with_reducible refine Kd.C_drew ?_))); (case side4 => exact (Kd.R_reads' HO380.out).2.1); rintro e w' ⟨rfl, ⟨nd, rfl⟩⟩; (try first | exact ⟨rfl, _, World.drewN_drewN _ _ _⟩ | exact ⟨rfl, _, Eq.trans (World.drewN_drewN _ _ _) (congrArg (World.drewN _) (Nat.add_assoc _ _ _))⟩))))
                                                      go_meet
                                                      case rel => exact ⟨_, (true), (by first | rfl | (simp; done) | (simp [*]; done)), H', ⟨by have := HJ3.out; have := HJ10.out; have := HJ25.out; have := HJ30.out; have := HJ80.out; first | omega | exact Nat.le_refl _⟩, ⟨by (with_reducible repeat (first | apply Kd.S_alloc | apply Kd.S_drewN | apply Kd.S_drew)); exact Kd.S_mono HO376.out (fun _ hk => hk.1.2)⟩, ⟨by (with_reducible repeat (first | apply Kd.S_alloc | apply Kd.S_drewN | apply Kd.S_drew)); exact Kd.S_mono HO382.out (fun _ hk => hk.1.2)⟩, ⟨by repeat (first | (with_reducible first | exact HB.out | apply below_alloc | apply pw_below_drewN | apply below_drew1) | exact HB.out)⟩⟩
                                                  · replace c98 := Bool.eq_false_iff.mpr c98
                                                    subst c98
                                                    have H1 : (laws_FnTriesSay.j6 kj80 t371 t378 true) = some r := by rw [if_neg (show ¬ (false = true) by decide)] at H; exact H
                                                    clear H
                                                    have H := H1
                                                    clear H1
                                                    have H' := Aside0.mk H
                                                    clear H
                                                    go_wp2_with (first | (go_at_call 22; (with_reducible refine (spec_IndexSearch.calls kj80 _ _ l0 a2 t383 _ ?side1 ?side2 A96.out).mono ?_); (case side1 => repeat (first | exact (Kd.C_below HR0.out HB.out) | (with_reducible refine Kd.C_alloc ?_ _) | (with_reducible refine Kd.C_drewN ?_ _) | (with_reducible refine Kd.C_drew ?_))); (case side2 => exact HC0.out); rintro e w113 ⟨v384, rfl, ho0, hb⟩; have n0_ := Aside0.mk (Kd.R_elder' (by (with_reducible repeat (first | apply Kd.R_alloc | apply Kd.R_drewN | apply Kd.R_drew)); exact HO369.out) (by first | exact Kd.N_base ho0 | exact Kd.S_base ho0 | exact Kd.R_base ho0) hb); have n1_ := Aside0.mk (Kd.R_elder' (by (with_reducible repeat (first | apply Kd.R_alloc | apply Kd.R_drewN | apply Kd.R_drew)); exact HO374.out) (by first | exact Kd.N_base ho0 | exact Kd.S_base ho0 | exact Kd.R_base ho0) hb); have n2_ := Aside0.mk (Kd.S_elder' (by (with_reducible repeat (first | apply Kd.S_alloc | apply Kd.S_drewN | apply Kd.S_drew)); exact HO376.out) (by first | exact Kd.N_base ho0 | exact Kd.S_base ho0 | exact Kd.R_base ho0) hb); have n3_ := Aside0.mk (Kd.R_elder' (by (with_reducible repeat (first | apply Kd.R_alloc | apply Kd.R_drewN | apply Kd.R_drew)); exact HO380.out) (by first | exact Kd.N_base ho0 | exact Kd.S_base ho0 | exact Kd.R_base ho0) hb); have n4_ := Aside0.mk (Kd.S_elder' (by (with_reducible repeat (first | apply Kd.S_alloc | apply Kd.S_drewN | apply Kd.S_drew)); exact HO382.out) (by first | exact Kd.N_base ho0 | exact Kd.S_base ho0 | exact Kd.R_base ho0) hb); have n5_ := Aside0.mk (Kd.R_lower (Kd.R_new' (Kd.R_new' (Kd.R_new' ho0 (Kd.R_lt (by (with_reducible repeat (first | apply Kd.R_alloc | apply Kd.R_drewN | apply Kd.R_drew)); exact HO369.out))) (Kd.R_lt (by (with_reducible repeat (first | apply Kd.R_alloc | apply Kd.R_drewN | apply Kd.R_drew)); exact HO374.out))) (Kd.R_lt (by (with_reducible repeat (first | apply Kd.R_alloc | apply Kd.R_drewN | apply Kd.R_drew)); exact HO380.out))) (below_size (by repeat (first | (with_reducible first | exact HB.out | apply below_alloc | apply pw_below_drewN | apply below_drew1) | exact HB.out)))); have n6_ := Aside0.mk (below_step (by repeat (first | (with_reducible first | exact HB.out | apply below_alloc | apply pw_below_drewN | apply below_drew1) | exact HB.out)) hb); clear HO369; clear HO374; clear HO376; clear HO380; clear HO382; clear HB; have HO369 := n0_; have HO374 := n1_; have HO376 := n2_; have HO380 := n3_; have HO382 := n4_; have HO385 := n5_; have HB := n6_; clear n0_ n1_ n2_ n3_ n4_ n5_ n6_; (try clear hb); (try clear hb2); (try clear hk); (try clear hi); (try clear ho0); obtain ⟨Ao114, co114, eo114⟩ := Kd.R_slice HO369.out; subst eo114; obtain ⟨Ao115, co115, eo115⟩ := Kd.R_slice HO385.out; subst eo115) | (go_at_call 14; (with_reducible refine (laws_sameInts.calls kj80 _ _ t366 _ _ t383 false _ ?side1 ?side2 ?side3 ?side4 A97.out).mono ?_); (case side1 => repeat (first | exact (Kd.R_reads' HO369.out).2.2 | (with_reducible refine Kd.C_alloc ?_ _) | (with_reducible refine Kd.C_drewN ?_ _) | (with_reducible refine Kd.C_drew ?_))); (case side2 => exact (Kd.R_reads' HO369.out).2.1); (case side3 => repeat (first | exact (Kd.R_reads' HO385.out).2.2 | (with_reducible refine Kd.C_alloc ?_ _) | (with_reducible refine Kd.C_drewN ?_ _) | (with_reducible refine Kd.C_drew ?_))); (case side4 => exact (Kd.R_reads' HO385.out).2.1); rintro e w' ⟨rfl, ⟨nd, rfl⟩⟩; (try first | exact ⟨rfl, _, World.drewN_drewN _ _ _⟩ | exact ⟨rfl, _, Eq.trans (World.drewN_drewN _ _ _) (congrArg (World.drewN _) (Nat.add_assoc _ _ _))⟩)))
                                                    repeat (go_quiet (first | (go_at_call 22; (with_reducible refine (spec_IndexSearch.calls kj80 _ _ l0 a2 t383 _ ?side1 ?side2 A96.out).mono ?_); (case side1 => repeat (first | exact (Kd.C_below HR0.out HB.out) | (with_reducible refine Kd.C_alloc ?_ _) | (with_reducible refine Kd.C_drewN ?_ _) | (with_reducible refine Kd.C_drew ?_))); (case side2 => exact HC0.out); rintro e w113 ⟨v384, rfl, ho0, hb⟩; have n0_ := Aside0.mk (Kd.R_elder' (by (with_reducible repeat (first | apply Kd.R_alloc | apply Kd.R_drewN | apply Kd.R_drew)); exact HO369.out) (by first | exact Kd.N_base ho0 | exact Kd.S_base ho0 | exact Kd.R_base ho0) hb); have n1_ := Aside0.mk (Kd.R_elder' (by (with_reducible repeat (first | apply Kd.R_alloc | apply Kd.R_drewN | apply Kd.R_drew)); exact HO374.out) (by first | exact Kd.N_base ho0 | exact Kd.S_base ho0 | exact Kd.R_base ho0) hb); have n2_ := Aside0.mk (Kd.S_elder' (by (with_reducible repeat (first | apply Kd.S_alloc | apply Kd.S_drewN | apply Kd.S_drew)); exact HO376.out) (by first | exact Kd.N_base ho0 | exact Kd.S_base ho0 | exact Kd.R_base ho0) hb); have n3_ := Aside0.mk (Kd.R_elder' (by (with_reducible repeat (first | apply Kd.R_alloc | apply Kd.R_drewN | apply Kd.R_drew)); exact HO380.out) (by first | exact Kd.N_base ho0 | exact Kd.S_base ho0 | exact Kd.R_base ho0) hb); have n4_ := Aside0.mk (Kd.S_elder' (by (with_reducible repeat (first | apply Kd.S_alloc | apply Kd.S_drewN | apply Kd.S_drew)); exact HO382.out) (by first | exact Kd.N_base ho0 | exact Kd.S_base ho0 | exact Kd.R_base ho0) hb); have n5_ := Aside0.mk (Kd.R_lower (Kd.R_new' (Kd.R_new' (Kd.R_new' ho0 (Kd.R_lt (by (with_reducible repeat (first | apply Kd.R_alloc | apply Kd.R_drewN | apply Kd.R_drew)); exact HO369.out))) (Kd.R_lt (by (with_reducible repeat (first | apply Kd.R_alloc | apply Kd.R_drewN | apply Kd.R_drew)); exact HO374.out))) (Kd.R_lt (by (with_reducible repeat (first | apply Kd.R_alloc | apply Kd.R_drewN | apply Kd.R_drew)); exact HO380.out))) (below_size (by repeat (first | (with_reducible first | exact HB.out | apply below_alloc | apply pw_below_drewN | apply below_drew1) | exact HB.out)))); have n6_ := Aside0.mk (below_step (by repeat (first | (with_reducible first | exact HB.out | apply below_alloc | apply pw_below_drewN | apply below_drew1) | exact HB.out)) hb); clear HO369; clear HO374; clear HO376; clear HO380; clear HO382; clear HB; have HO369 := n0_; have HO374 := n1_; have HO376 := n2_; have HO380 := n3_; have HO382 := n4_; have HO385 := n5_; have HB := n6_; clear n0_ n1_ n2_ n3_ n4_ n5_ n6_; (try clear hb); (try clear hb2); (try clear hk); (try clear hi); (try clear ho0); obtain ⟨Ao114, co114, eo114⟩ := Kd.R_slice HO369.out; subst eo114; obtain ⟨Ao115, co115, eo115⟩ := Kd.R_slice HO385.out; subst eo115) | (go_at_call 14; (with_reducible refine (laws_sameInts.calls kj80 _ _ t366 _ _ t383 false _ ?side1 ?side2 ?side3 ?side4 A97.out).mono ?_); (case side1 => repeat (first | exact (Kd.R_reads' HO369.out).2.2 | (with_reducible refine Kd.C_alloc ?_ _) | (with_reducible refine Kd.C_drewN ?_ _) | (with_reducible refine Kd.C_drew ?_))); (case side2 => exact (Kd.R_reads' HO369.out).2.1); (case side3 => repeat (first | exact (Kd.R_reads' HO385.out).2.2 | (with_reducible refine Kd.C_alloc ?_ _) | (with_reducible refine Kd.C_drewN ?_ _) | (with_reducible refine Kd.C_drew ?_))); (case side4 => exact (Kd.R_reads' HO385.out).2.1); rintro e w' ⟨rfl, ⟨nd, rfl⟩⟩; (try first | exact ⟨rfl, _, World.drewN_drewN _ _ _⟩ | exact ⟨rfl, _, Eq.trans (World.drewN_drewN _ _ _) (congrArg (World.drewN _) (Nat.add_assoc _ _ _))⟩))); try go_wp2_with (first | (go_at_call 22; (with_reducible refine (spec_IndexSearch.calls kj80 _ _ l0 a2 t383 _ ?side1 ?side2 A96.out).mono ?_); (case side1 => repeat (first | exact (Kd.C_below HR0.out HB.out) | (with_reducible refine Kd.C_alloc ?_ _) | (with_reducible refine Kd.C_drewN ?_ _) | (with_reducible refine Kd.C_drew ?_))); (case side2 => exact HC0.out); rintro e w113 ⟨v384, rfl, ho0, hb⟩; have n0_ := Aside0.mk (Kd.R_elder' (by (with_reducible repeat (first | apply Kd.R_alloc | apply Kd.R_drewN | apply Kd.R_drew)); exact HO369.out) (by first | exact Kd.N_base ho0 | exact Kd.S_base ho0 | exact Kd.R_base ho0) hb); have n1_ := Aside0.mk (Kd.R_elder' (by (with_reducible repeat (first | apply Kd.R_alloc | apply Kd.R_drewN | apply Kd.R_drew)); exact HO374.out) (by first | exact Kd.N_base ho0 | exact Kd.S_base ho0 | exact Kd.R_base ho0) hb); have n2_ := Aside0.mk (Kd.S_elder' (by (with_reducible repeat (first | apply Kd.S_alloc | apply Kd.S_drewN | apply Kd.S_drew)); exact HO376.out) (by first | exact Kd.N_base ho0 | exact Kd.S_base ho0 | exact Kd.R_base ho0) hb); have n3_ := Aside0.mk (Kd.R_elder' (by (with_reducible repeat (first | apply Kd.R_alloc | apply Kd.R_drewN | apply Kd.R_drew)); exact HO380.out) (by first | exact Kd.N_base ho0 | exact Kd.S_base ho0 | exact Kd.R_base ho0) hb); have n4_ := Aside0.mk (Kd.S_elder' (by (with_reducible repeat (first | apply Kd.S_alloc | apply Kd.S_drewN | apply Kd.S_drew)); exact HO382.out) (by first | exact Kd.N_base ho0 | exact Kd.S_base ho0 | exact Kd.R_base ho0) hb); have n5_ := Aside0.mk (Kd.R_lower (Kd.R_new' (Kd.R_new' (Kd.R_new' ho0 (Kd.R_lt (by (with_reducible repeat (first | apply Kd.R_alloc | apply Kd.R_drewN | apply Kd.R_drew)); exact HO369.out))) (Kd.R_lt (by (with_reducible repeat (first | apply Kd.R_alloc | apply Kd.R_drewN | apply Kd.R_drew)); exact HO374.out))) (Kd.R_lt (by (with_reducible repeat (first | apply Kd.R_alloc | apply Kd.R_drewN | apply Kd.R_drew)); exact HO380.out))) (below_size (by repeat (first | (with_reducible first | exact HB.out | apply below_alloc | apply pw_below_drewN | apply below_drew1) | exact HB.out)))); have n6_ := Aside0.mk (below_step (by repeat (first | (with_reducible first | exact HB.out | apply below_alloc | apply pw_below_drewN | apply below_drew1) | exact HB.out)) hb); clear HO369; clear HO374; clear HO376; clear HO380; clear HO382; clear HB; have HO369 := n0_; have HO374 := n1_; have HO376 := n2_; have HO380 := n3_; have HO382 := n4_; have HO385 := n5_; have HB := n6_; clear n0_ n1_ n2_ n3_ n4_ n5_ n6_; (try clear hb); (try clear hb2); (try clear hk); (try clear hi); (try clear ho0); obtain ⟨Ao114, co114, eo114⟩ := Kd.R_slice HO369.out; subst eo114; obtain ⟨Ao115, co115, eo115⟩ := Kd.R_slice HO385.out; subst eo115) | (go_at_call 14; (with_reducible refine (laws_sameInts.calls kj80 _ _ t366 _ _ t383 false _ ?side1 ?side2 ?side3 ?side4 A97.out).mono ?_); (case side1 => repeat (first | exact (Kd.R_reads' HO369.out).2.2 | (with_reducible refine Kd.C_alloc ?_ _) | (with_reducible refine Kd.C_drewN ?_ _) | (with_reducible refine Kd.C_drew ?_))); (case side2 => exact (Kd.R_reads' HO369.out).2.1); (case side3 => repeat (first | exact (Kd.R_reads' HO385.out).2.2 | (with_reducible refine Kd.C_alloc ?_ _) | (with_reducible refine Kd.C_drewN ?_ _) | (with_reducible refine Kd.C_drew ?_))); (case side4 => exact (Kd.R_reads' HO385.out).2.1); rintro e w' ⟨rfl, ⟨nd, rfl⟩⟩; (try first | exact ⟨rfl, _, World.drewN_drewN _ _ _⟩ | exact ⟨rfl, _, Eq.trans (World.drewN_drewN _ _ _) (congrArg (World.drewN _) (Nat.add_assoc _ _ _))⟩))))
                                                    go_meet
                                                    case rel => exact ⟨_, (true), (by first | rfl | (simp; done) | (simp [*]; done)), H', ⟨by have := HJ3.out; have := HJ10.out; have := HJ25.out; have := HJ30.out; have := HJ80.out; first | omega | exact Nat.le_refl _⟩, ⟨by (with_reducible repeat (first | apply Kd.S_alloc | apply Kd.S_drewN | apply Kd.S_drew)); exact Kd.S_mono HO376.out (fun _ hk => hk.1.2)⟩, ⟨by (with_reducible repeat (first | apply Kd.S_alloc | apply Kd.S_drewN | apply Kd.S_drew)); exact Kd.S_mono HO382.out (fun _ hk => hk.1.2)⟩, ⟨by repeat (first | (with_reducible first | exact HB.out | apply below_alloc | apply pw_below_drewN | apply below_drew1) | exact HB.out)⟩⟩
                                                · replace c95 := Bool.eq_false_iff.mpr c95
                                                  subst c95
                                                  have H1 : (laws_FnTriesSay.j6 kj80 t371 t378 true) = some r := by rw [if_neg (show ¬ (false = true) by decide)] at H; exact H
                                                  clear H
                                                  have H := H1
                                                  clear H1
                                                  have H' := Aside0.mk H
                                                  clear H
                                                  go_wp2
                                                  repeat (go_quiet (fail); try go_wp2)
                                                  go_meet
                                                  case rel => exact ⟨_, (true), (by first | rfl | (simp; done) | (simp [*]; done)), H', ⟨by have := HJ3.out; have := HJ10.out; have := HJ25.out; have := HJ30.out; have := HJ80.out; first | omega | exact Nat.le_refl _⟩, ⟨by (with_reducible repeat (first | apply Kd.S_alloc | apply Kd.S_drewN | apply Kd.S_drew)); exact Kd.S_mono HO376.out (fun _ hk => hk.2)⟩, ⟨by (with_reducible repeat (first | apply Kd.S_alloc | apply Kd.S_drewN | apply Kd.S_drew)); exact Kd.S_mono HO382.out (fun _ hk => hk.2)⟩, ⟨by repeat (first | (with_reducible first | exact HB.out | apply below_alloc | apply pw_below_drewN | apply below_drew1) | exact HB.out)⟩⟩
                                              · replace c94 := Bool.eq_false_iff.mpr c94
                                                subst c94
                                                have H1 : (laws_FnTriesSay.j6 kj80 t371 t378 true) = some r := by rw [if_neg (show ¬ (false = true) by decide)] at H; exact H
                                                clear H
                                                have H := H1
                                                clear H1
                                                have H' := Aside0.mk H
                                                clear H
                                                go_wp2
                                                repeat (go_quiet (fail); try go_wp2)
                                                go_meet
                                                case rel => exact ⟨_, (true), (by first | rfl | (simp; done) | (simp [*]; done)), H', ⟨by have := HJ3.out; have := HJ10.out; have := HJ25.out; have := HJ30.out; have := HJ80.out; first | omega | exact Nat.le_refl _⟩, ⟨by (with_reducible repeat (first | apply Kd.S_alloc | apply Kd.S_drewN | apply Kd.S_drew)); exact Kd.S_mono HO376.out (fun _ hk => hk.2)⟩, ⟨by (with_reducible repeat (first | apply Kd.S_alloc | apply Kd.S_drewN | apply Kd.S_drew)); exact Kd.S_mono HO382.out (fun _ hk => hk.2)⟩, ⟨by repeat (first | (with_reducible first | exact HB.out | apply below_alloc | apply pw_below_drewN | apply below_drew1) | exact HB.out)⟩⟩
                                          case rest =>
                                            as_aux_lemma =>
                                              clear HC90
                                              try clear c1
                                              try clear c2
                                              try clear p2
                                              try clear c3
                                              try clear c4
                                              try clear c5
                                              try clear c6
                                              try clear c7
                                              try clear c7b0
                                              try clear c7b1
                                              try clear c8
                                              try clear c9
                                              try clear c10
                                              try clear c13
                                              try clear c13b0
                                              try clear c13b1
                                              try clear c15
                                              try clear c23
                                              try clear c25
                                              try clear c28
                                              try clear c32
                                              try clear c41
                                              try clear c42
                                              try clear c43
                                              try clear c43b0
                                              try clear c43b1
                                              try clear c43b2
                                              try clear c44
                                              try clear c45
                                              try clear c45b0
                                              try clear c45b1
                                              try clear c47
                                              try clear c56
                                              try clear c64
                                              try clear c67
                                              try clear c68
                                              try clear c68b0
                                              try clear c68b1
                                              try clear c68b2
                                              try clear c71
                                              try clear c72
                                              try clear c72b0
                                              try clear c72b1
                                              try clear c83
                                              try clear c86
                                              try clear c94
                                              try clear c95
                                              try clear c98
                                              try clear c100
                                              try clear p2
                                              obtain ⟨kq, x214_89, rfl, HA, HJ89, HO_25, HO_28, HB⟩ := hcut
                                              cases kq with
                                              | zero => exact absurd HA.out (by simp [laws_FnTriesSay.j6])
                                              | succ kj89 =>
                                                have H := HA.out
                                                clear HA
                                                simp only [laws_FnTriesSay.j6] at H
                                                by_cases c116 : x214_89 = true
                                                · subst c116
                                                  have H1 : (some false) = some r := by rw [if_pos rfl] at H; exact H
                                                  clear H
                                                  have H := H1
                                                  clear H1
                                                  obtain rfl := Option.some.inj H
                                                  go_wp2
                                                  repeat (go_quiet (fail); try go_wp2)
                                                  go_ret
                                                  exact ⟨by first | rfl | (simp [errW_none, errW_some] <;> rfl) | (simp [*, errW_none, errW_some] <;> rfl), by repeat (first | (with_reducible first | exact HB.out | apply below_alloc | apply pw_below_drewN | apply below_drew1) | exact HB.out)⟩
                                                · replace c116 := Bool.eq_false_iff.mpr c116
                                                  subst c116
                                                  have H1 : (laws_FnTriesSay.l0 kj89 t371 t378 (t371.length : Int) 0) = some r := by rw [if_neg (show ¬ (false = true) by decide)] at H; exact H
                                                  clear H
                                                  have H := H1
                                                  clear H1
                                                  have H' := Aside0.mk H
                                                  clear H
                                                  obtain ⟨Ao117, co117, eo117⟩ := Kd.S_slice HO_25.out
                                                  subst eo117
                                                  go_wp2
                                                  repeat (go_quiet (fail); try go_wp2)
                                                  go_loopg [217] kj89 (fun kq v217 w' => ∃ (x217_7 : Int), v217 = .int .i64 x217_7 ∧ Aside0 (laws_FnTriesSay.l0 kq t371 t378 (t371.length : Int) x217_7 = some r) ∧ Aside0 (kq ≤ kj89) ∧ Aside0 (Kd.S (Kd.slice 3 (Kd.int .i64)) 23 w' w.heap.size (fun k_ => some k_ ≠ (v381 : Value).ownBlock) (.slice Ao117 t371.length co117) t371) ∧ Aside0 (Kd.S (Kd.slice 3 (Kd.int .i64)) 23 w' w.heap.size (fun k_ => some k_ ≠ ((.slice Ao117 t371.length co117) : Value).ownBlock) v381 t378) ∧ Aside0 (Below w.heap.size w w'))
                                                  case atStart => exact ⟨(0), (by first | rfl | (simp; done) | (simp [*]; done)), H', ⟨Nat.le_refl _⟩, ⟨by (with_reducible repeat (first | apply Kd.S_alloc | apply Kd.S_drewN | apply Kd.S_drew)); exact HO_25.out⟩, ⟨by (with_reducible repeat (first | apply Kd.S_alloc | apply Kd.S_drewN | apply Kd.S_drew)); exact HO_28.out⟩, ⟨by repeat (first | (with_reducible first | exact HB.out | apply below_alloc | apply pw_below_drewN | apply below_drew1) | exact HB.out)⟩⟩
                                                  case round =>
                                                    as_aux_lemma =>
                                                      clear H'
                                                      try clear c1
                                                      try clear c2
                                                      try clear p2
                                                      try clear c3
                                                      try clear c4
                                                      try clear c5
                                                      try clear c6
                                                      try clear c7
                                                      try clear c7b0
                                                      try clear c7b1
                                                      try clear c8
                                                      try clear c9
                                                      try clear c10
                                                      try clear c11
                                                      try clear c13
                                                      try clear c13b0
                                                      try clear c13b1
                                                      try clear c15
                                                      try clear c23
                                                      try clear c25
                                                      try clear c28
                                                      try clear c32
                                                      try clear c41
                                                      try clear c42
                                                      try clear c43
                                                      try clear c43b0
                                                      try clear c43b1
                                                      try clear c43b2
                                                      try clear c44
                                                      try clear c45
                                                      try clear c45b0
                                                      try clear c45b1
                                                      try clear c47
                                                      try clear c56
                                                      try clear c64
                                                      try clear c67
                                                      try clear c68
                                                      try clear c68b0
                                                      try clear c68b1
                                                      try clear c68b2
                                                      try clear c71
                                                      try clear c72
                                                      try clear c72b0
                                                      try clear c72b1
                                                      try clear c83
                                                      try clear c86
                                                      try clear c94
                                                      try clear c95
                                                      try clear c98
                                                      try clear c100
                                                      try clear c116
                                                      try clear p2
                                                      obtain ⟨x217_7, rfl, HA, HK7, HO_25, HO_28, HB⟩ := hrel
                                                      cases gk with
                                                      | zero => exact absurd HA.out (by simp [laws_FnTriesSay.l0])
                                                      | succ k7 =>
                                                        have H := HA.out
                                                        clear HA
                                                        simp only [laws_FnTriesSay.l0] at H
                                                        by_cases c118 : x217_7 < (t371.length : Int)
                                                        · rw [if_pos c118] at H
                                                          have c118b0 : decide (x217_7 < (t371.length : Int)) = true := decide_eq_true c118
                                                          clear c118
                                                          by_cases c119 : 0 ≤ x217_7
                                                          · rw [if_pos c119] at H
                                                            have c119b0 : decide (0 ≤ x217_7) = true := decide_eq_true c119
                                                            clear c119
                                                            by_cases c120 : x217_7 < (t371.length : Int)
                                                            · rw [if_pos c120] at H
                                                              have c120b0 : decide (x217_7 < (t371.length : Int)) = true := decide_eq_true c120
                                                              clear c120
                                                              by_cases c121 : x217_7 < (t378.length : Int)
                                                              · rw [if_pos c121] at H
                                                                have c121b0 : decide (x217_7 < (t378.length : Int)) = true := decide_eq_true c121
                                                                clear c121
                                                                replace H := Option.bind_eq_some_iff.mp H
                                                                obtain ⟨t390, A1220, H⟩ := H
                                                                replace H : (if t390 = true then (laws_FnTriesSay.l0 k7 t371 t378 (t371.length : Int) (wrap64 (x217_7 + 1))) else (some false)) = some r := H
                                                                have A122 := Aside0.mk A1220
                                                                clear A1220
                                                                by_cases c123 : t390 = true
                                                                · subst c123
                                                                  have H1 : (laws_FnTriesSay.l0 k7 t371 t378 (t371.length : Int) (wrap64 (x217_7 + 1))) = some r := by rw [if_pos rfl] at H; exact H
                                                                  clear H
                                                                  have H := H1
                                                                  clear H1
                                                                  have H' := Aside0.mk H
                                                                  clear H
                                                                  have p388 : 0 ≤ (x217_7 : Int) := of_decide_eq_true (by first | (with_reducible assumption) | assumption)
                                                                  have q388 : x217_7 < (t371.length : Int) := of_decide_eq_true (by first | (with_reducible assumption) | assumption)
                                                                  obtain ⟨ad388, A388_0, c388_0, e388, hx388_0, hl388_0, hi388_0⟩ := at_L3 (Kd.S_reads' HO_25.out).2.2 x217_7 p388 q388
                                                                  cases e388
                                                                  obtain ⟨ce388, hce388, hMe388, hcc388⟩ := Kd.S_get HO_25.out [] x217_7 p388 (by first | exact q388 | exact of_decide_eq_true (by first | (with_reducible assumption) | assumption) | (have e_ := (Kd.S_reads' HO_25.out).1; omega))
                                                                  obtain ⟨ve388_0, rfl, ge388_0⟩ := hMe388
                                                                  have hv388_0 := hcc388 0 _ rfl
                                                                  rw [Nat.add_zero, show ((Kd.slice 3 (Kd.int .i64))).sz = 1 from rfl, Nat.mul_one] at hv388_0
                                                                  replace hv388_0 := Option.some.inj (hv388_0.symm.trans hx388_0)
                                                                  rw [hv388_0] at ge388_0
                                                                  have HL388_0 := Aside0.mk (show Kd.R (Kd.int .i64) 3 _ _ _ _ (rd_L3 t371 x217_7) from ge388_0)
                                                                  clear hv388_0 ge388_0
                                                                  clear hcc388 hce388
                                                                  have HR388_0 := Aside0.mk hi388_0
                                                                  have HC388_0 := Aside0.mk hl388_0
                                                                  clear hi388_0 hl388_0
                                                                  replace p388 := eq_true p388
                                                                  replace q388 := eq_true q388
                                                                  obtain ⟨Ao124, co124, eo124⟩ := Kd.S_slice HO_28.out
                                                                  subst eo124
                                                                  have p389 : 0 ≤ (x217_7 : Int) := of_decide_eq_true (by first | (with_reducible assumption) | assumption)
                                                                  have q389 : x217_7 < (t378.length : Int) := of_decide_eq_true (by first | (with_reducible assumption) | assumption)
                                                                  obtain ⟨ad389, A389_0, c389_0, e389, hx389_0, hl389_0, hi389_0⟩ := at_L3 (Kd.S_reads' HO_28.out).2.2 x217_7 p389 q389
                                                                  cases e389
                                                                  obtain ⟨ce389, hce389, hMe389, hcc389⟩ := Kd.S_get HO_28.out [] x217_7 p389 (by first | exact q389 | exact of_decide_eq_true (by first | (with_reducible assumption) | assumption) | (have e_ := (Kd.S_reads' HO_28.out).1; omega))
                                                                  obtain ⟨ve389_0, rfl, ge389_0⟩ := hMe389
                                                                  have hv389_0 := hcc389 0 _ rfl
                                                                  rw [Nat.add_zero, show ((Kd.slice 3 (Kd.int .i64))).sz = 1 from rfl, Nat.mul_one] at hv389_0
                                                                  replace hv389_0 := Option.some.inj (hv389_0.symm.trans hx389_0)
                                                                  rw [hv389_0] at ge389_0
                                                                  have HL389_0 := Aside0.mk (show Kd.R (Kd.int .i64) 3 _ _ _ _ (rd_L3 t378 x217_7) from ge389_0)
                                                                  clear hv389_0 ge389_0
                                                                  clear hcc389 hce389
                                                                  have HR389_0 := Aside0.mk hi389_0
                                                                  have HC389_0 := Aside0.mk hl389_0
                                                                  clear hi389_0 hl389_0
                                                                  replace p389 := eq_true p389
                                                                  replace q389 := eq_true q389
                                                                  go_wp2_with (first | (go_at_call 14; (with_reducible refine (laws_sameInts.calls k7 _ _ (rd_L3 t371 x217_7) _ _ (rd_L3 t378 x217_7) true _ ?side1 ?side2 ?side3 ?side4 A122.out).mono ?_); (case side1 => repeat (first | exact (by repeat (first | (with_reducible exact HR388_0.out) | (with_reducible refine Kd.C_alloc ?_ _) | (with_reducible refine Kd.C_drewN ?_ _) | (with_reducible refine Kd.C_drew ?_) | exact HR388_0.out)) | (with_reducible refine Kd.C_alloc ?_ _) | (with_reducible refine Kd.C_drewN ?_ _) | (with_reducible refine Kd.C_drew ?_))); (case side2 => exact HC388_0.out); (case side3 => repeat (first | exact (by repeat (first | (with_reducible exact HR389_0.out) | (with_reducible refine Kd.C_alloc ?_ _) | (with_reducible refine Kd.C_drewN ?_ _) | (with_reducible refine Kd.C_drew ?_) | exact HR389_0.out)) | (with_reducible refine Kd.C_alloc ?_ _) | (with_reducible refine Kd.C_drewN ?_ _) | (with_reducible refine Kd.C_drew ?_))); (case side4 => exact HC389_0.out); rintro e w' ⟨rfl, ⟨nd, rfl⟩⟩; (try first | exact ⟨rfl, _, World.drewN_drewN _ _ _⟩ | exact ⟨rfl, _, Eq.trans (World.drewN_drewN _ _ _) (congrArg (World.drewN _) (Nat.add_assoc _ _ _))⟩)))
                                                                  repeat (go_quiet (first | (go_at_call 14; (with_reducible refine (laws_sameInts.calls k7 _ _ (rd_L3 t371 x217_7) _ _ (rd_L3 t378 x217_7) true _ ?side1 ?side2 ?side3 ?side4 A122.out).mono ?_); (case side1 => repeat (first | exact (by repeat (first | (with_reducible exact HR388_0.out) | (with_reducible refine Kd.C_alloc ?_ _) | (with_reducible refine Kd.C_drewN ?_ _) | (with_reducible refine Kd.C_drew ?_) | exact HR388_0.out)) | (with_reducible refine Kd.C_alloc ?_ _) | (with_reducible refine Kd.C_drewN ?_ _) | (with_reducible refine Kd.C_drew ?_))); (case side2 => exact HC388_0.out); (case side3 => repeat (first | exact (by repeat (first | (with_reducible exact HR389_0.out) | (with_reducible refine Kd.C_alloc ?_ _) | (with_reducible refine Kd.C_drewN ?_ _) | (with_reducible refine Kd.C_drew ?_) | exact HR389_0.out)) | (with_reducible refine Kd.C_alloc ?_ _) | (with_reducible refine Kd.C_drewN ?_ _) | (with_reducible refine Kd.C_drew ?_))); (case side4 => exact HC389_0.out); rintro e w' ⟨rfl, ⟨nd, rfl⟩⟩; (try first | exact ⟨rfl, _, World.drewN_drewN _ _ _⟩ | exact ⟨rfl, _, Eq.trans (World.drewN_drewN _ _ _) (congrArg (World.drewN _) (Nat.add_assoc _ _ _))⟩))); try go_wp2_with (first | (go_at_call 14; (with_reducible refine (laws_sameInts.calls k7 _ _ (rd_L3 t371 x217_7) _ _ (rd_L3 t378 x217_7) true _ ?side1 ?side2 ?side3 ?side4 A122.out).mono ?_); (case side1 => repeat (first | exact (by repeat (first | (with_reducible exact HR388_0.out) | (with_reducible refine Kd.C_alloc ?_ _) | (with_reducible refine Kd.C_drewN ?_ _) | (with_reducible refine Kd.C_drew ?_) | exact HR388_0.out)) | (with_reducible refine Kd.C_alloc ?_ _) | (with_reducible refine Kd.C_drewN ?_ _) | (with_reducible refine Kd.C_drew ?_))); (case side2 => exact HC388_0.out); (case side3 => repeat (first | exact (by repeat (first | (with_reducible exact HR389_0.out) | (with_reducible refine Kd.C_alloc ?_ _) | (with_reducible refine Kd.C_drewN ?_ _) | (with_reducible refine Kd.C_drew ?_) | exact HR389_0.out)) | (with_reducible refine Kd.C_alloc ?_ _) | (with_reducible refine Kd.C_drewN ?_ _) | (with_reducible refine Kd.C_drew ?_))); (case side4 => exact HC389_0.out); rintro e w' ⟨rfl, ⟨nd, rfl⟩⟩; (try first | exact ⟨rfl, _, World.drewN_drewN _ _ _⟩ | exact ⟨rfl, _, Eq.trans (World.drewN_drewN _ _ _) (congrArg (World.drewN _) (Nat.add_assoc _ _ _))⟩))))
                                                                  go_roundg k7
                                                                  case measure => have := HJ3.out; have := HJ10.out; have := HJ25.out; have := HJ30.out; have := HJ80.out; have := HJ89.out; have := HK7.out; omega
                                                                  case rel => exact ⟨(wrap64 (x217_7 + 1)), (by first | rfl | (simp; done) | (simp [*]; done)), H', ⟨by have := HJ3.out; have := HJ10.out; have := HJ25.out; have := HJ30.out; have := HJ80.out; have := HJ89.out; have := HK7.out; omega⟩, ⟨by (with_reducible repeat (first | apply Kd.S_alloc | apply Kd.S_drewN | apply Kd.S_drew)); exact HO_25.out⟩, ⟨by (with_reducible repeat (first | apply Kd.S_alloc | apply Kd.S_drewN | apply Kd.S_drew)); exact HO_28.out⟩, ⟨by repeat (first | (with_reducible first | exact HB.out | apply below_alloc | apply pw_below_drewN | apply below_drew1) | exact HB.out)⟩⟩
                                                                · replace c123 := Bool.eq_false_iff.mpr c123
                                                                  subst c123
                                                                  have H1 : (some false) = some r := by rw [if_neg (show ¬ (false = true) by decide)] at H; exact H
                                                                  clear H
                                                                  have H := H1
                                                                  clear H1
                                                                  obtain rfl := Option.some.inj H
                                                                  have p388 : 0 ≤ (x217_7 : Int) := of_decide_eq_true (by first | (with_reducible assumption) | assumption)
                                                                  have q388 : x217_7 < (t371.length : Int) := of_decide_eq_true (by first | (with_reducible assumption) | assumption)
                                                                  obtain ⟨ad388, A388_0, c388_0, e388, hx388_0, hl388_0, hi388_0⟩ := at_L3 (Kd.S_reads' HO_25.out).2.2 x217_7 p388 q388
                                                                  cases e388
                                                                  obtain ⟨ce388, hce388, hMe388, hcc388⟩ := Kd.S_get HO_25.out [] x217_7 p388 (by first | exact q388 | exact of_decide_eq_true (by first | (with_reducible assumption) | assumption) | (have e_ := (Kd.S_reads' HO_25.out).1; omega))
                                                                  obtain ⟨ve388_0, rfl, ge388_0⟩ := hMe388
                                                                  have hv388_0 := hcc388 0 _ rfl
                                                                  rw [Nat.add_zero, show ((Kd.slice 3 (Kd.int .i64))).sz = 1 from rfl, Nat.mul_one] at hv388_0
                                                                  replace hv388_0 := Option.some.inj (hv388_0.symm.trans hx388_0)
                                                                  rw [hv388_0] at ge388_0
                                                                  have HL388_0 := Aside0.mk (show Kd.R (Kd.int .i64) 3 _ _ _ _ (rd_L3 t371 x217_7) from ge388_0)
                                                                  clear hv388_0 ge388_0
                                                                  clear hcc388 hce388
                                                                  have HR388_0 := Aside0.mk hi388_0
                                                                  have HC388_0 := Aside0.mk hl388_0
                                                                  clear hi388_0 hl388_0
                                                                  replace p388 := eq_true p388
                                                                  replace q388 := eq_true q388
                                                                  obtain ⟨Ao125, co125, eo125⟩ := Kd.S_slice HO_28.out
                                                                  subst eo125
                                                                  have p389 : 0 ≤ (x217_7 : Int) := of_decide_eq_true (by first | (with_reducible assumption) | assumption)
                                                                  have q389 : x217_7 < (t378.length : Int) := of_decide_eq_true (by first | (with_reducible assumption) | assumption)
                                                                  obtain ⟨ad389, A389_0, c389_0, e389, hx389_0, hl389_0, hi389_0⟩ := at_L3 (Kd.S_reads' HO_28.out).2.2 x217_7 p389 q389
                                                                  cases e389
                                                                  obtain ⟨ce389, hce389, hMe389, hcc389⟩ := Kd.S_get HO_28.out [] x217_7 p389 (by first | exact q389 | exact of_decide_eq_true (by first | (with_reducible assumption) | assumption) | (have e_ := (Kd.S_reads' HO_28.out).1; omega))
                                                                  obtain ⟨ve389_0, rfl, ge389_0⟩ := hMe389
                                                                  have hv389_0 := hcc389 0 _ rfl
                                                                  rw [Nat.add_zero, show ((Kd.slice 3 (Kd.int .i64))).sz = 1 from rfl, Nat.mul_one] at hv389_0
                                                                  replace hv389_0 := Option.some.inj (hv389_0.symm.trans hx389_0)
                                                                  rw [hv389_0] at ge389_0
                                                                  have HL389_0 := Aside0.mk (show Kd.R (Kd.int .i64) 3 _ _ _ _ (rd_L3 t378 x217_7) from ge389_0)
                                                                  clear hv389_0 ge389_0
                                                                  clear hcc389 hce389
                                                                  have HR389_0 := Aside0.mk hi389_0
                                                                  have HC389_0 := Aside0.mk hl389_0
                                                                  clear hi389_0 hl389_0
                                                                  replace p389 := eq_true p389
                                                                  replace q389 := eq_true q389
                                                                  go_wp2_with (first | (go_at_call 14; (with_reducible refine (laws_sameInts.calls k7 _ _ (rd_L3 t371 x217_7) _ _ (rd_L3 t378 x217_7) false _ ?side1 ?side2 ?side3 ?side4 A122.out).mono ?_); (case side1 => repeat (first | exact (by repeat (first | (with_reducible exact HR388_0.out) | (with_reducible refine Kd.C_alloc ?_ _) | (with_reducible refine Kd.C_drewN ?_ _) | (with_reducible refine Kd.C_drew ?_) | exact HR388_0.out)) | (with_reducible refine Kd.C_alloc ?_ _) | (with_reducible refine Kd.C_drewN ?_ _) | (with_reducible refine Kd.C_drew ?_))); (case side2 => exact HC388_0.out); (case side3 => repeat (first | exact (by repeat (first | (with_reducible exact HR389_0.out) | (with_reducible refine Kd.C_alloc ?_ _) | (with_reducible refine Kd.C_drewN ?_ _) | (with_reducible refine Kd.C_drew ?_) | exact HR389_0.out)) | (with_reducible refine Kd.C_alloc ?_ _) | (with_reducible refine Kd.C_drewN ?_ _) | (with_reducible refine Kd.C_drew ?_))); (case side4 => exact HC389_0.out); rintro e w' ⟨rfl, ⟨nd, rfl⟩⟩; (try first | exact ⟨rfl, _, World.drewN_drewN _ _ _⟩ | exact ⟨rfl, _, Eq.trans (World.drewN_drewN _ _ _) (congrArg (World.drewN _) (Nat.add_assoc _ _ _))⟩)))
                                                                  repeat (go_quiet (first | (go_at_call 14; (with_reducible refine (laws_sameInts.calls k7 _ _ (rd_L3 t371 x217_7) _ _ (rd_L3 t378 x217_7) false _ ?side1 ?side2 ?side3 ?side4 A122.out).mono ?_); (case side1 => repeat (first | exact (by repeat (first | (with_reducible exact HR388_0.out) | (with_reducible refine Kd.C_alloc ?_ _) | (with_reducible refine Kd.C_drewN ?_ _) | (with_reducible refine Kd.C_drew ?_) | exact HR388_0.out)) | (with_reducible refine Kd.C_alloc ?_ _) | (with_reducible refine Kd.C_drewN ?_ _) | (with_reducible refine Kd.C_drew ?_))); (case side2 => exact HC388_0.out); (case side3 => repeat (first | exact (by repeat (first | (with_reducible exact HR389_0.out) | (with_reducible refine Kd.C_alloc ?_ _) | (with_reducible refine Kd.C_drewN ?_ _) | (with_reducible refine Kd.C_drew ?_) | exact HR389_0.out)) | (with_reducible refine Kd.C_alloc ?_ _) | (with_reducible refine Kd.C_drewN ?_ _) | (with_reducible refine Kd.C_drew ?_))); (case side4 => exact HC389_0.out); rintro e w' ⟨rfl, ⟨nd, rfl⟩⟩; (try first | exact ⟨rfl, _, World.drewN_drewN _ _ _⟩ | exact ⟨rfl, _, Eq.trans (World.drewN_drewN _ _ _) (congrArg (World.drewN _) (Nat.add_assoc _ _ _))⟩))); try go_wp2_with (first | (go_at_call 14; (with_reducible refine (laws_sameInts.calls k7 _ _ (rd_L3 t371 x217_7) _ _ (rd_L3 t378 x217_7) false _ ?side1 ?side2 ?side3 ?side4 A122.out).mono ?_); (case side1 => repeat (first | exact (by repeat (first | (with_reducible exact HR388_0.out) | (with_reducible refine Kd.C_alloc ?_ _) | (with_reducible refine Kd.C_drewN ?_ _) | (with_reducible refine Kd.C_drew ?_) | exact HR388_0.out)) | (with_reducible refine Kd.C_alloc ?_ _) | (with_reducible refine Kd.C_drewN ?_ _) | (with_reducible refine Kd.C_drew ?_))); (case side2 => exact HC388_0.out); (case side3 => repeat (first | exact (by repeat (first | (with_reducible exact HR389_0.out) | (with_reducible refine Kd.C_alloc ?_ _) | (with_reducible refine Kd.C_drewN ?_ _) | (with_reducible refine Kd.C_drew ?_) | exact HR389_0.out)) | (with_reducible refine Kd.C_alloc ?_ _) | (with_reducible refine Kd.C_drewN ?_ _) | (with_reducible refine Kd.C_drew ?_))); (case side4 => exact HC389_0.out); rintro e w' ⟨rfl, ⟨nd, rfl⟩⟩; (try first | exact ⟨rfl, _, World.drewN_drewN _ _ _⟩ | exact ⟨rfl, _, Eq.trans (World.drewN_drewN _ _ _) (congrArg (World.drewN _) (Nat.add_assoc _ _ _))⟩))))
                                                                  go_ret
                                                                  exact ⟨by first | rfl | (simp [errW_none, errW_some] <;> rfl) | (simp [*, errW_none, errW_some] <;> rfl), by repeat (first | (with_reducible first | exact HB.out | apply below_alloc | apply pw_below_drewN | apply below_drew1) | exact HB.out)⟩
                                                              · rw [if_neg c121] at H
                                                                exact absurd H (by simp)
                                                            · rw [if_neg c120] at H
                                                              exact absurd H (by simp)
                                                          · rw [if_neg c119] at H
                                                            exact absurd H (by simp)
                                                        · rw [if_neg c118] at H
                                                          have c118b0 : decide (x217_7 < (t371.length : Int)) = false := decide_eq_false c118
                                                          clear c118
                                                          obtain rfl := Option.some.inj H
                                                          go_wp2
                                                          repeat (go_quiet (fail); try go_wp2)
                                                          go_ret
                                                          exact ⟨by first | rfl | (simp [errW_none, errW_some] <;> rfl) | (simp [*, errW_none, errW_some] <;> rfl), by repeat (first | (with_reducible first | exact HB.out | apply below_alloc | apply pw_below_drewN | apply below_drew1) | exact HB.out)⟩
          · replace c10 := Bool.eq_false_iff.mpr c10
            subst c10
            have H1 : (some false) = some r := by rw [if_neg (show ¬ (false = true) by decide)] at H; exact H
            clear H
            have H := H1
            clear H1
            obtain rfl := Option.some.inj H
            go_wp2_with (first | (go_at_call 5; (with_reducible refine (laws_finds.calls  false _ A9.out).mono ?_); rintro e w126 ⟨rfl, hb⟩; have n0_ := Aside0.mk (below_step (by repeat (first | (with_reducible first | exact HB.out | apply below_alloc | apply pw_below_drewN | apply below_drew1) | exact HB.out)) hb); clear HB; have HB := n0_; clear n0_; (try clear hb); (try clear hb2); (try clear hk); (try clear hi)))
            repeat (go_quiet (first | (go_at_call 5; (with_reducible refine (laws_finds.calls  false _ A9.out).mono ?_); rintro e w126 ⟨rfl, hb⟩; have n0_ := Aside0.mk (below_step (by repeat (first | (with_reducible first | exact HB.out | apply below_alloc | apply pw_below_drewN | apply below_drew1) | exact HB.out)) hb); clear HB; have HB := n0_; clear n0_; (try clear hb); (try clear hb2); (try clear hk); (try clear hi))); try go_wp2_with (first | (go_at_call 5; (with_reducible refine (laws_finds.calls  false _ A9.out).mono ?_); rintro e w126 ⟨rfl, hb⟩; have n0_ := Aside0.mk (below_step (by repeat (first | (with_reducible first | exact HB.out | apply below_alloc | apply pw_below_drewN | apply below_drew1) | exact HB.out)) hb); clear HB; have HB := n0_; clear n0_; (try clear hb); (try clear hb2); (try clear hk); (try clear hi))))
            go_ret
            exact ⟨by first | rfl | (simp [errW_none, errW_some] <;> rfl) | (simp [*, errW_none, errW_some] <;> rfl), by repeat (first | (with_reducible first | exact HB.out | apply below_alloc | apply pw_below_drewN | apply below_drew1) | exact HB.out)⟩

end Go.Proofs.Ytddcjmdcpkmnjab.P
