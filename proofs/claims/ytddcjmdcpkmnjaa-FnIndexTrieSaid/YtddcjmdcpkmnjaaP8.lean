-- PRINTED by print.py (a twelfth state) out of the translation. Not trusted: Lean checks it.
import Derived.Test.YtddcjmdcpkmnjaaP0
import Derived.Test.YtddcjmdcpkmnjaaP9
import Derived.Test.YtddcjmdcpkmnjaaP10
import Derived.Test.YtddcjmdcpkmnjaaP11
import Derived.Test.YtddcjmdcpkmnjaaP12
import Derived.Test.YtddcjmdcpkmnjaaP13
import Derived.Test.YtddcjmdcpkmnjaaP17
import Derived.Test.YtddcjmdcpkmnjaaP18
import Derived.Test.YtddcjmdcpkmnjaaP20
import Derived.Test.YtddcjmdcpkmnjaaETrA
import Derived.Test.YtddcjmdcpkmnjaaMIx
import Derived.Test.YtddcjmdcpkmnjaaMPx
namespace Go.Proofs.Ytddcjmdcpkmnjaa.P
open Go.RowKit Go.Proofs.YtddcjmdcpkmnjaaW.PrintWords Go.Proofs.YtddcjmdcpkmnjaaW.PrintLast Go.Proofs.YtddcjmdcpkmnjaaW.PrintMore
attribute [local go_sem] max2_int min2_int max_two min_two max_three min_three max_four min_four   -- for this text's walks alone
set_option linter.unusedVariables false
set_option linter.unusedSimpArgs false

/-! ### laws_FnIndexTrie: function 8 -/
mutual
def laws_FnIndexTrie.j0 : Nat → List ByteArray → ByteArray → Bool → Option (Bool)
  | 0, _, _, _ => none
  | k + 1, x0, x1, x24 => if x24 = true then (some true) else ((laws_finds.f).bind fun t454 => (if t454 = true then ((laws_fair.f k x0 ([] : List Int)).bind fun t455 => (if t455 = true then ((laws_rising.f k x0).bind fun t456 => (if t456 = true then ((laws_clean.f k 80 (([x1] : List ByteArray))).bind fun t460 => (if t460 = true then ((laws_ahead.f k x0 x1).bind fun t461 => (laws_FnIndexTrie.j1 k x0 x1 t461)) else (laws_FnIndexTrie.j1 k x0 x1 true))) else (laws_FnIndexTrie.j1 k x0 x1 true))) else (laws_FnIndexTrie.j1 k x0 x1 true))) else (some false)))
def laws_FnIndexTrie.j1 : Nat → List ByteArray → ByteArray → Bool → Option (Bool)
  | 0, _, _, _ => none
  | k + 1, x0, x1, x45 => if x45 = true then (some true) else ((impl_IndexSearch.f x0 x1).bind fun bt462 => ((laws_numbered.f k (x0.length : Int)).bind fun t466 => ((impl_TrieFind.f x0 t466 x1).bind fun bt469 => (if bt462.2 = true then (if bt469.2.2 = true then (if (bt469.2.1 != ((bt462.1.length : Int) == 1)) = true then (laws_FnIndexTrie.j2 k x0 x1 true) else (if bt469.2.1 = true then (if 0 < (bt462.1.length : Int) then (laws_FnIndexTrie.j2 k x0 x1 ((rd bt462.1 0) != (wrap64 (bt469.1 - 1)))) else (none)) else (laws_FnIndexTrie.j2 k x0 x1 false))) else (laws_FnIndexTrie.j2 k x0 x1 true)) else (laws_FnIndexTrie.j2 k x0 x1 true)))))
def laws_FnIndexTrie.j2 : Nat → List ByteArray → ByteArray → Bool → Option (Bool)
  | 0, _, _, _ => none
  | k + 1, x0, x1, x85 => if x85 = true then (some false) else ((impl_IndexPrefixes.f x0 x1).bind fun bt473 => ((laws_numbered.f k (x0.length : Int)).bind fun t480 => ((impl_TriePrefixes.f x0 t480 x1).bind fun bt483 => (if bt473.2.2 = true then (if bt483.2.2 = true then ((laws_sameInts.f k bt473.1 bt483.2.1).bind fun t490 => (if t490 = true then (laws_FnIndexTrie.j3 k bt473.2.1 bt483.1 ((bt473.2.1.length : Int) != (bt483.1.length : Int))) else (laws_FnIndexTrie.j3 k bt473.2.1 bt483.1 true))) else (laws_FnIndexTrie.j3 k bt473.2.1 bt483.1 true)) else (laws_FnIndexTrie.j3 k bt473.2.1 bt483.1 true)))))
def laws_FnIndexTrie.j3 : Nat → List (List Int) → List Int → Bool → Option (Bool)
  | 0, _, _, _ => none
  | k + 1, x11, x13, x121 => if x121 = true then (some false) else (laws_FnIndexTrie.l0 k x11 x13 (x13.length : Int) 0)
def laws_FnIndexTrie.l0 : Nat → List (List Int) → List Int → Int → Int → Option (Bool)
  | 0, _, _, _, _ => none
  | k + 1, x11, x13, x123, x124 => if x124 < x123 then (if 0 ≤ x124 then (if x124 < (x11.length : Int) then (if ((rd_L3 x11 x124).length : Int) = 1 then (if 0 < ((rd_L3 x11 x124).length : Int) then (if x124 < (x13.length : Int) then (if (rd (rd_L3 x11 x124) 0) = (wrap64 ((rd x13 x124) - 1)) then (laws_FnIndexTrie.l0 k x11 x13 x123 (wrap64 (x124 + 1))) else (some false)) else (none)) else (none)) else (some false)) else (none)) else (none)) else (some true)
end
def laws_FnIndexTrie.f (k : Nat) (l0 : List ByteArray) (a1 : ByteArray) : Option (Bool) := (laws_zzFits4.f k l0).bind fun t453 => (if t453 = true then (laws_FnIndexTrie.j0 k l0 a1 (decide ((a1.size : Int) > 2147483647))) else (laws_FnIndexTrie.j0 k l0 a1 true))
theorem laws_FnIndexTrie.mono_l : ∀ k, (∀ y0 y1 y2, LeO (laws_FnIndexTrie.j0 k y0 y1 y2) (laws_FnIndexTrie.j0 (k + 1) y0 y1 y2)) ∧ (∀ y0 y1 y2, LeO (laws_FnIndexTrie.j1 k y0 y1 y2) (laws_FnIndexTrie.j1 (k + 1) y0 y1 y2)) ∧ (∀ y0 y1 y2, LeO (laws_FnIndexTrie.j2 k y0 y1 y2) (laws_FnIndexTrie.j2 (k + 1) y0 y1 y2)) ∧ (∀ y0 y1 y2, LeO (laws_FnIndexTrie.j3 k y0 y1 y2) (laws_FnIndexTrie.j3 (k + 1) y0 y1 y2)) ∧ (∀ y0 y1 y2 y3, LeO (laws_FnIndexTrie.l0 k y0 y1 y2 y3) (laws_FnIndexTrie.l0 (k + 1) y0 y1 y2 y3))
  | 0 => ⟨fun _ _ _ r h => by simp [laws_FnIndexTrie.j0] at h, fun _ _ _ r h => by simp [laws_FnIndexTrie.j1] at h, fun _ _ _ r h => by simp [laws_FnIndexTrie.j2] at h, fun _ _ _ r h => by simp [laws_FnIndexTrie.j3] at h, fun _ _ _ _ r h => by simp [laws_FnIndexTrie.l0] at h⟩
  | k + 1 => by
    obtain ⟨ih0, ih1, ih2, ih3, ih4⟩ := laws_FnIndexTrie.mono_l k
    refine ⟨?_, ?_, ?_, ?_, ?_⟩
    · intro y0 y1 y2
      unfold laws_FnIndexTrie.j0
      repeat' first
      | (with_reducible exact ih0 _ _ _)
      | (with_reducible exact ih1 _ _ _)
      | (with_reducible exact ih2 _ _ _)
      | (with_reducible exact ih3 _ _ _)
      | (with_reducible exact ih4 _ _ _ _)
      | (with_reducible exact laws_ahead.mono _ _ _)
      | (with_reducible exact laws_clean.mono _ _ _)
      | (with_reducible exact laws_fair.mono _ _ _)
      | (with_reducible exact laws_numbered.mono _ _)
      | (with_reducible exact laws_rising.mono _ _)
      | (with_reducible exact laws_sameInts.mono _ _ _)
      | (with_reducible exact laws_zzFits4.mono _ _)
      | (with_reducible exact LeO.refl _)
      | (with_reducible exact LeO.none _)
      | (with_reducible refine LeO.ite ?_ ?_)
      | (with_reducible refine LeO.bind ?_ (fun _ => ?_))
      | exact ih0 _ _ _
      | exact ih1 _ _ _
      | exact ih2 _ _ _
      | exact ih3 _ _ _
      | exact ih4 _ _ _ _
      | exact laws_ahead.mono _ _ _
      | exact laws_clean.mono _ _ _
      | exact laws_fair.mono _ _ _
      | exact laws_numbered.mono _ _
      | exact laws_rising.mono _ _
      | exact laws_sameInts.mono _ _ _
      | exact laws_zzFits4.mono _ _
      | exact LeO.none _
      | refine LeO.ite ?_ ?_
      | refine LeO.bind ?_ (fun _ => ?_)
    · intro y0 y1 y2
      unfold laws_FnIndexTrie.j1
      repeat' first
      | (with_reducible exact ih0 _ _ _)
      | (with_reducible exact ih1 _ _ _)
      | (with_reducible exact ih2 _ _ _)
      | (with_reducible exact ih3 _ _ _)
      | (with_reducible exact ih4 _ _ _ _)
      | (with_reducible exact laws_ahead.mono _ _ _)
      | (with_reducible exact laws_clean.mono _ _ _)
      | (with_reducible exact laws_fair.mono _ _ _)
      | (with_reducible exact laws_numbered.mono _ _)
      | (with_reducible exact laws_rising.mono _ _)
      | (with_reducible exact laws_sameInts.mono _ _ _)
      | (with_reducible exact laws_zzFits4.mono _ _)
      | (with_reducible exact LeO.refl _)
      | (with_reducible exact LeO.none _)
      | (with_reducible refine LeO.ite ?_ ?_)
      | (with_reducible refine LeO.bind ?_ (fun _ => ?_))
      | exact ih0 _ _ _
      | exact ih1 _ _ _
      | exact ih2 _ _ _
      | exact ih3 _ _ _
      | exact ih4 _ _ _ _
      | exact laws_ahead.mono _ _ _
      | exact laws_clean.mono _ _ _
      | exact laws_fair.mono _ _ _
      | exact laws_numbered.mono _ _
      | exact laws_rising.mono _ _
      | exact laws_sameInts.mono _ _ _
      | exact laws_zzFits4.mono _ _
      | exact LeO.none _
      | refine LeO.ite ?_ ?_
      | refine LeO.bind ?_ (fun _ => ?_)
    · intro y0 y1 y2
      unfold laws_FnIndexTrie.j2
      repeat' first
      | (with_reducible exact ih0 _ _ _)
      | (with_reducible exact ih1 _ _ _)
      | (with_reducible exact ih2 _ _ _)
      | (with_reducible exact ih3 _ _ _)
      | (with_reducible exact ih4 _ _ _ _)
      | (with_reducible exact laws_ahead.mono _ _ _)
      | (with_reducible exact laws_clean.mono _ _ _)
      | (with_reducible exact laws_fair.mono _ _ _)
      | (with_reducible exact laws_numbered.mono _ _)
      | (with_reducible exact laws_rising.mono _ _)
      | (with_reducible exact laws_sameInts.mono _ _ _)
      | (with_reducible exact laws_zzFits4.mono _ _)
      | (with_reducible exact LeO.refl _)
      | (with_reducible exact LeO.none _)
      | (with_reducible refine LeO.ite ?_ ?_)
      | (with_reducible refine LeO.bind ?_ (fun _ => ?_))
      | exact ih0 _ _ _
      | exact ih1 _ _ _
      | exact ih2 _ _ _
      | exact ih3 _ _ _
      | exact ih4 _ _ _ _
      | exact laws_ahead.mono _ _ _
      | exact laws_clean.mono _ _ _
      | exact laws_fair.mono _ _ _
      | exact laws_numbered.mono _ _
      | exact laws_rising.mono _ _
      | exact laws_sameInts.mono _ _ _
      | exact laws_zzFits4.mono _ _
      | exact LeO.none _
      | refine LeO.ite ?_ ?_
      | refine LeO.bind ?_ (fun _ => ?_)
    · intro y0 y1 y2
      unfold laws_FnIndexTrie.j3
      repeat' first
      | (with_reducible exact ih0 _ _ _)
      | (with_reducible exact ih1 _ _ _)
      | (with_reducible exact ih2 _ _ _)
      | (with_reducible exact ih3 _ _ _)
      | (with_reducible exact ih4 _ _ _ _)
      | (with_reducible exact laws_ahead.mono _ _ _)
      | (with_reducible exact laws_clean.mono _ _ _)
      | (with_reducible exact laws_fair.mono _ _ _)
      | (with_reducible exact laws_numbered.mono _ _)
      | (with_reducible exact laws_rising.mono _ _)
      | (with_reducible exact laws_sameInts.mono _ _ _)
      | (with_reducible exact laws_zzFits4.mono _ _)
      | (with_reducible exact LeO.refl _)
      | (with_reducible exact LeO.none _)
      | (with_reducible refine LeO.ite ?_ ?_)
      | (with_reducible refine LeO.bind ?_ (fun _ => ?_))
      | exact ih0 _ _ _
      | exact ih1 _ _ _
      | exact ih2 _ _ _
      | exact ih3 _ _ _
      | exact ih4 _ _ _ _
      | exact laws_ahead.mono _ _ _
      | exact laws_clean.mono _ _ _
      | exact laws_fair.mono _ _ _
      | exact laws_numbered.mono _ _
      | exact laws_rising.mono _ _
      | exact laws_sameInts.mono _ _ _
      | exact laws_zzFits4.mono _ _
      | exact LeO.none _
      | refine LeO.ite ?_ ?_
      | refine LeO.bind ?_ (fun _ => ?_)
    · intro y0 y1 y2 y3
      unfold laws_FnIndexTrie.l0
      repeat' first
      | (with_reducible exact ih0 _ _ _)
      | (with_reducible exact ih1 _ _ _)
      | (with_reducible exact ih2 _ _ _)
      | (with_reducible exact ih3 _ _ _)
      | (with_reducible exact ih4 _ _ _ _)
      | (with_reducible exact laws_ahead.mono _ _ _)
      | (with_reducible exact laws_clean.mono _ _ _)
      | (with_reducible exact laws_fair.mono _ _ _)
      | (with_reducible exact laws_numbered.mono _ _)
      | (with_reducible exact laws_rising.mono _ _)
      | (with_reducible exact laws_sameInts.mono _ _ _)
      | (with_reducible exact laws_zzFits4.mono _ _)
      | (with_reducible exact LeO.refl _)
      | (with_reducible exact LeO.none _)
      | (with_reducible refine LeO.ite ?_ ?_)
      | (with_reducible refine LeO.bind ?_ (fun _ => ?_))
      | exact ih0 _ _ _
      | exact ih1 _ _ _
      | exact ih2 _ _ _
      | exact ih3 _ _ _
      | exact ih4 _ _ _ _
      | exact laws_ahead.mono _ _ _
      | exact laws_clean.mono _ _ _
      | exact laws_fair.mono _ _ _
      | exact laws_numbered.mono _ _
      | exact laws_rising.mono _ _
      | exact laws_sameInts.mono _ _ _
      | exact laws_zzFits4.mono _ _
      | exact LeO.none _
      | refine LeO.ite ?_ ?_
      | refine LeO.bind ?_ (fun _ => ?_)
theorem laws_FnIndexTrie.mono : ∀ a0 a1 k, LeO (laws_FnIndexTrie.f k a0 a1) (laws_FnIndexTrie.f (k + 1) a0 a1) := by
  intro a0 a1 k
  obtain ⟨ih0, ih1, ih2, ih3, ih4⟩ := laws_FnIndexTrie.mono_l k
  unfold laws_FnIndexTrie.f
  repeat' first
      | (with_reducible exact ih0 _ _ _)
      | (with_reducible exact ih1 _ _ _)
      | (with_reducible exact ih2 _ _ _)
      | (with_reducible exact ih3 _ _ _)
      | (with_reducible exact ih4 _ _ _ _)
      | (with_reducible exact laws_ahead.mono _ _ _)
      | (with_reducible exact laws_clean.mono _ _ _)
      | (with_reducible exact laws_fair.mono _ _ _)
      | (with_reducible exact laws_numbered.mono _ _)
      | (with_reducible exact laws_rising.mono _ _)
      | (with_reducible exact laws_sameInts.mono _ _ _)
      | (with_reducible exact laws_zzFits4.mono _ _)
      | (with_reducible exact LeO.refl _)
      | (with_reducible exact LeO.none _)
      | (with_reducible refine LeO.ite ?_ ?_)
      | (with_reducible refine LeO.bind ?_ (fun _ => ?_))
      | exact ih0 _ _ _
      | exact ih1 _ _ _
      | exact ih2 _ _ _
      | exact ih3 _ _ _
      | exact ih4 _ _ _ _
      | exact laws_ahead.mono _ _ _
      | exact laws_clean.mono _ _ _
      | exact laws_fair.mono _ _ _
      | exact laws_numbered.mono _ _
      | exact laws_rising.mono _ _
      | exact laws_sameInts.mono _ _ _
      | exact laws_zzFits4.mono _ _
      | exact LeO.none _
      | refine LeO.ite ?_ ?_
      | refine LeO.bind ?_ (fun _ => ?_)
set_option maxHeartbeats 8000000 in
set_option maxRecDepth 100000 in
theorem laws_FnIndexTrie.calls (k : Nat) (A0 : Option Addr) (c0 : Nat) (l0 : List ByteArray) (a1 : ByteArray) (r : Bool) (w : World) (hr0 : Kd.C Kd.string w A0 l0.length l0) (hc0 : l0.length ≤ c0) (h : laws_FnIndexTrie.f k l0 a1 = some r) :
    Calls Try.prog 8 #[.slice A0 l0.length c0, .string a1] w fun e w' => e = .returned (.bool r) ∧ Below w.heap.size w w' := by
  have HR0 := Aside0.mk hr0
  have HC0 := Aside0.mk hc0
  clear hr0 hc0
  have HB := Aside0.mk (Below.refl w.heap.size w)
  have H : ((laws_zzFits4.f k l0).bind fun t453 => (if t453 = true then (laws_FnIndexTrie.j0 k l0 a1 (decide ((a1.size : Int) > 2147483647))) else (laws_FnIndexTrie.j0 k l0 a1 true))) = some r := h
  clear h
  have HC3 := Aside0.mk H
  clear H
  go_enter Try.func8, Try.ntmps8
  go_upto_region 1 with (fail)
  repeat (go_quiet (fail); go_upto_region 1 with (fail))
  go_cut [24] (fun v24 wc => ∃ (kq : Nat) (x24_2 : Bool), v24 = .bool x24_2 ∧ Aside0 (laws_FnIndexTrie.j0 kq l0 a1 x24_2 = some r) ∧ Aside0 (kq ≤ k) ∧ Aside0 (Below w.heap.size w wc))
  case first =>
    have H := HC3.out
    clear HC3
    replace H := Option.bind_eq_some_iff.mp H
    obtain ⟨t453, A40, H⟩ := H
    replace H : (if t453 = true then (laws_FnIndexTrie.j0 k l0 a1 (decide ((a1.size : Int) > 2147483647))) else (laws_FnIndexTrie.j0 k l0 a1 true)) = some r := H
    have A4 := Aside0.mk A40
    clear A40
    by_cases c5 : t453 = true
    · subst c5
      have H1 : (laws_FnIndexTrie.j0 k l0 a1 (decide ((a1.size : Int) > 2147483647))) = some r := by rw [if_pos rfl] at H; exact H
      clear H
      have H := H1
      clear H1
      have H' := Aside0.mk H
      clear H
      go_wp2_with (first | (go_at_call 9; (with_reducible refine (laws_zzFits4.calls k _ _ l0 true _ ?side1 ?side2 A4.out).mono ?_); (case side1 => repeat (first | exact (Kd.C_below HR0.out HB.out) | (with_reducible refine Kd.C_alloc ?_ _) | (with_reducible refine Kd.C_drewN ?_ _) | (with_reducible refine Kd.C_drew ?_))); (case side2 => exact HC0.out); rintro e w' ⟨rfl, ⟨nd, rfl⟩⟩; (try first | exact ⟨rfl, _, World.drewN_drewN _ _ _⟩ | exact ⟨rfl, _, Eq.trans (World.drewN_drewN _ _ _) (congrArg (World.drewN _) (Nat.add_assoc _ _ _))⟩)))
      repeat (go_quiet (first | (go_at_call 9; (with_reducible refine (laws_zzFits4.calls k _ _ l0 true _ ?side1 ?side2 A4.out).mono ?_); (case side1 => repeat (first | exact (Kd.C_below HR0.out HB.out) | (with_reducible refine Kd.C_alloc ?_ _) | (with_reducible refine Kd.C_drewN ?_ _) | (with_reducible refine Kd.C_drew ?_))); (case side2 => exact HC0.out); rintro e w' ⟨rfl, ⟨nd, rfl⟩⟩; (try first | exact ⟨rfl, _, World.drewN_drewN _ _ _⟩ | exact ⟨rfl, _, Eq.trans (World.drewN_drewN _ _ _) (congrArg (World.drewN _) (Nat.add_assoc _ _ _))⟩))); try go_wp2_with (first | (go_at_call 9; (with_reducible refine (laws_zzFits4.calls k _ _ l0 true _ ?side1 ?side2 A4.out).mono ?_); (case side1 => repeat (first | exact (Kd.C_below HR0.out HB.out) | (with_reducible refine Kd.C_alloc ?_ _) | (with_reducible refine Kd.C_drewN ?_ _) | (with_reducible refine Kd.C_drew ?_))); (case side2 => exact HC0.out); rintro e w' ⟨rfl, ⟨nd, rfl⟩⟩; (try first | exact ⟨rfl, _, World.drewN_drewN _ _ _⟩ | exact ⟨rfl, _, Eq.trans (World.drewN_drewN _ _ _) (congrArg (World.drewN _) (Nat.add_assoc _ _ _))⟩))))
      go_meet
      case rel => exact ⟨_, (decide ((a1.size : Int) > 2147483647)), (by first | rfl | (simp; done) | (simp [*]; done)), H', ⟨by first | omega | exact Nat.le_refl _⟩, ⟨by repeat (first | (with_reducible first | exact HB.out | apply below_alloc | apply pw_below_drewN | apply below_drew1) | exact HB.out)⟩⟩
    · replace c5 := Bool.eq_false_iff.mpr c5
      subst c5
      have H1 : (laws_FnIndexTrie.j0 k l0 a1 true) = some r := by rw [if_neg (show ¬ (false = true) by decide)] at H; exact H
      clear H
      have H := H1
      clear H1
      have H' := Aside0.mk H
      clear H
      go_wp2_with (first | (go_at_call 9; (with_reducible refine (laws_zzFits4.calls k _ _ l0 false _ ?side1 ?side2 A4.out).mono ?_); (case side1 => repeat (first | exact (Kd.C_below HR0.out HB.out) | (with_reducible refine Kd.C_alloc ?_ _) | (with_reducible refine Kd.C_drewN ?_ _) | (with_reducible refine Kd.C_drew ?_))); (case side2 => exact HC0.out); rintro e w' ⟨rfl, ⟨nd, rfl⟩⟩; (try first | exact ⟨rfl, _, World.drewN_drewN _ _ _⟩ | exact ⟨rfl, _, Eq.trans (World.drewN_drewN _ _ _) (congrArg (World.drewN _) (Nat.add_assoc _ _ _))⟩)))
      repeat (go_quiet (first | (go_at_call 9; (with_reducible refine (laws_zzFits4.calls k _ _ l0 false _ ?side1 ?side2 A4.out).mono ?_); (case side1 => repeat (first | exact (Kd.C_below HR0.out HB.out) | (with_reducible refine Kd.C_alloc ?_ _) | (with_reducible refine Kd.C_drewN ?_ _) | (with_reducible refine Kd.C_drew ?_))); (case side2 => exact HC0.out); rintro e w' ⟨rfl, ⟨nd, rfl⟩⟩; (try first | exact ⟨rfl, _, World.drewN_drewN _ _ _⟩ | exact ⟨rfl, _, Eq.trans (World.drewN_drewN _ _ _) (congrArg (World.drewN _) (Nat.add_assoc _ _ _))⟩))); try go_wp2_with (first | (go_at_call 9; (with_reducible refine (laws_zzFits4.calls k _ _ l0 false _ ?side1 ?side2 A4.out).mono ?_); (case side1 => repeat (first | exact (Kd.C_below HR0.out HB.out) | (with_reducible refine Kd.C_alloc ?_ _) | (with_reducible refine Kd.C_drewN ?_ _) | (with_reducible refine Kd.C_drew ?_))); (case side2 => exact HC0.out); rintro e w' ⟨rfl, ⟨nd, rfl⟩⟩; (try first | exact ⟨rfl, _, World.drewN_drewN _ _ _⟩ | exact ⟨rfl, _, Eq.trans (World.drewN_drewN _ _ _) (congrArg (World.drewN _) (Nat.add_assoc _ _ _))⟩))))
      go_meet
      case rel => exact ⟨_, (true), (by first | rfl | (simp; done) | (simp [*]; done)), H', ⟨by first | omega | exact Nat.le_refl _⟩, ⟨by repeat (first | (with_reducible first | exact HB.out | apply below_alloc | apply pw_below_drewN | apply below_drew1) | exact HB.out)⟩⟩
  case rest =>
    clear HC3
    try clear p2
    try clear c5
    obtain ⟨kq, x24_2, rfl, HA, HJ2, HB⟩ := hcut
    cases kq with
    | zero => exact absurd HA.out (by simp [laws_FnIndexTrie.j0])
    | succ kj2 =>
      have H := HA.out
      clear HA
      simp only [laws_FnIndexTrie.j0] at H
      by_cases c6 : x24_2 = true
      · subst c6
        have H1 : (some true) = some r := by rw [if_pos rfl] at H; exact H
        clear H
        have H := H1
        clear H1
        obtain rfl := Option.some.inj H
        go_wp2
        repeat (go_quiet (fail); try go_wp2)
        go_ret
        exact ⟨by first | rfl | (simp [errW_none, errW_some] <;> rfl) | (simp [*, errW_none, errW_some] <;> rfl), by repeat (first | (with_reducible first | exact HB.out | apply below_alloc | apply pw_below_drewN | apply below_drew1) | exact HB.out)⟩
      · replace c6 := Bool.eq_false_iff.mpr c6
        subst c6
        have H1 : ((laws_finds.f).bind fun t454 => (if t454 = true then ((laws_fair.f kj2 l0 ([] : List Int)).bind fun t455 => (if t455 = true then ((laws_rising.f kj2 l0).bind fun t456 => (if t456 = true then ((laws_clean.f kj2 80 (([a1] : List ByteArray))).bind fun t460 => (if t460 = true then ((laws_ahead.f kj2 l0 a1).bind fun t461 => (laws_FnIndexTrie.j1 kj2 l0 a1 t461)) else (laws_FnIndexTrie.j1 kj2 l0 a1 true))) else (laws_FnIndexTrie.j1 kj2 l0 a1 true))) else (laws_FnIndexTrie.j1 kj2 l0 a1 true))) else (some false))) = some r := by rw [if_neg (show ¬ (false = true) by decide)] at H; exact H
        clear H
        have H := H1
        clear H1
        replace H := Option.bind_eq_some_iff.mp H
        obtain ⟨t454, A70, H⟩ := H
        replace H : (if t454 = true then ((laws_fair.f kj2 l0 ([] : List Int)).bind fun t455 => (if t455 = true then ((laws_rising.f kj2 l0).bind fun t456 => (if t456 = true then ((laws_clean.f kj2 80 (([a1] : List ByteArray))).bind fun t460 => (if t460 = true then ((laws_ahead.f kj2 l0 a1).bind fun t461 => (laws_FnIndexTrie.j1 kj2 l0 a1 t461)) else (laws_FnIndexTrie.j1 kj2 l0 a1 true))) else (laws_FnIndexTrie.j1 kj2 l0 a1 true))) else (laws_FnIndexTrie.j1 kj2 l0 a1 true))) else (some false)) = some r := H
        have A7 := Aside0.mk A70
        clear A70
        by_cases c8 : t454 = true
        · subst c8
          have H1 : ((laws_fair.f kj2 l0 ([] : List Int)).bind fun t455 => (if t455 = true then ((laws_rising.f kj2 l0).bind fun t456 => (if t456 = true then ((laws_clean.f kj2 80 (([a1] : List ByteArray))).bind fun t460 => (if t460 = true then ((laws_ahead.f kj2 l0 a1).bind fun t461 => (laws_FnIndexTrie.j1 kj2 l0 a1 t461)) else (laws_FnIndexTrie.j1 kj2 l0 a1 true))) else (laws_FnIndexTrie.j1 kj2 l0 a1 true))) else (laws_FnIndexTrie.j1 kj2 l0 a1 true))) = some r := by rw [if_pos rfl] at H; exact H
          clear H
          have H := H1
          clear H1
          have HC9 := Aside0.mk H
          clear H
          go_upto_region 5 with (first | (go_at_call 10; (with_reducible refine (laws_finds.calls  true _ A7.out).mono ?_); rintro e w10 ⟨rfl, hb⟩; have n0_ := Aside0.mk (below_step (by repeat (first | (with_reducible first | exact HB.out | apply below_alloc | apply pw_below_drewN | apply below_drew1) | exact HB.out)) hb); clear HB; have HB := n0_; clear n0_; (try clear hb); (try clear hb2); (try clear hk); (try clear hi)))
          repeat (go_quiet (first | (go_at_call 10; (with_reducible refine (laws_finds.calls  true _ A7.out).mono ?_); rintro e w10 ⟨rfl, hb⟩; have n0_ := Aside0.mk (below_step (by repeat (first | (with_reducible first | exact HB.out | apply below_alloc | apply pw_below_drewN | apply below_drew1) | exact HB.out)) hb); clear HB; have HB := n0_; clear n0_; (try clear hb); (try clear hb2); (try clear hk); (try clear hi))); go_upto_region 5 with (first | (go_at_call 10; (with_reducible refine (laws_finds.calls  true _ A7.out).mono ?_); rintro e w10 ⟨rfl, hb⟩; have n0_ := Aside0.mk (below_step (by repeat (first | (with_reducible first | exact HB.out | apply below_alloc | apply pw_below_drewN | apply below_drew1) | exact HB.out)) hb); clear HB; have HB := n0_; clear n0_; (try clear hb); (try clear hb2); (try clear hk); (try clear hi))))
          (try simp only [Act.put, List.setIfInBounds_toArray, List.set_cons_zero, List.set_cons_succ])
          go_cut [45] (fun v45 wc => ∃ (kq : Nat) (x45_8 : Bool), v45 = .bool x45_8 ∧ Aside0 (laws_FnIndexTrie.j1 kq l0 a1 x45_8 = some r) ∧ Aside0 (kq ≤ kj2) ∧ Aside0 (Below w.heap.size w wc))
          case first =>
            have H := HC9.out
            clear HC9
            replace H := Option.bind_eq_some_iff.mp H
            obtain ⟨t455, A110, H⟩ := H
            replace H : (if t455 = true then ((laws_rising.f kj2 l0).bind fun t456 => (if t456 = true then ((laws_clean.f kj2 80 (([a1] : List ByteArray))).bind fun t460 => (if t460 = true then ((laws_ahead.f kj2 l0 a1).bind fun t461 => (laws_FnIndexTrie.j1 kj2 l0 a1 t461)) else (laws_FnIndexTrie.j1 kj2 l0 a1 true))) else (laws_FnIndexTrie.j1 kj2 l0 a1 true))) else (laws_FnIndexTrie.j1 kj2 l0 a1 true)) = some r := H
            have A11 := Aside0.mk A110
            clear A110
            by_cases c12 : t455 = true
            · subst c12
              have H1 : ((laws_rising.f kj2 l0).bind fun t456 => (if t456 = true then ((laws_clean.f kj2 80 (([a1] : List ByteArray))).bind fun t460 => (if t460 = true then ((laws_ahead.f kj2 l0 a1).bind fun t461 => (laws_FnIndexTrie.j1 kj2 l0 a1 t461)) else (laws_FnIndexTrie.j1 kj2 l0 a1 true))) else (laws_FnIndexTrie.j1 kj2 l0 a1 true))) = some r := by rw [if_pos rfl] at H; exact H
              clear H
              have H := H1
              clear H1
              replace H := Option.bind_eq_some_iff.mp H
              obtain ⟨t456, A130, H⟩ := H
              replace H : (if t456 = true then ((laws_clean.f kj2 80 (([a1] : List ByteArray))).bind fun t460 => (if t460 = true then ((laws_ahead.f kj2 l0 a1).bind fun t461 => (laws_FnIndexTrie.j1 kj2 l0 a1 t461)) else (laws_FnIndexTrie.j1 kj2 l0 a1 true))) else (laws_FnIndexTrie.j1 kj2 l0 a1 true)) = some r := H
              have A13 := Aside0.mk A130
              clear A130
              by_cases c14 : t456 = true
              · subst c14
                have H1 : ((laws_clean.f kj2 80 (([a1] : List ByteArray))).bind fun t460 => (if t460 = true then ((laws_ahead.f kj2 l0 a1).bind fun t461 => (laws_FnIndexTrie.j1 kj2 l0 a1 t461)) else (laws_FnIndexTrie.j1 kj2 l0 a1 true))) = some r := by rw [if_pos rfl] at H; exact H
                clear H
                have H := H1
                clear H1
                obtain ⟨y457, hy457⟩ : ∃ y_ : List ByteArray, y_ = (([a1] : List ByteArray)) := ⟨_, rfl⟩
                replace H : ((laws_clean.f kj2 80 y457).bind fun t460 => (if t460 = true then ((laws_ahead.f kj2 l0 a1).bind fun t461 => (laws_FnIndexTrie.j1 kj2 l0 a1 t461)) else (laws_FnIndexTrie.j1 kj2 l0 a1 true))) = some r := by first | (rw [hy457]; with_reducible exact H) | (have H2_ := (Option.bind_some _ _).symm.trans H; rw [hy457]; with_reducible exact H2_) | (have H2_ := (Option.bind_some _ _).symm.trans H; with_reducible exact H2_) | with_reducible exact H | (rw [hy457]; exact H) | exact H
                have Ny457 := Aside0.mk hy457
                clear hy457
                replace H := Option.bind_eq_some_iff.mp H
                obtain ⟨t460, A150, H⟩ := H
                replace H : (if t460 = true then ((laws_ahead.f kj2 l0 a1).bind fun t461 => (laws_FnIndexTrie.j1 kj2 l0 a1 t461)) else (laws_FnIndexTrie.j1 kj2 l0 a1 true)) = some r := H
                have A15 := Aside0.mk A150
                clear A150
                by_cases c16 : t460 = true
                · subst c16
                  have H1 : ((laws_ahead.f kj2 l0 a1).bind fun t461 => (laws_FnIndexTrie.j1 kj2 l0 a1 t461)) = some r := by rw [if_pos rfl] at H; exact H
                  clear H
                  have H := H1
                  clear H1
                  replace H := Option.bind_eq_some_iff.mp H
                  obtain ⟨t461, A170, H⟩ := H
                  replace H : (laws_FnIndexTrie.j1 kj2 l0 a1 t461) = some r := H
                  have A17 := Aside0.mk A170
                  clear A170
                  have H' := Aside0.mk H
                  clear H
                  go_wp2_with (first | (go_at_call 11; (refine (laws_fair.calls kj2 _ _ l0 _ _ ([] : List Int) true _ ?side1 ?side2 ?side3 ?side4 A11.out).mono ?_); (case side1 => repeat (first | exact (Kd.C_below HR0.out HB.out) | (with_reducible refine Kd.C_alloc ?_ _) | (with_reducible refine Kd.C_drewN ?_ _) | (with_reducible refine Kd.C_drew ?_))); (case side2 => exact HC0.out); (case side3 => exact Kd.C_nil _ _); (case side4 => exact Nat.le_refl _); rintro e w18 ⟨rfl, hb⟩; have n0_ := Aside0.mk (below_step (by repeat (first | (with_reducible first | exact HB.out | apply below_alloc | apply pw_below_drewN | apply below_drew1) | exact HB.out)) hb); clear HB; have HB := n0_; clear n0_; (try clear hb); (try clear hb2); (try clear hk); (try clear hi)) | (go_at_call 20; (with_reducible refine (laws_rising.calls kj2 _ _ l0 true _ ?side1 ?side2 A13.out).mono ?_); (case side1 => repeat (first | exact (Kd.C_below HR0.out HB.out) | (with_reducible refine Kd.C_alloc ?_ _) | (with_reducible refine Kd.C_drewN ?_ _) | (with_reducible refine Kd.C_drew ?_))); (case side2 => exact HC0.out); rintro e w19 ⟨rfl, hb⟩; have n0_ := Aside0.mk (below_step (by repeat (first | (with_reducible first | exact HB.out | apply below_alloc | apply pw_below_drewN | apply below_drew1) | exact HB.out)) hb); clear HB; have HB := n0_; clear n0_; (try clear hb); (try clear hb2); (try clear hk); (try clear hi)) | ((with_reducible refine gate_dst (N := 37) rfl ?_); (try (refine gate_guard (by rfl) ?_; dsimp only)); refine Kd.R_lit Kd.string _ 9 ?hg (N := 37) ?hd (xs := ([a1] : List ByteArray)) (inner := [.string a1]) (ok := fun _ => True) (okp := fun _ => True) ?hr ?hp (fun _ hk => hk) trivial (Below.refl _ _) (Nat.le_refl _) (by simp) ?_; (case hd => rfl); (case hg => rfl); (case hr => first | (go_simp; done) | (go_simp; rfl)); (case hp => exact (Reps.one (show Kd.M Kd.string _ _ _ a1 [.string a1] from rfl) (Reps.none _ _))); intro v458 w20 ho21 hb hg_ hnew_; clear hg_ hnew_; (first | rw [← Ny457.out] at ho21 | (simp only [Int.reduceToNat] at ho21; rw [← Ny457.out] at ho21)); have n0_ := Aside0.mk (Kd.R_lower ho21 (below_size (by repeat (first | (with_reducible first | exact HB.out | apply below_alloc | apply pw_below_drewN | apply below_drew1) | exact HB.out)))); have n1_ := Aside0.mk (below_step (by repeat (first | (with_reducible first | exact HB.out | apply below_alloc | apply pw_below_drewN | apply below_drew1) | exact HB.out)) hb); clear HB; have HO459 := n0_; have HB := n1_; clear n0_ n1_; clear hb ho21; obtain ⟨Ao22, co22, eo22⟩ := Kd.R_slice HO459.out; subst eo22) | (go_at_call 12; (with_reducible refine (laws_clean.calls kj2 80 _ _ y457 true _ ?side1 ?side2 A15.out).mono ?_); (case side1 => repeat (first | exact (Kd.R_reads' HO459.out).2.2 | (with_reducible refine Kd.C_alloc ?_ _) | (with_reducible refine Kd.C_drewN ?_ _) | (with_reducible refine Kd.C_drew ?_))); (case side2 => exact (Kd.R_reads' HO459.out).2.1); rintro e w23 ⟨rfl, hb⟩; have n0_ := Aside0.mk (Kd.R_below (by (with_reducible repeat (first | apply Kd.R_alloc | apply Kd.R_drewN | apply Kd.R_drew)); exact HO459.out) hb); have n1_ := Aside0.mk (below_step (by repeat (first | (with_reducible first | exact HB.out | apply below_alloc | apply pw_below_drewN | apply below_drew1) | exact HB.out)) hb); clear HO459; clear HB; have HO459 := n0_; have HB := n1_; clear n0_ n1_; (try clear hb); (try clear hb2); (try clear hk); (try clear hi)) | (go_at_call 13; (with_reducible refine (laws_ahead.calls kj2 _ _ l0 a1 t461 _ ?side1 ?side2 A17.out).mono ?_); (case side1 => repeat (first | exact (Kd.C_below HR0.out HB.out) | (with_reducible refine Kd.C_alloc ?_ _) | (with_reducible refine Kd.C_drewN ?_ _) | (with_reducible refine Kd.C_drew ?_))); (case side2 => exact HC0.out); rintro e w' ⟨rfl, ⟨nd, rfl⟩⟩; (try first | exact ⟨rfl, _, World.drewN_drewN _ _ _⟩ | exact ⟨rfl, _, Eq.trans (World.drewN_drewN _ _ _) (congrArg (World.drewN _) (Nat.add_assoc _ _ _))⟩)))
                  repeat (go_quiet (first | (go_at_call 11; (refine (laws_fair.calls kj2 _ _ l0 _ _ ([] : List Int) true _ ?side1 ?side2 ?side3 ?side4 A11.out).mono ?_); (case side1 => repeat (first | exact (Kd.C_below HR0.out HB.out) | (with_reducible refine Kd.C_alloc ?_ _) | (with_reducible refine Kd.C_drewN ?_ _) | (with_reducible refine Kd.C_drew ?_))); (case side2 => exact HC0.out); (case side3 => exact Kd.C_nil _ _); (case side4 => exact Nat.le_refl _); rintro e w18 ⟨rfl, hb⟩; have n0_ := Aside0.mk (below_step (by repeat (first | (with_reducible first | exact HB.out | apply below_alloc | apply pw_below_drewN | apply below_drew1) | exact HB.out)) hb); clear HB; have HB := n0_; clear n0_; (try clear hb); (try clear hb2); (try clear hk); (try clear hi)) | (go_at_call 20; (with_reducible refine (laws_rising.calls kj2 _ _ l0 true _ ?side1 ?side2 A13.out).mono ?_); (case side1 => repeat (first | exact (Kd.C_below HR0.out HB.out) | (with_reducible refine Kd.C_alloc ?_ _) | (with_reducible refine Kd.C_drewN ?_ _) | (with_reducible refine Kd.C_drew ?_))); (case side2 => exact HC0.out); rintro e w19 ⟨rfl, hb⟩; have n0_ := Aside0.mk (below_step (by repeat (first | (with_reducible first | exact HB.out | apply below_alloc | apply pw_below_drewN | apply below_drew1) | exact HB.out)) hb); clear HB; have HB := n0_; clear n0_; (try clear hb); (try clear hb2); (try clear hk); (try clear hi)) | ((with_reducible refine gate_dst (N := 37) rfl ?_); (try (refine gate_guard (by rfl) ?_; dsimp only)); refine Kd.R_lit Kd.string _ 9 ?hg (N := 37) ?hd (xs := ([a1] : List ByteArray)) (inner := [.string a1]) (ok := fun _ => True) (okp := fun _ => True) ?hr ?hp (fun _ hk => hk) trivial (Below.refl _ _) (Nat.le_refl _) (by simp) ?_; (case hd => rfl); (case hg => rfl); (case hr => first | (go_simp; done) | (go_simp; rfl)); (case hp => exact (Reps.one (show Kd.M Kd.string _ _ _ a1 [.string a1] from rfl) (Reps.none _ _))); intro v458 w20 ho21 hb hg_ hnew_; clear hg_ hnew_; (first | rw [← Ny457.out] at ho21 | (simp only [Int.reduceToNat] at ho21; rw [← Ny457.out] at ho21)); have n0_ := Aside0.mk (Kd.R_lower ho21 (below_size (by repeat (first | (with_reducible first | exact HB.out | apply below_alloc | apply pw_below_drewN | apply below_drew1) | exact HB.out)))); have n1_ := Aside0.mk (below_step (by repeat (first | (with_reducible first | exact HB.out | apply below_alloc | apply pw_below_drewN | apply below_drew1) | exact HB.out)) hb); clear HB; have HO459 := n0_; have HB := n1_; clear n0_ n1_; clear hb ho21; obtain ⟨Ao22, co22, eo22⟩ := Kd.R_slice HO459.out; subst eo22) | (go_at_call 12; (with_reducible refine (laws_clean.calls kj2 80 _ _ y457 true _ ?side1 ?side2 A15.out).mono ?_); (case side1 => repeat (first | exact (Kd.R_reads' HO459.out).2.2 | (with_reducible refine Kd.C_alloc ?_ _) | (with_reducible refine Kd.C_drewN ?_ _) | (with_reducible refine Kd.C_drew ?_))); (case side2 => exact (Kd.R_reads' HO459.out).2.1); rintro e w23 ⟨rfl, hb⟩; have n0_ := Aside0.mk (Kd.R_below (by (with_reducible repeat (first | apply Kd.R_alloc | apply Kd.R_drewN | apply Kd.R_drew)); exact HO459.out) hb); have n1_ := Aside0.mk (below_step (by repeat (first | (with_reducible first | exact HB.out | apply below_alloc | apply pw_below_drewN | apply below_drew1) | exact HB.out)) hb); clear HO459; clear HB; have HO459 := n0_; have HB := n1_; clear n0_ n1_; (try clear hb); (try clear hb2); (try clear hk); (try clear hi)) | (go_at_call 13; (with_reducible refine (laws_ahead.calls kj2 _ _ l0 a1 t461 _ ?side1 ?side2 A17.out).mono ?_); (case side1 => repeat (first | exact (Kd.C_below HR0.out HB.out) | (with_reducible refine Kd.C_alloc ?_ _) | (with_reducible refine Kd.C_drewN ?_ _) | (with_reducible refine Kd.C_drew ?_))); (case side2 => exact HC0.out); rintro e w' ⟨rfl, ⟨nd, rfl⟩⟩; (try first | exact ⟨rfl, _, World.drewN_drewN _ _ _⟩ | exact ⟨rfl, _, Eq.trans (World.drewN_drewN _ _ _) (congrArg (World.drewN _) (Nat.add_assoc _ _ _))⟩))); try go_wp2_with (first | (go_at_call 11; (refine (laws_fair.calls kj2 _ _ l0 _ _ ([] : List Int) true _ ?side1 ?side2 ?side3 ?side4 A11.out).mono ?_); (case side1 => repeat (first | exact (Kd.C_below HR0.out HB.out) | (with_reducible refine Kd.C_alloc ?_ _) | (with_reducible refine Kd.C_drewN ?_ _) | (with_reducible refine Kd.C_drew ?_))); (case side2 => exact HC0.out); (case side3 => exact Kd.C_nil _ _); (case side4 => exact Nat.le_refl _); rintro e w18 ⟨rfl, hb⟩; have n0_ := Aside0.mk (below_step (by repeat (first | (with_reducible first | exact HB.out | apply below_alloc | apply pw_below_drewN | apply below_drew1) | exact HB.out)) hb); clear HB; have HB := n0_; clear n0_; (try clear hb); (try clear hb2); (try clear hk); (try clear hi)) | (go_at_call 20; (with_reducible refine (laws_rising.calls kj2 _ _ l0 true _ ?side1 ?side2 A13.out).mono ?_); (case side1 => repeat (first | exact (Kd.C_below HR0.out HB.out) | (with_reducible refine Kd.C_alloc ?_ _) | (with_reducible refine Kd.C_drewN ?_ _) | (with_reducible refine Kd.C_drew ?_))); (case side2 => exact HC0.out); rintro e w19 ⟨rfl, hb⟩; have n0_ := Aside0.mk (below_step (by repeat (first | (with_reducible first | exact HB.out | apply below_alloc | apply pw_below_drewN | apply below_drew1) | exact HB.out)) hb); clear HB; have HB := n0_; clear n0_; (try clear hb); (try clear hb2); (try clear hk); (try clear hi)) | ((with_reducible refine gate_dst (N := 37) rfl ?_); (try (refine gate_guard (by rfl) ?_; dsimp only)); refine Kd.R_lit Kd.string _ 9 ?hg (N := 37) ?hd (xs := ([a1] : List ByteArray)) (inner := [.string a1]) (ok := fun _ => True) (okp := fun _ => True) ?hr ?hp (fun _ hk => hk) trivial (Below.refl _ _) (Nat.le_refl _) (by simp) ?_; (case hd => rfl); (case hg => rfl); (case hr => first | (go_simp; done) | (go_simp; rfl)); (case hp => exact (Reps.one (show Kd.M Kd.string _ _ _ a1 [.string a1] from rfl) (Reps.none _ _))); intro v458 w20 ho21 hb hg_ hnew_; clear hg_ hnew_; (first | rw [← Ny457.out] at ho21 | (simp only [Int.reduceToNat] at ho21; rw [← Ny457.out] at ho21)); have n0_ := Aside0.mk (Kd.R_lower ho21 (below_size (by repeat (first | (with_reducible first | exact HB.out | apply below_alloc | apply pw_below_drewN | apply below_drew1) | exact HB.out)))); have n1_ := Aside0.mk (below_step (by repeat (first | (with_reducible first | exact HB.out | apply below_alloc | apply pw_below_drewN | apply below_drew1) | exact HB.out)) hb); clear HB; have HO459 := n0_; have HB := n1_; clear n0_ n1_; clear hb ho21; obtain ⟨Ao22, co22, eo22⟩ := Kd.R_slice HO459.out; subst eo22) | (go_at_call 12; (with_reducible refine (laws_clean.calls kj2 80 _ _ y457 true _ ?side1 ?side2 A15.out).mono ?_); (case side1 => repeat (first | exact (Kd.R_reads' HO459.out).2.2 | (with_reducible refine Kd.C_alloc ?_ _) | (with_reducible refine Kd.C_drewN ?_ _) | (with_reducible refine Kd.C_drew ?_))); (case side2 => exact (Kd.R_reads' HO459.out).2.1); rintro e w23 ⟨rfl, hb⟩; have n0_ := Aside0.mk (Kd.R_below (by (with_reducible repeat (first | apply Kd.R_alloc | apply Kd.R_drewN | apply Kd.R_drew)); exact HO459.out) hb); have n1_ := Aside0.mk (below_step (by repeat (first | (with_reducible first | exact HB.out | apply below_alloc | apply pw_below_drewN | apply below_drew1) | exact HB.out)) hb); clear HO459; clear HB; have HO459 := n0_; have HB := n1_; clear n0_ n1_; (try clear hb); (try clear hb2); (try clear hk); (try clear hi)) | (go_at_call 13; (with_reducible refine (laws_ahead.calls kj2 _ _ l0 a1 t461 _ ?side1 ?side2 A17.out).mono ?_); (case side1 => repeat (first | exact (Kd.C_below HR0.out HB.out) | (with_reducible refine Kd.C_alloc ?_ _) | (with_reducible refine Kd.C_drewN ?_ _) | (with_reducible refine Kd.C_drew ?_))); (case side2 => exact HC0.out); rintro e w' ⟨rfl, ⟨nd, rfl⟩⟩; (try first | exact ⟨rfl, _, World.drewN_drewN _ _ _⟩ | exact ⟨rfl, _, Eq.trans (World.drewN_drewN _ _ _) (congrArg (World.drewN _) (Nat.add_assoc _ _ _))⟩))))
                  go_meet
                  case rel => exact ⟨_, (t461), (by first | rfl | (simp; done) | (simp [*]; done)), H', ⟨by have := HJ2.out; first | omega | exact Nat.le_refl _⟩, ⟨by repeat (first | (with_reducible first | exact HB.out | apply below_alloc | apply pw_below_drewN | apply below_drew1) | exact HB.out)⟩⟩
                · replace c16 := Bool.eq_false_iff.mpr c16
                  subst c16
                  have H1 : (laws_FnIndexTrie.j1 kj2 l0 a1 true) = some r := by rw [if_neg (show ¬ (false = true) by decide)] at H; exact H
                  clear H
                  have H := H1
                  clear H1
                  have H' := Aside0.mk H
                  clear H
                  go_wp2_with (first | (go_at_call 11; (refine (laws_fair.calls kj2 _ _ l0 _ _ ([] : List Int) true _ ?side1 ?side2 ?side3 ?side4 A11.out).mono ?_); (case side1 => repeat (first | exact (Kd.C_below HR0.out HB.out) | (with_reducible refine Kd.C_alloc ?_ _) | (with_reducible refine Kd.C_drewN ?_ _) | (with_reducible refine Kd.C_drew ?_))); (case side2 => exact HC0.out); (case side3 => exact Kd.C_nil _ _); (case side4 => exact Nat.le_refl _); rintro e w24 ⟨rfl, hb⟩; have n0_ := Aside0.mk (below_step (by repeat (first | (with_reducible first | exact HB.out | apply below_alloc | apply pw_below_drewN | apply below_drew1) | exact HB.out)) hb); clear HB; have HB := n0_; clear n0_; (try clear hb); (try clear hb2); (try clear hk); (try clear hi)) | (go_at_call 20; (with_reducible refine (laws_rising.calls kj2 _ _ l0 true _ ?side1 ?side2 A13.out).mono ?_); (case side1 => repeat (first | exact (Kd.C_below HR0.out HB.out) | (with_reducible refine Kd.C_alloc ?_ _) | (with_reducible refine Kd.C_drewN ?_ _) | (with_reducible refine Kd.C_drew ?_))); (case side2 => exact HC0.out); rintro e w25 ⟨rfl, hb⟩; have n0_ := Aside0.mk (below_step (by repeat (first | (with_reducible first | exact HB.out | apply below_alloc | apply pw_below_drewN | apply below_drew1) | exact HB.out)) hb); clear HB; have HB := n0_; clear n0_; (try clear hb); (try clear hb2); (try clear hk); (try clear hi)) | ((with_reducible refine gate_dst (N := 37) rfl ?_); (try (refine gate_guard (by rfl) ?_; dsimp only)); refine Kd.R_lit Kd.string _ 9 ?hg (N := 37) ?hd (xs := ([a1] : List ByteArray)) (inner := [.string a1]) (ok := fun _ => True) (okp := fun _ => True) ?hr ?hp (fun _ hk => hk) trivial (Below.refl _ _) (Nat.le_refl _) (by simp) ?_; (case hd => rfl); (case hg => rfl); (case hr => first | (go_simp; done) | (go_simp; rfl)); (case hp => exact (Reps.one (show Kd.M Kd.string _ _ _ a1 [.string a1] from rfl) (Reps.none _ _))); intro v458 w26 ho27 hb hg_ hnew_; clear hg_ hnew_; (first | rw [← Ny457.out] at ho27 | (simp only [Int.reduceToNat] at ho27; rw [← Ny457.out] at ho27)); have n0_ := Aside0.mk (Kd.R_lower ho27 (below_size (by repeat (first | (with_reducible first | exact HB.out | apply below_alloc | apply pw_below_drewN | apply below_drew1) | exact HB.out)))); have n1_ := Aside0.mk (below_step (by repeat (first | (with_reducible first | exact HB.out | apply below_alloc | apply pw_below_drewN | apply below_drew1) | exact HB.out)) hb); clear HB; have HO459 := n0_; have HB := n1_; clear n0_ n1_; clear hb ho27; obtain ⟨Ao28, co28, eo28⟩ := Kd.R_slice HO459.out; subst eo28) | (go_at_call 12; (with_reducible refine (laws_clean.calls kj2 80 _ _ y457 false _ ?side1 ?side2 A15.out).mono ?_); (case side1 => repeat (first | exact (Kd.R_reads' HO459.out).2.2 | (with_reducible refine Kd.C_alloc ?_ _) | (with_reducible refine Kd.C_drewN ?_ _) | (with_reducible refine Kd.C_drew ?_))); (case side2 => exact (Kd.R_reads' HO459.out).2.1); rintro e w29 ⟨rfl, hb⟩; have n0_ := Aside0.mk (Kd.R_below (by (with_reducible repeat (first | apply Kd.R_alloc | apply Kd.R_drewN | apply Kd.R_drew)); exact HO459.out) hb); have n1_ := Aside0.mk (below_step (by repeat (first | (with_reducible first | exact HB.out | apply below_alloc | apply pw_below_drewN | apply below_drew1) | exact HB.out)) hb); clear HO459; clear HB; have HO459 := n0_; have HB := n1_; clear n0_ n1_; (try clear hb); (try clear hb2); (try clear hk); (try clear hi)))
                  repeat (go_quiet (first | (go_at_call 11; (refine (laws_fair.calls kj2 _ _ l0 _ _ ([] : List Int) true _ ?side1 ?side2 ?side3 ?side4 A11.out).mono ?_); (case side1 => repeat (first | exact (Kd.C_below HR0.out HB.out) | (with_reducible refine Kd.C_alloc ?_ _) | (with_reducible refine Kd.C_drewN ?_ _) | (with_reducible refine Kd.C_drew ?_))); (case side2 => exact HC0.out); (case side3 => exact Kd.C_nil _ _); (case side4 => exact Nat.le_refl _); rintro e w24 ⟨rfl, hb⟩; have n0_ := Aside0.mk (below_step (by repeat (first | (with_reducible first | exact HB.out | apply below_alloc | apply pw_below_drewN | apply below_drew1) | exact HB.out)) hb); clear HB; have HB := n0_; clear n0_; (try clear hb); (try clear hb2); (try clear hk); (try clear hi)) | (go_at_call 20; (with_reducible refine (laws_rising.calls kj2 _ _ l0 true _ ?side1 ?side2 A13.out).mono ?_); (case side1 => repeat (first | exact (Kd.C_below HR0.out HB.out) | (with_reducible refine Kd.C_alloc ?_ _) | (with_reducible refine Kd.C_drewN ?_ _) | (with_reducible refine Kd.C_drew ?_))); (case side2 => exact HC0.out); rintro e w25 ⟨rfl, hb⟩; have n0_ := Aside0.mk (below_step (by repeat (first | (with_reducible first | exact HB.out | apply below_alloc | apply pw_below_drewN | apply below_drew1) | exact HB.out)) hb); clear HB; have HB := n0_; clear n0_; (try clear hb); (try clear hb2); (try clear hk); (try clear hi)) | ((with_reducible refine gate_dst (N := 37) rfl ?_); (try (refine gate_guard (by rfl) ?_; dsimp only)); refine Kd.R_lit Kd.string _ 9 ?hg (N := 37) ?hd (xs := ([a1] : List ByteArray)) (inner := [.string a1]) (ok := fun _ => True) (okp := fun _ => True) ?hr ?hp (fun _ hk => hk) trivial (Below.refl _ _) (Nat.le_refl _) (by simp) ?_; (case hd => rfl); (case hg => rfl); (case hr => first | (go_simp; done) | (go_simp; rfl)); (case hp => exact (Reps.one (show Kd.M Kd.string _ _ _ a1 [.string a1] from rfl) (Reps.none _ _))); intro v458 w26 ho27 hb hg_ hnew_; clear hg_ hnew_; (first | rw [← Ny457.out] at ho27 | (simp only [Int.reduceToNat] at ho27; rw [← Ny457.out] at ho27)); have n0_ := Aside0.mk (Kd.R_lower ho27 (below_size (by repeat (first | (with_reducible first | exact HB.out | apply below_alloc | apply pw_below_drewN | apply below_drew1) | exact HB.out)))); have n1_ := Aside0.mk (below_step (by repeat (first | (with_reducible first | exact HB.out | apply below_alloc | apply pw_below_drewN | apply below_drew1) | exact HB.out)) hb); clear HB; have HO459 := n0_; have HB := n1_; clear n0_ n1_; clear hb ho27; obtain ⟨Ao28, co28, eo28⟩ := Kd.R_slice HO459.out; subst eo28) | (go_at_call 12; (with_reducible refine (laws_clean.calls kj2 80 _ _ y457 false _ ?side1 ?side2 A15.out).mono ?_); (case side1 => repeat (first | exact (Kd.R_reads' HO459.out).2.2 | (with_reducible refine Kd.C_alloc ?_ _) | (with_reducible refine Kd.C_drewN ?_ _) | (with_reducible refine Kd.C_drew ?_))); (case side2 => exact (Kd.R_reads' HO459.out).2.1); rintro e w29 ⟨rfl, hb⟩; have n0_ := Aside0.mk (Kd.R_below (by (with_reducible repeat (first | apply Kd.R_alloc | apply Kd.R_drewN | apply Kd.R_drew)); exact HO459.out) hb); have n1_ := Aside0.mk (below_step (by repeat (first | (with_reducible first | exact HB.out | apply below_alloc | apply pw_below_drewN | apply below_drew1) | exact HB.out)) hb); clear HO459; clear HB; have HO459 := n0_; have HB := n1_; clear n0_ n1_; (try clear hb); (try clear hb2); (try clear hk); (try clear hi))); try go_wp2_with (first | (go_at_call 11; (refine (laws_fair.calls kj2 _ _ l0 _ _ ([] : List Int) true _ ?side1 ?side2 ?side3 ?side4 A11.out).mono ?_); (case side1 => repeat (first | exact (Kd.C_below HR0.out HB.out) | (with_reducible refine Kd.C_alloc ?_ _) | (with_reducible refine Kd.C_drewN ?_ _) | (with_reducible refine Kd.C_drew ?_))); (case side2 => exact HC0.out); (case side3 => exact Kd.C_nil _ _); (case side4 => exact Nat.le_refl _); rintro e w24 ⟨rfl, hb⟩; have n0_ := Aside0.mk (below_step (by repeat (first | (with_reducible first | exact HB.out | apply below_alloc | apply pw_below_drewN | apply below_drew1) | exact HB.out)) hb); clear HB; have HB := n0_; clear n0_; (try clear hb); (try clear hb2); (try clear hk); (try clear hi)) | (go_at_call 20; (with_reducible refine (laws_rising.calls kj2 _ _ l0 true _ ?side1 ?side2 A13.out).mono ?_); (case side1 => repeat (first | exact (Kd.C_below HR0.out HB.out) | (with_reducible refine Kd.C_alloc ?_ _) | (with_reducible refine Kd.C_drewN ?_ _) | (with_reducible refine Kd.C_drew ?_))); (case side2 => exact HC0.out); rintro e w25 ⟨rfl, hb⟩; have n0_ := Aside0.mk (below_step (by repeat (first | (with_reducible first | exact HB.out | apply below_alloc | apply pw_below_drewN | apply below_drew1) | exact HB.out)) hb); clear HB; have HB := n0_; clear n0_; (try clear hb); (try clear hb2); (try clear hk); (try clear hi)) | ((with_reducible refine gate_dst (N := 37) rfl ?_); (try (refine gate_guard (by rfl) ?_; dsimp only)); refine Kd.R_lit Kd.string _ 9 ?hg (N := 37) ?hd (xs := ([a1] : List ByteArray)) (inner := [.string a1]) (ok := fun _ => True) (okp := fun _ => True) ?hr ?hp (fun _ hk => hk) trivial (Below.refl _ _) (Nat.le_refl _) (by simp) ?_; (case hd => rfl); (case hg => rfl); (case hr => first | (go_simp; done) | (go_simp; rfl)); (case hp => exact (Reps.one (show Kd.M Kd.string _ _ _ a1 [.string a1] from rfl) (Reps.none _ _))); intro v458 w26 ho27 hb hg_ hnew_; clear hg_ hnew_; (first | rw [← Ny457.out] at ho27 | (simp only [Int.reduceToNat] at ho27; rw [← Ny457.out] at ho27)); have n0_ := Aside0.mk (Kd.R_lower ho27 (below_size (by repeat (first | (with_reducible first | exact HB.out | apply below_alloc | apply pw_below_drewN | apply below_drew1) | exact HB.out)))); have n1_ := Aside0.mk (below_step (by repeat (first | (with_reducible first | exact HB.out | apply below_alloc | apply pw_below_drewN | apply below_drew1) | exact HB.out)) hb); clear HB; have HO459 := n0_; have HB := n1_; clear n0_ n1_; clear hb ho27; obtain ⟨Ao28, co28, eo28⟩ := Kd.R_slice HO459.out; subst eo28) | (go_at_call 12; (with_reducible refine (laws_clean.calls kj2 80 _ _ y457 false _ ?side1 ?side2 A15.out).mono ?_); (case side1 => repeat (first | exact (Kd.R_reads' HO459.out).2.2 | (with_reducible refine Kd.C_alloc ?_ _) | (with_reducible refine Kd.C_drewN ?_ _) | (with_reducible refine Kd.C_drew ?_))); (case side2 => exact (Kd.R_reads' HO459.out).2.1); rintro e w29 ⟨rfl, hb⟩; have n0_ := Aside0.mk (Kd.R_below (by (with_reducible repeat (first | apply Kd.R_alloc | apply Kd.R_drewN | apply Kd.R_drew)); exact HO459.out) hb); have n1_ := Aside0.mk (below_step (by repeat (first | (with_reducible first | exact HB.out | apply below_alloc | apply pw_below_drewN | apply below_drew1) | exact HB.out)) hb); clear HO459; clear HB; have HO459 := n0_; have HB := n1_; clear n0_ n1_; (try clear hb); (try clear hb2); (try clear hk); (try clear hi))))
                  go_meet
                  case rel => exact ⟨_, (true), (by first | rfl | (simp; done) | (simp [*]; done)), H', ⟨by have := HJ2.out; first | omega | exact Nat.le_refl _⟩, ⟨by repeat (first | (with_reducible first | exact HB.out | apply below_alloc | apply pw_below_drewN | apply below_drew1) | exact HB.out)⟩⟩
              · replace c14 := Bool.eq_false_iff.mpr c14
                subst c14
                have H1 : (laws_FnIndexTrie.j1 kj2 l0 a1 true) = some r := by rw [if_neg (show ¬ (false = true) by decide)] at H; exact H
                clear H
                have H := H1
                clear H1
                have H' := Aside0.mk H
                clear H
                go_wp2_with (first | (go_at_call 11; (refine (laws_fair.calls kj2 _ _ l0 _ _ ([] : List Int) true _ ?side1 ?side2 ?side3 ?side4 A11.out).mono ?_); (case side1 => repeat (first | exact (Kd.C_below HR0.out HB.out) | (with_reducible refine Kd.C_alloc ?_ _) | (with_reducible refine Kd.C_drewN ?_ _) | (with_reducible refine Kd.C_drew ?_))); (case side2 => exact HC0.out); (case side3 => exact Kd.C_nil _ _); (case side4 => exact Nat.le_refl _); rintro e w30 ⟨rfl, hb⟩; have n0_ := Aside0.mk (below_step (by repeat (first | (with_reducible first | exact HB.out | apply below_alloc | apply pw_below_drewN | apply below_drew1) | exact HB.out)) hb); clear HB; have HB := n0_; clear n0_; (try clear hb); (try clear hb2); (try clear hk); (try clear hi)) | (go_at_call 20; (with_reducible refine (laws_rising.calls kj2 _ _ l0 false _ ?side1 ?side2 A13.out).mono ?_); (case side1 => repeat (first | exact (Kd.C_below HR0.out HB.out) | (with_reducible refine Kd.C_alloc ?_ _) | (with_reducible refine Kd.C_drewN ?_ _) | (with_reducible refine Kd.C_drew ?_))); (case side2 => exact HC0.out); rintro e w31 ⟨rfl, hb⟩; have n0_ := Aside0.mk (below_step (by repeat (first | (with_reducible first | exact HB.out | apply below_alloc | apply pw_below_drewN | apply below_drew1) | exact HB.out)) hb); clear HB; have HB := n0_; clear n0_; (try clear hb); (try clear hb2); (try clear hk); (try clear hi)))
                repeat (go_quiet (first | (go_at_call 11; (refine (laws_fair.calls kj2 _ _ l0 _ _ ([] : List Int) true _ ?side1 ?side2 ?side3 ?side4 A11.out).mono ?_); (case side1 => repeat (first | exact (Kd.C_below HR0.out HB.out) | (with_reducible refine Kd.C_alloc ?_ _) | (with_reducible refine Kd.C_drewN ?_ _) | (with_reducible refine Kd.C_drew ?_))); (case side2 => exact HC0.out); (case side3 => exact Kd.C_nil _ _); (case side4 => exact Nat.le_refl _); rintro e w30 ⟨rfl, hb⟩; have n0_ := Aside0.mk (below_step (by repeat (first | (with_reducible first | exact HB.out | apply below_alloc | apply pw_below_drewN | apply below_drew1) | exact HB.out)) hb); clear HB; have HB := n0_; clear n0_; (try clear hb); (try clear hb2); (try clear hk); (try clear hi)) | (go_at_call 20; (with_reducible refine (laws_rising.calls kj2 _ _ l0 false _ ?side1 ?side2 A13.out).mono ?_); (case side1 => repeat (first | exact (Kd.C_below HR0.out HB.out) | (with_reducible refine Kd.C_alloc ?_ _) | (with_reducible refine Kd.C_drewN ?_ _) | (with_reducible refine Kd.C_drew ?_))); (case side2 => exact HC0.out); rintro e w31 ⟨rfl, hb⟩; have n0_ := Aside0.mk (below_step (by repeat (first | (with_reducible first | exact HB.out | apply below_alloc | apply pw_below_drewN | apply below_drew1) | exact HB.out)) hb); clear HB; have HB := n0_; clear n0_; (try clear hb); (try clear hb2); (try clear hk); (try clear hi))); try go_wp2_with (first | (go_at_call 11; (refine (laws_fair.calls kj2 _ _ l0 _ _ ([] : List Int) true _ ?side1 ?side2 ?side3 ?side4 A11.out).mono ?_); (case side1 => repeat (first | exact (Kd.C_below HR0.out HB.out) | (with_reducible refine Kd.C_alloc ?_ _) | (with_reducible refine Kd.C_drewN ?_ _) | (with_reducible refine Kd.C_drew ?_))); (case side2 => exact HC0.out); (case side3 => exact Kd.C_nil _ _); (case side4 => exact Nat.le_refl _); rintro e w30 ⟨rfl, hb⟩; have n0_ := Aside0.mk (below_step (by repeat (first | (with_reducible first | exact HB.out | apply below_alloc | apply pw_below_drewN | apply below_drew1) | exact HB.out)) hb); clear HB; have HB := n0_; clear n0_; (try clear hb); (try clear hb2); (try clear hk); (try clear hi)) | (go_at_call 20; (with_reducible refine (laws_rising.calls kj2 _ _ l0 false _ ?side1 ?side2 A13.out).mono ?_); (case side1 => repeat (first | exact (Kd.C_below HR0.out HB.out) | (with_reducible refine Kd.C_alloc ?_ _) | (with_reducible refine Kd.C_drewN ?_ _) | (with_reducible refine Kd.C_drew ?_))); (case side2 => exact HC0.out); rintro e w31 ⟨rfl, hb⟩; have n0_ := Aside0.mk (below_step (by repeat (first | (with_reducible first | exact HB.out | apply below_alloc | apply pw_below_drewN | apply below_drew1) | exact HB.out)) hb); clear HB; have HB := n0_; clear n0_; (try clear hb); (try clear hb2); (try clear hk); (try clear hi))))
                go_meet
                case rel => exact ⟨_, (true), (by first | rfl | (simp; done) | (simp [*]; done)), H', ⟨by have := HJ2.out; first | omega | exact Nat.le_refl _⟩, ⟨by repeat (first | (with_reducible first | exact HB.out | apply below_alloc | apply pw_below_drewN | apply below_drew1) | exact HB.out)⟩⟩
            · replace c12 := Bool.eq_false_iff.mpr c12
              subst c12
              have H1 : (laws_FnIndexTrie.j1 kj2 l0 a1 true) = some r := by rw [if_neg (show ¬ (false = true) by decide)] at H; exact H
              clear H
              have H := H1
              clear H1
              have H' := Aside0.mk H
              clear H
              go_wp2_with (first | (go_at_call 11; (refine (laws_fair.calls kj2 _ _ l0 _ _ ([] : List Int) false _ ?side1 ?side2 ?side3 ?side4 A11.out).mono ?_); (case side1 => repeat (first | exact (Kd.C_below HR0.out HB.out) | (with_reducible refine Kd.C_alloc ?_ _) | (with_reducible refine Kd.C_drewN ?_ _) | (with_reducible refine Kd.C_drew ?_))); (case side2 => exact HC0.out); (case side3 => exact Kd.C_nil _ _); (case side4 => exact Nat.le_refl _); rintro e w32 ⟨rfl, hb⟩; have n0_ := Aside0.mk (below_step (by repeat (first | (with_reducible first | exact HB.out | apply below_alloc | apply pw_below_drewN | apply below_drew1) | exact HB.out)) hb); clear HB; have HB := n0_; clear n0_; (try clear hb); (try clear hb2); (try clear hk); (try clear hi)))
              repeat (go_quiet (first | (go_at_call 11; (refine (laws_fair.calls kj2 _ _ l0 _ _ ([] : List Int) false _ ?side1 ?side2 ?side3 ?side4 A11.out).mono ?_); (case side1 => repeat (first | exact (Kd.C_below HR0.out HB.out) | (with_reducible refine Kd.C_alloc ?_ _) | (with_reducible refine Kd.C_drewN ?_ _) | (with_reducible refine Kd.C_drew ?_))); (case side2 => exact HC0.out); (case side3 => exact Kd.C_nil _ _); (case side4 => exact Nat.le_refl _); rintro e w32 ⟨rfl, hb⟩; have n0_ := Aside0.mk (below_step (by repeat (first | (with_reducible first | exact HB.out | apply below_alloc | apply pw_below_drewN | apply below_drew1) | exact HB.out)) hb); clear HB; have HB := n0_; clear n0_; (try clear hb); (try clear hb2); (try clear hk); (try clear hi))); try go_wp2_with (first | (go_at_call 11; (refine (laws_fair.calls kj2 _ _ l0 _ _ ([] : List Int) false _ ?side1 ?side2 ?side3 ?side4 A11.out).mono ?_); (case side1 => repeat (first | exact (Kd.C_below HR0.out HB.out) | (with_reducible refine Kd.C_alloc ?_ _) | (with_reducible refine Kd.C_drewN ?_ _) | (with_reducible refine Kd.C_drew ?_))); (case side2 => exact HC0.out); (case side3 => exact Kd.C_nil _ _); (case side4 => exact Nat.le_refl _); rintro e w32 ⟨rfl, hb⟩; have n0_ := Aside0.mk (below_step (by repeat (first | (with_reducible first | exact HB.out | apply below_alloc | apply pw_below_drewN | apply below_drew1) | exact HB.out)) hb); clear HB; have HB := n0_; clear n0_; (try clear hb); (try clear hb2); (try clear hk); (try clear hi))))
              go_meet
              case rel => exact ⟨_, (true), (by first | rfl | (simp; done) | (simp [*]; done)), H', ⟨by have := HJ2.out; first | omega | exact Nat.le_refl _⟩, ⟨by repeat (first | (with_reducible first | exact HB.out | apply below_alloc | apply pw_below_drewN | apply below_drew1) | exact HB.out)⟩⟩
          case rest =>
            clear HC9
            try clear c1
            try clear p2
            try clear c5
            try clear c6
            try clear c8
            try clear c12
            try clear c14
            try clear c16
            try clear p2
            obtain ⟨kq, x45_8, rfl, HA, HJ8, HB⟩ := hcut
            cases kq with
            | zero => exact absurd HA.out (by simp [laws_FnIndexTrie.j1])
            | succ kj8 =>
              have H := HA.out
              clear HA
              simp only [laws_FnIndexTrie.j1] at H
              by_cases c33 : x45_8 = true
              · subst c33
                have H1 : (some true) = some r := by rw [if_pos rfl] at H; exact H
                clear H
                have H := H1
                clear H1
                obtain rfl := Option.some.inj H
                go_wp2
                repeat (go_quiet (fail); try go_wp2)
                go_ret
                exact ⟨by first | rfl | (simp [errW_none, errW_some] <;> rfl) | (simp [*, errW_none, errW_some] <;> rfl), by repeat (first | (with_reducible first | exact HB.out | apply below_alloc | apply pw_below_drewN | apply below_drew1) | exact HB.out)⟩
              · replace c33 := Bool.eq_false_iff.mpr c33
                subst c33
                have H1 : ((impl_IndexSearch.f l0 a1).bind fun bt462 => ((laws_numbered.f kj8 (l0.length : Int)).bind fun t466 => ((impl_TrieFind.f l0 t466 a1).bind fun bt469 => (if bt462.2 = true then (if bt469.2.2 = true then (if (bt469.2.1 != ((bt462.1.length : Int) == 1)) = true then (laws_FnIndexTrie.j2 kj8 l0 a1 true) else (if bt469.2.1 = true then (if 0 < (bt462.1.length : Int) then (laws_FnIndexTrie.j2 kj8 l0 a1 ((rd bt462.1 0) != (wrap64 (bt469.1 - 1)))) else (none)) else (laws_FnIndexTrie.j2 kj8 l0 a1 false))) else (laws_FnIndexTrie.j2 kj8 l0 a1 true)) else (laws_FnIndexTrie.j2 kj8 l0 a1 true))))) = some r := by rw [if_neg (show ¬ (false = true) by decide)] at H; exact H
                clear H
                have H := H1
                clear H1
                replace H := Option.bind_eq_some_iff.mp H
                obtain ⟨⟨t462, t463⟩, A340, H⟩ := H
                replace H : ((laws_numbered.f kj8 (l0.length : Int)).bind fun t466 => ((impl_TrieFind.f l0 t466 a1).bind fun bt469 => (if t463 = true then (if bt469.2.2 = true then (if (bt469.2.1 != ((t462.length : Int) == 1)) = true then (laws_FnIndexTrie.j2 kj8 l0 a1 true) else (if bt469.2.1 = true then (if 0 < (t462.length : Int) then (laws_FnIndexTrie.j2 kj8 l0 a1 ((rd t462 0) != (wrap64 (bt469.1 - 1)))) else (none)) else (laws_FnIndexTrie.j2 kj8 l0 a1 false))) else (laws_FnIndexTrie.j2 kj8 l0 a1 true)) else (laws_FnIndexTrie.j2 kj8 l0 a1 true)))) = some r := H
                have A34 := Aside0.mk A340
                clear A340
                replace H := Option.bind_eq_some_iff.mp H
                obtain ⟨t466, A350, H⟩ := H
                replace H : ((impl_TrieFind.f l0 t466 a1).bind fun bt469 => (if t463 = true then (if bt469.2.2 = true then (if (bt469.2.1 != ((t462.length : Int) == 1)) = true then (laws_FnIndexTrie.j2 kj8 l0 a1 true) else (if bt469.2.1 = true then (if 0 < (t462.length : Int) then (laws_FnIndexTrie.j2 kj8 l0 a1 ((rd t462 0) != (wrap64 (bt469.1 - 1)))) else (none)) else (laws_FnIndexTrie.j2 kj8 l0 a1 false))) else (laws_FnIndexTrie.j2 kj8 l0 a1 true)) else (laws_FnIndexTrie.j2 kj8 l0 a1 true))) = some r := H
                have A35 := Aside0.mk A350
                clear A350
                replace H := Option.bind_eq_some_iff.mp H
                obtain ⟨⟨t469, t470, t471⟩, A360, H⟩ := H
                replace H : (if t463 = true then (if t471 = true then (if (t470 != ((t462.length : Int) == 1)) = true then (laws_FnIndexTrie.j2 kj8 l0 a1 true) else (if t470 = true then (if 0 < (t462.length : Int) then (laws_FnIndexTrie.j2 kj8 l0 a1 ((rd t462 0) != (wrap64 (t469 - 1)))) else (none)) else (laws_FnIndexTrie.j2 kj8 l0 a1 false))) else (laws_FnIndexTrie.j2 kj8 l0 a1 true)) else (laws_FnIndexTrie.j2 kj8 l0 a1 true)) = some r := H
                have A36 := Aside0.mk A360
                clear A360
                have HC37 := Aside0.mk H
                clear H
                go_upto_region 9 with (first | (go_at_call 19; (with_reducible refine (impl_IndexSearch.calls _ _ l0 a1 t462 t463 _ ?side1 ?side2 A34.out).mono ?_); (case side1 => repeat (first | exact (Kd.C_below HR0.out HB.out) | (with_reducible refine Kd.C_alloc ?_ _) | (with_reducible refine Kd.C_drewN ?_ _) | (with_reducible refine Kd.C_drew ?_))); (case side2 => exact HC0.out); rintro e w38 ⟨v464, rfl, ho0, hb⟩; have n0_ := Aside0.mk (Kd.R_lower ho0 (below_size (by repeat (first | (with_reducible first | exact HB.out | apply below_alloc | apply pw_below_drewN | apply below_drew1) | exact HB.out)))); have n1_ := Aside0.mk (below_step (by repeat (first | (with_reducible first | exact HB.out | apply below_alloc | apply pw_below_drewN | apply below_drew1) | exact HB.out)) hb); clear HB; have HO465 := n0_; have HB := n1_; clear n0_ n1_; (try clear hb); (try clear hb2); (try clear hk); (try clear hi); (try clear ho0)) | (go_at_call 17; (with_reducible refine (laws_numbered.calls kj8 (l0.length : Int) t466 _ A35.out).mono ?_); rintro e w39 ⟨v467, rfl, ho0, hb⟩; have n0_ := Aside0.mk (Kd.R_elder' (by (with_reducible repeat (first | apply Kd.R_alloc | apply Kd.R_drewN | apply Kd.R_drew)); exact HO465.out) (by first | exact Kd.N_base ho0 | exact Kd.S_base ho0 | exact Kd.R_base ho0) hb); have n1_ := Aside0.mk (Kd.R_lower (Kd.R_new' ho0 (Kd.R_lt (by (with_reducible repeat (first | apply Kd.R_alloc | apply Kd.R_drewN | apply Kd.R_drew)); exact HO465.out))) (below_size (by repeat (first | (with_reducible first | exact HB.out | apply below_alloc | apply pw_below_drewN | apply below_drew1) | exact HB.out)))); have n2_ := Aside0.mk (below_step (by repeat (first | (with_reducible first | exact HB.out | apply below_alloc | apply pw_below_drewN | apply below_drew1) | exact HB.out)) hb); clear HO465; clear HB; have HO465 := n0_; have HO468 := n1_; have HB := n2_; clear n0_ n1_ n2_; (try clear hb); (try clear hb2); (try clear hk); (try clear hi); (try clear ho0); obtain ⟨Ao40, co40, eo40⟩ := Kd.R_slice HO468.out; subst eo40) | (go_at_call 14; (with_reducible refine (impl_TrieFind.calls _ _ l0 _ _ t466 a1 t469 t470 t471 _ ?side1 ?side2 ?side3 ?side4 A36.out).mono ?_); (case side1 => repeat (first | exact (Kd.C_below HR0.out HB.out) | (with_reducible refine Kd.C_alloc ?_ _) | (with_reducible refine Kd.C_drewN ?_ _) | (with_reducible refine Kd.C_drew ?_))); (case side2 => exact HC0.out); (case side3 => repeat (first | exact (Kd.R_reads' HO468.out).2.2 | (with_reducible refine Kd.C_alloc ?_ _) | (with_reducible refine Kd.C_drewN ?_ _) | (with_reducible refine Kd.C_drew ?_))); (case side4 => exact (Kd.R_reads' HO468.out).2.1); rintro e w41 ⟨rfl, hb⟩; have n0_ := Aside0.mk (Kd.R_below (by (with_reducible repeat (first | apply Kd.R_alloc | apply Kd.R_drewN | apply Kd.R_drew)); exact HO465.out) hb); have n1_ := Aside0.mk (Kd.R_below (by (with_reducible repeat (first | apply Kd.R_alloc | apply Kd.R_drewN | apply Kd.R_drew)); exact HO468.out) hb); have n2_ := Aside0.mk (below_step (by repeat (first | (with_reducible first | exact HB.out | apply below_alloc | apply pw_below_drewN | apply below_drew1) | exact HB.out)) hb); clear HO465; clear HO468; clear HB; have HO465 := n0_; have HO468 := n1_; have HB := n2_; clear n0_ n1_ n2_; (try clear hb); (try clear hb2); (try clear hk); (try clear hi)))
                repeat (go_quiet (first | (go_at_call 19; (with_reducible refine (impl_IndexSearch.calls _ _ l0 a1 t462 t463 _ ?side1 ?side2 A34.out).mono ?_); (case side1 => repeat (first | exact (Kd.C_below HR0.out HB.out) | (with_reducible refine Kd.C_alloc ?_ _) | (with_reducible refine Kd.C_drewN ?_ _) | (with_reducible refine Kd.C_drew ?_))); (case side2 => exact HC0.out); rintro e w38 ⟨v464, rfl, ho0, hb⟩; have n0_ := Aside0.mk (Kd.R_lower ho0 (below_size (by repeat (first | (with_reducible first | exact HB.out | apply below_alloc | apply pw_below_drewN | apply below_drew1) | exact HB.out)))); have n1_ := Aside0.mk (below_step (by repeat (first | (with_reducible first | exact HB.out | apply below_alloc | apply pw_below_drewN | apply below_drew1) | exact HB.out)) hb); clear HB; have HO465 := n0_; have HB := n1_; clear n0_ n1_; (try clear hb); (try clear hb2); (try clear hk); (try clear hi); (try clear ho0)) | (go_at_call 17; (with_reducible refine (laws_numbered.calls kj8 (l0.length : Int) t466 _ A35.out).mono ?_); rintro e w39 ⟨v467, rfl, ho0, hb⟩; have n0_ := Aside0.mk (Kd.R_elder' (by (with_reducible repeat (first | apply Kd.R_alloc | apply Kd.R_drewN | apply Kd.R_drew)); exact HO465.out) (by first | exact Kd.N_base ho0 | exact Kd.S_base ho0 | exact Kd.R_base ho0) hb); have n1_ := Aside0.mk (Kd.R_lower (Kd.R_new' ho0 (Kd.R_lt (by (with_reducible repeat (first | apply Kd.R_alloc | apply Kd.R_drewN | apply Kd.R_drew)); exact HO465.out))) (below_size (by repeat (first | (with_reducible first | exact HB.out | apply below_alloc | apply pw_below_drewN | apply below_drew1) | exact HB.out)))); have n2_ := Aside0.mk (below_step (by repeat (first | (with_reducible first | exact HB.out | apply below_alloc | apply pw_below_drewN | apply below_drew1) | exact HB.out)) hb); clear HO465; clear HB; have HO465 := n0_; have HO468 := n1_; have HB := n2_; clear n0_ n1_ n2_; (try clear hb); (try clear hb2); (try clear hk); (try clear hi); (try clear ho0); obtain ⟨Ao40, co40, eo40⟩ := Kd.R_slice HO468.out; subst eo40) | (go_at_call 14; (with_reducible refine (impl_TrieFind.calls _ _ l0 _ _ t466 a1 t469 t470 t471 _ ?side1 ?side2 ?side3 ?side4 A36.out).mono ?_); (case side1 => repeat (first | exact (Kd.C_below HR0.out HB.out) | (with_reducible refine Kd.C_alloc ?_ _) | (with_reducible refine Kd.C_drewN ?_ _) | (with_reducible refine Kd.C_drew ?_))); (case side2 => exact HC0.out); (case side3 => repeat (first | exact (Kd.R_reads' HO468.out).2.2 | (with_reducible refine Kd.C_alloc ?_ _) | (with_reducible refine Kd.C_drewN ?_ _) | (with_reducible refine Kd.C_drew ?_))); (case side4 => exact (Kd.R_reads' HO468.out).2.1); rintro e w41 ⟨rfl, hb⟩; have n0_ := Aside0.mk (Kd.R_below (by (with_reducible repeat (first | apply Kd.R_alloc | apply Kd.R_drewN | apply Kd.R_drew)); exact HO465.out) hb); have n1_ := Aside0.mk (Kd.R_below (by (with_reducible repeat (first | apply Kd.R_alloc | apply Kd.R_drewN | apply Kd.R_drew)); exact HO468.out) hb); have n2_ := Aside0.mk (below_step (by repeat (first | (with_reducible first | exact HB.out | apply below_alloc | apply pw_below_drewN | apply below_drew1) | exact HB.out)) hb); clear HO465; clear HO468; clear HB; have HO465 := n0_; have HO468 := n1_; have HB := n2_; clear n0_ n1_ n2_; (try clear hb); (try clear hb2); (try clear hk); (try clear hi))); go_upto_region 9 with (first | (go_at_call 19; (with_reducible refine (impl_IndexSearch.calls _ _ l0 a1 t462 t463 _ ?side1 ?side2 A34.out).mono ?_); (case side1 => repeat (first | exact (Kd.C_below HR0.out HB.out) | (with_reducible refine Kd.C_alloc ?_ _) | (with_reducible refine Kd.C_drewN ?_ _) | (with_reducible refine Kd.C_drew ?_))); (case side2 => exact HC0.out); rintro e w38 ⟨v464, rfl, ho0, hb⟩; have n0_ := Aside0.mk (Kd.R_lower ho0 (below_size (by repeat (first | (with_reducible first | exact HB.out | apply below_alloc | apply pw_below_drewN | apply below_drew1) | exact HB.out)))); have n1_ := Aside0.mk (below_step (by repeat (first | (with_reducible first | exact HB.out | apply below_alloc | apply pw_below_drewN | apply below_drew1) | exact HB.out)) hb); clear HB; have HO465 := n0_; have HB := n1_; clear n0_ n1_; (try clear hb); (try clear hb2); (try clear hk); (try clear hi); (try clear ho0)) | (go_at_call 17; (with_reducible refine (laws_numbered.calls kj8 (l0.length : Int) t466 _ A35.out).mono ?_); rintro e w39 ⟨v467, rfl, ho0, hb⟩; have n0_ := Aside0.mk (Kd.R_elder' (by (with_reducible repeat (first | apply Kd.R_alloc | apply Kd.R_drewN | apply Kd.R_drew)); exact HO465.out) (by first | exact Kd.N_base ho0 | exact Kd.S_base ho0 | exact Kd.R_base ho0) hb); have n1_ := Aside0.mk (Kd.R_lower (Kd.R_new' ho0 (Kd.R_lt (by (with_reducible repeat (first | apply Kd.R_alloc | apply Kd.R_drewN | apply Kd.R_drew)); exact HO465.out))) (below_size (by repeat (first | (with_reducible first | exact HB.out | apply below_alloc | apply pw_below_drewN | apply below_drew1) | exact HB.out)))); have n2_ := Aside0.mk (below_step (by repeat (first | (with_reducible first | exact HB.out | apply below_alloc | apply pw_below_drewN | apply below_drew1) | exact HB.out)) hb); clear HO465; clear HB; have HO465 := n0_; have HO468 := n1_; have HB := n2_; clear n0_ n1_ n2_; (try clear hb); (try clear hb2); (try clear hk); (try clear hi); (try clear ho0); obtain ⟨Ao40, co40, eo40⟩ := Kd.R_slice HO468.out; subst eo40) | (go_at_call 14; (with_reducible refine (impl_TrieFind.calls _ _ l0 _ _ t466 a1 t469 t470 t471 _ ?side1 ?side2 ?side3 ?side4 A36.out).mono ?_); (case side1 => repeat (first | exact (Kd.C_below HR0.out HB.out) | (with_reducible refine Kd.C_alloc ?_ _) | (with_reducible refine Kd.C_drewN ?_ _) | (with_reducible refine Kd.C_drew ?_))); (case side2 => exact HC0.out); (case side3 => repeat (first | exact (Kd.R_reads' HO468.out).2.2 | (with_reducible refine Kd.C_alloc ?_ _) | (with_reducible refine Kd.C_drewN ?_ _) | (with_reducible refine Kd.C_drew ?_))); (case side4 => exact (Kd.R_reads' HO468.out).2.1); rintro e w41 ⟨rfl, hb⟩; have n0_ := Aside0.mk (Kd.R_below (by (with_reducible repeat (first | apply Kd.R_alloc | apply Kd.R_drewN | apply Kd.R_drew)); exact HO465.out) hb); have n1_ := Aside0.mk (Kd.R_below (by (with_reducible repeat (first | apply Kd.R_alloc | apply Kd.R_drewN | apply Kd.R_drew)); exact HO468.out) hb); have n2_ := Aside0.mk (below_step (by repeat (first | (with_reducible first | exact HB.out | apply below_alloc | apply pw_below_drewN | apply below_drew1) | exact HB.out)) hb); clear HO465; clear HO468; clear HB; have HO465 := n0_; have HO468 := n1_; have HB := n2_; clear n0_ n1_ n2_; (try clear hb); (try clear hb2); (try clear hk); (try clear hi))))
                (try simp only [Act.put, List.setIfInBounds_toArray, List.set_cons_zero, List.set_cons_succ])
                go_cut [85] (fun v85 wc => ∃ (kq : Nat) (x85_36 : Bool), v85 = .bool x85_36 ∧ Aside0 (laws_FnIndexTrie.j2 kq l0 a1 x85_36 = some r) ∧ Aside0 (kq ≤ kj8) ∧ Aside0 (Below w.heap.size w wc))
                case first =>
                  have H := HC37.out
                  clear HC37
                  by_cases c42 : t463 = true
                  · subst c42
                    have H1 : (if t471 = true then (if (t470 != ((t462.length : Int) == 1)) = true then (laws_FnIndexTrie.j2 kj8 l0 a1 true) else (if t470 = true then (if 0 < (t462.length : Int) then (laws_FnIndexTrie.j2 kj8 l0 a1 ((rd t462 0) != (wrap64 (t469 - 1)))) else (none)) else (laws_FnIndexTrie.j2 kj8 l0 a1 false))) else (laws_FnIndexTrie.j2 kj8 l0 a1 true)) = some r := by rw [if_pos rfl] at H; exact H
                    clear H
                    have H := H1
                    clear H1
                    by_cases c43 : t471 = true
                    · subst c43
                      have H1 : (if (t470 != ((t462.length : Int) == 1)) = true then (laws_FnIndexTrie.j2 kj8 l0 a1 true) else (if t470 = true then (if 0 < (t462.length : Int) then (laws_FnIndexTrie.j2 kj8 l0 a1 ((rd t462 0) != (wrap64 (t469 - 1)))) else (none)) else (laws_FnIndexTrie.j2 kj8 l0 a1 false))) = some r := by rw [if_pos rfl] at H; exact H
                      clear H
                      have H := H1
                      clear H1
                      by_cases c44 : (t470 != ((t462.length : Int) == 1)) = true
                      · rw [if_pos c44] at H
                        have c44b0 : (t470 != ((t462.length : Int) == 1)) = true := c44
                        (try (have c44b1 : decide (t470 = ((t462.length : Int) == 1)) = false := by simpa using c44))
                        (try (have c44b2 : (t470 == ((t462.length : Int) == 1)) = false := by simpa using c44))
                        (try (have c44b3 : ¬ (t470 = ((t462.length : Int) == 1)) := by simpa using c44))
                        clear c44
                        (first | rw [c44b0] | (simp only [i64_w, i32_w]; rw [c44b0]) | skip)
                        have H' := Aside0.mk H
                        clear H
                        obtain ⟨Ao45, co45, eo45⟩ := Kd.R_slice HO465.out
                        subst eo45
                        go_wp2
                        repeat (go_quiet (fail); try go_wp2)
                        go_meet
                        case rel => exact ⟨_, (true), (by first | rfl | (simp; done) | (simp [*]; done)), H', ⟨by have := HJ2.out; have := HJ8.out; first | omega | exact Nat.le_refl _⟩, ⟨by repeat (first | (with_reducible first | exact HB.out | apply below_alloc | apply pw_below_drewN | apply below_drew1) | exact HB.out)⟩⟩
                      · rw [if_neg c44] at H
                        have c44b0 : (t470 != ((t462.length : Int) == 1)) = false := by simpa using c44
                        (try (have c44b1 : decide (t470 = ((t462.length : Int) == 1)) = true := by simpa using c44))
                        (try (have c44b2 : (t470 == ((t462.length : Int) == 1)) = true := by simpa using c44))
                        clear c44
                        (first | rw [c44b0] | (simp only [i64_w, i32_w]; rw [c44b0]) | skip)
                        by_cases c46 : t470 = true
                        · subst c46
                          have H1 : (if 0 < (t462.length : Int) then (laws_FnIndexTrie.j2 kj8 l0 a1 ((rd t462 0) != (wrap64 (t469 - 1)))) else (none)) = some r := by rw [if_pos rfl] at H; exact H
                          clear H
                          have H := H1
                          clear H1
                          by_cases c47 : 0 < (t462.length : Int)
                          · rw [if_pos c47] at H
                            have c47b0 : decide (0 < (t462.length : Int)) = true := decide_eq_true c47
                            have c47b1 : decide (0 < t462.length) = true := decide_eq_true (by omega)
                            clear c47
                            have H' := Aside0.mk H
                            clear H
                            obtain ⟨Ao48, co48, eo48⟩ := Kd.R_slice HO465.out
                            subst eo48
                            have p472 : 0 ≤ (0 : Int) := (by omega)
                            have q472 : 0 < (t462.length : Int) := of_decide_eq_true (by first | (with_reducible assumption) | assumption)
                            obtain ⟨ad472, e472, hx472_0⟩ := Kd.at_int (Kd.R_reads' HO465.out).2.2 0 p472 q472
                            cases e472
                            have qi472 : (0 < t462.length) = True := eq_true (by omega)
                            (try rw [show ((0 : Int)).toNat = 0 from rfl] at hx472_0)
                            (try rw [Addr.add_zero'] at hx472_0)
                            replace p472 := eq_true p472
                            replace q472 := eq_true q472
                            go_wp2
                            repeat (go_quiet (fail); try go_wp2)
                            go_meet
                            case rel => exact ⟨_, (((rd t462 0) != (wrap64 (t469 - 1)))), (by first | rfl | (simp; done) | (simp [*]; done)), H', ⟨by have := HJ2.out; have := HJ8.out; first | omega | exact Nat.le_refl _⟩, ⟨by repeat (first | (with_reducible first | exact HB.out | apply below_alloc | apply pw_below_drewN | apply below_drew1) | exact HB.out)⟩⟩
                          · rw [if_neg c47] at H
                            exact absurd H (by simp)
                        · replace c46 := Bool.eq_false_iff.mpr c46
                          subst c46
                          have H1 : (laws_FnIndexTrie.j2 kj8 l0 a1 false) = some r := by rw [if_neg (show ¬ (false = true) by decide)] at H; exact H
                          clear H
                          have H := H1
                          clear H1
                          have H' := Aside0.mk H
                          clear H
                          obtain ⟨Ao49, co49, eo49⟩ := Kd.R_slice HO465.out
                          subst eo49
                          go_wp2
                          repeat (go_quiet (fail); try go_wp2)
                          go_meet
                          case rel => exact ⟨_, (false), (by first | rfl | (simp; done) | (simp [*]; done)), H', ⟨by have := HJ2.out; have := HJ8.out; first | omega | exact Nat.le_refl _⟩, ⟨by repeat (first | (with_reducible first | exact HB.out | apply below_alloc | apply pw_below_drewN | apply below_drew1) | exact HB.out)⟩⟩
                    · replace c43 := Bool.eq_false_iff.mpr c43
                      subst c43
                      have H1 : (laws_FnIndexTrie.j2 kj8 l0 a1 true) = some r := by rw [if_neg (show ¬ (false = true) by decide)] at H; exact H
                      clear H
                      have H := H1
                      clear H1
                      have H' := Aside0.mk H
                      clear H
                      go_wp2
                      repeat (go_quiet (fail); try go_wp2)
                      go_meet
                      case rel => exact ⟨_, (true), (by first | rfl | (simp; done) | (simp [*]; done)), H', ⟨by have := HJ2.out; have := HJ8.out; first | omega | exact Nat.le_refl _⟩, ⟨by repeat (first | (with_reducible first | exact HB.out | apply below_alloc | apply pw_below_drewN | apply below_drew1) | exact HB.out)⟩⟩
                  · replace c42 := Bool.eq_false_iff.mpr c42
                    subst c42
                    have H1 : (laws_FnIndexTrie.j2 kj8 l0 a1 true) = some r := by rw [if_neg (show ¬ (false = true) by decide)] at H; exact H
                    clear H
                    have H := H1
                    clear H1
                    have H' := Aside0.mk H
                    clear H
                    go_wp2
                    repeat (go_quiet (fail); try go_wp2)
                    go_meet
                    case rel => exact ⟨_, (true), (by first | rfl | (simp; done) | (simp [*]; done)), H', ⟨by have := HJ2.out; have := HJ8.out; first | omega | exact Nat.le_refl _⟩, ⟨by repeat (first | (with_reducible first | exact HB.out | apply below_alloc | apply pw_below_drewN | apply below_drew1) | exact HB.out)⟩⟩
                case rest =>
                  clear HC37
                  try clear c1
                  try clear p2
                  try clear c3
                  try clear c4
                  try clear p4
                  try clear q4
                  try clear hx4
                  try clear qi4
                  try clear c5
                  try clear c6
                  try clear p6
                  try clear c8
                  try clear c12
                  try clear c14
                  try clear c16
                  try clear c33
                  try clear c42
                  try clear c43
                  try clear c44
                  try clear c44b0
                  try clear c44b1
                  try clear c44b2
                  try clear c46
                  try clear c47
                  try clear c47b0
                  try clear c47b1
                  try clear p47
                  try clear q47
                  try clear hx47
                  try clear qi47
                  try clear hx472_0
                  try clear p2
                  try clear p472
                  try clear q472
                  obtain ⟨kq, x85_36, rfl, HA, HJ36, HB⟩ := hcut
                  cases kq with
                  | zero => exact absurd HA.out (by simp [laws_FnIndexTrie.j2])
                  | succ kj36 =>
                    have H := HA.out
                    clear HA
                    simp only [laws_FnIndexTrie.j2] at H
                    by_cases c50 : x85_36 = true
                    · subst c50
                      have H1 : (some false) = some r := by rw [if_pos rfl] at H; exact H
                      clear H
                      have H := H1
                      clear H1
                      obtain rfl := Option.some.inj H
                      go_wp2
                      repeat (go_quiet (fail); try go_wp2)
                      go_ret
                      exact ⟨by first | rfl | (simp [errW_none, errW_some] <;> rfl) | (simp [*, errW_none, errW_some] <;> rfl), by repeat (first | (with_reducible first | exact HB.out | apply below_alloc | apply pw_below_drewN | apply below_drew1) | exact HB.out)⟩
                    · replace c50 := Bool.eq_false_iff.mpr c50
                      subst c50
                      have H1 : ((impl_IndexPrefixes.f l0 a1).bind fun bt473 => ((laws_numbered.f kj36 (l0.length : Int)).bind fun t480 => ((impl_TriePrefixes.f l0 t480 a1).bind fun bt483 => (if bt473.2.2 = true then (if bt483.2.2 = true then ((laws_sameInts.f kj36 bt473.1 bt483.2.1).bind fun t490 => (if t490 = true then (laws_FnIndexTrie.j3 kj36 bt473.2.1 bt483.1 ((bt473.2.1.length : Int) != (bt483.1.length : Int))) else (laws_FnIndexTrie.j3 kj36 bt473.2.1 bt483.1 true))) else (laws_FnIndexTrie.j3 kj36 bt473.2.1 bt483.1 true)) else (laws_FnIndexTrie.j3 kj36 bt473.2.1 bt483.1 true))))) = some r := by rw [if_neg (show ¬ (false = true) by decide)] at H; exact H
                      clear H
                      have H := H1
                      clear H1
                      replace H := Option.bind_eq_some_iff.mp H
                      obtain ⟨⟨t473, t474, t475⟩, A510, H⟩ := H
                      replace H : ((laws_numbered.f kj36 (l0.length : Int)).bind fun t480 => ((impl_TriePrefixes.f l0 t480 a1).bind fun bt483 => (if t475 = true then (if bt483.2.2 = true then ((laws_sameInts.f kj36 t473 bt483.2.1).bind fun t490 => (if t490 = true then (laws_FnIndexTrie.j3 kj36 t474 bt483.1 ((t474.length : Int) != (bt483.1.length : Int))) else (laws_FnIndexTrie.j3 kj36 t474 bt483.1 true))) else (laws_FnIndexTrie.j3 kj36 t474 bt483.1 true)) else (laws_FnIndexTrie.j3 kj36 t474 bt483.1 true)))) = some r := H
                      have A51 := Aside0.mk A510
                      clear A510
                      replace H := Option.bind_eq_some_iff.mp H
                      obtain ⟨t480, A520, H⟩ := H
                      replace H : ((impl_TriePrefixes.f l0 t480 a1).bind fun bt483 => (if t475 = true then (if bt483.2.2 = true then ((laws_sameInts.f kj36 t473 bt483.2.1).bind fun t490 => (if t490 = true then (laws_FnIndexTrie.j3 kj36 t474 bt483.1 ((t474.length : Int) != (bt483.1.length : Int))) else (laws_FnIndexTrie.j3 kj36 t474 bt483.1 true))) else (laws_FnIndexTrie.j3 kj36 t474 bt483.1 true)) else (laws_FnIndexTrie.j3 kj36 t474 bt483.1 true))) = some r := H
                      have A52 := Aside0.mk A520
                      clear A520
                      replace H := Option.bind_eq_some_iff.mp H
                      obtain ⟨⟨t483, t484, t485⟩, A530, H⟩ := H
                      replace H : (if t475 = true then (if t485 = true then ((laws_sameInts.f kj36 t473 t484).bind fun t490 => (if t490 = true then (laws_FnIndexTrie.j3 kj36 t474 t483 ((t474.length : Int) != (t483.length : Int))) else (laws_FnIndexTrie.j3 kj36 t474 t483 true))) else (laws_FnIndexTrie.j3 kj36 t474 t483 true)) else (laws_FnIndexTrie.j3 kj36 t474 t483 true)) = some r := H
                      have A53 := Aside0.mk A530
                      clear A530
                      have HC54 := Aside0.mk H
                      clear H
                      go_upto_region 13 with (first | (go_at_call 21; (with_reducible refine (impl_IndexPrefixes.calls _ _ l0 a1 t473 t474 t475 _ ?side1 ?side2 A51.out).mono ?_); (case side1 => repeat (first | exact (Kd.C_below HR0.out HB.out) | (with_reducible refine Kd.C_alloc ?_ _) | (with_reducible refine Kd.C_drewN ?_ _) | (with_reducible refine Kd.C_drew ?_))); (case side2 => exact HC0.out); rintro e w55 ⟨v476, v478, rfl, ho0, ho1, hb⟩; have n0_ := Aside0.mk (Kd.R_lower ho0 (below_size (by repeat (first | (with_reducible first | exact HB.out | apply below_alloc | apply pw_below_drewN | apply below_drew1) | exact HB.out)))); have n1_ := Aside0.mk (Kd.S_lower ho1 (below_size (by repeat (first | (with_reducible first | exact HB.out | apply below_alloc | apply pw_below_drewN | apply below_drew1) | exact HB.out)))); have n2_ := Aside0.mk (below_step (by repeat (first | (with_reducible first | exact HB.out | apply below_alloc | apply pw_below_drewN | apply below_drew1) | exact HB.out)) hb); clear HB; have HO477 := n0_; have HO479 := n1_; have HB := n2_; clear n0_ n1_ n2_; (try clear hb); (try clear hb2); (try clear hk); (try clear hi); (try clear ho0); (try clear ho1)) | (go_at_call 17; (with_reducible refine (laws_numbered.calls kj36 (l0.length : Int) t480 _ A52.out).mono ?_); rintro e w56 ⟨v481, rfl, ho0, hb⟩; have n0_ := Aside0.mk (Kd.R_elder' (by (with_reducible repeat (first | apply Kd.R_alloc | apply Kd.R_drewN | apply Kd.R_drew)); exact HO477.out) (by first | exact Kd.N_base ho0 | exact Kd.S_base ho0 | exact Kd.R_base ho0) hb); have n1_ := Aside0.mk (Kd.S_elder' (by (with_reducible repeat (first | apply Kd.S_alloc | apply Kd.S_drewN | apply Kd.S_drew)); exact HO479.out) (by first | exact Kd.N_base ho0 | exact Kd.S_base ho0 | exact Kd.R_base ho0) hb); have n2_ := Aside0.mk (Kd.R_lower (Kd.R_new' ho0 (Kd.R_lt (by (with_reducible repeat (first | apply Kd.R_alloc | apply Kd.R_drewN | apply Kd.R_drew)); exact HO477.out))) (below_size (by repeat (first | (with_reducible first | exact HB.out | apply below_alloc | apply pw_below_drewN | apply below_drew1) | exact HB.out)))); have n3_ := Aside0.mk (below_step (by repeat (first | (with_reducible first | exact HB.out | apply below_alloc | apply pw_below_drewN | apply below_drew1) | exact HB.out)) hb); clear HO477; clear HO479; clear HB; have HO477 := n0_; have HO479 := n1_; have HO482 := n2_; have HB := n3_; clear n0_ n1_ n2_ n3_; (try clear hb); (try clear hb2); (try clear hk); (try clear hi); (try clear ho0); obtain ⟨Ao57, co57, eo57⟩ := Kd.R_slice HO482.out; subst eo57) | (go_at_call 16; (with_reducible refine (impl_TriePrefixes.calls _ _ l0 _ _ t480 a1 t483 t484 t485 _ ?side1 ?side2 ?side3 ?side4 A53.out).mono ?_); (case side1 => repeat (first | exact (Kd.C_below HR0.out HB.out) | (with_reducible refine Kd.C_alloc ?_ _) | (with_reducible refine Kd.C_drewN ?_ _) | (with_reducible refine Kd.C_drew ?_))); (case side2 => exact HC0.out); (case side3 => repeat (first | exact (Kd.R_reads' HO482.out).2.2 | (with_reducible refine Kd.C_alloc ?_ _) | (with_reducible refine Kd.C_drewN ?_ _) | (with_reducible refine Kd.C_drew ?_))); (case side4 => exact (Kd.R_reads' HO482.out).2.1); rintro e w58 ⟨v486, v488, rfl, ho0, ho1, hb⟩; have n0_ := Aside0.mk (Kd.R_mono (Kd.R_told (Kd.R_told (Kd.R_old (by (with_reducible repeat (first | apply Kd.R_alloc | apply Kd.R_drewN | apply Kd.R_drew)); exact HO477.out) hb) (by first | exact Kd.N_base ho0 | exact Kd.S_base ho0 | exact Kd.R_base ho0)) (by first | exact Kd.N_base ho1 | exact Kd.S_base ho1 | exact Kd.R_base ho1)) (fun _ h_ => h_.1)); have n1_ := Aside0.mk (Kd.S_mono (Kd.S_told (Kd.S_told (Kd.S_old (by (with_reducible repeat (first | apply Kd.S_alloc | apply Kd.S_drewN | apply Kd.S_drew)); exact HO479.out) hb) (by first | exact Kd.N_base ho0 | exact Kd.S_base ho0 | exact Kd.R_base ho0)) (by first | exact Kd.N_base ho1 | exact Kd.S_base ho1 | exact Kd.R_base ho1)) (fun _ h_ => h_.1)); have n2_ := Aside0.mk (Kd.R_mono (Kd.R_told (Kd.R_told (Kd.R_old (by (with_reducible repeat (first | apply Kd.R_alloc | apply Kd.R_drewN | apply Kd.R_drew)); exact HO482.out) hb) (by first | exact Kd.N_base ho0 | exact Kd.S_base ho0 | exact Kd.R_base ho0)) (by first | exact Kd.N_base ho1 | exact Kd.S_base ho1 | exact Kd.R_base ho1)) (fun _ h_ => h_.1)); have n3_ := Aside0.mk (Kd.R_lower (Kd.R_new' (Kd.R_new' ho0 (Kd.R_lt (by (with_reducible repeat (first | apply Kd.R_alloc | apply Kd.R_drewN | apply Kd.R_drew)); exact HO477.out))) (Kd.R_lt (by (with_reducible repeat (first | apply Kd.R_alloc | apply Kd.R_drewN | apply Kd.R_drew)); exact HO482.out))) (below_size (by repeat (first | (with_reducible first | exact HB.out | apply below_alloc | apply pw_below_drewN | apply below_drew1) | exact HB.out)))); have n4_ := Aside0.mk (Kd.R_lower (Kd.R_new' (Kd.R_new' ho1 (Kd.R_lt (by (with_reducible repeat (first | apply Kd.R_alloc | apply Kd.R_drewN | apply Kd.R_drew)); exact HO477.out))) (Kd.R_lt (by (with_reducible repeat (first | apply Kd.R_alloc | apply Kd.R_drewN | apply Kd.R_drew)); exact HO482.out))) (below_size (by repeat (first | (with_reducible first | exact HB.out | apply below_alloc | apply pw_below_drewN | apply below_drew1) | exact HB.out)))); have n5_ := Aside0.mk (below_step (by repeat (first | (with_reducible first | exact HB.out | apply below_alloc | apply pw_below_drewN | apply below_drew1) | exact HB.out)) hb); clear HO477; clear HO479; clear HO482; clear HB; have HO477 := n0_; have HO479 := n1_; have HO482 := n2_; have HO487 := n3_; have HO489 := n4_; have HB := n5_; clear n0_ n1_ n2_ n3_ n4_ n5_; (try clear hb); (try clear hb2); (try clear hk); (try clear hi); (try clear ho0); (try clear ho1)))
                      repeat (go_quiet (first | (go_at_call 21; (with_reducible refine (impl_IndexPrefixes.calls _ _ l0 a1 t473 t474 t475 _ ?side1 ?side2 A51.out).mono ?_); (case side1 => repeat (first | exact (Kd.C_below HR0.out HB.out) | (with_reducible refine Kd.C_alloc ?_ _) | (with_reducible refine Kd.C_drewN ?_ _) | (with_reducible refine Kd.C_drew ?_))); (case side2 => exact HC0.out); rintro e w55 ⟨v476, v478, rfl, ho0, ho1, hb⟩; have n0_ := Aside0.mk (Kd.R_lower ho0 (below_size (by repeat (first | (with_reducible first | exact HB.out | apply below_alloc | apply pw_below_drewN | apply below_drew1) | exact HB.out)))); have n1_ := Aside0.mk (Kd.S_lower ho1 (below_size (by repeat (first | (with_reducible first | exact HB.out | apply below_alloc | apply pw_below_drewN | apply below_drew1) | exact HB.out)))); have n2_ := Aside0.mk (below_step (by repeat (first | (with_reducible first | exact HB.out | apply below_alloc | apply pw_below_drewN | apply below_drew1) | exact HB.out)) hb); clear HB; have HO477 := n0_; have HO479 := n1_; have HB := n2_; clear n0_ n1_ n2_; (try clear hb); (try clear hb2); (try clear hk); (try clear hi); (try clear ho0); (try clear ho1)) | (go_at_call 17; (with_reducible refine (laws_numbered.calls kj36 (l0.length : Int) t480 _ A52.out).mono ?_); rintro e w56 ⟨v481, rfl, ho0, hb⟩; have n0_ := Aside0.mk (Kd.R_elder' (by (with_reducible repeat (first | apply Kd.R_alloc | apply Kd.R_drewN | apply Kd.R_drew)); exact HO477.out) (by first | exact Kd.N_base ho0 | exact Kd.S_base ho0 | exact Kd.R_base ho0) hb); have n1_ := Aside0.mk (Kd.S_elder' (by (with_reducible repeat (first | apply Kd.S_alloc | apply Kd.S_drewN | apply Kd.S_drew)); exact HO479.out) (by first | exact Kd.N_base ho0 | exact Kd.S_base ho0 | exact Kd.R_base ho0) hb); have n2_ := Aside0.mk (Kd.R_lower (Kd.R_new' ho0 (Kd.R_lt (by (with_reducible repeat (first | apply Kd.R_alloc | apply Kd.R_drewN | apply Kd.R_drew)); exact HO477.out))) (below_size (by repeat (first | (with_reducible first | exact HB.out | apply below_alloc | apply pw_below_drewN | apply below_drew1) | exact HB.out)))); have n3_ := Aside0.mk (below_step (by repeat (first | (with_reducible first | exact HB.out | apply below_alloc | apply pw_below_drewN | apply below_drew1) | exact HB.out)) hb); clear HO477; clear HO479; clear HB; have HO477 := n0_; have HO479 := n1_; have HO482 := n2_; have HB := n3_; clear n0_ n1_ n2_ n3_; (try clear hb); (try clear hb2); (try clear hk); (try clear hi); (try clear ho0); obtain ⟨Ao57, co57, eo57⟩ := Kd.R_slice HO482.out; subst eo57) | (go_at_call 16; (with_reducible refine (impl_TriePrefixes.calls _ _ l0 _ _ t480 a1 t483 t484 t485 _ ?side1 ?side2 ?side3 ?side4 A53.out).mono ?_); (case side1 => repeat (first | exact (Kd.C_below HR0.out HB.out) | (with_reducible refine Kd.C_alloc ?_ _) | (with_reducible refine Kd.C_drewN ?_ _) | (with_reducible refine Kd.C_drew ?_))); (case side2 => exact HC0.out); (case side3 => repeat (first | exact (Kd.R_reads' HO482.out).2.2 | (with_reducible refine Kd.C_alloc ?_ _) | (with_reducible refine Kd.C_drewN ?_ _) | (with_reducible refine Kd.C_drew ?_))); (case side4 => exact (Kd.R_reads' HO482.out).2.1); rintro e w58 ⟨v486, v488, rfl, ho0, ho1, hb⟩; have n0_ := Aside0.mk (Kd.R_mono (Kd.R_told (Kd.R_told (Kd.R_old (by (with_reducible repeat (first | apply Kd.R_alloc | apply Kd.R_drewN | apply Kd.R_drew)); exact HO477.out) hb) (by first | exact Kd.N_base ho0 | exact Kd.S_base ho0 | exact Kd.R_base ho0)) (by first | exact Kd.N_base ho1 | exact Kd.S_base ho1 | exact Kd.R_base ho1)) (fun _ h_ => h_.1)); have n1_ := Aside0.mk (Kd.S_mono (Kd.S_told (Kd.S_told (Kd.S_old (by (with_reducible repeat (first | apply Kd.S_alloc | apply Kd.S_drewN | apply Kd.S_drew)); exact HO479.out) hb) (by first | exact Kd.N_base ho0 | exact Kd.S_base ho0 | exact Kd.R_base ho0)) (by first | exact Kd.N_base ho1 | exact Kd.S_base ho1 | exact Kd.R_base ho1)) (fun _ h_ => h_.1)); have n2_ := Aside0.mk (Kd.R_mono (Kd.R_told (Kd.R_told (Kd.R_old (by (with_reducible repeat (first | apply Kd.R_alloc | apply Kd.R_drewN | apply Kd.R_drew)); exact HO482.out) hb) (by first | exact Kd.N_base ho0 | exact Kd.S_base ho0 | exact Kd.R_base ho0)) (by first | exact Kd.N_base ho1 | exact Kd.S_base ho1 | exact Kd.R_base ho1)) (fun _ h_ => h_.1)); have n3_ := Aside0.mk (Kd.R_lower (Kd.R_new' (Kd.R_new' ho0 (Kd.R_lt (by (with_reducible repeat (first | apply Kd.R_alloc | apply Kd.R_drewN | apply Kd.R_drew)); exact HO477.out))) (Kd.R_lt (by (with_reducible repeat (first | apply Kd.R_alloc | apply Kd.R_drewN | apply Kd.R_drew)); exact HO482.out))) (below_size (by repeat (first | (with_reducible first | exact HB.out | apply below_alloc | apply pw_below_drewN | apply below_drew1) | exact HB.out)))); have n4_ := Aside0.mk (Kd.R_lower (Kd.R_new' (Kd.R_new' ho1 (Kd.R_lt (by (with_reducible repeat (first | apply Kd.R_alloc | apply Kd.R_drewN | apply Kd.R_drew)); exact HO477.out))) (Kd.R_lt (by (with_reducible repeat (first | apply Kd.R_alloc | apply Kd.R_drewN | apply Kd.R_drew)); exact HO482.out))) (below_size (by repeat (first | (with_reducible first | exact HB.out | apply below_alloc | apply pw_below_drewN | apply below_drew1) | exact HB.out)))); have n5_ := Aside0.mk (below_step (by repeat (first | (with_reducible first | exact HB.out | apply below_alloc | apply pw_below_drewN | apply below_drew1) | exact HB.out)) hb); clear HO477; clear HO479; clear HO482; clear HB; have HO477 := n0_; have HO479 := n1_; have HO482 := n2_; have HO487 := n3_; have HO489 := n4_; have HB := n5_; clear n0_ n1_ n2_ n3_ n4_ n5_; (try clear hb); (try clear hb2); (try clear hk); (try clear hi); (try clear ho0); (try clear ho1))); go_upto_region 13 with (first | (go_at_call 21; (with_reducible refine (impl_IndexPrefixes.calls _ _ l0 a1 t473 t474 t475 _ ?side1 ?side2 A51.out).mono ?_); (case side1 => repeat (first | exact (Kd.C_below HR0.out HB.out) | (with_reducible refine Kd.C_alloc ?_ _) | (with_reducible refine Kd.C_drewN ?_ _) | (with_reducible refine Kd.C_drew ?_))); (case side2 => exact HC0.out); rintro e w55 ⟨v476, v478, rfl, ho0, ho1, hb⟩; have n0_ := Aside0.mk (Kd.R_lower ho0 (below_size (by repeat (first | (with_reducible first | exact HB.out | apply below_alloc | apply pw_below_drewN | apply below_drew1) | exact HB.out)))); have n1_ := Aside0.mk (Kd.S_lower ho1 (below_size (by repeat (first | (with_reducible first | exact HB.out | apply below_alloc | apply pw_below_drewN | apply below_drew1) | exact HB.out)))); have n2_ := Aside0.mk (below_step (by repeat (first | (with_reducible first | exact HB.out | apply below_alloc | apply pw_below_drewN | apply below_drew1) | exact HB.out)) hb); clear HB; have HO477 := n0_; have HO479 := n1_; have HB := n2_; clear n0_ n1_ n2_; (try clear hb); (try clear hb2); (try clear hk); (try clear hi); (try clear ho0); (try clear ho1)) | (go_at_call 17; (with_reducible refine (laws_numbered.calls kj36 (l0.length : Int) t480 _ A52.out).mono ?_); rintro e w56 ⟨v481, rfl, ho0, hb⟩; have n0_ := Aside0.mk (Kd.R_elder' (by (with_reducible repeat (first | apply Kd.R_alloc | apply Kd.R_drewN | apply Kd.R_drew)); exact HO477.out) (by first | exact Kd.N_base ho0 | exact Kd.S_base ho0 | exact Kd.R_base ho0) hb); have n1_ := Aside0.mk (Kd.S_elder' (by (with_reducible repeat (first | apply Kd.S_alloc | apply Kd.S_drewN | apply Kd.S_drew)); exact HO479.out) (by first | exact Kd.N_base ho0 | exact Kd.S_base ho0 | exact Kd.R_base ho0) hb); have n2_ := Aside0.mk (Kd.R_lower (Kd.R_new' ho0 (Kd.R_lt (by (with_reducible repeat (first | apply Kd.R_alloc | apply Kd.R_drewN | apply Kd.R_drew)); exact HO477.out))) (below_size (by repeat (first | (with_reducible first | exact HB.out | apply below_alloc | apply pw_below_drewN | apply below_drew1) | exact HB.out)))); have n3_ := Aside0.mk (below_step (by repeat (first | (with_reducible first | exact HB.out | apply below_alloc | apply pw_below_drewN | apply below_drew1) | exact HB.out)) hb); clear HO477; clear HO479; clear HB; have HO477 := n0_; have HO479 := n1_; have HO482 := n2_; have HB := n3_; clear n0_ n1_ n2_ n3_; (try clear hb); (try clear hb2); (try clear hk); (try clear hi); (try clear ho0); obtain ⟨Ao57, co57, eo57⟩ := Kd.R_slice HO482.out; subst eo57) | (go_at_call 16; (with_reducible refine (impl_TriePrefixes.calls _ _ l0 _ _ t480 a1 t483 t484 t485 _ ?side1 ?side2 ?side3 ?side4 A53.out).mono ?_); (case side1 => repeat (first | exact (Kd.C_below HR0.out HB.out) | (with_reducible refine Kd.C_alloc ?_ _) | (with_reducible refine Kd.C_drewN ?_ _) | (with_reducible refine Kd.C_drew ?_))); (case side2 => exact HC0.out); (case side3 => repeat (first | exact (Kd.R_reads' HO482.out).2.2 | (with_reducible refine Kd.C_alloc ?_ _) | (with_reducible refine Kd.C_drewN ?_ _) | (with_reducible refine Kd.C_drew ?_))); (case side4 => exact (Kd.R_reads' HO482.out).2.1); rintro e w58 ⟨v486, v488, rfl, ho0, ho1, hb⟩; have n0_ := Aside0.mk (Kd.R_mono (Kd.R_told (Kd.R_told (Kd.R_old (by (with_reducible repeat (first | apply Kd.R_alloc | apply Kd.R_drewN | apply Kd.R_drew)); exact HO477.out) hb) (by first | exact Kd.N_base ho0 | exact Kd.S_base ho0 | exact Kd.R_base ho0)) (by first | exact Kd.N_base ho1 | exact Kd.S_base ho1 | exact Kd.R_base ho1)) (fun _ h_ => h_.1)); have n1_ := Aside0.mk (Kd.S_mono (Kd.S_told (Kd.S_told (Kd.S_old (by (with_reducible repeat (first | apply Kd.S_alloc | apply Kd.S_drewN | apply Kd.S_drew)); exact HO479.out) hb) (by first | exact Kd.N_base ho0 | exact Kd.S_base ho0 | exact Kd.R_base ho0)) (by first | exact Kd.N_base ho1 | exact Kd.S_base ho1 | exact Kd.R_base ho1)) (fun _ h_ => h_.1)); have n2_ := Aside0.mk (Kd.R_mono (Kd.R_told (Kd.R_told (Kd.R_old (by (with_reducible repeat (first | apply Kd.R_alloc | apply Kd.R_drewN | apply Kd.R_drew)); exact HO482.out) hb) (by first | exact Kd.N_base ho0 | exact Kd.S_base ho0 | exact Kd.R_base ho0)) (by first | exact Kd.N_base ho1 | exact Kd.S_base ho1 | exact Kd.R_base ho1)) (fun _ h_ => h_.1)); have n3_ := Aside0.mk (Kd.R_lower (Kd.R_new' (Kd.R_new' ho0 (Kd.R_lt (by (with_reducible repeat (first | apply Kd.R_alloc | apply Kd.R_drewN | apply Kd.R_drew)); exact HO477.out))) (Kd.R_lt (by (with_reducible repeat (first | apply Kd.R_alloc | apply Kd.R_drewN | apply Kd.R_drew)); exact HO482.out))) (below_size (by repeat (first | (with_reducible first | exact HB.out | apply below_alloc | apply pw_below_drewN | apply below_drew1) | exact HB.out)))); have n4_ := Aside0.mk (Kd.R_lower (Kd.R_new' (Kd.R_new' ho1 (Kd.R_lt (by (with_reducible repeat (first | apply Kd.R_alloc | apply Kd.R_drewN | apply Kd.R_drew)); exact HO477.out))) (Kd.R_lt (by (with_reducible repeat (first | apply Kd.R_alloc | apply Kd.R_drewN | apply Kd.R_drew)); exact HO482.out))) (below_size (by repeat (first | (with_reducible first | exact HB.out | apply below_alloc | apply pw_below_drewN | apply below_drew1) | exact HB.out)))); have n5_ := Aside0.mk (below_step (by repeat (first | (with_reducible first | exact HB.out | apply below_alloc | apply pw_below_drewN | apply below_drew1) | exact HB.out)) hb); clear HO477; clear HO479; clear HO482; clear HB; have HO477 := n0_; have HO479 := n1_; have HO482 := n2_; have HO487 := n3_; have HO489 := n4_; have HB := n5_; clear n0_ n1_ n2_ n3_ n4_ n5_; (try clear hb); (try clear hb2); (try clear hk); (try clear hi); (try clear ho0); (try clear ho1))))
                      (try simp only [Act.put, List.setIfInBounds_toArray, List.set_cons_zero, List.set_cons_succ])
                      go_cut [121] (fun v121 wc => ∃ (kq : Nat) (x121_53 : Bool), v121 = .bool x121_53 ∧ Aside0 (laws_FnIndexTrie.j3 kq t474 t483 x121_53 = some r) ∧ Aside0 (kq ≤ kj36) ∧ Aside0 (Kd.S (Kd.slice 3 (Kd.int .i64)) 23 wc w.heap.size (fun k_ => some k_ ≠ (v486 : Value).ownBlock) v478 t474) ∧ Aside0 (Kd.R (Kd.int .i64) 3 wc w.heap.size (fun _ => True) v486 t483) ∧ Aside0 (Below w.heap.size w wc))
                      case first =>
                        have H := HC54.out
                        clear HC54
                        by_cases c59 : t475 = true
                        · subst c59
                          have H1 : (if t485 = true then ((laws_sameInts.f kj36 t473 t484).bind fun t490 => (if t490 = true then (laws_FnIndexTrie.j3 kj36 t474 t483 ((t474.length : Int) != (t483.length : Int))) else (laws_FnIndexTrie.j3 kj36 t474 t483 true))) else (laws_FnIndexTrie.j3 kj36 t474 t483 true)) = some r := by rw [if_pos rfl] at H; exact H
                          clear H
                          have H := H1
                          clear H1
                          by_cases c60 : t485 = true
                          · subst c60
                            have H1 : ((laws_sameInts.f kj36 t473 t484).bind fun t490 => (if t490 = true then (laws_FnIndexTrie.j3 kj36 t474 t483 ((t474.length : Int) != (t483.length : Int))) else (laws_FnIndexTrie.j3 kj36 t474 t483 true))) = some r := by rw [if_pos rfl] at H; exact H
                            clear H
                            have H := H1
                            clear H1
                            replace H := Option.bind_eq_some_iff.mp H
                            obtain ⟨t490, A610, H⟩ := H
                            replace H : (if t490 = true then (laws_FnIndexTrie.j3 kj36 t474 t483 ((t474.length : Int) != (t483.length : Int))) else (laws_FnIndexTrie.j3 kj36 t474 t483 true)) = some r := H
                            have A61 := Aside0.mk A610
                            clear A610
                            by_cases c62 : t490 = true
                            · subst c62
                              have H1 : (laws_FnIndexTrie.j3 kj36 t474 t483 ((t474.length : Int) != (t483.length : Int))) = some r := by rw [if_pos rfl] at H; exact H
                              clear H
                              have H := H1
                              clear H1
                              have H' := Aside0.mk H
                              clear H
                              obtain ⟨Ao63, co63, eo63⟩ := Kd.R_slice HO477.out
                              subst eo63
                              obtain ⟨Ao64, co64, eo64⟩ := Kd.R_slice HO489.out
                              subst eo64
                              go_wp2_with (first | (go_at_call 18; (with_reducible refine (laws_sameInts.calls kj36 _ _ t473 _ _ t484 true _ ?side1 ?side2 ?side3 ?side4 A61.out).mono ?_); (case side1 => repeat (first | exact (Kd.R_reads' HO477.out).2.2 | (with_reducible refine Kd.C_alloc ?_ _) | (with_reducible refine Kd.C_drewN ?_ _) | (with_reducible refine Kd.C_drew ?_))); (case side2 => exact (Kd.R_reads' HO477.out).2.1); (case side3 => repeat (first | exact (Kd.R_reads' HO489.out).2.2 | (with_reducible refine Kd.C_alloc ?_ _) | (with_reducible refine Kd.C_drewN ?_ _) | (with_reducible refine Kd.C_drew ?_))); (case side4 => exact (Kd.R_reads' HO489.out).2.1); rintro e w' ⟨rfl, ⟨nd, rfl⟩⟩; (try first | exact ⟨rfl, _, World.drewN_drewN _ _ _⟩ | exact ⟨rfl, _, Eq.trans (World.drewN_drewN _ _ _) (congrArg (World.drewN _) (Nat.add_assoc _ _ _))⟩); obtain ⟨Ao65, co65, eo65⟩ := Kd.S_slice HO479.out; subst eo65; obtain ⟨Ao66, co66, eo66⟩ := Kd.R_slice HO487.out; subst eo66))
                              repeat (go_quiet (first | (go_at_call 18; (with_reducible refine (laws_sameInts.calls kj36 _ _ t473 _ _ t484 true _ ?side1 ?side2 ?side3 ?side4 A61.out).mono ?_); (case side1 => repeat (first | exact (Kd.R_reads' HO477.out).2.2 | (with_reducible refine Kd.C_alloc ?_ _) | (with_reducible refine Kd.C_drewN ?_ _) | (with_reducible refine Kd.C_drew ?_))); (case side2 => exact (Kd.R_reads' HO477.out).2.1); (case side3 => repeat (first | exact (Kd.R_reads' HO489.out).2.2 | (with_reducible refine Kd.C_alloc ?_ _) | (with_reducible refine Kd.C_drewN ?_ _) | (with_reducible refine Kd.C_drew ?_))); (case side4 => exact (Kd.R_reads' HO489.out).2.1); rintro e w' ⟨rfl, ⟨nd, rfl⟩⟩; (try first | exact ⟨rfl, _, World.drewN_drewN _ _ _⟩ | exact ⟨rfl, _, Eq.trans (World.drewN_drewN _ _ _) (congrArg (World.drewN _) (Nat.add_assoc _ _ _))⟩); obtain ⟨Ao65, co65, eo65⟩ := Kd.S_slice HO479.out; subst eo65; obtain ⟨Ao66, co66, eo66⟩ := Kd.R_slice HO487.out; subst eo66)); try go_wp2_with (first | (go_at_call 18; (with_reducible refine (laws_sameInts.calls kj36 _ _ t473 _ _ t484 true _ ?side1 ?side2 ?side3 ?side4 A61.out).mono ?_); (case side1 => repeat (first | exact (Kd.R_reads' HO477.out).2.2 | (with_reducible refine Kd.C_alloc ?_ _) | (with_reducible refine Kd.C_drewN ?_ _) | (with_reducible refine Kd.C_drew ?_))); (case side2 => exact (Kd.R_reads' HO477.out).2.1); (case side3 => repeat (first | exact (Kd.R_reads' HO489.out).2.2 | (with_reducible refine Kd.C_alloc ?_ _) | (with_reducible refine Kd.C_drewN ?_ _) | (with_reducible refine Kd.C_drew ?_))); (case side4 => exact (Kd.R_reads' HO489.out).2.1); rintro e w' ⟨rfl, ⟨nd, rfl⟩⟩; (try first | exact ⟨rfl, _, World.drewN_drewN _ _ _⟩ | exact ⟨rfl, _, Eq.trans (World.drewN_drewN _ _ _) (congrArg (World.drewN _) (Nat.add_assoc _ _ _))⟩); obtain ⟨Ao65, co65, eo65⟩ := Kd.S_slice HO479.out; subst eo65; obtain ⟨Ao66, co66, eo66⟩ := Kd.R_slice HO487.out; subst eo66)))
                              go_meet
                              case rel => exact ⟨_, (((t474.length : Int) != (t483.length : Int))), (by first | rfl | (simp; done) | (simp [*]; done)), H', ⟨by have := HJ2.out; have := HJ8.out; have := HJ36.out; first | omega | exact Nat.le_refl _⟩, ⟨by (with_reducible repeat (first | apply Kd.S_alloc | apply Kd.S_drewN | apply Kd.S_drew)); exact Kd.S_mono HO479.out (fun _ hk => hk.1.2)⟩, ⟨by (with_reducible repeat (first | apply Kd.R_alloc | apply Kd.R_drewN | apply Kd.R_drew)); exact Kd.R_mono HO487.out (fun _ hk => trivial)⟩, ⟨by repeat (first | (with_reducible first | exact HB.out | apply below_alloc | apply pw_below_drewN | apply below_drew1) | exact HB.out)⟩⟩
                            · replace c62 := Bool.eq_false_iff.mpr c62
                              subst c62
                              have H1 : (laws_FnIndexTrie.j3 kj36 t474 t483 true) = some r := by rw [if_neg (show ¬ (false = true) by decide)] at H; exact H
                              clear H
                              have H := H1
                              clear H1
                              have H' := Aside0.mk H
                              clear H
                              obtain ⟨Ao67, co67, eo67⟩ := Kd.R_slice HO477.out
                              subst eo67
                              obtain ⟨Ao68, co68, eo68⟩ := Kd.R_slice HO489.out
                              subst eo68
                              go_wp2_with (first | (go_at_call 18; (with_reducible refine (laws_sameInts.calls kj36 _ _ t473 _ _ t484 false _ ?side1 ?side2 ?side3 ?side4 A61.out).mono ?_); (case side1 => repeat (first | exact (Kd.R_reads' HO477.out).2.2 | (with_reducible refine Kd.C_alloc ?_ _) | (with_reducible refine Kd.C_drewN ?_ _) | (with_reducible refine Kd.C_drew ?_))); (case side2 => exact (Kd.R_reads' HO477.out).2.1); (case side3 => repeat (first | exact (Kd.R_reads' HO489.out).2.2 | (with_reducible refine Kd.C_alloc ?_ _) | (with_reducible refine Kd.C_drewN ?_ _) | (with_reducible refine Kd.C_drew ?_))); (case side4 => exact (Kd.R_reads' HO489.out).2.1); rintro e w' ⟨rfl, ⟨nd, rfl⟩⟩; (try first | exact ⟨rfl, _, World.drewN_drewN _ _ _⟩ | exact ⟨rfl, _, Eq.trans (World.drewN_drewN _ _ _) (congrArg (World.drewN _) (Nat.add_assoc _ _ _))⟩)))
                              repeat (go_quiet (first | (go_at_call 18; (with_reducible refine (laws_sameInts.calls kj36 _ _ t473 _ _ t484 false _ ?side1 ?side2 ?side3 ?side4 A61.out).mono ?_); (case side1 => repeat (first | exact (Kd.R_reads' HO477.out).2.2 | (with_reducible refine Kd.C_alloc ?_ _) | (with_reducible refine Kd.C_drewN ?_ _) | (with_reducible refine Kd.C_drew ?_))); (case side2 => exact (Kd.R_reads' HO477.out).2.1); (case side3 => repeat (first | exact (Kd.R_reads' HO489.out).2.2 | (with_reducible refine Kd.C_alloc ?_ _) | (with_reducible refine Kd.C_drewN ?_ _) | (with_reducible refine Kd.C_drew ?_))); (case side4 => exact (Kd.R_reads' HO489.out).2.1); rintro e w' ⟨rfl, ⟨nd, rfl⟩⟩; (try first | exact ⟨rfl, _, World.drewN_drewN _ _ _⟩ | exact ⟨rfl, _, Eq.trans (World.drewN_drewN _ _ _) (congrArg (World.drewN _) (Nat.add_assoc _ _ _))⟩))); try go_wp2_with (first | (go_at_call 18; (with_reducible refine (laws_sameInts.calls kj36 _ _ t473 _ _ t484 false _ ?side1 ?side2 ?side3 ?side4 A61.out).mono ?_); (case side1 => repeat (first | exact (Kd.R_reads' HO477.out).2.2 | (with_reducible refine Kd.C_alloc ?_ _) | (with_reducible refine Kd.C_drewN ?_ _) | (with_reducible refine Kd.C_drew ?_))); (case side2 => exact (Kd.R_reads' HO477.out).2.1); (case side3 => repeat (first | exact (Kd.R_reads' HO489.out).2.2 | (with_reducible refine Kd.C_alloc ?_ _) | (with_reducible refine Kd.C_drewN ?_ _) | (with_reducible refine Kd.C_drew ?_))); (case side4 => exact (Kd.R_reads' HO489.out).2.1); rintro e w' ⟨rfl, ⟨nd, rfl⟩⟩; (try first | exact ⟨rfl, _, World.drewN_drewN _ _ _⟩ | exact ⟨rfl, _, Eq.trans (World.drewN_drewN _ _ _) (congrArg (World.drewN _) (Nat.add_assoc _ _ _))⟩))))
                              go_meet
                              case rel => exact ⟨_, (true), (by first | rfl | (simp; done) | (simp [*]; done)), H', ⟨by have := HJ2.out; have := HJ8.out; have := HJ36.out; first | omega | exact Nat.le_refl _⟩, ⟨by (with_reducible repeat (first | apply Kd.S_alloc | apply Kd.S_drewN | apply Kd.S_drew)); exact Kd.S_mono HO479.out (fun _ hk => hk.1.2)⟩, ⟨by (with_reducible repeat (first | apply Kd.R_alloc | apply Kd.R_drewN | apply Kd.R_drew)); exact Kd.R_mono HO487.out (fun _ hk => trivial)⟩, ⟨by repeat (first | (with_reducible first | exact HB.out | apply below_alloc | apply pw_below_drewN | apply below_drew1) | exact HB.out)⟩⟩
                          · replace c60 := Bool.eq_false_iff.mpr c60
                            subst c60
                            have H1 : (laws_FnIndexTrie.j3 kj36 t474 t483 true) = some r := by rw [if_neg (show ¬ (false = true) by decide)] at H; exact H
                            clear H
                            have H := H1
                            clear H1
                            have H' := Aside0.mk H
                            clear H
                            go_wp2
                            repeat (go_quiet (fail); try go_wp2)
                            go_meet
                            case rel => exact ⟨_, (true), (by first | rfl | (simp; done) | (simp [*]; done)), H', ⟨by have := HJ2.out; have := HJ8.out; have := HJ36.out; first | omega | exact Nat.le_refl _⟩, ⟨by (with_reducible repeat (first | apply Kd.S_alloc | apply Kd.S_drewN | apply Kd.S_drew)); exact Kd.S_mono HO479.out (fun _ hk => hk.1.2)⟩, ⟨by (with_reducible repeat (first | apply Kd.R_alloc | apply Kd.R_drewN | apply Kd.R_drew)); exact Kd.R_mono HO487.out (fun _ hk => trivial)⟩, ⟨by repeat (first | (with_reducible first | exact HB.out | apply below_alloc | apply pw_below_drewN | apply below_drew1) | exact HB.out)⟩⟩
                        · replace c59 := Bool.eq_false_iff.mpr c59
                          subst c59
                          have H1 : (laws_FnIndexTrie.j3 kj36 t474 t483 true) = some r := by rw [if_neg (show ¬ (false = true) by decide)] at H; exact H
                          clear H
                          have H := H1
                          clear H1
                          have H' := Aside0.mk H
                          clear H
                          go_wp2
                          repeat (go_quiet (fail); try go_wp2)
                          go_meet
                          case rel => exact ⟨_, (true), (by first | rfl | (simp; done) | (simp [*]; done)), H', ⟨by have := HJ2.out; have := HJ8.out; have := HJ36.out; first | omega | exact Nat.le_refl _⟩, ⟨by (with_reducible repeat (first | apply Kd.S_alloc | apply Kd.S_drewN | apply Kd.S_drew)); exact Kd.S_mono HO479.out (fun _ hk => hk.1.2)⟩, ⟨by (with_reducible repeat (first | apply Kd.R_alloc | apply Kd.R_drewN | apply Kd.R_drew)); exact Kd.R_mono HO487.out (fun _ hk => trivial)⟩, ⟨by repeat (first | (with_reducible first | exact HB.out | apply below_alloc | apply pw_below_drewN | apply below_drew1) | exact HB.out)⟩⟩
                      case rest =>
                        clear HC54
                        try clear c1
                        try clear p2
                        try clear c3
                        try clear c4
                        try clear p4
                        try clear q4
                        try clear hx4
                        try clear qi4
                        try clear c5
                        try clear c6
                        try clear p6
                        try clear c8
                        try clear c12
                        try clear c14
                        try clear c16
                        try clear c33
                        try clear c42
                        try clear c43
                        try clear c44
                        try clear c44b0
                        try clear c44b1
                        try clear c44b2
                        try clear c46
                        try clear c47
                        try clear c47b0
                        try clear c47b1
                        try clear p47
                        try clear q47
                        try clear hx47
                        try clear qi47
                        try clear c50
                        try clear c59
                        try clear c60
                        try clear c62
                        try clear p64
                        try clear hx472_0
                        try clear p2
                        try clear p4
                        try clear p47
                        try clear p472
                        try clear p6
                        try clear q4
                        try clear q47
                        try clear q472
                        obtain ⟨kq, x121_53, rfl, HA, HJ53, HO_11, HO_13, HB⟩ := hcut
                        cases kq with
                        | zero => exact absurd HA.out (by simp [laws_FnIndexTrie.j3])
                        | succ kj53 =>
                          have H := HA.out
                          clear HA
                          simp only [laws_FnIndexTrie.j3] at H
                          by_cases c69 : x121_53 = true
                          · subst c69
                            have H1 : (some false) = some r := by rw [if_pos rfl] at H; exact H
                            clear H
                            have H := H1
                            clear H1
                            obtain rfl := Option.some.inj H
                            go_wp2
                            repeat (go_quiet (fail); try go_wp2)
                            go_ret
                            exact ⟨by first | rfl | (simp [errW_none, errW_some] <;> rfl) | (simp [*, errW_none, errW_some] <;> rfl), by repeat (first | (with_reducible first | exact HB.out | apply below_alloc | apply pw_below_drewN | apply below_drew1) | exact HB.out)⟩
                          · replace c69 := Bool.eq_false_iff.mpr c69
                            subst c69
                            have H1 : (laws_FnIndexTrie.l0 kj53 t474 t483 (t483.length : Int) 0) = some r := by rw [if_neg (show ¬ (false = true) by decide)] at H; exact H
                            clear H
                            have H := H1
                            clear H1
                            have H' := Aside0.mk H
                            clear H
                            obtain ⟨Ao70, co70, eo70⟩ := Kd.R_slice HO_13.out
                            subst eo70
                            go_wp2
                            repeat (go_quiet (fail); try go_wp2)
                            go_loopg [124] kj53 (fun kq v124 w' => ∃ (x124_5 : Int), v124 = .int .i64 x124_5 ∧ Aside0 (laws_FnIndexTrie.l0 kq t474 t483 (t483.length : Int) x124_5 = some r) ∧ Aside0 (kq ≤ kj53) ∧ Aside0 (Kd.S (Kd.slice 3 (Kd.int .i64)) 23 w' w.heap.size (fun k_ => some k_ ≠ ((.slice Ao70 t483.length co70) : Value).ownBlock) v478 t474) ∧ Aside0 (Kd.R (Kd.int .i64) 3 w' w.heap.size (fun _ => True) (.slice Ao70 t483.length co70) t483) ∧ Aside0 (Below w.heap.size w w'))
                            case atStart => exact ⟨(0), (by first | rfl | (simp; done) | (simp [*]; done)), H', ⟨Nat.le_refl _⟩, ⟨by (with_reducible repeat (first | apply Kd.S_alloc | apply Kd.S_drewN | apply Kd.S_drew)); exact HO_11.out⟩, ⟨by (with_reducible repeat (first | apply Kd.R_alloc | apply Kd.R_drewN | apply Kd.R_drew)); exact HO_13.out⟩, ⟨by repeat (first | (with_reducible first | exact HB.out | apply below_alloc | apply pw_below_drewN | apply below_drew1) | exact HB.out)⟩⟩
                            case round =>
                              clear H'
                              try clear c1
                              try clear p2
                              try clear c3
                              try clear c4
                              try clear p4
                              try clear q4
                              try clear hx4
                              try clear qi4
                              try clear c5
                              try clear c6
                              try clear p6
                              try clear c8
                              try clear c12
                              try clear c14
                              try clear c16
                              try clear c33
                              try clear c42
                              try clear c43
                              try clear c44
                              try clear c44b0
                              try clear c44b1
                              try clear c44b2
                              try clear c46
                              try clear c47
                              try clear c47b0
                              try clear c47b1
                              try clear p47
                              try clear q47
                              try clear hx47
                              try clear qi47
                              try clear c50
                              try clear c59
                              try clear c60
                              try clear c62
                              try clear p64
                              try clear c69
                              try clear hx472_0
                              try clear p2
                              try clear p4
                              try clear p47
                              try clear p472
                              try clear p6
                              try clear p64
                              try clear q4
                              try clear q47
                              try clear q472
                              obtain ⟨x124_5, rfl, HA, HK5, HO_11, HO_13, HB⟩ := hrel
                              cases gk with
                              | zero => exact absurd HA.out (by simp [laws_FnIndexTrie.l0])
                              | succ k5 =>
                                have H := HA.out
                                clear HA
                                simp only [laws_FnIndexTrie.l0] at H
                                by_cases c71 : x124_5 < (t483.length : Int)
                                · rw [if_pos c71] at H
                                  have c71b0 : decide (x124_5 < (t483.length : Int)) = true := decide_eq_true c71
                                  clear c71
                                  by_cases c72 : 0 ≤ x124_5
                                  · rw [if_pos c72] at H
                                    have c72b0 : decide (0 ≤ x124_5) = true := decide_eq_true c72
                                    clear c72
                                    by_cases c73 : x124_5 < (t474.length : Int)
                                    · rw [if_pos c73] at H
                                      have c73b0 : decide (x124_5 < (t474.length : Int)) = true := decide_eq_true c73
                                      clear c73
                                      by_cases c74 : ((rd_L3 t474 x124_5).length : Int) = 1
                                      · rw [if_pos c74] at H
                                        have c74b0 : (((rd_L3 t474 x124_5).length : Int) == 1) = true := beq_iff_eq.mpr c74
                                        have c74b1 : (((rd_L3 t474 x124_5).length : Int) != 1) = false := bne_eq_false_iff_eq.mpr c74
                                        clear c74
                                        by_cases c75 : 0 < ((rd_L3 t474 x124_5).length : Int)
                                        · rw [if_pos c75] at H
                                          have c75b0 : decide (0 < ((rd_L3 t474 x124_5).length : Int)) = true := decide_eq_true c75
                                          have c75b1 : decide (0 < (rd_L3 t474 x124_5).length) = true := decide_eq_true (by omega)
                                          clear c75
                                          by_cases c76 : x124_5 < (t483.length : Int)
                                          · rw [if_pos c76] at H
                                            have c76b0 : decide (x124_5 < (t483.length : Int)) = true := decide_eq_true c76
                                            clear c76
                                            by_cases c77 : (rd (rd_L3 t474 x124_5) 0) = (wrap64 ((rd t483 x124_5) - 1))
                                            · rw [if_pos c77] at H
                                              have c77b0 : ((rd (rd_L3 t474 x124_5) 0) == (wrap64 ((rd t483 x124_5) - 1))) = true := beq_iff_eq.mpr c77
                                              have c77b1 : ((rd (rd_L3 t474 x124_5) 0) != (wrap64 ((rd t483 x124_5) - 1))) = false := bne_eq_false_iff_eq.mpr c77
                                              clear c77
                                              have H' := Aside0.mk H
                                              clear H
                                              obtain ⟨Ao78, co78, eo78⟩ := Kd.S_slice HO_11.out
                                              subst eo78
                                              have p491 : 0 ≤ (x124_5 : Int) := of_decide_eq_true (by first | (with_reducible assumption) | assumption)
                                              have q491 : x124_5 < (t474.length : Int) := of_decide_eq_true (by first | (with_reducible assumption) | assumption)
                                              obtain ⟨ad491, A491_0, c491_0, e491, hx491_0, hl491_0, hi491_0⟩ := at_L3 (Kd.S_reads' HO_11.out).2.2 x124_5 p491 q491
                                              cases e491
                                              obtain ⟨ce491, hce491, hMe491, hcc491⟩ := Kd.S_get HO_11.out [] x124_5 p491 (by first | exact q491 | exact of_decide_eq_true (by first | (with_reducible assumption) | assumption) | (have e_ := (Kd.S_reads' HO_11.out).1; omega))
                                              obtain ⟨ve491_0, rfl, ge491_0⟩ := hMe491
                                              have hv491_0 := hcc491 0 _ rfl
                                              rw [Nat.add_zero, show ((Kd.slice 3 (Kd.int .i64))).sz = 1 from rfl, Nat.mul_one] at hv491_0
                                              replace hv491_0 := Option.some.inj (hv491_0.symm.trans hx491_0)
                                              rw [hv491_0] at ge491_0
                                              have HL491_0 := Aside0.mk (show Kd.R (Kd.int .i64) 3 _ _ _ _ (rd_L3 t474 x124_5) from ge491_0)
                                              clear hv491_0 ge491_0
                                              clear hcc491 hce491
                                              have HR491_0 := Aside0.mk hi491_0
                                              have HC491_0 := Aside0.mk hl491_0
                                              clear hi491_0 hl491_0
                                              replace p491 := eq_true p491
                                              replace q491 := eq_true q491
                                              have p492 : 0 ≤ (x124_5 : Int) := of_decide_eq_true (by first | (with_reducible assumption) | assumption)
                                              have q492 : x124_5 < (t474.length : Int) := of_decide_eq_true (by first | (with_reducible assumption) | assumption)
                                              obtain ⟨ad492, A492_0, c492_0, e492, hx492_0, hl492_0, hi492_0⟩ := at_L3 (Kd.S_reads' HO_11.out).2.2 x124_5 p492 q492
                                              obtain rfl : ad491 = ad492 := (by injection e492)
                                              obtain ⟨ce492, hce492, hMe492, hcc492⟩ := Kd.S_get HO_11.out [] x124_5 p492 (by first | exact q492 | exact of_decide_eq_true (by first | (with_reducible assumption) | assumption) | (have e_ := (Kd.S_reads' HO_11.out).1; omega))
                                              obtain ⟨ve492_0, rfl, ge492_0⟩ := hMe492
                                              have hv492_0 := hcc492 0 _ rfl
                                              rw [Nat.add_zero, show ((Kd.slice 3 (Kd.int .i64))).sz = 1 from rfl, Nat.mul_one] at hv492_0
                                              replace hv492_0 := Option.some.inj (hv492_0.symm.trans hx492_0)
                                              rw [hv492_0] at ge492_0
                                              have HL492_0 := Aside0.mk (show Kd.R (Kd.int .i64) 3 _ _ _ _ (rd_L3 t474 x124_5) from ge492_0)
                                              clear hv492_0 ge492_0
                                              clear hcc492 hce492
                                              have HR492_0 := Aside0.mk hi492_0
                                              have HC492_0 := Aside0.mk hl492_0
                                              clear hi492_0 hl492_0
                                              replace p492 := eq_true p492
                                              replace q492 := eq_true q492
                                              have ea_ := Option.some.inj (hx491_0.symm.trans hx492_0)
                                              injection ea_ with ea_ en_ ec_
                                              subst ea_
                                              subst ec_
                                              clear en_
                                              have p493 : 0 ≤ (0 : Int) := (by omega)
                                              have q493 : 0 < ((rd_L3 t474 x124_5).length : Int) := of_decide_eq_true (by first | (with_reducible assumption) | assumption)
                                              obtain ⟨ad493, e493, hx493_0⟩ := Kd.at_int (by repeat (first | (with_reducible exact HR492_0.out) | (with_reducible refine Kd.C_alloc ?_ _) | (with_reducible refine Kd.C_drewN ?_ _) | (with_reducible refine Kd.C_drew ?_) | exact HR492_0.out)) 0 p493 q493
                                              cases e493
                                              have qi493 : (0 < (rd_L3 t474 x124_5).length) = True := eq_true (by omega)
                                              (try rw [show ((0 : Int)).toNat = 0 from rfl] at hx493_0)
                                              (try rw [Addr.add_zero'] at hx493_0)
                                              replace p493 := eq_true p493
                                              replace q493 := eq_true q493
                                              have p494 : 0 ≤ (x124_5 : Int) := of_decide_eq_true (by first | (with_reducible assumption) | assumption)
                                              have q494 : x124_5 < (t483.length : Int) := of_decide_eq_true (by first | (with_reducible assumption) | assumption)
                                              obtain ⟨ad494, e494, hx494_0⟩ := Kd.at_int (Kd.R_reads' HO_13.out).2.2 x124_5 p494 q494
                                              cases e494
                                              replace p494 := eq_true p494
                                              replace q494 := eq_true q494
                                              go_wp2
                                              repeat (go_quiet (fail); try go_wp2)
                                              go_roundg k5
                                              case measure => have := HJ2.out; have := HJ8.out; have := HJ36.out; have := HJ53.out; have := HK5.out; omega
                                              case rel => exact ⟨(wrap64 (x124_5 + 1)), (by first | rfl | (simp; done) | (simp [*]; done)), H', ⟨by have := HJ2.out; have := HJ8.out; have := HJ36.out; have := HJ53.out; have := HK5.out; omega⟩, ⟨by (with_reducible repeat (first | apply Kd.S_alloc | apply Kd.S_drewN | apply Kd.S_drew)); exact HO_11.out⟩, ⟨by (with_reducible repeat (first | apply Kd.R_alloc | apply Kd.R_drewN | apply Kd.R_drew)); exact HO_13.out⟩, ⟨by repeat (first | (with_reducible first | exact HB.out | apply below_alloc | apply pw_below_drewN | apply below_drew1) | exact HB.out)⟩⟩
                                            · rw [if_neg c77] at H
                                              have c77b0 : ((rd (rd_L3 t474 x124_5) 0) == (wrap64 ((rd t483 x124_5) - 1))) = false := beq_eq_false_iff_ne.mpr c77
                                              have c77b1 : ((rd (rd_L3 t474 x124_5) 0) != (wrap64 ((rd t483 x124_5) - 1))) = true := bne_iff_ne.mpr c77
                                              obtain rfl := Option.some.inj H
                                              obtain ⟨Ao79, co79, eo79⟩ := Kd.S_slice HO_11.out
                                              subst eo79
                                              have p491 : 0 ≤ (x124_5 : Int) := of_decide_eq_true (by first | (with_reducible assumption) | assumption)
                                              have q491 : x124_5 < (t474.length : Int) := of_decide_eq_true (by first | (with_reducible assumption) | assumption)
                                              obtain ⟨ad491, A491_0, c491_0, e491, hx491_0, hl491_0, hi491_0⟩ := at_L3 (Kd.S_reads' HO_11.out).2.2 x124_5 p491 q491
                                              cases e491
                                              obtain ⟨ce491, hce491, hMe491, hcc491⟩ := Kd.S_get HO_11.out [] x124_5 p491 (by first | exact q491 | exact of_decide_eq_true (by first | (with_reducible assumption) | assumption) | (have e_ := (Kd.S_reads' HO_11.out).1; omega))
                                              obtain ⟨ve491_0, rfl, ge491_0⟩ := hMe491
                                              have hv491_0 := hcc491 0 _ rfl
                                              rw [Nat.add_zero, show ((Kd.slice 3 (Kd.int .i64))).sz = 1 from rfl, Nat.mul_one] at hv491_0
                                              replace hv491_0 := Option.some.inj (hv491_0.symm.trans hx491_0)
                                              rw [hv491_0] at ge491_0
                                              have HL491_0 := Aside0.mk (show Kd.R (Kd.int .i64) 3 _ _ _ _ (rd_L3 t474 x124_5) from ge491_0)
                                              clear hv491_0 ge491_0
                                              clear hcc491 hce491
                                              have HR491_0 := Aside0.mk hi491_0
                                              have HC491_0 := Aside0.mk hl491_0
                                              clear hi491_0 hl491_0
                                              replace p491 := eq_true p491
                                              replace q491 := eq_true q491
                                              have p492 : 0 ≤ (x124_5 : Int) := of_decide_eq_true (by first | (with_reducible assumption) | assumption)
                                              have q492 : x124_5 < (t474.length : Int) := of_decide_eq_true (by first | (with_reducible assumption) | assumption)
                                              obtain ⟨ad492, A492_0, c492_0, e492, hx492_0, hl492_0, hi492_0⟩ := at_L3 (Kd.S_reads' HO_11.out).2.2 x124_5 p492 q492
                                              obtain rfl : ad491 = ad492 := (by injection e492)
                                              obtain ⟨ce492, hce492, hMe492, hcc492⟩ := Kd.S_get HO_11.out [] x124_5 p492 (by first | exact q492 | exact of_decide_eq_true (by first | (with_reducible assumption) | assumption) | (have e_ := (Kd.S_reads' HO_11.out).1; omega))
                                              obtain ⟨ve492_0, rfl, ge492_0⟩ := hMe492
                                              have hv492_0 := hcc492 0 _ rfl
                                              rw [Nat.add_zero, show ((Kd.slice 3 (Kd.int .i64))).sz = 1 from rfl, Nat.mul_one] at hv492_0
                                              replace hv492_0 := Option.some.inj (hv492_0.symm.trans hx492_0)
                                              rw [hv492_0] at ge492_0
                                              have HL492_0 := Aside0.mk (show Kd.R (Kd.int .i64) 3 _ _ _ _ (rd_L3 t474 x124_5) from ge492_0)
                                              clear hv492_0 ge492_0
                                              clear hcc492 hce492
                                              have HR492_0 := Aside0.mk hi492_0
                                              have HC492_0 := Aside0.mk hl492_0
                                              clear hi492_0 hl492_0
                                              replace p492 := eq_true p492
                                              replace q492 := eq_true q492
                                              have ea_ := Option.some.inj (hx491_0.symm.trans hx492_0)
                                              injection ea_ with ea_ en_ ec_
                                              subst ea_
                                              subst ec_
                                              clear en_
                                              have p493 : 0 ≤ (0 : Int) := (by omega)
                                              have q493 : 0 < ((rd_L3 t474 x124_5).length : Int) := of_decide_eq_true (by first | (with_reducible assumption) | assumption)
                                              obtain ⟨ad493, e493, hx493_0⟩ := Kd.at_int (by repeat (first | (with_reducible exact HR492_0.out) | (with_reducible refine Kd.C_alloc ?_ _) | (with_reducible refine Kd.C_drewN ?_ _) | (with_reducible refine Kd.C_drew ?_) | exact HR492_0.out)) 0 p493 q493
                                              cases e493
                                              have qi493 : (0 < (rd_L3 t474 x124_5).length) = True := eq_true (by omega)
                                              (try rw [show ((0 : Int)).toNat = 0 from rfl] at hx493_0)
                                              (try rw [Addr.add_zero'] at hx493_0)
                                              replace p493 := eq_true p493
                                              replace q493 := eq_true q493
                                              have p494 : 0 ≤ (x124_5 : Int) := of_decide_eq_true (by first | (with_reducible assumption) | assumption)
                                              have q494 : x124_5 < (t483.length : Int) := of_decide_eq_true (by first | (with_reducible assumption) | assumption)
                                              obtain ⟨ad494, e494, hx494_0⟩ := Kd.at_int (Kd.R_reads' HO_13.out).2.2 x124_5 p494 q494
                                              cases e494
                                              replace p494 := eq_true p494
                                              replace q494 := eq_true q494
                                              go_wp2
                                              repeat (go_quiet (fail); try go_wp2)
                                              go_ret
                                              exact ⟨by first | rfl | (simp [errW_none, errW_some] <;> rfl) | (simp [*, errW_none, errW_some] <;> rfl), by repeat (first | (with_reducible first | exact HB.out | apply below_alloc | apply pw_below_drewN | apply below_drew1) | exact HB.out)⟩
                                          · rw [if_neg c76] at H
                                            exact absurd H (by simp)
                                        · rw [if_neg c75] at H
                                          exact absurd H (by simp)
                                      · rw [if_neg c74] at H
                                        have c74b0 : (((rd_L3 t474 x124_5).length : Int) == 1) = false := beq_eq_false_iff_ne.mpr c74
                                        have c74b1 : (((rd_L3 t474 x124_5).length : Int) != 1) = true := bne_iff_ne.mpr c74
                                        obtain rfl := Option.some.inj H
                                        obtain ⟨Ao80, co80, eo80⟩ := Kd.S_slice HO_11.out
                                        subst eo80
                                        have p491 : 0 ≤ (x124_5 : Int) := of_decide_eq_true (by first | (with_reducible assumption) | assumption)
                                        have q491 : x124_5 < (t474.length : Int) := of_decide_eq_true (by first | (with_reducible assumption) | assumption)
                                        obtain ⟨ad491, A491_0, c491_0, e491, hx491_0, hl491_0, hi491_0⟩ := at_L3 (Kd.S_reads' HO_11.out).2.2 x124_5 p491 q491
                                        cases e491
                                        obtain ⟨ce491, hce491, hMe491, hcc491⟩ := Kd.S_get HO_11.out [] x124_5 p491 (by first | exact q491 | exact of_decide_eq_true (by first | (with_reducible assumption) | assumption) | (have e_ := (Kd.S_reads' HO_11.out).1; omega))
                                        obtain ⟨ve491_0, rfl, ge491_0⟩ := hMe491
                                        have hv491_0 := hcc491 0 _ rfl
                                        rw [Nat.add_zero, show ((Kd.slice 3 (Kd.int .i64))).sz = 1 from rfl, Nat.mul_one] at hv491_0
                                        replace hv491_0 := Option.some.inj (hv491_0.symm.trans hx491_0)
                                        rw [hv491_0] at ge491_0
                                        have HL491_0 := Aside0.mk (show Kd.R (Kd.int .i64) 3 _ _ _ _ (rd_L3 t474 x124_5) from ge491_0)
                                        clear hv491_0 ge491_0
                                        clear hcc491 hce491
                                        have HR491_0 := Aside0.mk hi491_0
                                        have HC491_0 := Aside0.mk hl491_0
                                        clear hi491_0 hl491_0
                                        replace p491 := eq_true p491
                                        replace q491 := eq_true q491
                                        go_wp2
                                        repeat (go_quiet (fail); try go_wp2)
                                        go_ret
                                        exact ⟨by first | rfl | (simp [errW_none, errW_some] <;> rfl) | (simp [*, errW_none, errW_some] <;> rfl), by repeat (first | (with_reducible first | exact HB.out | apply below_alloc | apply pw_below_drewN | apply below_drew1) | exact HB.out)⟩
                                    · rw [if_neg c73] at H
                                      exact absurd H (by simp)
                                  · rw [if_neg c72] at H
                                    exact absurd H (by simp)
                                · rw [if_neg c71] at H
                                  have c71b0 : decide (x124_5 < (t483.length : Int)) = false := decide_eq_false c71
                                  clear c71
                                  obtain rfl := Option.some.inj H
                                  go_wp2
                                  repeat (go_quiet (fail); try go_wp2)
                                  go_ret
                                  exact ⟨by first | rfl | (simp [errW_none, errW_some] <;> rfl) | (simp [*, errW_none, errW_some] <;> rfl), by repeat (first | (with_reducible first | exact HB.out | apply below_alloc | apply pw_below_drewN | apply below_drew1) | exact HB.out)⟩
        · replace c8 := Bool.eq_false_iff.mpr c8
          subst c8
          have H1 : (some false) = some r := by rw [if_neg (show ¬ (false = true) by decide)] at H; exact H
          clear H
          have H := H1
          clear H1
          obtain rfl := Option.some.inj H
          go_wp2_with (first | (go_at_call 10; (with_reducible refine (laws_finds.calls  false _ A7.out).mono ?_); rintro e w81 ⟨rfl, hb⟩; have n0_ := Aside0.mk (below_step (by repeat (first | (with_reducible first | exact HB.out | apply below_alloc | apply pw_below_drewN | apply below_drew1) | exact HB.out)) hb); clear HB; have HB := n0_; clear n0_; (try clear hb); (try clear hb2); (try clear hk); (try clear hi)))
          repeat (go_quiet (first | (go_at_call 10; (with_reducible refine (laws_finds.calls  false _ A7.out).mono ?_); rintro e w81 ⟨rfl, hb⟩; have n0_ := Aside0.mk (below_step (by repeat (first | (with_reducible first | exact HB.out | apply below_alloc | apply pw_below_drewN | apply below_drew1) | exact HB.out)) hb); clear HB; have HB := n0_; clear n0_; (try clear hb); (try clear hb2); (try clear hk); (try clear hi))); try go_wp2_with (first | (go_at_call 10; (with_reducible refine (laws_finds.calls  false _ A7.out).mono ?_); rintro e w81 ⟨rfl, hb⟩; have n0_ := Aside0.mk (below_step (by repeat (first | (with_reducible first | exact HB.out | apply below_alloc | apply pw_below_drewN | apply below_drew1) | exact HB.out)) hb); clear HB; have HB := n0_; clear n0_; (try clear hb); (try clear hb2); (try clear hk); (try clear hi))))
          go_ret
          exact ⟨by first | rfl | (simp [errW_none, errW_some] <;> rfl) | (simp [*, errW_none, errW_some] <;> rfl), by repeat (first | (with_reducible first | exact HB.out | apply below_alloc | apply pw_below_drewN | apply below_drew1) | exact HB.out)⟩

end Go.Proofs.Ytddcjmdcpkmnjaa.P
