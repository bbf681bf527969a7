-- PRINTED by print.py (a twelfth state) out of the translation. Not trusted: Lean checks it.
import Derived.Test.YtddcjmdcpkmnjaaP0
import Derived.Test.YtddcjmdcpkmnjaaP9
import Derived.Test.YtddcjmdcpkmnjaaP11
import Derived.Test.YtddcjmdcpkmnjaaETrA
namespace Go.Proofs.Ytddcjmdcpkmnjaa.P
open Go.RowKit Go.Proofs.YtddcjmdcpkmnjaaW.PrintWords Go.Proofs.YtddcjmdcpkmnjaaW.PrintLast Go.Proofs.YtddcjmdcpkmnjaaW.PrintMore
attribute [local go_sem] max2_int min2_int max_two min_two max_three min_three max_four min_four   -- for this text's walks alone
set_option linter.unusedVariables false
set_option linter.unusedSimpArgs false

/-! ### laws_FnTrieNumbers: function 4 -/
mutual
def laws_FnTrieNumbers.j0 : Nat → List ByteArray → Int → Bool → Option (Bool)
  | 0, _, _, _ => none
  | k + 1, x0, x1, x30 => if x30 = true then (some false) else ((laws_fair.f k x0 ([] : List Int)).bind fun t288 => (if t288 = true then (if x1 < 0 then (laws_FnTrieNumbers.j1 k x0 x1 true) else (laws_FnTrieNumbers.j1 k x0 x1 (decide (x1 ≥ (x0.length : Int))))) else (laws_FnTrieNumbers.j1 k x0 x1 true)))
def laws_FnTrieNumbers.j1 : Nat → List ByteArray → Int → Bool → Option (Bool)
  | 0, _, _, _ => none
  | k + 1, x0, x1, x43 => if x43 = true then (some true) else (laws_FnTrieNumbers.l0 k x0 x1 1)
def laws_FnTrieNumbers.l0 : Nat → List ByteArray → Int → Int → Option (Bool)
  | 0, _, _, _ => none
  | k + 1, x0, x1, x8 => if x8 < (x0.length : Int) then (if 0 ≤ x8 then (if 0 ≤ (wrap64 (x8 - 1)) then (if (wrap64 (x8 - 1)) < (x0.length : Int) then (if (Op.bytesLess ((rdOf ByteArray.empty x0 x8).toList) ((rdOf ByteArray.empty x0 (wrap64 (x8 - 1))).toList)) = true then (some true) else (laws_FnTrieNumbers.l0 k x0 x1 (wrap64 (x8 + 1)))) else (none)) else (none)) else (none)) else (if 0 ≤ x1 then (if x1 < (x0.length : Int) then ((impl_TrieFind.f x0 ([] : List Int) (rdOf ByteArray.empty x0 x1)).bind fun bt292 => (if bt292.2.2 = true then (if bt292.2.1 = true then (some (bt292.1 == (wrap64 (x1 + 1)))) else (some false)) else (some false))) else (none)) else (none))
end
def laws_FnTrieNumbers.f (k : Nat) (l0 : List ByteArray) (a1 : Int) : Option (Bool) := (laws_zzFits4.f k l0).bind fun t281 => (if t281 = true then ((impl_TrieFind.f (([(⟨#[97]⟩ : ByteArray), (⟨#[98]⟩ : ByteArray)] : List ByteArray)) ([] : List Int) (⟨#[98]⟩ : ByteArray)).bind fun bt285 => (if bt285.1 = 2 then (if bt285.2.1 = true then (laws_FnTrieNumbers.j0 k l0 a1 (!bt285.2.2)) else (laws_FnTrieNumbers.j0 k l0 a1 true)) else (laws_FnTrieNumbers.j0 k l0 a1 true))) else (some true))
theorem laws_FnTrieNumbers.mono_l : ∀ k, (∀ y0 y1 y2, LeO (laws_FnTrieNumbers.j0 k y0 y1 y2) (laws_FnTrieNumbers.j0 (k + 1) y0 y1 y2)) ∧ (∀ y0 y1 y2, LeO (laws_FnTrieNumbers.j1 k y0 y1 y2) (laws_FnTrieNumbers.j1 (k + 1) y0 y1 y2)) ∧ (∀ y0 y1 y2, LeO (laws_FnTrieNumbers.l0 k y0 y1 y2) (laws_FnTrieNumbers.l0 (k + 1) y0 y1 y2))
  | 0 => ⟨fun _ _ _ r h => by simp [laws_FnTrieNumbers.j0] at h, fun _ _ _ r h => by simp [laws_FnTrieNumbers.j1] at h, fun _ _ _ r h => by simp [laws_FnTrieNumbers.l0] at h⟩
  | k + 1 => by
    obtain ⟨ih0, ih1, ih2⟩ := laws_FnTrieNumbers.mono_l k
    refine ⟨?_, ?_, ?_⟩
    · intro y0 y1 y2
      unfold laws_FnTrieNumbers.j0
      repeat' first
      | (with_reducible exact ih0 _ _ _)
      | (with_reducible exact ih1 _ _ _)
      | (with_reducible exact ih2 _ _ _)
      | (with_reducible exact laws_fair.mono _ _ _)
      | (with_reducible exact laws_zzFits4.mono _ _)
      | (with_reducible exact LeO.refl _)
      | (with_reducible exact LeO.none _)
      | (with_reducible refine LeO.ite ?_ ?_)
      | (with_reducible refine LeO.bind ?_ (fun _ => ?_))
      | exact ih0 _ _ _
      | exact ih1 _ _ _
      | exact ih2 _ _ _
      | exact laws_fair.mono _ _ _
      | exact laws_zzFits4.mono _ _
      | exact LeO.none _
      | refine LeO.ite ?_ ?_
      | refine LeO.bind ?_ (fun _ => ?_)
    · intro y0 y1 y2
      unfold laws_FnTrieNumbers.j1
      repeat' first
      | (with_reducible exact ih0 _ _ _)
      | (with_reducible exact ih1 _ _ _)
      | (with_reducible exact ih2 _ _ _)
      | (with_reducible exact laws_fair.mono _ _ _)
      | (with_reducible exact laws_zzFits4.mono _ _)
      | (with_reducible exact LeO.refl _)
      | (with_reducible exact LeO.none _)
      | (with_reducible refine LeO.ite ?_ ?_)
      | (with_reducible refine LeO.bind ?_ (fun _ => ?_))
      | exact ih0 _ _ _
      | exact ih1 _ _ _
      | exact ih2 _ _ _
      | exact laws_fair.mono _ _ _
      | exact laws_zzFits4.mono _ _
      | exact LeO.none _
      | refine LeO.ite ?_ ?_
      | refine LeO.bind ?_ (fun _ => ?_)
    · intro y0 y1 y2
      unfold laws_FnTrieNumbers.l0
      repeat' first
      | (with_reducible exact ih0 _ _ _)
      | (with_reducible exact ih1 _ _ _)
      | (with_reducible exact ih2 _ _ _)
      | (with_reducible exact laws_fair.mono _ _ _)
      | (with_reducible exact laws_zzFits4.mono _ _)
      | (with_reducible exact LeO.refl _)
      | (with_reducible exact LeO.none _)
      | (with_reducible refine LeO.ite ?_ ?_)
      | (with_reducible refine LeO.bind ?_ (fun _ => ?_))
      | exact ih0 _ _ _
      | exact ih1 _ _ _
      | exact ih2 _ _ _
      | exact laws_fair.mono _ _ _
      | exact laws_zzFits4.mono _ _
      | exact LeO.none _
      | refine LeO.ite ?_ ?_
      | refine LeO.bind ?_ (fun _ => ?_)
theorem laws_FnTrieNumbers.mono : ∀ a0 a1 k, LeO (laws_FnTrieNumbers.f k a0 a1) (laws_FnTrieNumbers.f (k + 1) a0 a1) := by
  intro a0 a1 k
  obtain ⟨ih0, ih1, ih2⟩ := laws_FnTrieNumbers.mono_l k
  unfold laws_FnTrieNumbers.f
  repeat' first
      | (with_reducible exact ih0 _ _ _)
      | (with_reducible exact ih1 _ _ _)
      | (with_reducible exact ih2 _ _ _)
      | (with_reducible exact laws_fair.mono _ _ _)
      | (with_reducible exact laws_zzFits4.mono _ _)
      | (with_reducible exact LeO.refl _)
      | (with_reducible exact LeO.none _)
      | (with_reducible refine LeO.ite ?_ ?_)
      | (with_reducible refine LeO.bind ?_ (fun _ => ?_))
      | exact ih0 _ _ _
      | exact ih1 _ _ _
      | exact ih2 _ _ _
      | exact laws_fair.mono _ _ _
      | exact laws_zzFits4.mono _ _
      | exact LeO.none _
      | refine LeO.ite ?_ ?_
      | refine LeO.bind ?_ (fun _ => ?_)
set_option maxHeartbeats 8000000 in
set_option maxRecDepth 100000 in
theorem laws_FnTrieNumbers.calls (k : Nat) (A0 : Option Addr) (c0 : Nat) (l0 : List ByteArray) (a1 : Int) (r : Bool) (w : World) (hr0 : Kd.C Kd.string w A0 l0.length l0) (hc0 : l0.length ≤ c0) (h : laws_FnTrieNumbers.f k l0 a1 = some r) :
    Calls Try.prog 4 #[.slice A0 l0.length c0, .int .i64 a1] w fun e w' => e = .returned (.bool r) ∧ Below w.heap.size w w' := by
  have HR0 := Aside0.mk hr0
  have HC0 := Aside0.mk hc0
  clear hr0 hc0
  have HB := Aside0.mk (Below.refl w.heap.size w)
  have H : ((laws_zzFits4.f k l0).bind fun t281 => (if t281 = true then ((impl_TrieFind.f (([(⟨#[97]⟩ : ByteArray), (⟨#[98]⟩ : ByteArray)] : List ByteArray)) ([] : List Int) (⟨#[98]⟩ : ByteArray)).bind fun bt285 => (if bt285.1 = 2 then (if bt285.2.1 = true then (laws_FnTrieNumbers.j0 k l0 a1 (!bt285.2.2)) else (laws_FnTrieNumbers.j0 k l0 a1 true)) else (laws_FnTrieNumbers.j0 k l0 a1 true))) else (some true))) = some r := h
  clear h
  replace H := Option.bind_eq_some_iff.mp H
  obtain ⟨t281, A30, H⟩ := H
  replace H : (if t281 = true then ((impl_TrieFind.f (([(⟨#[97]⟩ : ByteArray), (⟨#[98]⟩ : ByteArray)] : List ByteArray)) ([] : List Int) (⟨#[98]⟩ : ByteArray)).bind fun bt285 => (if bt285.1 = 2 then (if bt285.2.1 = true then (laws_FnTrieNumbers.j0 k l0 a1 (!bt285.2.2)) else (laws_FnTrieNumbers.j0 k l0 a1 true)) else (laws_FnTrieNumbers.j0 k l0 a1 true))) else (some true)) = some r := H
  have A3 := Aside0.mk A30
  clear A30
  by_cases c4 : t281 = true
  · subst c4
    have H1 : ((impl_TrieFind.f (([(⟨#[97]⟩ : ByteArray), (⟨#[98]⟩ : ByteArray)] : List ByteArray)) ([] : List Int) (⟨#[98]⟩ : ByteArray)).bind fun bt285 => (if bt285.1 = 2 then (if bt285.2.1 = true then (laws_FnTrieNumbers.j0 k l0 a1 (!bt285.2.2)) else (laws_FnTrieNumbers.j0 k l0 a1 true)) else (laws_FnTrieNumbers.j0 k l0 a1 true))) = some r := by rw [if_pos rfl] at H; exact H
    clear H
    have H := H1
    clear H1
    obtain ⟨y282, hy282⟩ : ∃ y_ : List ByteArray, y_ = (([(⟨#[97]⟩ : ByteArray), (⟨#[98]⟩ : ByteArray)] : List ByteArray)) := ⟨_, rfl⟩
    replace H : ((impl_TrieFind.f y282 ([] : List Int) (⟨#[98]⟩ : ByteArray)).bind fun bt285 => (if bt285.1 = 2 then (if bt285.2.1 = true then (laws_FnTrieNumbers.j0 k l0 a1 (!bt285.2.2)) else (laws_FnTrieNumbers.j0 k l0 a1 true)) else (laws_FnTrieNumbers.j0 k l0 a1 true))) = some r := by first | (rw [hy282]; with_reducible exact H) | (have H2_ := (Option.bind_some _ _).symm.trans H; rw [hy282]; with_reducible exact H2_) | (have H2_ := (Option.bind_some _ _).symm.trans H; with_reducible exact H2_) | with_reducible exact H | (rw [hy282]; exact H) | exact H
    have Ny282 := Aside0.mk hy282
    clear hy282
    replace H := Option.bind_eq_some_iff.mp H
    obtain ⟨⟨t285, t286, t287⟩, A50, H⟩ := H
    replace H : (if t285 = 2 then (if t286 = true then (laws_FnTrieNumbers.j0 k l0 a1 (!t287)) else (laws_FnTrieNumbers.j0 k l0 a1 true)) else (laws_FnTrieNumbers.j0 k l0 a1 true)) = some r := H
    have A5 := Aside0.mk A50
    clear A50
    have HC6 := Aside0.mk H
    clear H
    go_enter Try.func4, Try.ntmps4
    go_upto_region 4 with (first | (go_at_call 9; (with_reducible refine (laws_zzFits4.calls k _ _ l0 true _ ?side1 ?side2 A3.out).mono ?_); (case side1 => repeat (first | exact HR0.out | (with_reducible refine Kd.C_alloc ?_ _) | (with_reducible refine Kd.C_drewN ?_ _) | (with_reducible refine Kd.C_drew ?_))); (case side2 => exact HC0.out); rintro e w' ⟨rfl, ⟨nd, rfl⟩⟩; (try first | exact ⟨rfl, _, World.drewN_drewN _ _ _⟩ | exact ⟨rfl, _, Eq.trans (World.drewN_drewN _ _ _) (congrArg (World.drewN _) (Nat.add_assoc _ _ _))⟩)) | ((with_reducible refine gate_dst (N := 16) rfl ?_); (try (refine gate_guard (by rfl) ?_; dsimp only)); refine Kd.R_lit Kd.string _ 9 ?hg (N := 16) ?hd (xs := ([(⟨#[97]⟩ : ByteArray), (⟨#[98]⟩ : ByteArray)] : List ByteArray)) (inner := [.string (⟨#[97]⟩ : ByteArray), .string (⟨#[98]⟩ : ByteArray)]) (ok := fun _ => True) (okp := fun _ => True) ?hr ?hp (fun _ hk => hk) trivial (Below.refl _ _) (Nat.le_refl _) (by simp) ?_; (case hd => rfl); (case hg => rfl); (case hr => first | (go_simp; done) | (go_simp; rfl)); (case hp => exact (Reps.one (show Kd.M Kd.string _ _ _ (⟨#[97]⟩ : ByteArray) [.string (⟨#[97]⟩ : ByteArray)] from rfl) (Reps.one (show Kd.M Kd.string _ _ _ (⟨#[98]⟩ : ByteArray) [.string (⟨#[98]⟩ : ByteArray)] from rfl) (Reps.none _ _)))); intro v283 w7 ho8 hb hg_ hnew_; clear hg_ hnew_; (first | rw [← Ny282.out] at ho8 | (simp only [Int.reduceToNat] at ho8; rw [← Ny282.out] at ho8)); have n0_ := Aside0.mk (Kd.R_lower ho8 (below_size (by repeat (first | (with_reducible first | exact HB.out | apply below_alloc | apply pw_below_drewN | apply below_drew1) | exact HB.out)))); have n1_ := Aside0.mk (below_step (by repeat (first | (with_reducible first | exact HB.out | apply below_alloc | apply pw_below_drewN | apply below_drew1) | exact HB.out)) hb); clear HB; have HO284 := n0_; have HB := n1_; clear n0_ n1_; clear hb ho8; obtain ⟨Ao9, co9, eo9⟩ := Kd.R_slice HO284.out; subst eo9) | (go_at_call 14; (refine (impl_TrieFind.calls _ _ y282 _ _ ([] : List Int) (⟨#[98]⟩ : ByteArray) t285 t286 t287 _ ?side1 ?side2 ?side3 ?side4 A5.out).mono ?_); (case side1 => repeat (first | exact (Kd.R_reads' HO284.out).2.2 | (with_reducible refine Kd.C_alloc ?_ _) | (with_reducible refine Kd.C_drewN ?_ _) | (with_reducible refine Kd.C_drew ?_))); (case side2 => exact (Kd.R_reads' HO284.out).2.1); (case side3 => exact Kd.C_nil _ _); (case side4 => exact Nat.le_refl _); rintro e w10 ⟨rfl, hb⟩; have n0_ := Aside0.mk (Kd.R_below (by (with_reducible repeat (first | apply Kd.R_alloc | apply Kd.R_drewN | apply Kd.R_drew)); exact HO284.out) hb); have n1_ := Aside0.mk (below_step (by repeat (first | (with_reducible first | exact HB.out | apply below_alloc | apply pw_below_drewN | apply below_drew1) | exact HB.out)) hb); clear HO284; clear HB; have HO284 := n0_; have HB := n1_; clear n0_ n1_; (try clear hb); (try clear hb2); (try clear hk); (try clear hi)))
    repeat (go_quiet (first | (go_at_call 9; (with_reducible refine (laws_zzFits4.calls k _ _ l0 true _ ?side1 ?side2 A3.out).mono ?_); (case side1 => repeat (first | exact HR0.out | (with_reducible refine Kd.C_alloc ?_ _) | (with_reducible refine Kd.C_drewN ?_ _) | (with_reducible refine Kd.C_drew ?_))); (case side2 => exact HC0.out); rintro e w' ⟨rfl, ⟨nd, rfl⟩⟩; (try first | exact ⟨rfl, _, World.drewN_drewN _ _ _⟩ | exact ⟨rfl, _, Eq.trans (World.drewN_drewN _ _ _) (congrArg (World.drewN _) (Nat.add_assoc _ _ _))⟩)) | ((with_reducible refine gate_dst (N := 16) rfl ?_); (try (refine gate_guard (by rfl) ?_; dsimp only)); refine Kd.R_lit Kd.string _ 9 ?hg (N := 16) ?hd (xs := ([(⟨#[97]⟩ : ByteArray), (⟨#[98]⟩ : ByteArray)] : List ByteArray)) (inner := [.string (⟨#[97]⟩ : ByteArray), .string (⟨#[98]⟩ : ByteArray)]) (ok := fun _ => True) (okp := fun _ => True) ?hr ?hp (fun _ hk => hk) trivial (Below.refl _ _) (Nat.le_refl _) (by simp) ?_; (case hd => rfl); (case hg => rfl); (case hr => first | (go_simp; done) | (go_simp; rfl)); (case hp => exact (Reps.one (show Kd.M Kd.string _ _ _ (⟨#[97]⟩ : ByteArray) [.string (⟨#[97]⟩ : ByteArray)] from rfl) (Reps.one (show Kd.M Kd.string _ _ _ (⟨#[98]⟩ : ByteArray) [.string (⟨#[98]⟩ : ByteArray)] from rfl) (Reps.none _ _)))); intro v283 w7 ho8 hb hg_ hnew_; clear hg_ hnew_; (first | rw [← Ny282.out] at ho8 | (simp only [Int.reduceToNat] at ho8; rw [← Ny282.out] at ho8)); have n0_ := Aside0.mk (Kd.R_lower ho8 (below_size (by repeat (first | (with_reducible first | exact HB.out | apply below_alloc | apply pw_below_drewN | apply below_drew1) | exact HB.out)))); have n1_ := Aside0.mk (below_step (by repeat (first | (with_reducible first | exact HB.out | apply below_alloc | apply pw_below_drewN | apply below_drew1) | exact HB.out)) hb); clear HB; have HO284 := n0_; have HB := n1_; clear n0_ n1_; clear hb ho8; obtain ⟨Ao9, co9, eo9⟩ := Kd.R_slice HO284.out; subst eo9) | (go_at_call 14; (refine (impl_TrieFind.calls _ _ y282 _ _ ([] : List Int) (⟨#[98]⟩ : ByteArray) t285 t286 t287 _ ?side1 ?side2 ?side3 ?side4 A5.out).mono ?_); (case side1 => repeat (first | exact (Kd.R_reads' HO284.out).2.2 | (with_reducible refine Kd.C_alloc ?_ _) | (with_reducible refine Kd.C_drewN ?_ _) | (with_reducible refine Kd.C_drew ?_))); (case side2 => exact (Kd.R_reads' HO284.out).2.1); (case side3 => exact Kd.C_nil _ _); (case side4 => exact Nat.le_refl _); rintro e w10 ⟨rfl, hb⟩; have n0_ := Aside0.mk (Kd.R_below (by (with_reducible repeat (first | apply Kd.R_alloc | apply Kd.R_drewN | apply Kd.R_drew)); exact HO284.out) hb); have n1_ := Aside0.mk (below_step (by repeat (first | (with_reducible first | exact HB.out | apply below_alloc | apply pw_below_drewN | apply below_drew1) | exact HB.out)) hb); clear HO284; clear HB; have HO284 := n0_; have HB := n1_; clear n0_ n1_; (try clear hb); (try clear hb2); (try clear hk); (try clear hi))); go_upto_region 4 with (first | (go_at_call 9; (with_reducible refine (laws_zzFits4.calls k _ _ l0 true _ ?side1 ?side2 A3.out).mono ?_); (case side1 => repeat (first | exact HR0.out | (with_reducible refine Kd.C_alloc ?_ _) | (with_reducible refine Kd.C_drewN ?_ _) | (with_reducible refine Kd.C_drew ?_))); (case side2 => exact HC0.out); rintro e w' ⟨rfl, ⟨nd, rfl⟩⟩; (try first | exact ⟨rfl, _, World.drewN_drewN _ _ _⟩ | exact ⟨rfl, _, Eq.trans (World.drewN_drewN _ _ _) (congrArg (World.drewN _) (Nat.add_assoc _ _ _))⟩)) | ((with_reducible refine gate_dst (N := 16) rfl ?_); (try (refine gate_guard (by rfl) ?_; dsimp only)); refine Kd.R_lit Kd.string _ 9 ?hg (N := 16) ?hd (xs := ([(⟨#[97]⟩ : ByteArray), (⟨#[98]⟩ : ByteArray)] : List ByteArray)) (inner := [.string (⟨#[97]⟩ : ByteArray), .string (⟨#[98]⟩ : ByteArray)]) (ok := fun _ => True) (okp := fun _ => True) ?hr ?hp (fun _ hk => hk) trivial (Below.refl _ _) (Nat.le_refl _) (by simp) ?_; (case hd => rfl); (case hg => rfl); (case hr => first | (go_simp; done) | (go_simp; rfl)); (case hp => exact (Reps.one (show Kd.M Kd.string _ _ _ (⟨#[97]⟩ : ByteArray) [.string (⟨#[97]⟩ : ByteArray)] from rfl) (Reps.one (show Kd.M Kd.string _ _ _ (⟨#[98]⟩ : ByteArray) [.string (⟨#[98]⟩ : ByteArray)] from rfl) (Reps.none _ _)))); intro v283 w7 ho8 hb hg_ hnew_; clear hg_ hnew_; (first | rw [← Ny282.out] at ho8 | (simp only [Int.reduceToNat] at ho8; rw [← Ny282.out] at ho8)); have n0_ := Aside0.mk (Kd.R_lower ho8 (below_size (by repeat (first | (with_reducible first | exact HB.out | apply below_alloc | apply pw_below_drewN | apply below_drew1) | exact HB.out)))); have n1_ := Aside0.mk (below_step (by repeat (first | (with_reducible first | exact HB.out | apply below_alloc | apply pw_below_drewN | apply below_drew1) | exact HB.out)) hb); clear HB; have HO284 := n0_; have HB := n1_; clear n0_ n1_; clear hb ho8; obtain ⟨Ao9, co9, eo9⟩ := Kd.R_slice HO284.out; subst eo9) | (go_at_call 14; (refine (impl_TrieFind.calls _ _ y282 _ _ ([] : List Int) (⟨#[98]⟩ : ByteArray) t285 t286 t287 _ ?side1 ?side2 ?side3 ?side4 A5.out).mono ?_); (case side1 => repeat (first | exact (Kd.R_reads' HO284.out).2.2 | (with_reducible refine Kd.C_alloc ?_ _) | (with_reducible refine Kd.C_drewN ?_ _) | (with_reducible refine Kd.C_drew ?_))); (case side2 => exact (Kd.R_reads' HO284.out).2.1); (case side3 => exact Kd.C_nil _ _); (case side4 => exact Nat.le_refl _); rintro e w10 ⟨rfl, hb⟩; have n0_ := Aside0.mk (Kd.R_below (by (with_reducible repeat (first | apply Kd.R_alloc | apply Kd.R_drewN | apply Kd.R_drew)); exact HO284.out) hb); have n1_ := Aside0.mk (below_step (by repeat (first | (with_reducible first | exact HB.out | apply below_alloc | apply pw_below_drewN | apply below_drew1) | exact HB.out)) hb); clear HO284; clear HB; have HO284 := n0_; have HB := n1_; clear n0_ n1_; (try clear hb); (try clear hb2); (try clear hk); (try clear hi))))
    (try simp only [Act.put, List.setIfInBounds_toArray, List.set_cons_zero, List.set_cons_succ])
    go_cut [30] (fun v30 wc => ∃ (kq : Nat) (x30_5 : Bool), v30 = .bool x30_5 ∧ Aside0 (laws_FnTrieNumbers.j0 kq l0 a1 x30_5 = some r) ∧ Aside0 (kq ≤ k) ∧ Aside0 (Below w.heap.size w wc))
    case first =>
      have H := HC6.out
      clear HC6
      by_cases c11 : t285 = 2
      · rw [if_pos c11] at H
        have c11b0 : (t285 == 2) = true := beq_iff_eq.mpr c11
        have c11b1 : (t285 != 2) = false := bne_eq_false_iff_eq.mpr c11
        clear c11
        (first | rw [c11b0] | (simp only [i64_w, i32_w]; rw [c11b0]) | skip)
        by_cases c12 : t286 = true
        · subst c12
          have H1 : (laws_FnTrieNumbers.j0 k l0 a1 (!t287)) = some r := by rw [if_pos rfl] at H; exact H
          clear H
          have H := H1
          clear H1
          have H' := Aside0.mk H
          clear H
          go_wp2
          repeat (go_quiet (fail); try go_wp2)
          go_meet
          case rel => exact ⟨_, (!t287), (by first | rfl | (simp; done) | (simp [*]; done)), H', ⟨by first | omega | exact Nat.le_refl _⟩, ⟨by repeat (first | (with_reducible first | exact HB.out | apply below_alloc | apply pw_below_drewN | apply below_drew1) | exact HB.out)⟩⟩
        · replace c12 := Bool.eq_false_iff.mpr c12
          subst c12
          have H1 : (laws_FnTrieNumbers.j0 k l0 a1 true) = some r := by rw [if_neg (show ¬ (false = true) by decide)] at H; exact H
          clear H
          have H := H1
          clear H1
          have H' := Aside0.mk H
          clear H
          go_wp2
          repeat (go_quiet (fail); try go_wp2)
          go_meet
          case rel => exact ⟨_, (true), (by first | rfl | (simp; done) | (simp [*]; done)), H', ⟨by first | omega | exact Nat.le_refl _⟩, ⟨by repeat (first | (with_reducible first | exact HB.out | apply below_alloc | apply pw_below_drewN | apply below_drew1) | exact HB.out)⟩⟩
      · rw [if_neg c11] at H
        have c11b0 : (t285 == 2) = false := beq_eq_false_iff_ne.mpr c11
        have c11b1 : (t285 != 2) = true := bne_iff_ne.mpr c11
        (first | rw [c11b0] | (simp only [i64_w, i32_w]; rw [c11b0]) | skip)
        have H' := Aside0.mk H
        clear H
        go_wp2
        repeat (go_quiet (fail); try go_wp2)
        go_meet
        case rel => exact ⟨_, (true), (by first | rfl | (simp; done) | (simp [*]; done)), H', ⟨by first | omega | exact Nat.le_refl _⟩, ⟨by repeat (first | (with_reducible first | exact HB.out | apply below_alloc | apply pw_below_drewN | apply below_drew1) | exact HB.out)⟩⟩
    case rest =>
      clear HC6
      try clear c1
      try clear p2
      try clear c4
      try clear c11
      try clear c11b0
      try clear c11b1
      try clear c12
      obtain ⟨kq, x30_5, rfl, HA, HJ5, HB⟩ := hcut
      cases kq with
      | zero => exact absurd HA.out (by simp [laws_FnTrieNumbers.j0])
      | succ kj5 =>
        have H := HA.out
        clear HA
        simp only [laws_FnTrieNumbers.j0] at H
        by_cases c13 : x30_5 = true
        · subst c13
          have H1 : (some false) = some r := by rw [if_pos rfl] at H; exact H
          clear H
          have H := H1
          clear H1
          obtain rfl := Option.some.inj H
          go_wp2
          repeat (go_quiet (fail); try go_wp2)
          go_ret
          exact ⟨by first | rfl | (simp [errW_none, errW_some] <;> rfl) | (simp [*, errW_none, errW_some] <;> rfl), by repeat (first | (with_reducible first | exact HB.out | apply below_alloc | apply pw_below_drewN | apply below_drew1) | exact HB.out)⟩
        · replace c13 := Bool.eq_false_iff.mpr c13
          subst c13
          have H1 : ((laws_fair.f kj5 l0 ([] : List Int)).bind fun t288 => (if t288 = true then (if a1 < 0 then (laws_FnTrieNumbers.j1 kj5 l0 a1 true) else (laws_FnTrieNumbers.j1 kj5 l0 a1 (decide (a1 ≥ (l0.length : Int))))) else (laws_FnTrieNumbers.j1 kj5 l0 a1 true))) = some r := by rw [if_neg (show ¬ (false = true) by decide)] at H; exact H
          clear H
          have H := H1
          clear H1
          have HC14 := Aside0.mk H
          clear H
          go_upto_region 6 with (fail)
          repeat (go_quiet (fail); go_upto_region 6 with (fail))
          go_cut [43] (fun v43 wc => ∃ (kq : Nat) (x43_13 : Bool), v43 = .bool x43_13 ∧ Aside0 (laws_FnTrieNumbers.j1 kq l0 a1 x43_13 = some r) ∧ Aside0 (kq ≤ kj5) ∧ Aside0 (Below w.heap.size w wc))
          case first =>
            have H := HC14.out
            clear HC14
            replace H := Option.bind_eq_some_iff.mp H
            obtain ⟨t288, A150, H⟩ := H
            replace H : (if t288 = true then (if a1 < 0 then (laws_FnTrieNumbers.j1 kj5 l0 a1 true) else (laws_FnTrieNumbers.j1 kj5 l0 a1 (decide (a1 ≥ (l0.length : Int))))) else (laws_FnTrieNumbers.j1 kj5 l0 a1 true)) = some r := H
            have A15 := Aside0.mk A150
            clear A150
            by_cases c16 : t288 = true
            · subst c16
              have H1 : (if a1 < 0 then (laws_FnTrieNumbers.j1 kj5 l0 a1 true) else (laws_FnTrieNumbers.j1 kj5 l0 a1 (decide (a1 ≥ (l0.length : Int))))) = some r := by rw [if_pos rfl] at H; exact H
              clear H
              have H := H1
              clear H1
              by_cases c17 : a1 < 0
              · rw [if_pos c17] at H
                have c17b0 : decide (a1 < 0) = true := decide_eq_true c17
                clear c17
                (first | rw [c17b0] | (simp only [i64_w, i32_w]; rw [c17b0]) | skip)
                have H' := Aside0.mk H
                clear H
                go_wp2_with (first | (go_at_call 11; (refine (laws_fair.calls kj5 _ _ l0 _ _ ([] : List Int) true _ ?side1 ?side2 ?side3 ?side4 A15.out).mono ?_); (case side1 => repeat (first | exact (Kd.C_below HR0.out HB.out) | (with_reducible refine Kd.C_alloc ?_ _) | (with_reducible refine Kd.C_drewN ?_ _) | (with_reducible refine Kd.C_drew ?_))); (case side2 => exact HC0.out); (case side3 => exact Kd.C_nil _ _); (case side4 => exact Nat.le_refl _); rintro e w18 ⟨rfl, hb⟩; have n0_ := Aside0.mk (below_step (by repeat (first | (with_reducible first | exact HB.out | apply below_alloc | apply pw_below_drewN | apply below_drew1) | exact HB.out)) hb); clear HB; have HB := n0_; clear n0_; (try clear hb); (try clear hb2); (try clear hk); (try clear hi)))
                repeat (go_quiet (first | (go_at_call 11; (refine (laws_fair.calls kj5 _ _ l0 _ _ ([] : List Int) true _ ?side1 ?side2 ?side3 ?side4 A15.out).mono ?_); (case side1 => repeat (first | exact (Kd.C_below HR0.out HB.out) | (with_reducible refine Kd.C_alloc ?_ _) | (with_reducible refine Kd.C_drewN ?_ _) | (with_reducible refine Kd.C_drew ?_))); (case side2 => exact HC0.out); (case side3 => exact Kd.C_nil _ _); (case side4 => exact Nat.le_refl _); rintro e w18 ⟨rfl, hb⟩; have n0_ := Aside0.mk (below_step (by repeat (first | (with_reducible first | exact HB.out | apply below_alloc | apply pw_below_drewN | apply below_drew1) | exact HB.out)) hb); clear HB; have HB := n0_; clear n0_; (try clear hb); (try clear hb2); (try clear hk); (try clear hi))); try go_wp2_with (first | (go_at_call 11; (refine (laws_fair.calls kj5 _ _ l0 _ _ ([] : List Int) true _ ?side1 ?side2 ?side3 ?side4 A15.out).mono ?_); (case side1 => repeat (first | exact (Kd.C_below HR0.out HB.out) | (with_reducible refine Kd.C_alloc ?_ _) | (with_reducible refine Kd.C_drewN ?_ _) | (with_reducible refine Kd.C_drew ?_))); (case side2 => exact HC0.out); (case side3 => exact Kd.C_nil _ _); (case side4 => exact Nat.le_refl _); rintro e w18 ⟨rfl, hb⟩; have n0_ := Aside0.mk (below_step (by repeat (first | (with_reducible first | exact HB.out | apply below_alloc | apply pw_below_drewN | apply below_drew1) | exact HB.out)) hb); clear HB; have HB := n0_; clear n0_; (try clear hb); (try clear hb2); (try clear hk); (try clear hi))))
                go_meet
                case rel => exact ⟨_, (true), (by first | rfl | (simp; done) | (simp [*]; done)), H', ⟨by have := HJ5.out; first | omega | exact Nat.le_refl _⟩, ⟨by repeat (first | (with_reducible first | exact HB.out | apply below_alloc | apply pw_below_drewN | apply below_drew1) | exact HB.out)⟩⟩
              · rw [if_neg c17] at H
                have c17b0 : decide (a1 < 0) = false := decide_eq_false c17
                clear c17
                (first | rw [c17b0] | (simp only [i64_w, i32_w]; rw [c17b0]) | skip)
                have H' := Aside0.mk H
                clear H
                go_wp2_with (first | (go_at_call 11; (refine (laws_fair.calls kj5 _ _ l0 _ _ ([] : List Int) true _ ?side1 ?side2 ?side3 ?side4 A15.out).mono ?_); (case side1 => repeat (first | exact (Kd.C_below HR0.out HB.out) | (with_reducible refine Kd.C_alloc ?_ _) | (with_reducible refine Kd.C_drewN ?_ _) | (with_reducible refine Kd.C_drew ?_))); (case side2 => exact HC0.out); (case side3 => exact Kd.C_nil _ _); (case side4 => exact Nat.le_refl _); rintro e w19 ⟨rfl, hb⟩; have n0_ := Aside0.mk (below_step (by repeat (first | (with_reducible first | exact HB.out | apply below_alloc | apply pw_below_drewN | apply below_drew1) | exact HB.out)) hb); clear HB; have HB := n0_; clear n0_; (try clear hb); (try clear hb2); (try clear hk); (try clear hi)))
                repeat (go_quiet (first | (go_at_call 11; (refine (laws_fair.calls kj5 _ _ l0 _ _ ([] : List Int) true _ ?side1 ?side2 ?side3 ?side4 A15.out).mono ?_); (case side1 => repeat (first | exact (Kd.C_below HR0.out HB.out) | (with_reducible refine Kd.C_alloc ?_ _) | (with_reducible refine Kd.C_drewN ?_ _) | (with_reducible refine Kd.C_drew ?_))); (case side2 => exact HC0.out); (case side3 => exact Kd.C_nil _ _); (case side4 => exact Nat.le_refl _); rintro e w19 ⟨rfl, hb⟩; have n0_ := Aside0.mk (below_step (by repeat (first | (with_reducible first | exact HB.out | apply below_alloc | apply pw_below_drewN | apply below_drew1) | exact HB.out)) hb); clear HB; have HB := n0_; clear n0_; (try clear hb); (try clear hb2); (try clear hk); (try clear hi))); try go_wp2_with (first | (go_at_call 11; (refine (laws_fair.calls kj5 _ _ l0 _ _ ([] : List Int) true _ ?side1 ?side2 ?side3 ?side4 A15.out).mono ?_); (case side1 => repeat (first | exact (Kd.C_below HR0.out HB.out) | (with_reducible refine Kd.C_alloc ?_ _) | (with_reducible refine Kd.C_drewN ?_ _) | (with_reducible refine Kd.C_drew ?_))); (case side2 => exact HC0.out); (case side3 => exact Kd.C_nil _ _); (case side4 => exact Nat.le_refl _); rintro e w19 ⟨rfl, hb⟩; have n0_ := Aside0.mk (below_step (by repeat (first | (with_reducible first | exact HB.out | apply below_alloc | apply pw_below_drewN | apply below_drew1) | exact HB.out)) hb); clear HB; have HB := n0_; clear n0_; (try clear hb); (try clear hb2); (try clear hk); (try clear hi))))
                go_meet
                case rel => exact ⟨_, (decide (a1 ≥ (l0.length : Int))), (by first | rfl | (simp; done) | (simp [*]; done)), H', ⟨by have := HJ5.out; first | omega | exact Nat.le_refl _⟩, ⟨by repeat (first | (with_reducible first | exact HB.out | apply below_alloc | apply pw_below_drewN | apply below_drew1) | exact HB.out)⟩⟩
            · replace c16 := Bool.eq_false_iff.mpr c16
              subst c16
              have H1 : (laws_FnTrieNumbers.j1 kj5 l0 a1 true) = some r := by rw [if_neg (show ¬ (false = true) by decide)] at H; exact H
              clear H
              have H := H1
              clear H1
              have H' := Aside0.mk H
              clear H
              go_wp2_with (first | (go_at_call 11; (refine (laws_fair.calls kj5 _ _ l0 _ _ ([] : List Int) false _ ?side1 ?side2 ?side3 ?side4 A15.out).mono ?_); (case side1 => repeat (first | exact (Kd.C_below HR0.out HB.out) | (with_reducible refine Kd.C_alloc ?_ _) | (with_reducible refine Kd.C_drewN ?_ _) | (with_reducible refine Kd.C_drew ?_))); (case side2 => exact HC0.out); (case side3 => exact Kd.C_nil _ _); (case side4 => exact Nat.le_refl _); rintro e w20 ⟨rfl, hb⟩; have n0_ := Aside0.mk (below_step (by repeat (first | (with_reducible first | exact HB.out | apply below_alloc | apply pw_below_drewN | apply below_drew1) | exact HB.out)) hb); clear HB; have HB := n0_; clear n0_; (try clear hb); (try clear hb2); (try clear hk); (try clear hi)))
              repeat (go_quiet (first | (go_at_call 11; (refine (laws_fair.calls kj5 _ _ l0 _ _ ([] : List Int) false _ ?side1 ?side2 ?side3 ?side4 A15.out).mono ?_); (case side1 => repeat (first | exact (Kd.C_below HR0.out HB.out) | (with_reducible refine Kd.C_alloc ?_ _) | (with_reducible refine Kd.C_drewN ?_ _) | (with_reducible refine Kd.C_drew ?_))); (case side2 => exact HC0.out); (case side3 => exact Kd.C_nil _ _); (case side4 => exact Nat.le_refl _); rintro e w20 ⟨rfl, hb⟩; have n0_ := Aside0.mk (below_step (by repeat (first | (with_reducible first | exact HB.out | apply below_alloc | apply pw_below_drewN | apply below_drew1) | exact HB.out)) hb); clear HB; have HB := n0_; clear n0_; (try clear hb); (try clear hb2); (try clear hk); (try clear hi))); try go_wp2_with (first | (go_at_call 11; (refine (laws_fair.calls kj5 _ _ l0 _ _ ([] : List Int) false _ ?side1 ?side2 ?side3 ?side4 A15.out).mono ?_); (case side1 => repeat (first | exact (Kd.C_below HR0.out HB.out) | (with_reducible refine Kd.C_alloc ?_ _) | (with_reducible refine Kd.C_drewN ?_ _) | (with_reducible refine Kd.C_drew ?_))); (case side2 => exact HC0.out); (case side3 => exact Kd.C_nil _ _); (case side4 => exact Nat.le_refl _); rintro e w20 ⟨rfl, hb⟩; have n0_ := Aside0.mk (below_step (by repeat (first | (with_reducible first | exact HB.out | apply below_alloc | apply pw_below_drewN | apply below_drew1) | exact HB.out)) hb); clear HB; have HB := n0_; clear n0_; (try clear hb); (try clear hb2); (try clear hk); (try clear hi))))
              go_meet
              case rel => exact ⟨_, (true), (by first | rfl | (simp; done) | (simp [*]; done)), H', ⟨by have := HJ5.out; first | omega | exact Nat.le_refl _⟩, ⟨by repeat (first | (with_reducible first | exact HB.out | apply below_alloc | apply pw_below_drewN | apply below_drew1) | exact HB.out)⟩⟩
          case rest =>
            clear HC14
            try clear c1
            try clear p2
            try clear c4
            try clear c11
            try clear c11b0
            try clear c11b1
            try clear c12
            try clear c13
            try clear c16
            try clear c17
            try clear c17b0
            try clear p2
            obtain ⟨kq, x43_13, rfl, HA, HJ13, HB⟩ := hcut
            cases kq with
            | zero => exact absurd HA.out (by simp [laws_FnTrieNumbers.j1])
            | succ kj13 =>
              have H := HA.out
              clear HA
              simp only [laws_FnTrieNumbers.j1] at H
              by_cases c21 : x43_13 = true
              · subst c21
                have H1 : (some true) = some r := by rw [if_pos rfl] at H; exact H
                clear H
                have H := H1
                clear H1
                obtain rfl := Option.some.inj H
                go_wp2
                repeat (go_quiet (fail); try go_wp2)
                go_ret
                exact ⟨by first | rfl | (simp [errW_none, errW_some] <;> rfl) | (simp [*, errW_none, errW_some] <;> rfl), by repeat (first | (with_reducible first | exact HB.out | apply below_alloc | apply pw_below_drewN | apply below_drew1) | exact HB.out)⟩
              · replace c21 := Bool.eq_false_iff.mpr c21
                subst c21
                have H1 : (laws_FnTrieNumbers.l0 kj13 l0 a1 1) = some r := by rw [if_neg (show ¬ (false = true) by decide)] at H; exact H
                clear H
                have H := H1
                clear H1
                have H' := Aside0.mk H
                clear H
                go_wp2
                repeat (go_quiet (fail); try go_wp2)
                go_loopg [8] kj13 (fun kq v8 w' => ∃ (x8_3 : Int), v8 = .int .i64 x8_3 ∧ Aside0 (laws_FnTrieNumbers.l0 kq l0 a1 x8_3 = some r) ∧ Aside0 (kq ≤ kj13) ∧ Aside0 (Below w.heap.size w w'))
                case atStart => exact ⟨(1), (by first | rfl | (simp; done) | (simp [*]; done)), H', ⟨Nat.le_refl _⟩, ⟨by repeat (first | (with_reducible first | exact HB.out | apply below_alloc | apply pw_below_drewN | apply below_drew1) | exact HB.out)⟩⟩
                case round =>
                  clear H'
                  try clear c1
                  try clear c2
                  try clear p2
                  try clear c4
                  try clear c11
                  try clear c11b0
                  try clear c11b1
                  try clear c12
                  try clear c13
                  try clear c16
                  try clear c17
                  try clear c17b0
                  try clear c21
                  try clear p2
                  obtain ⟨x8_3, rfl, HA, HK3, HB⟩ := hrel
                  cases gk with
                  | zero => exact absurd HA.out (by simp [laws_FnTrieNumbers.l0])
                  | succ k3 =>
                    have H := HA.out
                    clear HA
                    simp only [laws_FnTrieNumbers.l0] at H
                    by_cases c22 : x8_3 < (l0.length : Int)
                    · rw [if_pos c22] at H
                      have c22b0 : decide (x8_3 < (l0.length : Int)) = true := decide_eq_true c22
                      clear c22
                      by_cases c23 : 0 ≤ x8_3
                      · rw [if_pos c23] at H
                        have c23b0 : decide (0 ≤ x8_3) = true := decide_eq_true c23
                        clear c23
                        obtain ⟨ji24, hji24⟩ : ∃ j_ : Int, (wrap64 (x8_3 - 1)) = j_ := ⟨_, rfl⟩
                        replace H : (if 0 ≤ (ji24) then (if (ji24) < (l0.length : Int) then (if (Op.bytesLess ((rdOf ByteArray.empty l0 x8_3).toList) ((rdOf ByteArray.empty l0 (ji24)).toList)) = true then (some true) else (laws_FnTrieNumbers.l0 k3 l0 a1 (wrap64 (x8_3 + 1)))) else (none)) else (none)) = some r := by first | (rw [hji24] at H; exact H) | (simp only [hji24] at H ⊢; exact H)
                        have hji24w : (IntKind.i64.wrap (x8_3 - 1)) = ji24 := (i64_w _).trans hji24
                        by_cases c25 : 0 ≤ (ji24)
                        · rw [if_pos c25] at H
                          have c25b0 : decide (0 ≤ (ji24)) = true := decide_eq_true c25
                          clear c25
                          by_cases c26 : (ji24) < (l0.length : Int)
                          · rw [if_pos c26] at H
                            have c26b0 : decide ((ji24) < (l0.length : Int)) = true := decide_eq_true c26
                            clear c26
                            by_cases c27 : (Op.bytesLess ((rdOf ByteArray.empty l0 x8_3).toList) ((rdOf ByteArray.empty l0 (ji24)).toList)) = true
                            · rw [if_pos c27] at H
                              have c27b0 : (Op.bytesLess ((rdOf ByteArray.empty l0 x8_3).toList) ((rdOf ByteArray.empty l0 (ji24)).toList)) = true := c27
                              clear c27
                              obtain rfl := Option.some.inj H
                              have p289 : 0 ≤ (x8_3 : Int) := of_decide_eq_true (by first | (with_reducible assumption) | assumption)
                              have q289 : x8_3 < (l0.length : Int) := of_decide_eq_true (by first | (with_reducible assumption) | assumption)
                              obtain ⟨ad289, e289, hx289_0⟩ := Kd.at_string HR0.out x8_3 p289 q289
                              cases e289
                              first | (replace hx289_0 := (HB.out.cell (World.block_lt_of_cell? w _ hx289_0)).trans hx289_0) | skip
                              replace p289 := eq_true p289
                              replace q289 := eq_true q289
                              have p290 : 0 ≤ ((ji24) : Int) := of_decide_eq_true (by first | (with_reducible assumption) | assumption)
                              have q290 : (ji24) < (l0.length : Int) := of_decide_eq_true (by first | (with_reducible assumption) | assumption)
                              obtain ⟨ad290, e290, hx290_0⟩ := Kd.at_string HR0.out (ji24) p290 q290
                              obtain rfl : ad289 = ad290 := (by injection e290)
                              first | (replace hx290_0 := (HB.out.cell (World.block_lt_of_cell? w _ hx290_0)).trans hx290_0) | skip
                              replace p290 := eq_true p290
                              replace q290 := eq_true q290
                              go_wp2
                              repeat (go_quiet (fail); try go_wp2)
                              go_ret
                              exact ⟨by first | rfl | (simp [errW_none, errW_some] <;> rfl) | (simp only [← hji24]; first | rfl | (simp [errW_none, errW_some] <;> rfl)) | (simp [*, errW_none, errW_some] <;> rfl), by repeat (first | (with_reducible first | exact HB.out | apply below_alloc | apply pw_below_drewN | apply below_drew1) | exact HB.out)⟩
                            · rw [if_neg c27] at H
                              have c27b0 : (Op.bytesLess ((rdOf ByteArray.empty l0 x8_3).toList) ((rdOf ByteArray.empty l0 (ji24)).toList)) = false := by simpa using c27
                              clear c27
                              have H' := Aside0.mk H
                              clear H
                              have p289 : 0 ≤ (x8_3 : Int) := of_decide_eq_true (by first | (with_reducible assumption) | assumption)
                              have q289 : x8_3 < (l0.length : Int) := of_decide_eq_true (by first | (with_reducible assumption) | assumption)
                              obtain ⟨ad289, e289, hx289_0⟩ := Kd.at_string HR0.out x8_3 p289 q289
                              cases e289
                              first | (replace hx289_0 := (HB.out.cell (World.block_lt_of_cell? w _ hx289_0)).trans hx289_0) | skip
                              replace p289 := eq_true p289
                              replace q289 := eq_true q289
                              have p290 : 0 ≤ ((ji24) : Int) := of_decide_eq_true (by first | (with_reducible assumption) | assumption)
                              have q290 : (ji24) < (l0.length : Int) := of_decide_eq_true (by first | (with_reducible assumption) | assumption)
                              obtain ⟨ad290, e290, hx290_0⟩ := Kd.at_string HR0.out (ji24) p290 q290
                              obtain rfl : ad289 = ad290 := (by injection e290)
                              first | (replace hx290_0 := (HB.out.cell (World.block_lt_of_cell? w _ hx290_0)).trans hx290_0) | skip
                              replace p290 := eq_true p290
                              replace q290 := eq_true q290
                              go_wp2
                              repeat (go_quiet (fail); try go_wp2)
                              go_roundg k3
                              case measure => have := HJ5.out; have := HJ13.out; have := HK3.out; omega
                              case rel => exact ⟨(wrap64 (x8_3 + 1)), (by first | rfl | (simp; done) | (simp [*]; done)), H', ⟨by have := HJ5.out; have := HJ13.out; have := HK3.out; omega⟩, ⟨by repeat (first | (with_reducible first | exact HB.out | apply below_alloc | apply pw_below_drewN | apply below_drew1) | exact HB.out)⟩⟩
                          · rw [if_neg c26] at H
                            exact absurd H (by simp)
                        · rw [if_neg c25] at H
                          exact absurd H (by simp)
                      · rw [if_neg c23] at H
                        exact absurd H (by simp)
                    · rw [if_neg c22] at H
                      have c22b0 : decide (x8_3 < (l0.length : Int)) = false := decide_eq_false c22
                      clear c22
                      by_cases c28 : 0 ≤ a1
                      · rw [if_pos c28] at H
                        have c28b0 : decide (0 ≤ a1) = true := decide_eq_true c28
                        clear c28
                        by_cases c29 : a1 < (l0.length : Int)
                        · rw [if_pos c29] at H
                          have c29b0 : decide (a1 < (l0.length : Int)) = true := decide_eq_true c29
                          clear c29
                          replace H := Option.bind_eq_some_iff.mp H
                          obtain ⟨⟨t292, t293, t294⟩, A300, H⟩ := H
                          replace H : (if t294 = true then (if t293 = true then (some (t292 == (wrap64 (a1 + 1)))) else (some false)) else (some false)) = some r := H
                          have A30 := Aside0.mk A300
                          clear A300
                          by_cases c31 : t294 = true
                          · subst c31
                            have H1 : (if t293 = true then (some (t292 == (wrap64 (a1 + 1)))) else (some false)) = some r := by rw [if_pos rfl] at H; exact H
                            clear H
                            have H := H1
                            clear H1
                            by_cases c32 : t293 = true
                            · subst c32
                              have H1 : (some (t292 == (wrap64 (a1 + 1)))) = some r := by rw [if_pos rfl] at H; exact H
                              clear H
                              have H := H1
                              clear H1
                              obtain rfl := Option.some.inj H
                              have p291 : 0 ≤ (a1 : Int) := of_decide_eq_true (by first | (with_reducible assumption) | assumption)
                              have q291 : a1 < (l0.length : Int) := of_decide_eq_true (by first | (with_reducible assumption) | assumption)
                              obtain ⟨ad291, e291, hx291_0⟩ := Kd.at_string HR0.out a1 p291 q291
                              cases e291
                              first | (replace hx291_0 := (HB.out.cell (World.block_lt_of_cell? w _ hx291_0)).trans hx291_0) | skip
                              replace p291 := eq_true p291
                              replace q291 := eq_true q291
                              go_wp2_with (first | (go_at_call 14; (refine (impl_TrieFind.calls _ _ l0 _ _ ([] : List Int) (rdOf ByteArray.empty l0 a1) t292 true true _ ?side1 ?side2 ?side3 ?side4 A30.out).mono ?_); (case side1 => repeat (first | exact (Kd.C_below HR0.out HB.out) | (with_reducible refine Kd.C_alloc ?_ _) | (with_reducible refine Kd.C_drewN ?_ _) | (with_reducible refine Kd.C_drew ?_))); (case side2 => exact HC0.out); (case side3 => exact Kd.C_nil _ _); (case side4 => exact Nat.le_refl _); rintro e w33 ⟨rfl, hb⟩; have n0_ := Aside0.mk (below_step (by repeat (first | (with_reducible first | exact HB.out | apply below_alloc | apply pw_below_drewN | apply below_drew1) | exact HB.out)) hb); clear HB; have HB := n0_; clear n0_; (try clear hb); (try clear hb2); (try clear hk); (try clear hi)))
                              repeat (go_quiet (first | (go_at_call 14; (refine (impl_TrieFind.calls _ _ l0 _ _ ([] : List Int) (rdOf ByteArray.empty l0 a1) t292 true true _ ?side1 ?side2 ?side3 ?side4 A30.out).mono ?_); (case side1 => repeat (first | exact (Kd.C_below HR0.out HB.out) | (with_reducible refine Kd.C_alloc ?_ _) | (with_reducible refine Kd.C_drewN ?_ _) | (with_reducible refine Kd.C_drew ?_))); (case side2 => exact HC0.out); (case side3 => exact Kd.C_nil _ _); (case side4 => exact Nat.le_refl _); rintro e w33 ⟨rfl, hb⟩; have n0_ := Aside0.mk (below_step (by repeat (first | (with_reducible first | exact HB.out | apply below_alloc | apply pw_below_drewN | apply below_drew1) | exact HB.out)) hb); clear HB; have HB := n0_; clear n0_; (try clear hb); (try clear hb2); (try clear hk); (try clear hi))); try go_wp2_with (first | (go_at_call 14; (refine (impl_TrieFind.calls _ _ l0 _ _ ([] : List Int) (rdOf ByteArray.empty l0 a1) t292 true true _ ?side1 ?side2 ?side3 ?side4 A30.out).mono ?_); (case side1 => repeat (first | exact (Kd.C_below HR0.out HB.out) | (with_reducible refine Kd.C_alloc ?_ _) | (with_reducible refine Kd.C_drewN ?_ _) | (with_reducible refine Kd.C_drew ?_))); (case side2 => exact HC0.out); (case side3 => exact Kd.C_nil _ _); (case side4 => exact Nat.le_refl _); rintro e w33 ⟨rfl, hb⟩; have n0_ := Aside0.mk (below_step (by repeat (first | (with_reducible first | exact HB.out | apply below_alloc | apply pw_below_drewN | apply below_drew1) | exact HB.out)) hb); clear HB; have HB := n0_; clear n0_; (try clear hb); (try clear hb2); (try clear hk); (try clear hi))))
                              go_ret
                              exact ⟨by first | rfl | (simp [errW_none, errW_some] <;> rfl) | (simp [*, errW_none, errW_some] <;> rfl), by repeat (first | (with_reducible first | exact HB.out | apply below_alloc | apply pw_below_drewN | apply below_drew1) | exact HB.out)⟩
                            · replace c32 := Bool.eq_false_iff.mpr c32
                              subst c32
                              have H1 : (some false) = some r := by rw [if_neg (show ¬ (false = true) by decide)] at H; exact H
                              clear H
                              have H := H1
                              clear H1
                              obtain rfl := Option.some.inj H
                              have p291 : 0 ≤ (a1 : Int) := of_decide_eq_true (by first | (with_reducible assumption) | assumption)
                              have q291 : a1 < (l0.length : Int) := of_decide_eq_true (by first | (with_reducible assumption) | assumption)
                              obtain ⟨ad291, e291, hx291_0⟩ := Kd.at_string HR0.out a1 p291 q291
                              cases e291
                              first | (replace hx291_0 := (HB.out.cell (World.block_lt_of_cell? w _ hx291_0)).trans hx291_0) | skip
                              replace p291 := eq_true p291
                              replace q291 := eq_true q291
                              go_wp2_with (first | (go_at_call 14; (refine (impl_TrieFind.calls _ _ l0 _ _ ([] : List Int) (rdOf ByteArray.empty l0 a1) t292 false true _ ?side1 ?side2 ?side3 ?side4 A30.out).mono ?_); (case side1 => repeat (first | exact (Kd.C_below HR0.out HB.out) | (with_reducible refine Kd.C_alloc ?_ _) | (with_reducible refine Kd.C_drewN ?_ _) | (with_reducible refine Kd.C_drew ?_))); (case side2 => exact HC0.out); (case side3 => exact Kd.C_nil _ _); (case side4 => exact Nat.le_refl _); rintro e w34 ⟨rfl, hb⟩; have n0_ := Aside0.mk (below_step (by repeat (first | (with_reducible first | exact HB.out | apply below_alloc | apply pw_below_drewN | apply below_drew1) | exact HB.out)) hb); clear HB; have HB := n0_; clear n0_; (try clear hb); (try clear hb2); (try clear hk); (try clear hi)))
                              repeat (go_quiet (first | (go_at_call 14; (refine (impl_TrieFind.calls _ _ l0 _ _ ([] : List Int) (rdOf ByteArray.empty l0 a1) t292 false true _ ?side1 ?side2 ?side3 ?side4 A30.out).mono ?_); (case side1 => repeat (first | exact (Kd.C_below HR0.out HB.out) | (with_reducible refine Kd.C_alloc ?_ _) | (with_reducible refine Kd.C_drewN ?_ _) | (with_reducible refine Kd.C_drew ?_))); (case side2 => exact HC0.out); (case side3 => exact Kd.C_nil _ _); (case side4 => exact Nat.le_refl _); rintro e w34 ⟨rfl, hb⟩; have n0_ := Aside0.mk (below_step (by repeat (first | (with_reducible first | exact HB.out | apply below_alloc | apply pw_below_drewN | apply below_drew1) | exact HB.out)) hb); clear HB; have HB := n0_; clear n0_; (try clear hb); (try clear hb2); (try clear hk); (try clear hi))); try go_wp2_with (first | (go_at_call 14; (refine (impl_TrieFind.calls _ _ l0 _ _ ([] : List Int) (rdOf ByteArray.empty l0 a1) t292 false true _ ?side1 ?side2 ?side3 ?side4 A30.out).mono ?_); (case side1 => repeat (first | exact (Kd.C_below HR0.out HB.out) | (with_reducible refine Kd.C_alloc ?_ _) | (with_reducible refine Kd.C_drewN ?_ _) | (with_reducible refine Kd.C_drew ?_))); (case side2 => exact HC0.out); (case side3 => exact Kd.C_nil _ _); (case side4 => exact Nat.le_refl _); rintro e w34 ⟨rfl, hb⟩; have n0_ := Aside0.mk (below_step (by repeat (first | (with_reducible first | exact HB.out | apply below_alloc | apply pw_below_drewN | apply below_drew1) | exact HB.out)) hb); clear HB; have HB := n0_; clear n0_; (try clear hb); (try clear hb2); (try clear hk); (try clear hi))))
                              go_ret
                              exact ⟨by first | rfl | (simp [errW_none, errW_some] <;> rfl) | (simp [*, errW_none, errW_some] <;> rfl), by repeat (first | (with_reducible first | exact HB.out | apply below_alloc | apply pw_below_drewN | apply below_drew1) | exact HB.out)⟩
                          · replace c31 := Bool.eq_false_iff.mpr c31
                            subst c31
                            have H1 : (some false) = some r := by rw [if_neg (show ¬ (false = true) by decide)] at H; exact H
                            clear H
                            have H := H1
                            clear H1
                            obtain rfl := Option.some.inj H
                            have p291 : 0 ≤ (a1 : Int) := of_decide_eq_true (by first | (with_reducible assumption) | assumption)
                            have q291 : a1 < (l0.length : Int) := of_decide_eq_true (by first | (with_reducible assumption) | assumption)
                            obtain ⟨ad291, e291, hx291_0⟩ := Kd.at_string HR0.out a1 p291 q291
                            cases e291
                            first | (replace hx291_0 := (HB.out.cell (World.block_lt_of_cell? w _ hx291_0)).trans hx291_0) | skip
                            replace p291 := eq_true p291
                            replace q291 := eq_true q291
                            go_wp2_with (first | (go_at_call 14; (refine (impl_TrieFind.calls _ _ l0 _ _ ([] : List Int) (rdOf ByteArray.empty l0 a1) t292 t293 false _ ?side1 ?side2 ?side3 ?side4 A30.out).mono ?_); (case side1 => repeat (first | exact (Kd.C_below HR0.out HB.out) | (with_reducible refine Kd.C_alloc ?_ _) | (with_reducible refine Kd.C_drewN ?_ _) | (with_reducible refine Kd.C_drew ?_))); (case side2 => exact HC0.out); (case side3 => exact Kd.C_nil _ _); (case side4 => exact Nat.le_refl _); rintro e w35 ⟨rfl, hb⟩; have n0_ := Aside0.mk (below_step (by repeat (first | (with_reducible first | exact HB.out | apply below_alloc | apply pw_below_drewN | apply below_drew1) | exact HB.out)) hb); clear HB; have HB := n0_; clear n0_; (try clear hb); (try clear hb2); (try clear hk); (try clear hi)))
                            repeat (go_quiet (first | (go_at_call 14; (refine (impl_TrieFind.calls _ _ l0 _ _ ([] : List Int) (rdOf ByteArray.empty l0 a1) t292 t293 false _ ?side1 ?side2 ?side3 ?side4 A30.out).mono ?_); (case side1 => repeat (first | exact (Kd.C_below HR0.out HB.out) | (with_reducible refine Kd.C_alloc ?_ _) | (with_reducible refine Kd.C_drewN ?_ _) | (with_reducible refine Kd.C_drew ?_))); (case side2 => exact HC0.out); (case side3 => exact Kd.C_nil _ _); (case side4 => exact Nat.le_refl _); rintro e w35 ⟨rfl, hb⟩; have n0_ := Aside0.mk (below_step (by repeat (first | (with_reducible first | exact HB.out | apply below_alloc | apply pw_below_drewN | apply below_drew1) | exact HB.out)) hb); clear HB; have HB := n0_; clear n0_; (try clear hb); (try clear hb2); (try clear hk); (try clear hi))); try go_wp2_with (first | (go_at_call 14; (refine (impl_TrieFind.calls _ _ l0 _ _ ([] : List Int) (rdOf ByteArray.empty l0 a1) t292 t293 false _ ?side1 ?side2 ?side3 ?side4 A30.out).mono ?_); (case side1 => repeat (first | exact (Kd.C_below HR0.out HB.out) | (with_reducible refine Kd.C_alloc ?_ _) | (with_reducible refine Kd.C_drewN ?_ _) | (with_reducible refine Kd.C_drew ?_))); (case side2 => exact HC0.out); (case side3 => exact Kd.C_nil _ _); (case side4 => exact Nat.le_refl _); rintro e w35 ⟨rfl, hb⟩; have n0_ := Aside0.mk (below_step (by repeat (first | (with_reducible first | exact HB.out | apply below_alloc | apply pw_below_drewN | apply below_drew1) | exact HB.out)) hb); clear HB; have HB := n0_; clear n0_; (try clear hb); (try clear hb2); (try clear hk); (try clear hi))))
                            go_ret
                            exact ⟨by first | rfl | (simp [errW_none, errW_some] <;> rfl) | (simp [*, errW_none, errW_some] <;> rfl), by repeat (first | (with_reducible first | exact HB.out | apply below_alloc | apply pw_below_drewN | apply below_drew1) | exact HB.out)⟩
                        · rw [if_neg c29] at H
                          exact absurd H (by simp)
                      · rw [if_neg c28] at H
                        exact absurd H (by simp)
  · replace c4 := Bool.eq_false_iff.mpr c4
    subst c4
    have H1 : (some true) = some r := by rw [if_neg (show ¬ (false = true) by decide)] at H; exact H
    clear H
    have H := H1
    clear H1
    obtain rfl := Option.some.inj H
    go_enter Try.func4, Try.ntmps4
    go_wp2_with (first | (go_at_call 9; (with_reducible refine (laws_zzFits4.calls k _ _ l0 false _ ?side1 ?side2 A3.out).mono ?_); (case side1 => repeat (first | exact HR0.out | (with_reducible refine Kd.C_alloc ?_ _) | (with_reducible refine Kd.C_drewN ?_ _) | (with_reducible refine Kd.C_drew ?_))); (case side2 => exact HC0.out); rintro e w' ⟨rfl, ⟨nd, rfl⟩⟩; (try first | exact ⟨rfl, _, World.drewN_drewN _ _ _⟩ | exact ⟨rfl, _, Eq.trans (World.drewN_drewN _ _ _) (congrArg (World.drewN _) (Nat.add_assoc _ _ _))⟩)))
    repeat (go_quiet (first | (go_at_call 9; (with_reducible refine (laws_zzFits4.calls k _ _ l0 false _ ?side1 ?side2 A3.out).mono ?_); (case side1 => repeat (first | exact HR0.out | (with_reducible refine Kd.C_alloc ?_ _) | (with_reducible refine Kd.C_drewN ?_ _) | (with_reducible refine Kd.C_drew ?_))); (case side2 => exact HC0.out); rintro e w' ⟨rfl, ⟨nd, rfl⟩⟩; (try first | exact ⟨rfl, _, World.drewN_drewN _ _ _⟩ | exact ⟨rfl, _, Eq.trans (World.drewN_drewN _ _ _) (congrArg (World.drewN _) (Nat.add_assoc _ _ _))⟩))); try go_wp2_with (first | (go_at_call 9; (with_reducible refine (laws_zzFits4.calls k _ _ l0 false _ ?side1 ?side2 A3.out).mono ?_); (case side1 => repeat (first | exact HR0.out | (with_reducible refine Kd.C_alloc ?_ _) | (with_reducible refine Kd.C_drewN ?_ _) | (with_reducible refine Kd.C_drew ?_))); (case side2 => exact HC0.out); rintro e w' ⟨rfl, ⟨nd, rfl⟩⟩; (try first | exact ⟨rfl, _, World.drewN_drewN _ _ _⟩ | exact ⟨rfl, _, Eq.trans (World.drewN_drewN _ _ _) (congrArg (World.drewN _) (Nat.add_assoc _ _ _))⟩))))
    go_ret
    exact ⟨by first | rfl | (simp [errW_none, errW_some] <;> rfl) | (simp [*, errW_none, errW_some] <;> rfl), by repeat (first | (with_reducible first | exact HB.out | apply below_alloc | apply pw_below_drewN | apply below_drew1) | exact HB.out)⟩

end Go.Proofs.Ytddcjmdcpkmnjaa.P
