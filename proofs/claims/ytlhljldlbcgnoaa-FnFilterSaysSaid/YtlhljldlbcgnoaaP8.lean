-- PRINTED by print.py (a twelfth state) out of the translation. Not trusted: Lean checks it.
import Derived.Test.YtlhljldlbcgnoaaP0
import Derived.Test.YtlhljldlbcgnoaaP9
import Derived.Test.YtlhljldlbcgnoaaP15
import Derived.Test.YtlhljldlbcgnoaaP17
import Derived.Test.YtlhljldlbcgnoaaP18
import Derived.Test.YtlhljldlbcgnoaaEFilD
namespace Go.Proofs.Ytlhljldlbcgnoaa.P
open Go.RowKit Go.Proofs.YtlhljldlbcgnoaaW.PrintWords Go.Proofs.YtlhljldlbcgnoaaW.PrintLast Go.Proofs.YtlhljldlbcgnoaaW.PrintMore
attribute [local go_sem] max2_int min2_int max_two min_two max_three min_three max_four min_four   -- for this text's walks alone
set_option linter.unusedVariables false
set_option linter.unusedSimpArgs false

/-! ### laws_FnFilterSays: function 8 -/
mutual
def laws_FnFilterSays.j0 : Nat → List (List ByteArray) → List ByteArray → Bool → Option (Bool)
  | 0, _, _, _ => none
  | k + 1, x0, x1, x15 => if x15 = true then (some true) else ((impl_FilterMatch.f (([(([(⟨#[97]⟩ : ByteArray)] : List ByteArray))] : List (List ByteArray))) (([(⟨#[97]⟩ : ByteArray)] : List ByteArray))).bind fun t280 => (if t280 = true then (if (x0.length : Int) > 8 then (laws_FnFilterSays.j1 k x0 x1 true) else (laws_FnFilterSays.j1 k x0 x1 (decide ((x1.length : Int) > 8)))) else (some false)))
def laws_FnFilterSays.j1 : Nat → List (List ByteArray) → List ByteArray → Bool → Option (Bool)
  | 0, _, _, _ => none
  | k + 1, x0, x1, x28 => if x28 = true then (some true) else (laws_FnFilterSays.l0 k x0 x1 x0 (x0.length : Int) 0)
def laws_FnFilterSays.l0 : Nat → List (List ByteArray) → List ByteArray → List (List ByteArray) → Int → Int → Option (Bool)
  | 0, _, _, _, _, _ => none
  | k + 1, x0, x1, x29, x30, x31 => if x31 < x30 then (if 0 ≤ x31 then (if x31 < (x29.length : Int) then (if ((rd_L1 x29 x31).length : Int) > 8 then (some true) else (if (x0.length : Int) > 1 then ((laws_hasAny.f k (rd_L1 x29 x31)).bind fun t282 => (if t282 = true then (some true) else (laws_FnFilterSays.l0 k x0 x1 x29 x30 (wrap64 (x31 + 1))))) else (laws_FnFilterSays.l0 k x0 x1 x29 x30 (wrap64 (x31 + 1))))) else (none)) else (none)) else ((spec_FilterMatch.f k x0 x1).bind fun t283 => (if t283 = 2 then (some true) else ((impl_FilterMatch.f x0 x1).bind fun t284 => (some (t284 == (t283 == 1))))))
end
def laws_FnFilterSays.f (k : Nat) (l0 : List (List ByteArray)) (l1 : List ByteArray) : Option (Bool) := (laws_zzFits9.f k l0).bind fun t269 => (if t269 = true then ((laws_zzFits4.f k l1).bind fun t270 => (laws_FnFilterSays.j0 k l0 l1 (!t270))) else (laws_FnFilterSays.j0 k l0 l1 true))
theorem laws_FnFilterSays.mono_l : ∀ k, (∀ y0 y1 y2, LeO (laws_FnFilterSays.j0 k y0 y1 y2) (laws_FnFilterSays.j0 (k + 1) y0 y1 y2)) ∧ (∀ y0 y1 y2, LeO (laws_FnFilterSays.j1 k y0 y1 y2) (laws_FnFilterSays.j1 (k + 1) y0 y1 y2)) ∧ (∀ y0 y1 y2 y3 y4, LeO (laws_FnFilterSays.l0 k y0 y1 y2 y3 y4) (laws_FnFilterSays.l0 (k + 1) y0 y1 y2 y3 y4))
  | 0 => ⟨fun _ _ _ r h => by simp [laws_FnFilterSays.j0] at h, fun _ _ _ r h => by simp [laws_FnFilterSays.j1] at h, fun _ _ _ _ _ r h => by simp [laws_FnFilterSays.l0] at h⟩
  | k + 1 => by
    obtain ⟨ih0, ih1, ih2⟩ := laws_FnFilterSays.mono_l k
    refine ⟨?_, ?_, ?_⟩
    · intro y0 y1 y2
      unfold laws_FnFilterSays.j0
      repeat' first
      | (with_reducible exact ih0 _ _ _)
      | (with_reducible exact ih1 _ _ _)
      | (with_reducible exact ih2 _ _ _ _ _)
      | (with_reducible exact laws_hasAny.mono _ _)
      | (with_reducible exact laws_zzFits4.mono _ _)
      | (with_reducible exact laws_zzFits9.mono _ _)
      | (with_reducible exact spec_FilterMatch.mono _ _ _)
      | (with_reducible exact LeO.refl _)
      | (with_reducible exact LeO.none _)
      | (with_reducible refine LeO.ite ?_ ?_)
      | (with_reducible refine LeO.bind ?_ (fun _ => ?_))
      | exact ih0 _ _ _
      | exact ih1 _ _ _
      | exact ih2 _ _ _ _ _
      | exact laws_hasAny.mono _ _
      | exact laws_zzFits4.mono _ _
      | exact laws_zzFits9.mono _ _
      | exact spec_FilterMatch.mono _ _ _
      | exact LeO.none _
      | refine LeO.ite ?_ ?_
      | refine LeO.bind ?_ (fun _ => ?_)
    · intro y0 y1 y2
      unfold laws_FnFilterSays.j1
      repeat' first
      | (with_reducible exact ih0 _ _ _)
      | (with_reducible exact ih1 _ _ _)
      | (with_reducible exact ih2 _ _ _ _ _)
      | (with_reducible exact laws_hasAny.mono _ _)
      | (with_reducible exact laws_zzFits4.mono _ _)
      | (with_reducible exact laws_zzFits9.mono _ _)
      | (with_reducible exact spec_FilterMatch.mono _ _ _)
      | (with_reducible exact LeO.refl _)
      | (with_reducible exact LeO.none _)
      | (with_reducible refine LeO.ite ?_ ?_)
      | (with_reducible refine LeO.bind ?_ (fun _ => ?_))
      | exact ih0 _ _ _
      | exact ih1 _ _ _
      | exact ih2 _ _ _ _ _
      | exact laws_hasAny.mono _ _
      | exact laws_zzFits4.mono _ _
      | exact laws_zzFits9.mono _ _
      | exact spec_FilterMatch.mono _ _ _
      | exact LeO.none _
      | refine LeO.ite ?_ ?_
      | refine LeO.bind ?_ (fun _ => ?_)
    · intro y0 y1 y2 y3 y4
      unfold laws_FnFilterSays.l0
      repeat' first
      | (with_reducible exact ih0 _ _ _)
      | (with_reducible exact ih1 _ _ _)
      | (with_reducible exact ih2 _ _ _ _ _)
      | (with_reducible exact laws_hasAny.mono _ _)
      | (with_reducible exact laws_zzFits4.mono _ _)
      | (with_reducible exact laws_zzFits9.mono _ _)
      | (with_reducible exact spec_FilterMatch.mono _ _ _)
      | (with_reducible exact LeO.refl _)
      | (with_reducible exact LeO.none _)
      | (with_reducible refine LeO.ite ?_ ?_)
      | (with_reducible refine LeO.bind ?_ (fun _ => ?_))
      | exact ih0 _ _ _
      | exact ih1 _ _ _
      | exact ih2 _ _ _ _ _
      | exact laws_hasAny.mono _ _
      | exact laws_zzFits4.mono _ _
      | exact laws_zzFits9.mono _ _
      | exact spec_FilterMatch.mono _ _ _
      | exact LeO.none _
      | refine LeO.ite ?_ ?_
      | refine LeO.bind ?_ (fun _ => ?_)
theorem laws_FnFilterSays.mono : ∀ a0 a1 k, LeO (laws_FnFilterSays.f k a0 a1) (laws_FnFilterSays.f (k + 1) a0 a1) := by
  intro a0 a1 k
  obtain ⟨ih0, ih1, ih2⟩ := laws_FnFilterSays.mono_l k
  unfold laws_FnFilterSays.f
  repeat' first
      | (with_reducible exact ih0 _ _ _)
      | (with_reducible exact ih1 _ _ _)
      | (with_reducible exact ih2 _ _ _ _ _)
      | (with_reducible exact laws_hasAny.mono _ _)
      | (with_reducible exact laws_zzFits4.mono _ _)
      | (with_reducible exact laws_zzFits9.mono _ _)
      | (with_reducible exact spec_FilterMatch.mono _ _ _)
      | (with_reducible exact LeO.refl _)
      | (with_reducible exact LeO.none _)
      | (with_reducible refine LeO.ite ?_ ?_)
      | (with_reducible refine LeO.bind ?_ (fun _ => ?_))
      | exact ih0 _ _ _
      | exact ih1 _ _ _
      | exact ih2 _ _ _ _ _
      | exact laws_hasAny.mono _ _
      | exact laws_zzFits4.mono _ _
      | exact laws_zzFits9.mono _ _
      | exact spec_FilterMatch.mono _ _ _
      | exact LeO.none _
      | refine LeO.ite ?_ ?_
      | refine LeO.bind ?_ (fun _ => ?_)
set_option maxHeartbeats 8000000 in
set_option maxRecDepth 100000 in
theorem laws_FnFilterSays.calls (k : Nat) (A0 : Option Addr) (c0 : Nat) (l0 : List (List ByteArray)) (A1 : Option Addr) (c1 : Nat) (l1 : List ByteArray) (r : Bool) (w : World) (hr0 : Kd.C (Kd.slice 9 Kd.string) w A0 l0.length l0) (hc0 : l0.length ≤ c0) (hr1 : Kd.C Kd.string w A1 l1.length l1) (hc1 : l1.length ≤ c1) (h : laws_FnFilterSays.f k l0 l1 = some r) :
    Calls Try.prog 8 #[.slice A0 l0.length c0, .slice A1 l1.length c1] w fun e w' => e = .returned (.bool r) ∧ Below w.heap.size w w' := by
  have HR0 := Aside0.mk hr0
  have HC0 := Aside0.mk hc0
  clear hr0 hc0
  have HR1 := Aside0.mk hr1
  have HC1 := Aside0.mk hc1
  clear hr1 hc1
  have HB := Aside0.mk (Below.refl w.heap.size w)
  have H : ((laws_zzFits9.f k l0).bind fun t269 => (if t269 = true then ((laws_zzFits4.f k l1).bind fun t270 => (laws_FnFilterSays.j0 k l0 l1 (!t270))) else (laws_FnFilterSays.j0 k l0 l1 true))) = some r := h
  clear h
  have HC3 := Aside0.mk H
  clear H
  go_enter Try.func8, Try.ntmps8
  go_upto_region 1 with (fail)
  go_cut [15] (fun v15 wc => ∃ (kq : Nat) (x15_2 : Bool), v15 = .bool x15_2 ∧ Aside0 (laws_FnFilterSays.j0 kq l0 l1 x15_2 = some r) ∧ Aside0 (kq ≤ k) ∧ Aside0 (Below w.heap.size w wc))
  case first =>
    have H := HC3.out
    clear HC3
    replace H := Option.bind_eq_some_iff.mp H
    obtain ⟨t269, A40, H⟩ := H
    replace H : (if t269 = true then ((laws_zzFits4.f k l1).bind fun t270 => (laws_FnFilterSays.j0 k l0 l1 (!t270))) else (laws_FnFilterSays.j0 k l0 l1 true)) = some r := H
    have A4 := Aside0.mk A40
    clear A40
    by_cases c5 : t269 = true
    · subst c5
      have H1 : ((laws_zzFits4.f k l1).bind fun t270 => (laws_FnFilterSays.j0 k l0 l1 (!t270))) = some r := by rw [if_pos rfl] at H; exact H
      clear H
      have H := H1
      clear H1
      replace H := Option.bind_eq_some_iff.mp H
      obtain ⟨t270, A60, H⟩ := H
      replace H : (laws_FnFilterSays.j0 k l0 l1 (!t270)) = some r := H
      have A6 := Aside0.mk A60
      clear A60
      have H' := Aside0.mk H
      clear H
      go_wp2_with (first | ((with_reducible refine gate_callee (f := 9) rfl ?_); refine goesL_ (some 9) rfl rfl Try.func9 (by kernel_rfl) rfl #[.slice A0 l0.length c0] rfl (by (try simp only [List.map_toArray, List.map_cons, List.map_nil]); first | done | rfl | (simp only [List.length_drop, List.length_take]; rfl)) ?_; (with_reducible refine (laws_zzFits9.calls k _ _ l0 true _ ?side1 ?side2 A4.out).mono ?_); (case side1 => repeat (first | exact (Kd.C_below HR0.out HB.out) | (with_reducible refine Kd.C_alloc ?_ _) | (with_reducible refine Kd.C_drewN ?_ _) | (with_reducible refine Kd.C_drew ?_))); (case side2 => exact HC0.out); rintro e w' ⟨rfl, ⟨nd, rfl⟩⟩; refine ⟨_, rfl, ?_⟩) | (go_at_call 15; (with_reducible refine (laws_zzFits4.calls k _ _ l1 t270 _ ?side1 ?side2 A6.out).mono ?_); (case side1 => repeat (first | exact (Kd.C_below HR1.out (by repeat (first | (with_reducible first | exact HB.out | apply below_alloc | apply pw_below_drewN | apply below_drew1) | exact HB.out))) | (with_reducible refine Kd.C_alloc ?_ _) | (with_reducible refine Kd.C_drewN ?_ _) | (with_reducible refine Kd.C_drew ?_))); (case side2 => exact HC1.out); rintro e w' ⟨rfl, ⟨nd, rfl⟩⟩))
      go_meet
      case rel => exact ⟨_, (!t270), (by first | rfl | (simp; done) | (simp [*]; done)), H', ⟨by first | omega | exact Nat.le_refl _⟩, ⟨by repeat (first | (with_reducible first | exact HB.out | apply below_alloc | apply pw_below_drewN | apply below_drew1) | exact HB.out)⟩⟩
    · replace c5 := Bool.eq_false_iff.mpr c5
      subst c5
      have H1 : (laws_FnFilterSays.j0 k l0 l1 true) = some r := by rw [if_neg (show ¬ (false = true) by decide)] at H; exact H
      clear H
      have H := H1
      clear H1
      have H' := Aside0.mk H
      clear H
      go_wp2_with (first | ((with_reducible refine gate_callee (f := 9) rfl ?_); refine goesL_ (some 9) rfl rfl Try.func9 (by kernel_rfl) rfl #[.slice A0 l0.length c0] rfl (by (try simp only [List.map_toArray, List.map_cons, List.map_nil]); first | done | rfl | (simp only [List.length_drop, List.length_take]; rfl)) ?_; (with_reducible refine (laws_zzFits9.calls k _ _ l0 false _ ?side1 ?side2 A4.out).mono ?_); (case side1 => repeat (first | exact (Kd.C_below HR0.out HB.out) | (with_reducible refine Kd.C_alloc ?_ _) | (with_reducible refine Kd.C_drewN ?_ _) | (with_reducible refine Kd.C_drew ?_))); (case side2 => exact HC0.out); rintro e w' ⟨rfl, ⟨nd, rfl⟩⟩; refine ⟨_, rfl, ?_⟩))
      go_meet
      case rel => exact ⟨_, (true), (by first | rfl | (simp; done) | (simp [*]; done)), H', ⟨by first | omega | exact Nat.le_refl _⟩, ⟨by repeat (first | (with_reducible first | exact HB.out | apply below_alloc | apply pw_below_drewN | apply below_drew1) | exact HB.out)⟩⟩
  case rest =>
    clear HC3
    try clear c1
    try clear p2
    try clear c5
    obtain ⟨kq, x15_2, rfl, HA, HJ2, HB⟩ := hcut
    cases kq with
    | zero => exact absurd HA.out (by simp [laws_FnFilterSays.j0])
    | succ kj2 =>
      have H := HA.out
      clear HA
      simp only [laws_FnFilterSays.j0] at H
      by_cases c7 : x15_2 = true
      · subst c7
        have H1 : (some true) = some r := by rw [if_pos rfl] at H; exact H
        clear H
        have H := H1
        clear H1
        obtain rfl := Option.some.inj H
        go_wp2
        go_ret
        exact ⟨by first | rfl | (simp [errW_none, errW_some] <;> rfl) | (simp [*, errW_none, errW_some] <;> rfl), by repeat (first | (with_reducible first | exact HB.out | apply below_alloc | apply pw_below_drewN | apply below_drew1) | exact HB.out)⟩
      · replace c7 := Bool.eq_false_iff.mpr c7
        subst c7
        have H1 : ((impl_FilterMatch.f (([(([(⟨#[97]⟩ : ByteArray)] : List ByteArray))] : List (List ByteArray))) (([(⟨#[97]⟩ : ByteArray)] : List ByteArray))).bind fun t280 => (if t280 = true then (if (l0.length : Int) > 8 then (laws_FnFilterSays.j1 kj2 l0 l1 true) else (laws_FnFilterSays.j1 kj2 l0 l1 (decide ((l1.length : Int) > 8)))) else (some false))) = some r := by rw [if_neg (show ¬ (false = true) by decide)] at H; exact H
        clear H
        have H := H1
        clear H1
        obtain ⟨y271, hy271⟩ : ∃ y_ : List ByteArray, y_ = (([(⟨#[97]⟩ : ByteArray)] : List ByteArray)) := ⟨_, rfl⟩
        replace H : ((impl_FilterMatch.f (([y271] : List (List ByteArray))) (([(⟨#[97]⟩ : ByteArray)] : List ByteArray))).bind fun t280 => (if t280 = true then (if (l0.length : Int) > 8 then (laws_FnFilterSays.j1 kj2 l0 l1 true) else (laws_FnFilterSays.j1 kj2 l0 l1 (decide ((l1.length : Int) > 8)))) else (some false))) = some r := by first | (rw [hy271]; with_reducible exact H) | (have H2_ := (Option.bind_some _ _).symm.trans H; rw [hy271]; with_reducible exact H2_) | (have H2_ := (Option.bind_some _ _).symm.trans H; with_reducible exact H2_) | with_reducible exact H | (rw [hy271]; exact H) | exact H
        have Ny271 := Aside0.mk hy271
        clear hy271
        obtain ⟨y274, hy274⟩ : ∃ y_ : List (List ByteArray), y_ = (([y271] : List (List ByteArray))) := ⟨_, rfl⟩
        replace H : ((impl_FilterMatch.f y274 (([(⟨#[97]⟩ : ByteArray)] : List ByteArray))).bind fun t280 => (if t280 = true then (if (l0.length : Int) > 8 then (laws_FnFilterSays.j1 kj2 l0 l1 true) else (laws_FnFilterSays.j1 kj2 l0 l1 (decide ((l1.length : Int) > 8)))) else (some false))) = some r := by first | (rw [hy274]; with_reducible exact H) | (have H2_ := (Option.bind_some _ _).symm.trans H; rw [hy274]; with_reducible exact H2_) | (have H2_ := (Option.bind_some _ _).symm.trans H; with_reducible exact H2_) | with_reducible exact H | (rw [hy274]; exact H) | exact H
        have Ny274 := Aside0.mk hy274
        clear hy274
        obtain ⟨y277, hy277⟩ : ∃ y_ : List ByteArray, y_ = (([(⟨#[97]⟩ : ByteArray)] : List ByteArray)) := ⟨_, rfl⟩
        replace H : ((impl_FilterMatch.f y274 y277).bind fun t280 => (if t280 = true then (if (l0.length : Int) > 8 then (laws_FnFilterSays.j1 kj2 l0 l1 true) else (laws_FnFilterSays.j1 kj2 l0 l1 (decide ((l1.length : Int) > 8)))) else (some false))) = some r := by first | (rw [hy277]; with_reducible exact H) | (have H2_ := (Option.bind_some _ _).symm.trans H; rw [hy277]; with_reducible exact H2_) | (have H2_ := (Option.bind_some _ _).symm.trans H; with_reducible exact H2_) | with_reducible exact H | (rw [hy277]; exact H) | exact H
        have Ny277 := Aside0.mk hy277
        clear hy277
        replace H := Option.bind_eq_some_iff.mp H
        obtain ⟨t280, A80, H⟩ := H
        replace H : (if t280 = true then (if (l0.length : Int) > 8 then (laws_FnFilterSays.j1 kj2 l0 l1 true) else (laws_FnFilterSays.j1 kj2 l0 l1 (decide ((l1.length : Int) > 8)))) else (some false)) = some r := H
        have A8 := Aside0.mk A80
        clear A80
        by_cases c9 : t280 = true
        · subst c9
          have H1 : (if (l0.length : Int) > 8 then (laws_FnFilterSays.j1 kj2 l0 l1 true) else (laws_FnFilterSays.j1 kj2 l0 l1 (decide ((l1.length : Int) > 8)))) = some r := by rw [if_pos rfl] at H; exact H
          clear H
          have H := H1
          clear H1
          have HC10 := Aside0.mk H
          clear H
          go_upto_region 5 with (first | ((with_reducible refine gate_dst (N := 16) rfl ?_); (try (refine gate_guard (by rfl) ?_; dsimp only)); refine Kd.R_lit Kd.string _ 9 ?hg (N := 16) ?hd (xs := ([(⟨#[97]⟩ : ByteArray)] : List ByteArray)) (inner := [.string (⟨#[97]⟩ : ByteArray)]) (ok := fun _ => True) (okp := fun _ => True) ?hr ?hp (fun _ hk => hk) trivial (Below.refl _ _) (Nat.le_refl _) (by simp) ?_; (case hd => rfl); (case hg => rfl); (case hr => first | (go_simp; done) | (go_simp; rfl)); (case hp => exact (Reps.one (show Kd.M Kd.string _ _ _ (⟨#[97]⟩ : ByteArray) [.string (⟨#[97]⟩ : ByteArray)] from rfl) (Reps.none _ _))); intro v272 w11 ho12 hb hg_ hnew_; clear hg_ hnew_; (first | rw [← Ny271.out] at ho12 | (simp only [Int.reduceToNat] at ho12; rw [← Ny271.out] at ho12)); have n0_ := Aside0.mk (Kd.R_lower ho12 (below_size (by repeat (first | (with_reducible first | exact HB.out | apply below_alloc | apply pw_below_drewN | apply below_drew1) | exact HB.out)))); have n1_ := Aside0.mk (below_step (by repeat (first | (with_reducible first | exact HB.out | apply below_alloc | apply pw_below_drewN | apply below_drew1) | exact HB.out)) hb); clear HB; have HO273 := n0_; have HB := n1_; clear n0_ n1_; clear hb ho12; obtain ⟨Ao13, co13, eo13⟩ := Kd.R_slice HO273.out; subst eo13) | ((with_reducible refine gate_dst (N := 17) rfl ?_); (try (refine gate_guard (by rfl) ?_; dsimp only)); refine Kd.N_lit (Kd.slice 9 Kd.string) _ 25 ?hg (N' := 17) ?hd (xs := ([y271] : List (List ByteArray))) (inner := [.slice Ao13 y271.length co13]) (ok := (fun _ => True)) (okp := (fun _ => True)) ?hr ?hp (fun _ hk => hk) ((show ∀ k_, w11.heap.size ≤ k_ → (fun _ => True) k_ from fun k_ hk => trivial) _ (Nat.le_refl _)) (Below.refl _ _) (Nat.le_refl _) (by simp) ?_; (case hd => rfl); (case hg => rfl); (case hr => first | (go_simp; done) | (go_simp; rfl)); (case hp => exact (Reps.one (show Kd.FK (Kd.slice 9 Kd.string) _ _ y271 [.slice Ao13 y271.length co13] from (Kd.FK_slice_mk (Kd.R_reads' (Kd.R_mono (ok' := (fun _ => True)) (HO273.out) (fun k_ hk => trivial))).2.1 (Kd.R_F (Kd.R_mono (ok' := (fun _ => True)) (HO273.out) (fun k_ hk => trivial))))) (Reps.none _ _))); intro v275 w14 ho15 hb hg_ hnew_; clear hg_ hnew_; (first | rw [← Ny274.out] at ho15 | (simp only [Int.reduceToNat] at ho15; rw [← Ny274.out] at ho15)); have n0_ := Aside0.mk (Kd.N_lower ho15 (below_size (by repeat (first | (with_reducible first | exact HB.out | apply below_alloc | apply pw_below_drewN | apply below_drew1) | exact HB.out)))); have n1_ := Aside0.mk (below_step (by repeat (first | (with_reducible first | exact HB.out | apply below_alloc | apply pw_below_drewN | apply below_drew1) | exact HB.out)) hb); clear HB; clear HO273; have HO276 := n0_; have HB := n1_; clear n0_ n1_; clear hb ho15) | ((with_reducible refine gate_dst (N := 18) rfl ?_); (try (refine gate_guard (by rfl) ?_; dsimp only)); refine Kd.R_lit Kd.string _ 9 ?hg (N := 18) ?hd (xs := ([(⟨#[97]⟩ : ByteArray)] : List ByteArray)) (inner := [.string (⟨#[97]⟩ : ByteArray)]) (ok := fun _ => True) (okp := fun _ => True) ?hr ?hp (fun _ hk => hk) trivial (Below.refl _ _) (Nat.le_refl _) (by simp) ?_; (case hd => rfl); (case hg => rfl); (case hr => first | (go_simp; done) | (go_simp; rfl)); (case hp => exact (Reps.one (show Kd.M Kd.string _ _ _ (⟨#[97]⟩ : ByteArray) [.string (⟨#[97]⟩ : ByteArray)] from rfl) (Reps.none _ _))); intro v278 w16 ho17 hb hg_ hnew_; clear hg_ hnew_; (first | rw [← Ny277.out] at ho17 | (simp only [Int.reduceToNat] at ho17; rw [← Ny277.out] at ho17)); have n0_ := Aside0.mk (Kd.N_elder' (by (with_reducible repeat (first | apply Kd.N_alloc | apply Kd.N_drewN | apply Kd.N_drew)); exact HO276.out) (by first | exact Kd.N_base ho17 | exact Kd.S_base ho17 | exact Kd.R_base ho17) hb); have n1_ := Aside0.mk (Kd.R_lower ho17 (below_size (by repeat (first | (with_reducible first | exact HB.out | apply below_alloc | apply pw_below_drewN | apply below_drew1) | exact HB.out)))); have n2_ := Aside0.mk (below_step (by repeat (first | (with_reducible first | exact HB.out | apply below_alloc | apply pw_below_drewN | apply below_drew1) | exact HB.out)) hb); clear HO276; clear HB; have HO276 := n0_; have HO279 := n1_; have HB := n2_; clear n0_ n1_ n2_; clear hb ho17; obtain ⟨Ao18, co18, eo18⟩ := Kd.N_slice HO276.out; subst eo18; obtain ⟨Ao19, co19, eo19⟩ := Kd.R_slice HO279.out; subst eo19) | ((with_reducible refine gate_callee (f := 16) rfl ?_); refine goesL_ (some 19) rfl rfl Try.func16 (by kernel_rfl) rfl #[.slice Ao18 y274.length co18, .slice Ao19 y277.length co19] rfl (by (try simp only [List.map_toArray, List.map_cons, List.map_nil]); first | done | rfl | (simp only [List.length_drop, List.length_take]; rfl)) ?_; (with_reducible refine (impl_FilterMatch.calls _ _ y274 _ _ y277 true _ ?side1 ?side2 ?side3 ?side4 A8.out).mono ?_); (case side1 => repeat (first | exact (Kd.N_reads' HO276.out).2.2 | (with_reducible refine Kd.C_alloc ?_ _) | (with_reducible refine Kd.C_drewN ?_ _) | (with_reducible refine Kd.C_drew ?_))); (case side2 => exact (Kd.N_reads' HO276.out).2.1); (case side3 => repeat (first | exact (Kd.R_reads' HO279.out).2.2 | (with_reducible refine Kd.C_alloc ?_ _) | (with_reducible refine Kd.C_drewN ?_ _) | (with_reducible refine Kd.C_drew ?_))); (case side4 => exact (Kd.R_reads' HO279.out).2.1); rintro e w20 ⟨rfl, hb⟩; refine ⟨_, rfl, ?_⟩; have n0_ := Aside0.mk (Kd.N_below (by (with_reducible repeat (first | apply Kd.N_alloc | apply Kd.N_drewN | apply Kd.N_drew)); exact HO276.out) hb); have n1_ := Aside0.mk (Kd.R_below (by (with_reducible repeat (first | apply Kd.R_alloc | apply Kd.R_drewN | apply Kd.R_drew)); exact HO279.out) hb); have n2_ := Aside0.mk (below_step (by repeat (first | (with_reducible first | exact HB.out | apply below_alloc | apply pw_below_drewN | apply below_drew1) | exact HB.out)) hb); clear HO276; clear HO279; clear HB; have HO276 := n0_; have HO279 := n1_; have HB := n2_; clear n0_ n1_ n2_; (try clear hb); (try clear hb2); (try clear hk); (try clear hi)))
          (try simp only [Act.put, List.setIfInBounds_toArray, List.set_cons_zero, List.set_cons_succ])
          go_cut [28] (fun v28 wc => ∃ (kq : Nat) (x28_9 : Bool), v28 = .bool x28_9 ∧ Aside0 (laws_FnFilterSays.j1 kq l0 l1 x28_9 = some r) ∧ Aside0 (kq ≤ kj2) ∧ Aside0 (Below w.heap.size w wc))
          case first =>
            have H := HC10.out
            clear HC10
            by_cases c21 : (l0.length : Int) > 8
            · rw [if_pos c21] at H
              have c21b0 : decide (8 < (l0.length : Int)) = true := decide_eq_true c21
              have c21b1 : decide (8 < l0.length) = true := decide_eq_true (by omega)
              clear c21
              (first | rw [c21b0] | (simp only [i64_w, i32_w]; rw [c21b0]) | skip)
              have H' := Aside0.mk H
              clear H
              go_wp2
              go_meet
              case rel => exact ⟨_, (true), (by first | rfl | (simp; done) | (simp [*]; done)), H', ⟨by have := HJ2.out; first | omega | exact Nat.le_refl _⟩, ⟨by repeat (first | (with_reducible first | exact HB.out | apply below_alloc | apply pw_below_drewN | apply below_drew1) | exact HB.out)⟩⟩
            · rw [if_neg c21] at H
              have c21b0 : decide (8 < (l0.length : Int)) = false := decide_eq_false c21
              have c21b1 : decide (8 < l0.length) = false := decide_eq_false (by omega)
              clear c21
              (first | rw [c21b0] | (simp only [i64_w, i32_w]; rw [c21b0]) | skip)
              have H' := Aside0.mk H
              clear H
              go_wp2
              go_meet
              case rel => exact ⟨_, (decide ((l1.length : Int) > 8)), (by first | rfl | (simp; done) | (simp [*]; done)), H', ⟨by have := HJ2.out; first | omega | exact Nat.le_refl _⟩, ⟨by repeat (first | (with_reducible first | exact HB.out | apply below_alloc | apply pw_below_drewN | apply below_drew1) | exact HB.out)⟩⟩
          case rest =>
            clear HC10
            try clear c1
            try clear c2
            try clear p2
            try clear c5
            try clear c7
            try clear c8
            try clear c9
            try clear c16
            try clear c21
            try clear c21b0
            try clear c21b1
            try clear p2
            obtain ⟨kq, x28_9, rfl, HA, HJ9, HB⟩ := hcut
            cases kq with
            | zero => exact absurd HA.out (by simp [laws_FnFilterSays.j1])
            | succ kj9 =>
              have H := HA.out
              clear HA
              simp only [laws_FnFilterSays.j1] at H
              by_cases c22 : x28_9 = true
              · subst c22
                have H1 : (some true) = some r := by rw [if_pos rfl] at H; exact H
                clear H
                have H := H1
                clear H1
                obtain rfl := Option.some.inj H
                go_wp2
                go_ret
                exact ⟨by first | rfl | (simp [errW_none, errW_some] <;> rfl) | (simp [*, errW_none, errW_some] <;> rfl), by repeat (first | (with_reducible first | exact HB.out | apply below_alloc | apply pw_below_drewN | apply below_drew1) | exact HB.out)⟩
              · replace c22 := Bool.eq_false_iff.mpr c22
                subst c22
                have H1 : (laws_FnFilterSays.l0 kj9 l0 l1 l0 (l0.length : Int) 0) = some r := by rw [if_neg (show ¬ (false = true) by decide)] at H; exact H
                clear H
                have H := H1
                clear H1
                have H' := Aside0.mk H
                clear H
                go_wp2
                go_loopg [31] kj9 (fun kq v31 w' => ∃ (x31_3 : Int), v31 = .int .i64 x31_3 ∧ Aside0 (laws_FnFilterSays.l0 kq l0 l1 l0 (l0.length : Int) x31_3 = some r) ∧ Aside0 (kq ≤ kj9) ∧ Aside0 (Below w.heap.size w w'))
                case atStart => exact ⟨(0), (by first | rfl | (simp; done) | (simp [*]; done)), H', ⟨Nat.le_refl _⟩, ⟨by repeat (first | (with_reducible first | exact HB.out | apply below_alloc | apply pw_below_drewN | apply below_drew1) | exact HB.out)⟩⟩
                case round =>
                  clear H'
                  try clear c1
                  try clear c2
                  try clear p2
                  try clear c5
                  try clear c7
                  try clear c8
                  try clear c9
                  try clear c16
                  try clear c21
                  try clear c21b0
                  try clear c21b1
                  try clear c22
                  try clear p2
                  obtain ⟨x31_3, rfl, HA, HK3, HB⟩ := hrel
                  cases gk with
                  | zero => exact absurd HA.out (by simp [laws_FnFilterSays.l0])
                  | succ k3 =>
                    have H := HA.out
                    clear HA
                    simp only [laws_FnFilterSays.l0] at H
                    by_cases c23 : x31_3 < (l0.length : Int)
                    · rw [if_pos c23] at H
                      have c23b0 : decide (x31_3 < (l0.length : Int)) = true := decide_eq_true c23
                      clear c23
                      by_cases c24 : 0 ≤ x31_3
                      · rw [if_pos c24] at H
                        have c24b0 : decide (0 ≤ x31_3) = true := decide_eq_true c24
                        clear c24
                        by_cases c25 : x31_3 < (l0.length : Int)
                        · rw [if_pos c25] at H
                          have c25b0 : decide (x31_3 < (l0.length : Int)) = true := decide_eq_true c25
                          clear c25
                          by_cases c26 : ((rd_L1 l0 x31_3).length : Int) > 8
                          · rw [if_pos c26] at H
                            have c26b0 : decide (8 < ((rd_L1 l0 x31_3).length : Int)) = true := decide_eq_true c26
                            have c26b1 : decide (8 < (rd_L1 l0 x31_3).length) = true := decide_eq_true (by omega)
                            clear c26
                            obtain rfl := Option.some.inj H
                            have p281 : 0 ≤ (x31_3 : Int) := of_decide_eq_true (by first | (with_reducible assumption) | assumption)
                            have q281 : x31_3 < (l0.length : Int) := of_decide_eq_true (by first | (with_reducible assumption) | assumption)
                            obtain ⟨ad281, A281_0, c281_0, e281, hx281_0, hl281_0, hi281_0⟩ := at_L1 HR0.out x31_3 p281 q281
                            cases e281
                            first | (replace hx281_0 := (HB.out.cell (World.block_lt_of_cell? w _ hx281_0)).trans hx281_0) | skip
                            have HR281_0 := Aside0.mk hi281_0
                            have HC281_0 := Aside0.mk hl281_0
                            clear hi281_0 hl281_0
                            replace p281 := eq_true p281
                            replace q281 := eq_true q281
                            go_wp2
                            go_ret
                            exact ⟨by first | rfl | (simp [errW_none, errW_some] <;> rfl) | (simp [*, errW_none, errW_some] <;> rfl), by repeat (first | (with_reducible first | exact HB.out | apply below_alloc | apply pw_below_drewN | apply below_drew1) | exact HB.out)⟩
                          · rw [if_neg c26] at H
                            have c26b0 : decide (8 < ((rd_L1 l0 x31_3).length : Int)) = false := decide_eq_false c26
                            have c26b1 : decide (8 < (rd_L1 l0 x31_3).length) = false := decide_eq_false (by omega)
                            clear c26
                            by_cases c27 : (l0.length : Int) > 1
                            · rw [if_pos c27] at H
                              have c27b0 : decide (1 < (l0.length : Int)) = true := decide_eq_true c27
                              have c27b1 : decide (1 < l0.length) = true := decide_eq_true (by omega)
                              clear c27
                              replace H := Option.bind_eq_some_iff.mp H
                              obtain ⟨t282, A280, H⟩ := H
                              replace H : (if t282 = true then (some true) else (laws_FnFilterSays.l0 k3 l0 l1 l0 (l0.length : Int) (wrap64 (x31_3 + 1)))) = some r := H
                              have A28 := Aside0.mk A280
                              clear A280
                              by_cases c29 : t282 = true
                              · subst c29
                                have H1 : (some true) = some r := by rw [if_pos rfl] at H; exact H
                                clear H
                                have H := H1
                                clear H1
                                obtain rfl := Option.some.inj H
                                have p281 : 0 ≤ (x31_3 : Int) := of_decide_eq_true (by first | (with_reducible assumption) | assumption)
                                have q281 : x31_3 < (l0.length : Int) := of_decide_eq_true (by first | (with_reducible assumption) | assumption)
                                obtain ⟨ad281, A281_0, c281_0, e281, hx281_0, hl281_0, hi281_0⟩ := at_L1 HR0.out x31_3 p281 q281
                                cases e281
                                first | (replace hx281_0 := (HB.out.cell (World.block_lt_of_cell? w _ hx281_0)).trans hx281_0) | skip
                                have HR281_0 := Aside0.mk hi281_0
                                have HC281_0 := Aside0.mk hl281_0
                                clear hi281_0 hl281_0
                                replace p281 := eq_true p281
                                replace q281 := eq_true q281
                                go_wp2_with (first | (go_at_call 17; (with_reducible refine (laws_hasAny.calls k3 _ _ (rd_L1 l0 x31_3) true _ ?side1 ?side2 A28.out).mono ?_); (case side1 => repeat (first | exact (Kd.C_below HR281_0.out HB.out) | (with_reducible refine Kd.C_alloc ?_ _) | (with_reducible refine Kd.C_drewN ?_ _) | (with_reducible refine Kd.C_drew ?_))); (case side2 => exact HC281_0.out); rintro e w' ⟨rfl, ⟨nd, rfl⟩⟩))
                                go_ret
                                exact ⟨by first | rfl | (simp [errW_none, errW_some] <;> rfl) | (simp [*, errW_none, errW_some] <;> rfl), by repeat (first | (with_reducible first | exact HB.out | apply below_alloc | apply pw_below_drewN | apply below_drew1) | exact HB.out)⟩
                              · replace c29 := Bool.eq_false_iff.mpr c29
                                subst c29
                                have H1 : (laws_FnFilterSays.l0 k3 l0 l1 l0 (l0.length : Int) (wrap64 (x31_3 + 1))) = some r := by rw [if_neg (show ¬ (false = true) by decide)] at H; exact H
                                clear H
                                have H := H1
                                clear H1
                                have H' := Aside0.mk H
                                clear H
                                have p281 : 0 ≤ (x31_3 : Int) := of_decide_eq_true (by first | (with_reducible assumption) | assumption)
                                have q281 : x31_3 < (l0.length : Int) := of_decide_eq_true (by first | (with_reducible assumption) | assumption)
                                obtain ⟨ad281, A281_0, c281_0, e281, hx281_0, hl281_0, hi281_0⟩ := at_L1 HR0.out x31_3 p281 q281
                                cases e281
                                first | (replace hx281_0 := (HB.out.cell (World.block_lt_of_cell? w _ hx281_0)).trans hx281_0) | skip
                                have HR281_0 := Aside0.mk hi281_0
                                have HC281_0 := Aside0.mk hl281_0
                                clear hi281_0 hl281_0
                                replace p281 := eq_true p281
                                replace q281 := eq_true q281
                                go_wp2_with (first | (go_at_call 17; (with_reducible refine (laws_hasAny.calls k3 _ _ (rd_L1 l0 x31_3) false _ ?side1 ?side2 A28.out).mono ?_); (case side1 => repeat (first | exact (Kd.C_below HR281_0.out HB.out) | (with_reducible refine Kd.C_alloc ?_ _) | (with_reducible refine Kd.C_drewN ?_ _) | (with_reducible refine Kd.C_drew ?_))); (case side2 => exact HC281_0.out); rintro e w' ⟨rfl, ⟨nd, rfl⟩⟩))
                                go_roundg k3
                                case measure => have := HJ2.out; have := HJ9.out; have := HK3.out; omega
                                case rel => exact ⟨(wrap64 (x31_3 + 1)), (by first | rfl | (simp; done) | (simp [*]; done)), H', ⟨by have := HJ2.out; have := HJ9.out; have := HK3.out; omega⟩, ⟨by repeat (first | (with_reducible first | exact HB.out | apply below_alloc | apply pw_below_drewN | apply below_drew1) | exact HB.out)⟩⟩
                            · rw [if_neg c27] at H
                              have c27b0 : decide (1 < (l0.length : Int)) = false := decide_eq_false c27
                              have c27b1 : decide (1 < l0.length) = false := decide_eq_false (by omega)
                              clear c27
                              have H' := Aside0.mk H
                              clear H
                              have p281 : 0 ≤ (x31_3 : Int) := of_decide_eq_true (by first | (with_reducible assumption) | assumption)
                              have q281 : x31_3 < (l0.length : Int) := of_decide_eq_true (by first | (with_reducible assumption) | assumption)
                              obtain ⟨ad281, A281_0, c281_0, e281, hx281_0, hl281_0, hi281_0⟩ := at_L1 HR0.out x31_3 p281 q281
                              cases e281
                              first | (replace hx281_0 := (HB.out.cell (World.block_lt_of_cell? w _ hx281_0)).trans hx281_0) | skip
                              have HR281_0 := Aside0.mk hi281_0
                              have HC281_0 := Aside0.mk hl281_0
                              clear hi281_0 hl281_0
                              replace p281 := eq_true p281
                              replace q281 := eq_true q281
                              go_wp2
                              go_roundg k3
                              case measure => have := HJ2.out; have := HJ9.out; have := HK3.out; omega
                              case rel => exact ⟨(wrap64 (x31_3 + 1)), (by first | rfl | (simp; done) | (simp [*]; done)), H', ⟨by have := HJ2.out; have := HJ9.out; have := HK3.out; omega⟩, ⟨by repeat (first | (with_reducible first | exact HB.out | apply below_alloc | apply pw_below_drewN | apply below_drew1) | exact HB.out)⟩⟩
                        · rw [if_neg c25] at H
                          exact absurd H (by simp)
                      · rw [if_neg c24] at H
                        exact absurd H (by simp)
                    · rw [if_neg c23] at H
                      have c23b0 : decide (x31_3 < (l0.length : Int)) = false := decide_eq_false c23
                      clear c23
                      replace H := Option.bind_eq_some_iff.mp H
                      obtain ⟨t283, A300, H⟩ := H
                      replace H : (if t283 = 2 then (some true) else ((impl_FilterMatch.f l0 l1).bind fun t284 => (some (t284 == (t283 == 1))))) = some r := H
                      have A30 := Aside0.mk A300
                      clear A300
                      by_cases c31 : t283 = 2
                      · rw [if_pos c31] at H
                        have c31b0 : (t283 == 2) = true := beq_iff_eq.mpr c31
                        have c31b1 : (t283 != 2) = false := bne_eq_false_iff_eq.mpr c31
                        clear c31
                        obtain rfl := Option.some.inj H
                        go_wp2_with (first | ((with_reducible refine gate_callee (f := 18) rfl ?_); refine goesL_ (some 50) rfl rfl Try.func18 (by kernel_rfl) rfl #[.slice A0 l0.length c0, .slice A1 l1.length c1] rfl (by (try simp only [List.map_toArray, List.map_cons, List.map_nil]); first | done | rfl | (simp only [List.length_drop, List.length_take]; rfl)) ?_; (with_reducible refine (spec_FilterMatch.calls k3 _ _ l0 _ _ l1 t283 _ ?side1 ?side2 ?side3 ?side4 A30.out).mono ?_); (case side1 => repeat (first | exact (Kd.C_below HR0.out HB.out) | (with_reducible refine Kd.C_alloc ?_ _) | (with_reducible refine Kd.C_drewN ?_ _) | (with_reducible refine Kd.C_drew ?_))); (case side2 => exact HC0.out); (case side3 => repeat (first | exact (Kd.C_below HR1.out HB.out) | (with_reducible refine Kd.C_alloc ?_ _) | (with_reducible refine Kd.C_drewN ?_ _) | (with_reducible refine Kd.C_drew ?_))); (case side4 => exact HC1.out); rintro e w' ⟨rfl, ⟨nd, rfl⟩⟩; refine ⟨_, rfl, ?_⟩))
                        go_ret
                        exact ⟨by first | rfl | (simp [errW_none, errW_some] <;> rfl) | (simp [*, errW_none, errW_some] <;> rfl), by repeat (first | (with_reducible first | exact HB.out | apply below_alloc | apply pw_below_drewN | apply below_drew1) | exact HB.out)⟩
                      · rw [if_neg c31] at H
                        have c31b0 : (t283 == 2) = false := beq_eq_false_iff_ne.mpr c31
                        have c31b1 : (t283 != 2) = true := bne_iff_ne.mpr c31
                        replace H := Option.bind_eq_some_iff.mp H
                        obtain ⟨t284, A320, H⟩ := H
                        replace H : (some (t284 == (t283 == 1))) = some r := H
                        have A32 := Aside0.mk A320
                        clear A320
                        obtain rfl := Option.some.inj H
                        go_wp2_with (first | ((with_reducible refine gate_callee (f := 18) rfl ?_); refine goesL_ (some 50) rfl rfl Try.func18 (by kernel_rfl) rfl #[.slice A0 l0.length c0, .slice A1 l1.length c1] rfl (by (try simp only [List.map_toArray, List.map_cons, List.map_nil]); first | done | rfl | (simp only [List.length_drop, List.length_take]; rfl)) ?_; (with_reducible refine (spec_FilterMatch.calls k3 _ _ l0 _ _ l1 t283 _ ?side1 ?side2 ?side3 ?side4 A30.out).mono ?_); (case side1 => repeat (first | exact (Kd.C_below HR0.out HB.out) | (with_reducible refine Kd.C_alloc ?_ _) | (with_reducible refine Kd.C_drewN ?_ _) | (with_reducible refine Kd.C_drew ?_))); (case side2 => exact HC0.out); (case side3 => repeat (first | exact (Kd.C_below HR1.out HB.out) | (with_reducible refine Kd.C_alloc ?_ _) | (with_reducible refine Kd.C_drewN ?_ _) | (with_reducible refine Kd.C_drew ?_))); (case side4 => exact HC1.out); rintro e w' ⟨rfl, ⟨nd, rfl⟩⟩; refine ⟨_, rfl, ?_⟩) | (go_at_call 16; (with_reducible refine (impl_FilterMatch.calls _ _ l0 _ _ l1 t284 _ ?side1 ?side2 ?side3 ?side4 A32.out).mono ?_); (case side1 => repeat (first | exact (Kd.C_below HR0.out (by repeat (first | (with_reducible first | exact HB.out | apply below_alloc | apply pw_below_drewN | apply below_drew1) | exact HB.out))) | (with_reducible refine Kd.C_alloc ?_ _) | (with_reducible refine Kd.C_drewN ?_ _) | (with_reducible refine Kd.C_drew ?_))); (case side2 => exact HC0.out); (case side3 => repeat (first | exact (Kd.C_below HR1.out (by repeat (first | (with_reducible first | exact HB.out | apply below_alloc | apply pw_below_drewN | apply below_drew1) | exact HB.out))) | (with_reducible refine Kd.C_alloc ?_ _) | (with_reducible refine Kd.C_drewN ?_ _) | (with_reducible refine Kd.C_drew ?_))); (case side4 => exact HC1.out); rintro e w33 ⟨rfl, hb⟩; have n0_ := Aside0.mk (below_step (by repeat (first | (with_reducible first | exact HB.out | apply below_alloc | apply pw_below_drewN | apply below_drew1) | exact HB.out)) hb); clear HB; have HB := n0_; clear n0_; (try clear hb); (try clear hb2); (try clear hk); (try clear hi)))
                        go_ret
                        exact ⟨by first | rfl | (simp [errW_none, errW_some] <;> rfl) | (simp [*, errW_none, errW_some] <;> rfl), by repeat (first | (with_reducible first | exact HB.out | apply below_alloc | apply pw_below_drewN | apply below_drew1) | exact HB.out)⟩
        · replace c9 := Bool.eq_false_iff.mpr c9
          subst c9
          have H1 : (some false) = some r := by rw [if_neg (show ¬ (false = true) by decide)] at H; exact H
          clear H
          have H := H1
          clear H1
          obtain rfl := Option.some.inj H
          go_wp2_with (first | ((with_reducible refine gate_dst (N := 16) rfl ?_); (try (refine gate_guard (by rfl) ?_; dsimp only)); refine Kd.R_lit Kd.string _ 9 ?hg (N := 16) ?hd (xs := ([(⟨#[97]⟩ : ByteArray)] : List ByteArray)) (inner := [.string (⟨#[97]⟩ : ByteArray)]) (ok := fun _ => True) (okp := fun _ => True) ?hr ?hp (fun _ hk => hk) trivial (Below.refl _ _) (Nat.le_refl _) (by simp) ?_; (case hd => rfl); (case hg => rfl); (case hr => first | (go_simp; done) | (go_simp; rfl)); (case hp => exact (Reps.one (show Kd.M Kd.string _ _ _ (⟨#[97]⟩ : ByteArray) [.string (⟨#[97]⟩ : ByteArray)] from rfl) (Reps.none _ _))); intro v272 w34 ho35 hb hg_ hnew_; clear hg_ hnew_; (first | rw [← Ny271.out] at ho35 | (simp only [Int.reduceToNat] at ho35; rw [← Ny271.out] at ho35)); have n0_ := Aside0.mk (Kd.R_lower ho35 (below_size (by repeat (first | (with_reducible first | exact HB.out | apply below_alloc | apply pw_below_drewN | apply below_drew1) | exact HB.out)))); have n1_ := Aside0.mk (below_step (by repeat (first | (with_reducible first | exact HB.out | apply below_alloc | apply pw_below_drewN | apply below_drew1) | exact HB.out)) hb); clear HB; have HO273 := n0_; have HB := n1_; clear n0_ n1_; clear hb ho35; obtain ⟨Ao36, co36, eo36⟩ := Kd.R_slice HO273.out; subst eo36) | ((with_reducible refine gate_dst (N := 17) rfl ?_); (try (refine gate_guard (by rfl) ?_; dsimp only)); refine Kd.N_lit (Kd.slice 9 Kd.string) _ 25 ?hg (N' := 17) ?hd (xs := ([y271] : List (List ByteArray))) (inner := [.slice Ao36 y271.length co36]) (ok := (fun _ => True)) (okp := (fun _ => True)) ?hr ?hp (fun _ hk => hk) ((show ∀ k_, w34.heap.size ≤ k_ → (fun _ => True) k_ from fun k_ hk => trivial) _ (Nat.le_refl _)) (Below.refl _ _) (Nat.le_refl _) (by simp) ?_; (case hd => rfl); (case hg => rfl); (case hr => first | (go_simp; done) | (go_simp; rfl)); (case hp => exact (Reps.one (show Kd.FK (Kd.slice 9 Kd.string) _ _ y271 [.slice Ao36 y271.length co36] from (Kd.FK_slice_mk (Kd.R_reads' (Kd.R_mono (ok' := (fun _ => True)) (HO273.out) (fun k_ hk => trivial))).2.1 (Kd.R_F (Kd.R_mono (ok' := (fun _ => True)) (HO273.out) (fun k_ hk => trivial))))) (Reps.none _ _))); intro v275 w37 ho38 hb hg_ hnew_; clear hg_ hnew_; (first | rw [← Ny274.out] at ho38 | (simp only [Int.reduceToNat] at ho38; rw [← Ny274.out] at ho38)); have n0_ := Aside0.mk (Kd.N_lower ho38 (below_size (by repeat (first | (with_reducible first | exact HB.out | apply below_alloc | apply pw_below_drewN | apply below_drew1) | exact HB.out)))); have n1_ := Aside0.mk (below_step (by repeat (first | (with_reducible first | exact HB.out | apply below_alloc | apply pw_below_drewN | apply below_drew1) | exact HB.out)) hb); clear HB; clear HO273; have HO276 := n0_; have HB := n1_; clear n0_ n1_; clear hb ho38) | ((with_reducible refine gate_dst (N := 18) rfl ?_); (try (refine gate_guard (by rfl) ?_; dsimp only)); refine Kd.R_lit Kd.string _ 9 ?hg (N := 18) ?hd (xs := ([(⟨#[97]⟩ : ByteArray)] : List ByteArray)) (inner := [.string (⟨#[97]⟩ : ByteArray)]) (ok := fun _ => True) (okp := fun _ => True) ?hr ?hp (fun _ hk => hk) trivial (Below.refl _ _) (Nat.le_refl _) (by simp) ?_; (case hd => rfl); (case hg => rfl); (case hr => first | (go_simp; done) | (go_simp; rfl)); (case hp => exact (Reps.one (show Kd.M Kd.string _ _ _ (⟨#[97]⟩ : ByteArray) [.string (⟨#[97]⟩ : ByteArray)] from rfl) (Reps.none _ _))); intro v278 w39 ho40 hb hg_ hnew_; clear hg_ hnew_; (first | rw [← Ny277.out] at ho40 | (simp only [Int.reduceToNat] at ho40; rw [← Ny277.out] at ho40)); have n0_ := Aside0.mk (Kd.N_elder' (by (with_reducible repeat (first | apply Kd.N_alloc | apply Kd.N_drewN | apply Kd.N_drew)); exact HO276.out) (by first | exact Kd.N_base ho40 | exact Kd.S_base ho40 | exact Kd.R_base ho40) hb); have n1_ := Aside0.mk (Kd.R_lower ho40 (below_size (by repeat (first | (with_reducible first | exact HB.out | apply below_alloc | apply pw_below_drewN | apply below_drew1) | exact HB.out)))); have n2_ := Aside0.mk (below_step (by repeat (first | (with_reducible first | exact HB.out | apply below_alloc | apply pw_below_drewN | apply below_drew1) | exact HB.out)) hb); clear HO276; clear HB; have HO276 := n0_; have HO279 := n1_; have HB := n2_; clear n0_ n1_ n2_; clear hb ho40; obtain ⟨Ao41, co41, eo41⟩ := Kd.N_slice HO276.out; subst eo41; obtain ⟨Ao42, co42, eo42⟩ := Kd.R_slice HO279.out; subst eo42) | ((with_reducible refine gate_callee (f := 16) rfl ?_); refine goesL_ (some 19) rfl rfl Try.func16 (by kernel_rfl) rfl #[.slice Ao41 y274.length co41, .slice Ao42 y277.length co42] rfl (by (try simp only [List.map_toArray, List.map_cons, List.map_nil]); first | done | rfl | (simp only [List.length_drop, List.length_take]; rfl)) ?_; (with_reducible refine (impl_FilterMatch.calls _ _ y274 _ _ y277 false _ ?side1 ?side2 ?side3 ?side4 A8.out).mono ?_); (case side1 => repeat (first | exact (Kd.N_reads' HO276.out).2.2 | (with_reducible refine Kd.C_alloc ?_ _) | (with_reducible refine Kd.C_drewN ?_ _) | (with_reducible refine Kd.C_drew ?_))); (case side2 => exact (Kd.N_reads' HO276.out).2.1); (case side3 => repeat (first | exact (Kd.R_reads' HO279.out).2.2 | (with_reducible refine Kd.C_alloc ?_ _) | (with_reducible refine Kd.C_drewN ?_ _) | (with_reducible refine Kd.C_drew ?_))); (case side4 => exact (Kd.R_reads' HO279.out).2.1); rintro e w43 ⟨rfl, hb⟩; refine ⟨_, rfl, ?_⟩; have n0_ := Aside0.mk (Kd.N_below (by (with_reducible repeat (first | apply Kd.N_alloc | apply Kd.N_drewN | apply Kd.N_drew)); exact HO276.out) hb); have n1_ := Aside0.mk (Kd.R_below (by (with_reducible repeat (first | apply Kd.R_alloc | apply Kd.R_drewN | apply Kd.R_drew)); exact HO279.out) hb); have n2_ := Aside0.mk (below_step (by repeat (first | (with_reducible first | exact HB.out | apply below_alloc | apply pw_below_drewN | apply below_drew1) | exact HB.out)) hb); clear HO276; clear HO279; clear HB; have HO276 := n0_; have HO279 := n1_; have HB := n2_; clear n0_ n1_ n2_; (try clear hb); (try clear hb2); (try clear hk); (try clear hi)))
          go_ret
          exact ⟨by first | rfl | (simp [errW_none, errW_some] <;> rfl) | (simp [*, errW_none, errW_some] <;> rfl), by repeat (first | (with_reducible first | exact HB.out | apply below_alloc | apply pw_below_drewN | apply below_drew1) | exact HB.out)⟩

end Go.Proofs.Ytlhljldlbcgnoaa.P
