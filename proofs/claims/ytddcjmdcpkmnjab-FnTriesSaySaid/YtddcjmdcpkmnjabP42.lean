-- PRINTED by print.py (a twelfth state) out of the translation. Not trusted: Lean checks it.
import Derived.Test.YtddcjmdcpkmnjabP0
import Derived.Test.YtddcjmdcpkmnjabP48
namespace Go.Proofs.Ytddcjmdcpkmnjab.P
open Go.RowKit Go.Proofs.YtddcjmdcpkmnjabW.PrintWords Go.Proofs.YtddcjmdcpkmnjabW.PrintLast
set_option linter.unusedVariables false
set_option linter.unusedSimpArgs false

/-! ### sort_StringsAreSorted: function 42 -/
def sort_StringsAreSorted.f (k : Nat) (l0 : List ByteArray) : Option (Bool) := (slices_IsSorted_string_string.f k l0).bind fun t107 => (some t107)
theorem sort_StringsAreSorted.mono : ∀ a0 k, LeO (sort_StringsAreSorted.f k a0) (sort_StringsAreSorted.f (k + 1) a0) := by
  intro a0 k
  unfold sort_StringsAreSorted.f
  repeat' first
      | (with_reducible exact slices_IsSorted_string_string.mono _ _)
      | (with_reducible exact LeO.refl _)
      | (with_reducible exact LeO.none _)
      | (with_reducible refine LeO.ite ?_ ?_)
      | (with_reducible refine LeO.bind ?_ (fun _ => ?_))
      | exact slices_IsSorted_string_string.mono _ _
      | exact LeO.none _
      | refine LeO.ite ?_ ?_
      | refine LeO.bind ?_ (fun _ => ?_)
set_option maxHeartbeats 8000000 in
set_option maxRecDepth 100000 in
theorem sort_StringsAreSorted.calls (k : Nat) (A0 : Option Addr) (c0 : Nat) (l0 : List ByteArray) (r : Bool) (w : World) (hr0 : Kd.C Kd.string w A0 l0.length l0) (hc0 : l0.length ≤ c0) (h : sort_StringsAreSorted.f k l0 = some r) :
    Calls Try.prog 42 #[.slice A0 l0.length c0] w fun e w' => e = .returned (.bool r) ∧ Drawn0 w w' := by
  have HR0 := Aside0.mk hr0
  have HC0 := Aside0.mk hc0
  clear hr0 hc0
  have H : ((slices_IsSorted_string_string.f k l0).bind fun t107 => (some t107)) = some r := h
  clear h
  replace H := Option.bind_eq_some_iff.mp H
  obtain ⟨t107, A20, H⟩ := H
  replace H : (some t107) = some r := H
  have A2 := Aside0.mk A20
  clear A20
  obtain rfl := Option.some.inj H
  go_enter Try.func42, Try.ntmps42
  go_wp2_with (first | ((with_reducible refine gate_callee (f := 48) rfl ?_); refine goesL_ (some 4) rfl rfl Try.func48 (by kernel_rfl) rfl #[.slice A0 l0.length c0] rfl (by (try simp only [List.map_toArray, List.map_cons, List.map_nil]); first | done | rfl | (simp only [List.length_drop, List.length_take]; rfl)) ?_; (with_reducible refine (slices_IsSorted_string_string.calls k _ _ l0 t107 _ ?side1 ?side2 A2.out).mono ?_); (case side1 => repeat (first | exact HR0.out | (with_reducible refine Kd.C_alloc ?_ _) | (with_reducible refine Kd.C_drewN ?_ _) | (with_reducible refine Kd.C_drew ?_))); (case side2 => exact HC0.out); rintro e w' ⟨rfl, ⟨nd, rfl⟩⟩; refine ⟨_, rfl, ?_⟩))
  go_ret
  exact ⟨by first | rfl | (simp; done) | (simp [*]; done), by repeat (first | exact Drawn0.refl _ | apply Drawn0.step)⟩

end Go.Proofs.Ytddcjmdcpkmnjab.P
