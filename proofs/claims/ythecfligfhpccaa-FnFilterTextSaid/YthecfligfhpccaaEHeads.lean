/- One list at the head of another: the walk. -/
import Derived.Test.YthecfligfhpccaaP10
import Derived.Test.YthecfligfhpccaaXLaws
set_option linter.unusedVariables false
namespace Go.Proofs.Ythecfligfhpccaa.P
open Go.RowKit Go.Proofs.YthecfligfhpccaaW.PrintWords Go.Proofs.YthecfligfhpccaaW.PrintLast Go.Proofs.YthecfligfhpccaaW.PrintMore
open Go.Proofs.Ythecfligfhpccaa.X

def laws_heads.f (k : Nat) (l0 : List ByteArray) (l1 : List ByteArray) : Option Bool := if (l1.length : Int) ≤ (l0.length : Int) then laws_sameTexts.f k (l0.take l1.length) l1 else some false
theorem laws_heads.mono : ∀ a0 a1 k, LeO (laws_heads.f k a0 a1) (laws_heads.f (k + 1) a0 a1) := by
  intro a0 a1 k
  unfold laws_heads.f
  split
  · exact laws_sameTexts.mono _ _ _
  · exact LeO.refl _
set_option maxHeartbeats 8000000 in
set_option maxRecDepth 100000 in
theorem laws_heads.calls (k : Nat) (A0 : Option Addr) (c0 : Nat) (l0 : List ByteArray) (A1 : Option Addr) (c1 : Nat) (l1 : List ByteArray) (r : Bool) (w : World) (hr0 : Kd.C Kd.string w A0 l0.length l0) (hc0 : l0.length ≤ c0) (hr1 : Kd.C Kd.string w A1 l1.length l1) (hc1 : l1.length ≤ c1) (h : laws_heads.f k l0 l1 = some r) :
    Calls Try.prog 14 #[.slice A0 l0.length c0, .slice A1 l1.length c1] w fun e w' => e = .returned (.bool r) ∧ Drawn0 w w' := by
  unfold laws_heads.f at h
  by_cases hle : (l1.length : Int) ≤ (l0.length : Int)
  · rw [if_pos hle] at h
    have hb : decide ((l1.length : Int) ≤ (l0.length : Int)) = true := decide_eq_true hle
    have hb2 : decide (l1.length ≤ l0.length) = true := decide_eq_true (by omega)
    have hc2 : (l1.length : Int) ≤ (c0 : Int) := by omega
    have hc3 : decide ((l1.length : Int) ≤ (c0 : Int)) = true := decide_eq_true hc2
    have hlen : (l0.take l1.length).length = l1.length := by rw [List.length_take]; omega
    have hcl : ∀ W, Below w.heap.size w W → Calls Try.prog 10 #[.slice A0 l1.length c0, .slice A1 l1.length c1] W fun e w' => e = .returned (.bool r) ∧ Drawn0 W w' := fun W hW => by
      have h1 := Kd.C_take (m := l1.length) (Kd.C_below hr0 hW) (by omega)
      have h2 := laws_sameTexts.calls k A0 c0 (l0.take l1.length) A1 c1 l1 r W h1 (by rw [hlen]; omega) (Kd.C_below hr1 hW) hc1 h
      rw [hlen] at h2
      exact h2
    have HCL := Aside0.mk hcl
    clear hr0 hr1 h hlen hcl
    go_enter Try.func14, Try.ntmps14
    go_wp2_with (go_at_call 10; refine (HCL.out _ ?_).mono ?_; (first | exact Below.refl _ _ | exact below_drew (Below.refl _ _) | exact pw_below_drewN (Below.refl _ _) _); rintro e w' ⟨rfl, ⟨nd, rfl⟩⟩)
    go_ret
    exact ⟨rfl, by repeat (first | exact Drawn0.refl _ | apply Drawn0.step)⟩
  · rw [if_neg hle] at h
    have hb : decide ((l1.length : Int) ≤ (l0.length : Int)) = false := decide_eq_false hle
    have hb2 : decide (l1.length ≤ l0.length) = false := decide_eq_false (by omega)
    obtain rfl := Option.some.inj h
    clear hr0 hr1
    go_enter Try.func14, Try.ntmps14
    go_wp2
    go_ret
    exact ⟨rfl, by repeat (first | exact Drawn0.refl _ | apply Drawn0.step)⟩
end Go.Proofs.Ythecfligfhpccaa.P
