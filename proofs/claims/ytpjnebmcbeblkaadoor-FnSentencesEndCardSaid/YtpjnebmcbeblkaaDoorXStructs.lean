/- A splitter by value: what reads as data is one. -/
import Derived.Test.YtpjnebmcbeblkaaDoorP0
import Derived.Test.YtpjnebmcbeblkaaDoorXOpen
import Derived.WideShapes
import Derived.ChangeArms
import Derived.WalkKit
import Derived.ProofKit
import Derived.ChangeOld
import Derived.OpenShut
set_option linter.unusedVariables false
namespace Go.Proofs.YtpjnebmcbeblkaaDoor.X
open Go.ChangeShapes Go.WideShapes Go.ChangeAt Go.RowKit Go.Proofs.YtpjnebmcbeblkaaDoorW.PrintWords Go.Proofs.YtpjnebmcbeblkaaDoor.P
open Go.Proofs.YtpjnebmcbeblkaaDoorW
set_option maxRecDepth 100000
def good_T23 (x : S23) : Prop := x.f0.size ≤ maxLen ∧ x.f1.size ≤ maxLen
theorem array5 {α : Type} {cs : Array α} (h : cs.size = 5) : ∃ c0 c1 c2 c3 c4, cs = #[c0, c1, c2, c3, c4] := by
  obtain ⟨l⟩ := cs
  match l, h with
  | [c0, c1, c2, c3, c4], _ => exact ⟨c0, c1, c2, c3, c4, rfl⟩
theorem open_agg_T23 {H : Type} {enc : TypeId × Value → H} {w : World} {base : Nat} {sp : Nat → Bool} {held : Bool} {r : Reach} {b0 : Nat} {v : Value} {d : DataW H} {ps : List MemPlace} (hval : Value.okWide Tryd.prog w r b0 23 v) (hd : DataW.Trod enc Tryd.prog w base sp held 23 v d ps) :
    ∃ x : S23, v = .agg #[.string x.f0, .string x.f1, .bool x.f2, .bool x.f3, .int .i64 x.f4] ∧ good_T23 x := by
  obtain ⟨cs, rfl, hsz⟩ := okWide_struct Tryd.underlying23 hval
  have hC : Tryd.prog.cellsOf 23 = 5 := by kernel_rfl
  have k9 : Tryd.prog.cellsOf 9 = 1 := by kernel_rfl
  have k4 : Tryd.prog.cellsOf 4 = 1 := by kernel_rfl
  have k3 : Tryd.prog.cellsOf 3 = 1 := by kernel_rfl
  obtain ⟨c0, c1, c2, c3, c4, rfl⟩ := array5 (hsz.trans hC)
  obtain ⟨fuel, hf⟩ := hd
  obtain ⟨xs, n, _, _, hl, hlen, hff⟩ := DataW.trod_struct Tryd.underlying23 hf
  have q0 := hff 0 _ rfl
  have q1 := hff 1 _ rfl
  have q2 := hff 2 _ rfl
  have q3 := hff 3 _ rfl
  have q4 := hff 4 _ rfl
  simp only [Value.cells, k9, k4, k3] at q0 q1 q2 q3 q4
  have hl5 : xs.length = 5 := hlen
  have g : ∀ j, (h : j < 5) → ∃ y, xs[j]? = some y := fun j h => ⟨xs[j], List.getElem?_eq_getElem (by omega)⟩
  obtain ⟨y0, e0⟩ := g 0 (by omega)
  obtain ⟨y1, e1⟩ := g 1 (by omega)
  obtain ⟨y2, e2⟩ := g 2 (by omega)
  obtain ⟨y3, e3⟩ := g 3 (by omega)
  obtain ⟨y4, e4⟩ := g 4 (by omega)
  rw [e0] at q0
  rw [e1] at q1
  rw [e2] at q2
  rw [e3] at q3
  rw [e4] at q4
  obtain ⟨s0, h0, -, z0⟩ := DataW.trod_string Tryd.underlying9 q0
  obtain ⟨s1, h1, -, z1⟩ := DataW.trod_string Tryd.underlying9 q1
  obtain ⟨s2, h2, -⟩ := DataW.trod_bool Tryd.underlying4 q2
  obtain ⟨s3, h3, -⟩ := DataW.trod_bool Tryd.underlying4 q3
  obtain ⟨s4, h4, -⟩ := DataW.trod_int Tryd.underlying3 q4
  simp [k9, k4, k3] at h0 h1 h2 h3 h4
  subst h0 h1 h2 h3 h4
  exact ⟨⟨s0, s1, s2, s3, s4⟩, rfl, z0, z1⟩
end Go.Proofs.YtpjnebmcbeblkaaDoor.X
