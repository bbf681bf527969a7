-- PRINTED by print.py (a twelfth state) out of the translation. Not trusted: Lean checks it.
import Derived.Test.YtddcjmdcpkmnjabProg
import Derived.Below
import Derived.Deep.Draws
import Derived.Deep.AppendLies
import Derived.Maps.AppendAt
import Derived.OwnWalk
import Derived.Laws.BytesArg
import Derived.Laws.MakeOwn
import Derived.Laws.OwnMore
import Derived.Deep.OwnRows
import Derived.Tactics
import Derived.Lib.ConvBytes
import Derived.Laws.Slices
import Derived.WalkKit
import Derived.KernelRfl
import Derived.RowKit3
import Derived.Deep.LoopGhost
import Derived.Deep.QuietTactic
import Derived.BigQuiet
import Derived.WideLaws
import Derived.Deep.DeepCutAuto
import Derived.Deep.CutBlock
import Derived.Deep.RegionHeld3
import Derived.Laws.Rows
import Derived.Lib.AppendStr
import Derived.ArgAppend
import Derived.Laws.IdiomCopy
import Derived.OrdersHeld
import Derived.Laws.BitsLemmas
import Derived.RowKit
import Derived.Test.YtddcjmdcpkmnjabWWords
import Derived.Test.YtddcjmdcpkmnjabWLast
import Derived.Test.YtddcjmdcpkmnjabWApart
import Derived.Test.YtddcjmdcpkmnjabWArr
import Derived.Test.YtddcjmdcpkmnjabWEqStruct
import Derived.Test.YtddcjmdcpkmnjabWRepsOne
import Derived.Test.YtddcjmdcpkmnjabWGuard
namespace Go.Proofs.YtddcjmdcpkmnjabW.PrintLast
end Go.Proofs.YtddcjmdcpkmnjabW.PrintLast
namespace Go.Proofs.YtddcjmdcpkmnjabW.PrintMore
end Go.Proofs.YtddcjmdcpkmnjabW.PrintMore
namespace Go.Proofs.YtddcjmdcpkmnjabW.PrintWords
open Go.RowKit
namespace Kd
theorem R_old {α : Type} {d : Kd α} {e base : Nat} {ok : Nat → Prop} {W w1 : World} {u : Value} {xs : List α} (hu : d.R e W base ok u xs) (hb : Below W.heap.size W w1) : d.R e w1 base (fun k => ok k ∧ k < W.heap.size) u xs :=
  R_mono (R_below (R_bound hu) hb) (fun _ h => ⟨h.1, h.2.2.1⟩)
theorem R_told {α : Type} {d : Kd α} {e base n : Nat} {ok : Nat → Prop} {w1 : World} {u v : Value} {xs : List α} (h : d.R e w1 base (fun k => ok k ∧ k < n) u xs) (hbase : ∀ k, v.ownBlock = some k → n ≤ k) : d.R e w1 base (fun k => (ok k ∧ some k ≠ v.ownBlock) ∧ k < n) u xs :=
  R_mono h (fun k hk => ⟨⟨hk.1, fun q => by have := hbase k q.symm; have := hk.2; omega⟩, hk.2⟩)
end Kd
section
variable {P : Program} {ops : Array Oper} {rest : List Oper} {o : Oper} {a : Act} {Q : Exit → Act → World → Prop} {W : World}
theorem gate_callee {f : FuncId} {xs : Array Operand} {ts : Array TypeId} (_ho : o.op = .call { callee := .value (.func f), args := xs, argTypes := ts }) (h : wpList P ops Q (o :: rest) a W) : wpList P ops Q (o :: rest) a W := h
theorem gate_builtin {b : Builtin} {xs : Array Operand} {ts : Array TypeId} (_ho : o.op = .call { callee := .builtin b, args := xs, argTypes := ts }) (h : wpList P ops Q (o :: rest) a W) : wpList P ops Q (o :: rest) a W := h
end
theorem calls_of_args {P : Program} {f : FuncId} {args args' : Array Value} {w : World} {Q : Ending → World → Prop} (h : args = args') (hc : Calls P f args' w Q) : Calls P f args w Q := h ▸ hc
theorem drewN_self (w : World) (n : Nat) : w.drewN n = w.drewN n := rfl
end Go.Proofs.YtddcjmdcpkmnjabW.PrintWords
namespace Go.Proofs.Ytddcjmdcpkmnjab.P
open Go.RowKit Go.Proofs.YtddcjmdcpkmnjabW.PrintWords Go.Proofs.YtddcjmdcpkmnjabW.PrintLast
set_option linter.unusedVariables false
set_option linter.unusedSimpArgs false



def errW : Option Int → Value
  | none => .nilIface
  | some c => .iface 0 (.int .i64 c)
theorem errW_none : errW none = .nilIface := rfl
theorem errW_some (c : Int) : errW (some c) = .iface 0 (.int .i64 c) := rfl

theorem info3 : (Try.prog.info? 3).map (fun i => (i.zero, i.size, i.bytes)) = some (some (.int .i64 0), 1, 8) := by kernel_rfl
theorem info9 : (Try.prog.info? 9).map (fun i => (i.zero, i.size, i.bytes)) = some (some (.string ⟨#[]⟩), 1, 16) := by kernel_rfl
theorem info23 : (Try.prog.info? 23).map (fun i => (i.zero, i.size, i.bytes)) = some (some (.slice none 0 0), 1, 24) := by kernel_rfl
-- the values' own types
def rd_L1 (xs : List (List ByteArray)) (i : Int) : (List ByteArray) := xs.getD i.toNat ([] : List ByteArray)
theorem at_L1 {w : World} {A : Option Addr} {n : Nat} {xs : List (List ByteArray)} (h : Kd.C (Kd.slice 9 Kd.string) w A n xs) (i : Int) (h0 : 0 ≤ i) (h1 : i < n) : ∃ ad A0 c0, A = some ad ∧ w.cell? (ad.add i.toNat) = some (.slice A0 (rd_L1 xs i).length c0) ∧ (rd_L1 xs i).length ≤ c0 ∧ Kd.string.C w A0 (rd_L1 xs i).length (rd_L1 xs i) := by
  obtain ⟨ad, c, e, _, hK, hc0⟩ := Kd.C_get h ([] : List ByteArray) i h0 h1
  have hc : ∀ j u, c[j]? = some u → w.cell? (ad.add (i.toNat * 1 + j)) = some u := hc0
  obtain ⟨A0, c0, rfl, l0, g0⟩ := hK
  exact ⟨ad, A0, c0, e, by have hq := hc 0 _ rfl; rwa [Nat.mul_one, Nat.add_zero] at hq, l0, g0⟩

def rd_L3 (xs : List (List Int)) (i : Int) : (List Int) := xs.getD i.toNat ([] : List Int)
theorem at_L3 {w : World} {A : Option Addr} {n : Nat} {xs : List (List Int)} (h : Kd.C (Kd.slice 3 (Kd.int .i64)) w A n xs) (i : Int) (h0 : 0 ≤ i) (h1 : i < n) : ∃ ad A0 c0, A = some ad ∧ w.cell? (ad.add i.toNat) = some (.slice A0 (rd_L3 xs i).length c0) ∧ (rd_L3 xs i).length ≤ c0 ∧ (Kd.int .i64).C w A0 (rd_L3 xs i).length (rd_L3 xs i) := by
  obtain ⟨ad, c, e, _, hK, hc0⟩ := Kd.C_get h ([] : List Int) i h0 h1
  have hc : ∀ j u, c[j]? = some u → w.cell? (ad.add (i.toNat * 1 + j)) = some u := hc0
  obtain ⟨A0, c0, rfl, l0, g0⟩ := hK
  exact ⟨ad, A0, c0, e, by have hq := hc 0 _ rfl; rwa [Nat.mul_one, Nat.add_zero] at hq, l0, g0⟩

/-! #### struct type 70 -/
structure S70 where
  f0 : Int
  f1 : Int
def z70 : S70 := ⟨(0 : Int), (0 : Int)⟩
def k70 : Kd S70 := Kd.iso (Kd.pair (Kd.int .i32) (Kd.int .i32)) (fun x : S70 => (x.f0, x.f1))
theorem k70_open {w : World} {x : S70} {cs : List Value} (h : k70.K w x cs) : cs = [.int .i32 x.f0, .int .i32 x.f1] := by
  obtain ⟨_, _, rfl, rfl, rfl⟩ := h
  exact rfl
theorem k70_openM {w : World} {base : Nat} {ok : Nat → Prop} {x : S70} {cs : List Value} (h : k70.M w base ok x cs) : cs = [.int .i32 x.f0, .int .i32 x.f1] := by
  obtain ⟨_, _, rfl, rfl, rfl⟩ := h
  exact rfl
theorem k70_mk (w : World) (x : S70)  : k70.K w x [.int .i32 x.f0, .int .i32 x.f1] := ⟨[.int .i32 x.f0], [.int .i32 x.f1], rfl, rfl, rfl⟩
theorem k70_mkM (w : World) (base : Nat) (ok : Nat → Prop) (x : S70)  : k70.M w base ok x [.int .i32 x.f0, .int .i32 x.f1] := ⟨[.int .i32 x.f0], [.int .i32 x.f1], rfl, rfl, rfl⟩
def rd_T70 (xs : List S70) (i : Int) : S70 := xs.getD i.toNat z70
theorem at_T70 {w : World} {A : Option Addr} {n : Nat} {xs : List S70} (h : Kd.C k70 w A n xs) (i : Int) (h0 : 0 ≤ i) (h1 : i < n) : ∃ ad , A = some ad ∧ w.cell? (ad.add (i.toNat * 2)) = some (.int .i32 (rd_T70 xs i).f0) ∧ w.cell? ⟨(ad.add (i.toNat * 2)).block, (ad.add (i.toNat * 2)).off + 1, none⟩ = some (.int .i32 (rd_T70 xs i).f1) := by
  obtain ⟨ad, c, e, _, hK, hc0⟩ := Kd.C_get h z70 i h0 h1
  have hc : ∀ j u, c[j]? = some u → w.cell? (ad.add (i.toNat * 2 + j)) = some u := hc0
  obtain rfl := k70_open hK
  exact ⟨ad, e, hc 0 _ rfl, by rw [← add_field _ _ 1 (by omega)]; exact hc 1 _ rfl⟩

def rd_L6 (xs : List (List (List Int))) (i : Int) : (List (List Int)) := xs.getD i.toNat ([] : List (List Int))
theorem at_L6 {w : World} {A : Option Addr} {n : Nat} {xs : List (List (List Int))} (h : Kd.C (Kd.slice 23 (Kd.slice 3 (Kd.int .i64))) w A n xs) (i : Int) (h0 : 0 ≤ i) (h1 : i < n) : ∃ ad A0 c0, A = some ad ∧ w.cell? (ad.add i.toNat) = some (.slice A0 (rd_L6 xs i).length c0) ∧ (rd_L6 xs i).length ≤ c0 ∧ (Kd.slice 3 (Kd.int .i64)).C w A0 (rd_L6 xs i).length (rd_L6 xs i) := by
  obtain ⟨ad, c, e, _, hK, hc0⟩ := Kd.C_get h ([] : List (List Int)) i h0 h1
  have hc : ∀ j u, c[j]? = some u → w.cell? (ad.add (i.toNat * 1 + j)) = some u := hc0
  obtain ⟨A0, c0, rfl, l0, g0⟩ := hK
  exact ⟨ad, A0, c0, e, by have hq := hc 0 _ rfl; rwa [Nat.mul_one, Nat.add_zero] at hq, l0, g0⟩

end Go.Proofs.Ytddcjmdcpkmnjab.P
