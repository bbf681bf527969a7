/- What the laid tables give: the tables of UTF-8 and of white space; a world that holds them. -/
import Derived.Test.YtpjnebmcbeblkaaDoorRows
import Derived.Test.YtpjnebmcbeblkaaDoorShelf
import Derived.Shelf.Lays7
import Derived.Shelf.Spec.DecodeRune
import Derived.Shelf.Spec.NilArms
import Derived.Lib.LaidU8
import Derived.Lib.LaidU8T
import Derived.PinnedBridge
import Derived.Lay
import Derived.LaidMore
import Derived.LaidHandle
import Derived.HandedShaped
set_option linter.unusedVariables false
namespace Go.Proofs
open Go.Shelf
def Tryd.lays732_ren : Go.Shelf.Ren := ⟨fun | 32 => 33 | 49 => 44 | n => n, fun | 30 => 46 | 21 => 21 | 3 => 3 | 0 => 0 | 5 => 5 | 4 => 4 | 33 => 60 | 66 => 72 | 25 => 76 | 69 => 75 | 68 => 74 | n => n, fun | 2 => 0 | 3 => 1 | n => n⟩
theorem Tryd.lays732 : Go.Proofs.Lays7.n32 Tryd.prog Tryd.lays732_ren := {
  mixed := by kernel_rfl
  f32 := Tryd.func33.trans (congrArg some (by kernel_rfl))
  f49 := Tryd.func44.trans (congrArg some (by kernel_rfl))
  t0 := Tryd.underlying0
  a0 := Tryd.isAgg0
  z0 := Tryd.sizeOf0
  v0 := Tryd.zeroValue0
  i0 := by kernel_rfl
  t3 := Tryd.underlying3
  a3 := Tryd.isAgg3
  z3 := Tryd.sizeOf3
  v3 := Tryd.zeroValue3
  i3 := by kernel_rfl
  t4 := Tryd.underlying4
  a4 := Tryd.isAgg4
  z4 := Tryd.sizeOf4
  v4 := Tryd.zeroValue4
  i4 := by kernel_rfl
  t5 := Tryd.underlying5
  a5 := Tryd.isAgg5
  z5 := Tryd.sizeOf5
  v5 := Tryd.zeroValue5
  i5 := by kernel_rfl
  t21 := Tryd.underlying21
  a21 := Tryd.isAgg21
  z21 := Tryd.sizeOf21
  v21 := Tryd.zeroValue21
  i21 := by kernel_rfl
  t25 := Tryd.underlying76
  a25 := Tryd.isAgg76
  z25 := Tryd.sizeOf76
  v25 := Tryd.zeroValue76
  i25 := by kernel_rfl
  t30 := Tryd.underlying46
  a30 := Tryd.isAgg46
  z30 := Tryd.sizeOf46
  v30 := Tryd.zeroValue46
  i30 := by kernel_rfl
  t33 := Tryd.underlying60
  a33 := Tryd.isAgg60
  z33 := Tryd.sizeOf60
  v33 := Tryd.zeroValue60
  i33 := by kernel_rfl
  t66 := Tryd.underlying72
  a66 := Tryd.isAgg72
  z66 := Tryd.sizeOf72
  t68 := Tryd.underlying74
  a68 := Tryd.isAgg74
  z68 := Tryd.sizeOf74
  v68 := Tryd.zeroValue74
  i68 := by kernel_rfl
  t69 := Tryd.underlying75
  a69 := Tryd.isAgg75
  z69 := Tryd.sizeOf75
  v69 := Tryd.zeroValue75
  i69 := by kernel_rfl
  g2 := by kernel_rfl
  g3 := by kernel_rfl }
end Go.Proofs
namespace Go.Proofs.YtpjnebmcbeblkaaDoor.X
open Go.RowKit Go.Lib Go.Shelf
theorem accept_eq : Rows.laid_unicode_utf8_acceptRanges = (acceptData : DataW Unit) := by kernel_rfl
theorem white_eq : Rows.laid_unicode_White_Space = (whiteData : DataW Unit) := by kernel_rfl
def ren8 : Go.Shelf.Ren := ⟨fun n => n, fun | 119 => Tryd.lays732_ren.t 66 | 138 => Tryd.lays732_ren.t 68 | 139 => Tryd.lays732_ren.t 69 | n => n, fun | 3 => Tryd.lays732_ren.g 2 | 4 => Tryd.lays732_ren.g 3 | n => n⟩
theorem u8types : U8Types Tryd.prog ren8 := ⟨Tryd.lays732.t5, Tryd.lays732.t66, Tryd.lays732.t68, Tryd.lays732.t69⟩
theorem u8extra : U8Extra Tryd.prog ren8 := ⟨by kernel_rfl, by kernel_rfl, by kernel_rfl, by kernel_rfl, by kernel_rfl, by kernel_rfl, by kernel_rfl⟩
theorem whiteExtra : WhiteExtra Tryd.prog Tryd.lays199_ren := ⟨by kernel_rfl, by kernel_rfl, by kernel_rfl, by kernel_rfl, by kernel_rfl, by kernel_rfl, by kernel_rfl, by kernel_rfl⟩
/-- What the walks ask of the world. -/
structure Tabs (W : World) : Prop where
  u8 : Utf8Tabs 0 1 W
  white : WhiteTab 2 W
theorem Tabs.below {w W : World} (h : Tabs w) (hb : Below w.heap.size w W) : Tabs W := ⟨Utf8Tabs_below h.u8 hb, WhiteTab_below h.white hb⟩
theorem tabs_in {laid : List (String × DataW Unit)} (h1 : ("unicode/utf8.first", Rows.laid_unicode_utf8_first) ∈ laid) (h2 : ("unicode/utf8.acceptRanges", Rows.laid_unicode_utf8_acceptRanges) ∈ laid) (h3 : ("unicode.White_Space", Rows.laid_unicode_White_Space) ∈ laid) {W : World} (h : laidMet Tryd.prog laid W) : Tabs W := by
  rw [show Rows.laid_unicode_utf8_first = firstData from Pinned.utf8First_eq] at h1
  rw [accept_eq] at h2
  rw [white_eq] at h3
  exact ⟨utf8Tabs_of_readsT u8types u8extra (Lib.laidMet.reads h h1) (Lib.laidMet.reads h h2), whiteTab_of_reads Tryd.lays199 whiteExtra (Lib.laidMet.reads h h3)⟩
def laidAll : List (String × DataW Unit) := [("unicode/utf8.acceptRanges", Rows.laid_unicode_utf8_acceptRanges), ("unicode.White_Space", Rows.laid_unicode_White_Space), ("unicode/utf8.first", Rows.laid_unicode_utf8_first)]
theorem tabs_of {W : World} (h : laidMet Tryd.prog laidAll W) : Tabs W := tabs_in (by unfold laidAll; simp) (by unfold laidAll; simp) (by unfold laidAll; simp) h
set_option maxRecDepth 100000 in
theorem laid_world (os : Os) (args : Array Value) : laidMet Tryd.prog laidAll ((World.laidAll Tryd.prog os laidAll).forCall (fun _ _ => 0) ⟨#[], args, []⟩).memory := laidMet_laidAll _ (by kernel_rfl) (by kernel_rfl)
end Go.Proofs.YtpjnebmcbeblkaaDoor.X
