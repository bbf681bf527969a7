/- What the laid tables give: the tables of UTF-8, of letters and of numbers; a world that holds them. -/
import Derived.Test.YthecfligfhpccaaDoorRows
import Derived.Test.YthecfligfhpccaaDoorShelf
import Derived.Shelf.Lays7
import Derived.Shelf.Spec.DecodeRune
import Derived.Shelf.Spec.NilArms
import Derived.Shelf.Unicode.PredsPay
import Derived.Lib.LaidU8
import Derived.Lib.LaidU8T
import Derived.Lib.LaidRTab
import Derived.Lib.LaidTab
import Derived.PinnedBridge
import Derived.Lay
import Derived.LaidMore
import Derived.LaidHandle
import Derived.HandedShaped
set_option linter.unusedVariables false
namespace Go.Proofs
open Go.Shelf
def Tryd.lays732_ren : Go.Shelf.Ren := ⟨fun | 32 => 25 | 49 => 33 | n => n, fun | 30 => 43 | 21 => 21 | 3 => 3 | 0 => 0 | 5 => 5 | 4 => 4 | 33 => 47 | 66 => 60 | 25 => 63 | 69 => 66 | 68 => 65 | n => n, fun | 2 => 3 | 3 => 4 | n => n⟩
theorem Tryd.lays732 : Go.Proofs.Lays7.n32 Tryd.prog Tryd.lays732_ren := {
  mixed := by kernel_rfl
  f32 := Tryd.func25.trans (congrArg some (by kernel_rfl))
  f49 := Tryd.func33.trans (congrArg some (by kernel_rfl))
  t0 := Tryd.underlying0
  a0 := Tryd.isAgg0
  z0 := Tryd.sizeOf0
  v0 := Tryd.zeroValue0
  i0 := by kernel_rfl
  t3 := Tryd.underlying3
  a3 := Tryd.isAgg3
  z3 := Tryd.sizeOf3
  v3 := Tryd.zeroValue3
  i3 := by kernel_rfl
  t4 := Tryd.underlying4
  a4 := Tryd.isAgg4
  z4 := Tryd.sizeOf4
  v4 := Tryd.zeroValue4
  i4 := by kernel_rfl
  t5 := Tryd.underlying5
  a5 := Tryd.isAgg5
  z5 := Tryd.sizeOf5
  v5 := Tryd.zeroValue5
  i5 := by kernel_rfl
  t21 := Tryd.underlying21
  a21 := Tryd.isAgg21
  z21 := Tryd.sizeOf21
  v21 := Tryd.zeroValue21
  i21 := by kernel_rfl
  t25 := Tryd.underlying63
  a25 := Tryd.isAgg63
  z25 := Tryd.sizeOf63
  v25 := Tryd.zeroValue63
  i25 := by kernel_rfl
  t30 := Tryd.underlying43
  a30 := Tryd.isAgg43
  z30 := Tryd.sizeOf43
  v30 := Tryd.zeroValue43
  i30 := by kernel_rfl
  t33 := Tryd.underlying47
  a33 := Tryd.isAgg47
  z33 := Tryd.sizeOf47
  v33 := Tryd.zeroValue47
  i33 := by kernel_rfl
  t66 := Tryd.underlying60
  a66 := Tryd.isAgg60
  z66 := Tryd.sizeOf60
  t68 := Tryd.underlying65
  a68 := Tryd.isAgg65
  z68 := Tryd.sizeOf65
  v68 := Tryd.zeroValue65
  i68 := by kernel_rfl
  t69 := Tryd.underlying66
  a69 := Tryd.isAgg66
  z69 := Tryd.sizeOf66
  v69 := Tryd.zeroValue66
  i69 := by kernel_rfl
  g2 := by kernel_rfl
  g3 := by kernel_rfl }
end Go.Proofs
namespace Go.Proofs.YthecfligfhpccaaDoor.X
open Go.RowKit Go.Lib Go.Shelf
theorem u8types : U8Types Tryd.prog Tryd.lays260_ren := U8Types.of260 Tryd.lays260
theorem u8extra : U8Extra Tryd.prog Tryd.lays260_ren := ⟨by kernel_rfl, by kernel_rfl, by kernel_rfl, by kernel_rfl, by kernel_rfl, by kernel_rfl, by kernel_rfl⟩
theorem rextra : RExtra Tryd.prog Tryd.lays261_ren := ⟨by kernel_rfl, by kernel_rfl, by kernel_rfl, by kernel_rfl, by kernel_rfl, by kernel_rfl, by kernel_rfl, by kernel_rfl⟩
set_option maxRecDepth 100000 in
theorem props_eq : Rows.laid_unicode_properties = (tabData .u8 propertiesTab : DataW Unit) := by kernel_rfl
theorem accept_eq : Rows.laid_unicode_utf8_acceptRanges = (acceptData : DataW Unit) := by kernel_rfl
theorem tab_of_reads {P : Program} {W : World} {name : String} {k : IntKind} {zs : List Int} {g : Nat} {t e : TypeId} {n : Nat}
    (hg : P.globalNamed name = some g) (hty : (P.globals[g]?).map (·.type) = some t) (ht : P.underlying t = some (.array n e)) (he : P.underlying e = some (.int k)) (hce : P.cellsOf e = 1) (hct : P.cellsOf t = n)
    (h : VarReads P W name (tabData k zs)) : TabIs P W name k zs := by
  obtain ⟨g', t', cs, fuel, p, hg', ht', hvar, hd⟩ := h
  obtain rfl := Option.some.inj (hg.symm.trans hg')
  obtain rfl := Option.some.inj (hty.symm.trans ht')
  unfold TabIs
  rw [hvar, ← cells_of_tab ht he hce hct hd]
/-- What the walks ask of the world. -/
structure Tabs (W : World) : Prop where
  u8 : Utf8Tabs 3 4 W
  props : TabIs Tryd.prog W "unicode.properties" .u8 propertiesTab
  letter : RVar 2 letterT W
  number : RVar 1 numberT W
theorem Tabs.below {w W : World} (h : Tabs w) (hb : Below w.heap.size w W) : Tabs W := ⟨Utf8Tabs_below h.u8 hb, TabIs_below (g := 0) (by kernel_rfl) h.props hb, RVar_below h.letter hb, RVar_below h.number hb⟩
def laidAll : List (String × DataW Unit) := [("unicode/utf8.acceptRanges", Rows.laid_unicode_utf8_acceptRanges), ("unicode.properties", Rows.laid_unicode_properties), ("unicode.Letter", Rows.laid_unicode_Letter), ("unicode.Number", Rows.laid_unicode_Number), ("unicode/utf8.first", Rows.laid_unicode_utf8_first)]
theorem tabs_of {W : World} (h : laidMet Tryd.prog laidAll W) : Tabs W := by
  have r1 := Lib.laidMet.reads h (n := "unicode/utf8.acceptRanges") (d := Rows.laid_unicode_utf8_acceptRanges) (by unfold laidAll; simp)
  have r2 := Lib.laidMet.reads h (n := "unicode.properties") (d := Rows.laid_unicode_properties) (by unfold laidAll; simp)
  have r3 := Lib.laidMet.reads h (n := "unicode.Letter") (d := Rows.laid_unicode_Letter) (by unfold laidAll; simp)
  have r4 := Lib.laidMet.reads h (n := "unicode.Number") (d := Rows.laid_unicode_Number) (by unfold laidAll; simp)
  have r5 := Lib.laidMet.reads h (n := "unicode/utf8.first") (d := Rows.laid_unicode_utf8_first) (by unfold laidAll; simp)
  rw [accept_eq] at r1
  rw [props_eq] at r2
  rw [show Rows.laid_unicode_Letter = rtabData letterT from Pinned.letter_eq] at r3
  rw [show Rows.laid_unicode_Number = rtabData numberT from Pinned.number_eq] at r4
  rw [show Rows.laid_unicode_utf8_first = firstData from Pinned.utf8First_eq] at r5
  exact ⟨utf8Tabs_of_readsT u8types u8extra r5 r1, tab_of_reads (g := 0) (t := 60) (e := 5) (n := 256) (by kernel_rfl) (by kernel_rfl) Tryd.underlying60 Tryd.underlying5 (by kernel_rfl) (by kernel_rfl) r2,
    rvar_of_reads Tryd.lays261 rextra (by kernel_rfl) (by kernel_rfl) r3, rvar_of_reads Tryd.lays261 rextra (by kernel_rfl) (by kernel_rfl) r4⟩
set_option maxRecDepth 100000 in
theorem laid_world (os : Os) (args : Array Value) : laidMet Tryd.prog laidAll ((World.laidAll Tryd.prog os laidAll).forCall (fun _ _ => 0) ⟨#[], args, []⟩).memory := laidMet_laidAll _ (by kernel_rfl) (by kernel_rfl)
end Go.Proofs.YthecfligfhpccaaDoor.X
