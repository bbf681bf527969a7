/-
  No cell of these rows narrows 'for every input' (looked for: loops, veiled, ifaces, maps, wideKeys, modest, calm, conditions, laid).
  DERIVED. THE GIVEN ROWS OF THIS SEAT. 6 by the template 'for every input the law returns true; each argument reads behind the call as it read before'; 0 by the template 'total and deterministic' (their statements: YtlhljldlbcgnoaaTotals.lean).
  GIVEN WITH THE SEED: the statements are not yours to turn. If you find one false, say at which input.
  Laid BY PROGRAM, IN A SANDBOX (cutbox-rows.mjs): the forced cells as the released guide's own fill.sh prints them over the translation 86e320a832f42ada… (all of the seat's roots in one cut). By AI agents, Wed Nov 11 2026. No macro, syntax, notation, axiom, sorry.
-/
import Derived.Test.YtlhljldlbcgnoaaChecked
import GoSem.Claim
import GoSem.ClaimJoined
import GoSem.ClaimMapViews
import Derived.JoinedTies
import Derived.KernelRfl
namespace Go.Proofs.Ytlhljldlbcgnoaa
/- THE CELL 'sum', in the pinned program and in every row, IS THE sha256 OF THE DUMP (.gsa) THAT YtlhljldlbcgnoaaProg.lean LOADS. Nothing in Lean hashes anything: it is a label: what it is worth is what the hold of that sum in a sandbox is worth. -/
noncomputable def Try.pinned : Pinned := { name := "ytlhljldlbcgnoaa", sum := "86e320a832f42ada14bfef7209bca3daa555a35858e44970b3d5a366a8b1bf37", checked := Try.checked }
namespace Rows
def none {H : Type} : Left H := { results := [], args := [] }

/-- 'laws.FnPOSIDs': WHATEVER THE INPUT: true; the input reads as it did. -/
def fnPOSIDsSpec : ChangeSpec := { name := "fnPOSIDs", fn := fun _ => fun
  | [d] => { results := [.lit (.bool true)], args := [d] }
  | _ => none }
def fnPOSIDsRow : OpenClaim := { program := "ytlhljldlbcgnoaa", sum := "86e320a832f42ada14bfef7209bca3daa555a35858e44970b3d5a366a8b1bf37", func := "pub-wortgut/laws.FnPOSIDs", spec := "fnPOSIDs", apart := false }
def FnPOSIDsSaid : Prop := fnPOSIDsRow.holds Try.pinned (OpenSpec.ofChange fnPOSIDsSpec)

/-- ITS FALSE NEIGHBOUR: 'it returns false'. Refute it at one input. -/
def fnPOSIDsWrong : ChangeSpec := { name := "fnPOSIDs", fn := fun _ => fun
  | [d] => { results := [.lit (.bool false)], args := [d] }
  | _ => none }
def FnPOSIDsWrongFalsely : Prop := fnPOSIDsRow.holds Try.pinned (OpenSpec.ofChange fnPOSIDsWrong)

/-- 'laws.FnPOSSays': WHATEVER THE INPUT: true; the input reads as it did. -/
def fnPOSSaysSpec : ChangeSpec := { name := "fnPOSSays", fn := fun _ => fun
  | [d] => { results := [.lit (.bool true)], args := [d] }
  | _ => none }
def fnPOSSaysRow : OpenClaim := { program := "ytlhljldlbcgnoaa", sum := "86e320a832f42ada14bfef7209bca3daa555a35858e44970b3d5a366a8b1bf37", func := "pub-wortgut/laws.FnPOSSays", spec := "fnPOSSays", apart := false }
def FnPOSSaysSaid : Prop := fnPOSSaysRow.holds Try.pinned (OpenSpec.ofChange fnPOSSaysSpec)

/-- ITS FALSE NEIGHBOUR: 'it returns false'. Refute it at one input. -/
def fnPOSSaysWrong : ChangeSpec := { name := "fnPOSSays", fn := fun _ => fun
  | [d] => { results := [.lit (.bool false)], args := [d] }
  | _ => none }
def FnPOSSaysWrongFalsely : Prop := fnPOSSaysRow.holds Try.pinned (OpenSpec.ofChange fnPOSSaysWrong)

/-- 'laws.FnPOSTwice': WHATEVER THE INPUT: true; the input reads as it did. -/
def fnPOSTwiceSpec : ChangeSpec := { name := "fnPOSTwice", fn := fun _ => fun
  | [d] => { results := [.lit (.bool true)], args := [d] }
  | _ => none }
def fnPOSTwiceRow : OpenClaim := { program := "ytlhljldlbcgnoaa", sum := "86e320a832f42ada14bfef7209bca3daa555a35858e44970b3d5a366a8b1bf37", func := "pub-wortgut/laws.FnPOSTwice", spec := "fnPOSTwice", apart := false }
def FnPOSTwiceSaid : Prop := fnPOSTwiceRow.holds Try.pinned (OpenSpec.ofChange fnPOSTwiceSpec)

/-- ITS FALSE NEIGHBOUR: 'it returns false'. Refute it at one input. -/
def fnPOSTwiceWrong : ChangeSpec := { name := "fnPOSTwice", fn := fun _ => fun
  | [d] => { results := [.lit (.bool false)], args := [d] }
  | _ => none }
def FnPOSTwiceWrongFalsely : Prop := fnPOSTwiceRow.holds Try.pinned (OpenSpec.ofChange fnPOSTwiceWrong)

/-- 'laws.FnFilterAny': WHATEVER THE INPUT: true; the input reads as it did. -/
def fnFilterAnySpec : ChangeSpec := { name := "fnFilterAny", fn := fun _ => fun
  | [d1, d2] => { results := [.lit (.bool true)], args := [d1, d2] }
  | _ => none }
def fnFilterAnyRow : OpenClaim := { program := "ytlhljldlbcgnoaa", sum := "86e320a832f42ada14bfef7209bca3daa555a35858e44970b3d5a366a8b1bf37", func := "pub-wortgut/laws.FnFilterAny", spec := "fnFilterAny", apart := false }
def FnFilterAnySaid : Prop := fnFilterAnyRow.holds Try.pinned (OpenSpec.ofChange fnFilterAnySpec)

/-- ITS FALSE NEIGHBOUR: 'it returns false'. Refute it at one input. -/
def fnFilterAnyWrong : ChangeSpec := { name := "fnFilterAny", fn := fun _ => fun
  | [d1, d2] => { results := [.lit (.bool false)], args := [d1, d2] }
  | _ => none }
def FnFilterAnyWrongFalsely : Prop := fnFilterAnyRow.holds Try.pinned (OpenSpec.ofChange fnFilterAnyWrong)

/-- 'laws.FnFilterOne': WHATEVER THE INPUT: true; the input reads as it did. -/
def fnFilterOneSpec : ChangeSpec := { name := "fnFilterOne", fn := fun _ => fun
  | [d1, d2] => { results := [.lit (.bool true)], args := [d1, d2] }
  | _ => none }
def fnFilterOneRow : OpenClaim := { program := "ytlhljldlbcgnoaa", sum := "86e320a832f42ada14bfef7209bca3daa555a35858e44970b3d5a366a8b1bf37", func := "pub-wortgut/laws.FnFilterOne", spec := "fnFilterOne", apart := false }
def FnFilterOneSaid : Prop := fnFilterOneRow.holds Try.pinned (OpenSpec.ofChange fnFilterOneSpec)

/-- ITS FALSE NEIGHBOUR: 'it returns false'. Refute it at one input. -/
def fnFilterOneWrong : ChangeSpec := { name := "fnFilterOne", fn := fun _ => fun
  | [d1, d2] => { results := [.lit (.bool false)], args := [d1, d2] }
  | _ => none }
def FnFilterOneWrongFalsely : Prop := fnFilterOneRow.holds Try.pinned (OpenSpec.ofChange fnFilterOneWrong)

/-- 'laws.FnFilterSays': WHATEVER THE INPUT: true; the input reads as it did. -/
def fnFilterSaysSpec : ChangeSpec := { name := "fnFilterSays", fn := fun _ => fun
  | [d1, d2] => { results := [.lit (.bool true)], args := [d1, d2] }
  | _ => none }
def fnFilterSaysRow : OpenClaim := { program := "ytlhljldlbcgnoaa", sum := "86e320a832f42ada14bfef7209bca3daa555a35858e44970b3d5a366a8b1bf37", func := "pub-wortgut/laws.FnFilterSays", spec := "fnFilterSays", apart := false }
def FnFilterSaysSaid : Prop := fnFilterSaysRow.holds Try.pinned (OpenSpec.ofChange fnFilterSaysSpec)

/-- ITS FALSE NEIGHBOUR: 'it returns false'. Refute it at one input. -/
def fnFilterSaysWrong : ChangeSpec := { name := "fnFilterSays", fn := fun _ => fun
  | [d1, d2] => { results := [.lit (.bool false)], args := [d1, d2] }
  | _ => none }
def FnFilterSaysWrongFalsely : Prop := fnFilterSaysRow.holds Try.pinned (OpenSpec.ofChange fnFilterSaysWrong)

/- THE SECOND FORM. 'bulk': how many values and letters a reading holds, each counted each time it is reached (what is shared counts as often as it is met; a slice's spare places count too). A statement '..UptoSaid' is the law's where the arguments, and the package variables that the reading takes, are together of bulk at most 1048576: NARROWER than '..Said'. Prove '..Said' where nothing that the law and all that it calls make is longer than what came in: it says more and counts as full. Else prove '..UptoSaid'. A law counts once. -/
mutual
def uptoBulk {H : Type} : DataW H → Nat
  | .lit (.string bytes) => bytes.length + 1
  | .lit _ => 1
  | .nil => 1
  | .ptr d => uptoBulk d + 1
  | .slice elems spare => uptoBulkAll elems + uptoBulkAll spare + 1
  | .agg parts => uptoBulkAll parts + 1
  | .iface _ d => uptoBulk d + 1
  | .map entries => uptoBulkEntries entries + 1
  | .held _ => 1
def uptoBulkAll {H : Type} : List (DataW H) → Nat
  | [] => 0
  | d :: r => uptoBulk d + uptoBulkAll r
def uptoBulkEntries {H : Type} : List (Lit × DataW H) → Nat
  | [] => 0
  | x :: r => uptoBulkEntry x + uptoBulkEntries r
def uptoBulkEntry {H : Type} : Lit × DataW H → Nat
  | (.string bytes, d) => bytes.length + uptoBulk d + 1
  | (_, d) => uptoBulk d + 1
 end
def uptoSmall : (H : Type) → List (DataW H) → Bool := fun _ ds => decide (uptoBulkAll ds ≤ 1048576)
def OpenSpec.upto (s : _root_.Go.ChangeSpec) : _root_.Go.OpenSpec := { _root_.Go.OpenSpec.ofChange s with cond := some uptoSmall }

/-- 'laws.FnPOSIDs', WHERE WHAT IT READS IS OF BULK AT MOST 1048576: true; the input reads as it did. -/
def fnPOSIDsUptoRow : OpenClaim := { program := "ytlhljldlbcgnoaa", sum := "86e320a832f42ada14bfef7209bca3daa555a35858e44970b3d5a366a8b1bf37", func := "pub-wortgut/laws.FnPOSIDs", spec := "fnPOSIDs", apart := false, narrowed := true }
def FnPOSIDsUptoSaid : Prop := fnPOSIDsUptoRow.holds Try.pinned (OpenSpec.upto fnPOSIDsSpec)

/-- 'laws.FnPOSSays', WHERE WHAT IT READS IS OF BULK AT MOST 1048576: true; the input reads as it did. -/
def fnPOSSaysUptoRow : OpenClaim := { program := "ytlhljldlbcgnoaa", sum := "86e320a832f42ada14bfef7209bca3daa555a35858e44970b3d5a366a8b1bf37", func := "pub-wortgut/laws.FnPOSSays", spec := "fnPOSSays", apart := false, narrowed := true }
def FnPOSSaysUptoSaid : Prop := fnPOSSaysUptoRow.holds Try.pinned (OpenSpec.upto fnPOSSaysSpec)

/-- 'laws.FnPOSTwice', WHERE WHAT IT READS IS OF BULK AT MOST 1048576: true; the input reads as it did. -/
def fnPOSTwiceUptoRow : OpenClaim := { program := "ytlhljldlbcgnoaa", sum := "86e320a832f42ada14bfef7209bca3daa555a35858e44970b3d5a366a8b1bf37", func := "pub-wortgut/laws.FnPOSTwice", spec := "fnPOSTwice", apart := false, narrowed := true }
def FnPOSTwiceUptoSaid : Prop := fnPOSTwiceUptoRow.holds Try.pinned (OpenSpec.upto fnPOSTwiceSpec)

/-- 'laws.FnFilterAny', WHERE WHAT IT READS IS OF BULK AT MOST 1048576: true; the input reads as it did. -/
def fnFilterAnyUptoRow : OpenClaim := { program := "ytlhljldlbcgnoaa", sum := "86e320a832f42ada14bfef7209bca3daa555a35858e44970b3d5a366a8b1bf37", func := "pub-wortgut/laws.FnFilterAny", spec := "fnFilterAny", apart := false, narrowed := true }
def FnFilterAnyUptoSaid : Prop := fnFilterAnyUptoRow.holds Try.pinned (OpenSpec.upto fnFilterAnySpec)

/-- 'laws.FnFilterOne', WHERE WHAT IT READS IS OF BULK AT MOST 1048576: true; the input reads as it did. -/
def fnFilterOneUptoRow : OpenClaim := { program := "ytlhljldlbcgnoaa", sum := "86e320a832f42ada14bfef7209bca3daa555a35858e44970b3d5a366a8b1bf37", func := "pub-wortgut/laws.FnFilterOne", spec := "fnFilterOne", apart := false, narrowed := true }
def FnFilterOneUptoSaid : Prop := fnFilterOneUptoRow.holds Try.pinned (OpenSpec.upto fnFilterOneSpec)

/-- 'laws.FnFilterSays', WHERE WHAT IT READS IS OF BULK AT MOST 1048576: true; the input reads as it did. -/
def fnFilterSaysUptoRow : OpenClaim := { program := "ytlhljldlbcgnoaa", sum := "86e320a832f42ada14bfef7209bca3daa555a35858e44970b3d5a366a8b1bf37", func := "pub-wortgut/laws.FnFilterSays", spec := "fnFilterSays", apart := false, narrowed := true }
def FnFilterSaysUptoSaid : Prop := fnFilterSaysUptoRow.holds Try.pinned (OpenSpec.upto fnFilterSaysSpec)

end Rows
end Go.Proofs.Ytlhljldlbcgnoaa
