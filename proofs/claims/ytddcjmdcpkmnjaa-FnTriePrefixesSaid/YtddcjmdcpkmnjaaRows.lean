/-
  No cell of these rows narrows 'for every input' (looked for: loops, veiled, ifaces, maps, wideKeys, modest, calm, conditions, laid).
  DERIVED. THE GIVEN ROWS OF THIS SEAT. 6 by the template 'for every input the law returns true; each argument reads behind the call as it read before'; 0 by the template 'total and deterministic' (their statements: YtddcjmdcpkmnjaaTotals.lean).
  GIVEN WITH THE SEED: the statements are not yours to turn. If you find one false, say at which input.
  Laid BY PROGRAM, IN A SANDBOX (cutbox-rows.mjs): the forced cells as the released guide's own fill.sh prints them over the translation 98d8242ac33dbcb9… (all of the seat's roots in one cut). By AI agents, Wed Nov 11 2026. No macro, syntax, notation, axiom, sorry.
-/
import Derived.Test.YtddcjmdcpkmnjaaChecked
import GoSem.Claim
import GoSem.ClaimJoined
import GoSem.ClaimMapViews
import Derived.JoinedTies
import Derived.KernelRfl
namespace Go.Proofs.Ytddcjmdcpkmnjaa
/- THE CELL 'sum', in the pinned program and in every row, IS THE sha256 OF THE DUMP (.gsa) THAT YtddcjmdcpkmnjaaProg.lean LOADS. Nothing in Lean hashes anything: it is a label: what it is worth is what the hold of that sum in a sandbox is worth. -/
noncomputable def Try.pinned : Pinned := { name := "ytddcjmdcpkmnjaa", sum := "98d8242ac33dbcb935bd662be85f7eb973100dd0be6bb2417f697aee51611df4", checked := Try.checked }
namespace Rows
def none {H : Type} : Left H := { results := [], args := [] }

/-- 'laws.FnTrieFind': WHATEVER THE INPUT: true; the input reads as it did. -/
def fnTrieFindSpec : ChangeSpec := { name := "fnTrieFind", fn := fun _ => fun
  | [d1, d2, d3] => { results := [.lit (.bool true)], args := [d1, d2, d3] }
  | _ => none }
def fnTrieFindRow : OpenClaim := { program := "ytddcjmdcpkmnjaa", sum := "98d8242ac33dbcb935bd662be85f7eb973100dd0be6bb2417f697aee51611df4", func := "pub-wortgut/laws.FnTrieFind", spec := "fnTrieFind", unfollowed := true, recurses := true, apart := false }
def FnTrieFindSaid : Prop := fnTrieFindRow.holds Try.pinned (OpenSpec.ofChange fnTrieFindSpec)

/-- ITS FALSE NEIGHBOUR: 'it returns false'. Refute it at one input. -/
def fnTrieFindWrong : ChangeSpec := { name := "fnTrieFind", fn := fun _ => fun
  | [d1, d2, d3] => { results := [.lit (.bool false)], args := [d1, d2, d3] }
  | _ => none }
def FnTrieFindWrongFalsely : Prop := fnTrieFindRow.holds Try.pinned (OpenSpec.ofChange fnTrieFindWrong)

/-- 'laws.FnTrieNumbers': WHATEVER THE INPUT: true; the input reads as it did. -/
def fnTrieNumbersSpec : ChangeSpec := { name := "fnTrieNumbers", fn := fun _ => fun
  | [d1, d2] => { results := [.lit (.bool true)], args := [d1, d2] }
  | _ => none }
def fnTrieNumbersRow : OpenClaim := { program := "ytddcjmdcpkmnjaa", sum := "98d8242ac33dbcb935bd662be85f7eb973100dd0be6bb2417f697aee51611df4", func := "pub-wortgut/laws.FnTrieNumbers", spec := "fnTrieNumbers", unfollowed := true, recurses := true, apart := false }
def FnTrieNumbersSaid : Prop := fnTrieNumbersRow.holds Try.pinned (OpenSpec.ofChange fnTrieNumbersSpec)

/-- ITS FALSE NEIGHBOUR: 'it returns false'. Refute it at one input. -/
def fnTrieNumbersWrong : ChangeSpec := { name := "fnTrieNumbers", fn := fun _ => fun
  | [d1, d2] => { results := [.lit (.bool false)], args := [d1, d2] }
  | _ => none }
def FnTrieNumbersWrongFalsely : Prop := fnTrieNumbersRow.holds Try.pinned (OpenSpec.ofChange fnTrieNumbersWrong)

/-- 'laws.FnPrefixesCut': WHATEVER THE INPUT: true; the input reads as it did. -/
def fnPrefixesCutSpec : ChangeSpec := { name := "fnPrefixesCut", fn := fun _ => fun
  | [d1, d2, d3] => { results := [.lit (.bool true)], args := [d1, d2, d3] }
  | _ => none }
def fnPrefixesCutRow : OpenClaim := { program := "ytddcjmdcpkmnjaa", sum := "98d8242ac33dbcb935bd662be85f7eb973100dd0be6bb2417f697aee51611df4", func := "pub-wortgut/laws.FnPrefixesCut", spec := "fnPrefixesCut", unfollowed := true, recurses := true, apart := false }
def FnPrefixesCutSaid : Prop := fnPrefixesCutRow.holds Try.pinned (OpenSpec.ofChange fnPrefixesCutSpec)

/-- ITS FALSE NEIGHBOUR: 'it returns false'. Refute it at one input. -/
def fnPrefixesCutWrong : ChangeSpec := { name := "fnPrefixesCut", fn := fun _ => fun
  | [d1, d2, d3] => { results := [.lit (.bool false)], args := [d1, d2, d3] }
  | _ => none }
def FnPrefixesCutWrongFalsely : Prop := fnPrefixesCutRow.holds Try.pinned (OpenSpec.ofChange fnPrefixesCutWrong)

/-- 'laws.FnIndexSearch': WHATEVER THE INPUT: true; the input reads as it did. -/
def fnIndexSearchSpec : ChangeSpec := { name := "fnIndexSearch", fn := fun _ => fun
  | [d1, d2] => { results := [.lit (.bool true)], args := [d1, d2] }
  | _ => none }
def fnIndexSearchRow : OpenClaim := { program := "ytddcjmdcpkmnjaa", sum := "98d8242ac33dbcb935bd662be85f7eb973100dd0be6bb2417f697aee51611df4", func := "pub-wortgut/laws.FnIndexSearch", spec := "fnIndexSearch", unfollowed := true, recurses := true, apart := false }
def FnIndexSearchSaid : Prop := fnIndexSearchRow.holds Try.pinned (OpenSpec.ofChange fnIndexSearchSpec)

/-- ITS FALSE NEIGHBOUR: 'it returns false'. Refute it at one input. -/
def fnIndexSearchWrong : ChangeSpec := { name := "fnIndexSearch", fn := fun _ => fun
  | [d1, d2] => { results := [.lit (.bool false)], args := [d1, d2] }
  | _ => none }
def FnIndexSearchWrongFalsely : Prop := fnIndexSearchRow.holds Try.pinned (OpenSpec.ofChange fnIndexSearchWrong)

/-- 'laws.FnTriePrefixes': WHATEVER THE INPUT: true; the input reads as it did. -/
def fnTriePrefixesSpec : ChangeSpec := { name := "fnTriePrefixes", fn := fun _ => fun
  | [d1, d2, d3] => { results := [.lit (.bool true)], args := [d1, d2, d3] }
  | _ => none }
def fnTriePrefixesRow : OpenClaim := { program := "ytddcjmdcpkmnjaa", sum := "98d8242ac33dbcb935bd662be85f7eb973100dd0be6bb2417f697aee51611df4", func := "pub-wortgut/laws.FnTriePrefixes", spec := "fnTriePrefixes", unfollowed := true, recurses := true, apart := false }
def FnTriePrefixesSaid : Prop := fnTriePrefixesRow.holds Try.pinned (OpenSpec.ofChange fnTriePrefixesSpec)

/-- ITS FALSE NEIGHBOUR: 'it returns false'. Refute it at one input. -/
def fnTriePrefixesWrong : ChangeSpec := { name := "fnTriePrefixes", fn := fun _ => fun
  | [d1, d2, d3] => { results := [.lit (.bool false)], args := [d1, d2, d3] }
  | _ => none }
def FnTriePrefixesWrongFalsely : Prop := fnTriePrefixesRow.holds Try.pinned (OpenSpec.ofChange fnTriePrefixesWrong)

/-- 'laws.FnIndexTrie': WHATEVER THE INPUT: true; the input reads as it did. -/
def fnIndexTrieSpec : ChangeSpec := { name := "fnIndexTrie", fn := fun _ => fun
  | [d1, d2] => { results := [.lit (.bool true)], args := [d1, d2] }
  | _ => none }
def fnIndexTrieRow : OpenClaim := { program := "ytddcjmdcpkmnjaa", sum := "98d8242ac33dbcb935bd662be85f7eb973100dd0be6bb2417f697aee51611df4", func := "pub-wortgut/laws.FnIndexTrie", spec := "fnIndexTrie", unfollowed := true, recurses := true, apart := false }
def FnIndexTrieSaid : Prop := fnIndexTrieRow.holds Try.pinned (OpenSpec.ofChange fnIndexTrieSpec)

/-- ITS FALSE NEIGHBOUR: 'it returns false'. Refute it at one input. -/
def fnIndexTrieWrong : ChangeSpec := { name := "fnIndexTrie", fn := fun _ => fun
  | [d1, d2] => { results := [.lit (.bool false)], args := [d1, d2] }
  | _ => none }
def FnIndexTrieWrongFalsely : Prop := fnIndexTrieRow.holds Try.pinned (OpenSpec.ofChange fnIndexTrieWrong)

/- THE SECOND FORM. 'bulk': how many values and letters a reading holds, each counted each time it is reached (what is shared counts as often as it is met; a slice's spare places count too). A statement '..UptoSaid' is the law's where the arguments, and the package variables that the reading takes, are together of bulk at most 1048576: NARROWER than '..Said'. Prove '..Said' where nothing that the law and all that it calls make is longer than what came in: it says more and counts as full. Else prove '..UptoSaid'. A law counts once. -/
mutual
def uptoBulk {H : Type} : DataW H → Nat
  | .lit (.string bytes) => bytes.length + 1
  | .lit _ => 1
  | .nil => 1
  | .ptr d => uptoBulk d + 1
  | .slice elems spare => uptoBulkAll elems + uptoBulkAll spare + 1
  | .agg parts => uptoBulkAll parts + 1
  | .iface _ d => uptoBulk d + 1
  | .map entries => uptoBulkEntries entries + 1
  | .held _ => 1
def uptoBulkAll {H : Type} : List (DataW H) → Nat
  | [] => 0
  | d :: r => uptoBulk d + uptoBulkAll r
def uptoBulkEntries {H : Type} : List (Lit × DataW H) → Nat
  | [] => 0
  | x :: r => uptoBulkEntry x + uptoBulkEntries r
def uptoBulkEntry {H : Type} : Lit × DataW H → Nat
  | (.string bytes, d) => bytes.length + uptoBulk d + 1
  | (_, d) => uptoBulk d + 1
 end
def uptoSmall : (H : Type) → List (DataW H) → Bool := fun _ ds => decide (uptoBulkAll ds ≤ 1048576)
def OpenSpec.upto (s : _root_.Go.ChangeSpec) : _root_.Go.OpenSpec := { _root_.Go.OpenSpec.ofChange s with cond := some uptoSmall }

/-- 'laws.FnTrieFind', WHERE WHAT IT READS IS OF BULK AT MOST 1048576: true; the input reads as it did. -/
def fnTrieFindUptoRow : OpenClaim := { program := "ytddcjmdcpkmnjaa", sum := "98d8242ac33dbcb935bd662be85f7eb973100dd0be6bb2417f697aee51611df4", func := "pub-wortgut/laws.FnTrieFind", spec := "fnTrieFind", unfollowed := true, recurses := true, apart := false, narrowed := true }
def FnTrieFindUptoSaid : Prop := fnTrieFindUptoRow.holds Try.pinned (OpenSpec.upto fnTrieFindSpec)

/-- 'laws.FnTrieNumbers', WHERE WHAT IT READS IS OF BULK AT MOST 1048576: true; the input reads as it did. -/
def fnTrieNumbersUptoRow : OpenClaim := { program := "ytddcjmdcpkmnjaa", sum := "98d8242ac33dbcb935bd662be85f7eb973100dd0be6bb2417f697aee51611df4", func := "pub-wortgut/laws.FnTrieNumbers", spec := "fnTrieNumbers", unfollowed := true, recurses := true, apart := false, narrowed := true }
def FnTrieNumbersUptoSaid : Prop := fnTrieNumbersUptoRow.holds Try.pinned (OpenSpec.upto fnTrieNumbersSpec)

/-- 'laws.FnPrefixesCut', WHERE WHAT IT READS IS OF BULK AT MOST 1048576: true; the input reads as it did. -/
def fnPrefixesCutUptoRow : OpenClaim := { program := "ytddcjmdcpkmnjaa", sum := "98d8242ac33dbcb935bd662be85f7eb973100dd0be6bb2417f697aee51611df4", func := "pub-wortgut/laws.FnPrefixesCut", spec := "fnPrefixesCut", unfollowed := true, recurses := true, apart := false, narrowed := true }
def FnPrefixesCutUptoSaid : Prop := fnPrefixesCutUptoRow.holds Try.pinned (OpenSpec.upto fnPrefixesCutSpec)

/-- 'laws.FnIndexSearch', WHERE WHAT IT READS IS OF BULK AT MOST 1048576: true; the input reads as it did. -/
def fnIndexSearchUptoRow : OpenClaim := { program := "ytddcjmdcpkmnjaa", sum := "98d8242ac33dbcb935bd662be85f7eb973100dd0be6bb2417f697aee51611df4", func := "pub-wortgut/laws.FnIndexSearch", spec := "fnIndexSearch", unfollowed := true, recurses := true, apart := false, narrowed := true }
def FnIndexSearchUptoSaid : Prop := fnIndexSearchUptoRow.holds Try.pinned (OpenSpec.upto fnIndexSearchSpec)

/-- 'laws.FnTriePrefixes', WHERE WHAT IT READS IS OF BULK AT MOST 1048576: true; the input reads as it did. -/
def fnTriePrefixesUptoRow : OpenClaim := { program := "ytddcjmdcpkmnjaa", sum := "98d8242ac33dbcb935bd662be85f7eb973100dd0be6bb2417f697aee51611df4", func := "pub-wortgut/laws.FnTriePrefixes", spec := "fnTriePrefixes", unfollowed := true, recurses := true, apart := false, narrowed := true }
def FnTriePrefixesUptoSaid : Prop := fnTriePrefixesUptoRow.holds Try.pinned (OpenSpec.upto fnTriePrefixesSpec)

/-- 'laws.FnIndexTrie', WHERE WHAT IT READS IS OF BULK AT MOST 1048576: true; the input reads as it did. -/
def fnIndexTrieUptoRow : OpenClaim := { program := "ytddcjmdcpkmnjaa", sum := "98d8242ac33dbcb935bd662be85f7eb973100dd0be6bb2417f697aee51611df4", func := "pub-wortgut/laws.FnIndexTrie", spec := "fnIndexTrie", unfollowed := true, recurses := true, apart := false, narrowed := true }
def FnIndexTrieUptoSaid : Prop := fnIndexTrieUptoRow.holds Try.pinned (OpenSpec.upto fnIndexTrieSpec)

end Rows
end Go.Proofs.Ytddcjmdcpkmnjaa
