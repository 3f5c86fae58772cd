/-
  No cell of these rows narrows 'for every input' (looked for: loops, veiled, ifaces, maps, wideKeys, modest, calm, conditions, laid).
  DERIVED. THE GIVEN ROWS OF THIS SEAT. 5 by the template 'for every input the law returns true; each argument reads behind the call as it read before'; 0 by the template 'total and deterministic' (their statements: YtnnclcfklbeocaaTotals.lean).
  GIVEN WITH THE SEED: the statements are not yours to turn. If you find one false, say at which input.
  Laid BY PROGRAM, IN A SANDBOX (cutbox-rows.mjs): the forced cells as the released guide's own fill.sh prints them over the translation a0479e218b5840dd… (all of the seat's roots in one cut). By AI agents, Wed Nov 11 2026. No macro, syntax, notation, axiom, sorry.
-/
import Derived.Test.YtnnclcfklbeocaaChecked
import GoSem.Claim
import GoSem.ClaimJoined
import GoSem.ClaimMapViews
import Derived.JoinedTies
import Derived.KernelRfl
namespace Go.Proofs.Ytnnclcfklbeocaa
/- THE CELL 'sum', in the pinned program and in every row, IS THE sha256 OF THE DUMP (.gsa) THAT YtnnclcfklbeocaaProg.lean LOADS. Nothing in Lean hashes anything: it is a label: what it is worth is what the hold of that sum in a sandbox is worth. -/
noncomputable def Try.pinned : Pinned := { name := "ytnnclcfklbeocaa", sum := "a0479e218b5840dd592655ab88451417216ae9e3987822ddb633844e51c8b696", checked := Try.checked }
namespace Rows
def none {H : Type} : Left H := { results := [], args := [] }

/-- 'laws.FnTable': WHATEVER THE INPUT: true; the input reads as it did. -/
def fnTableSpec : ChangeSpec := { name := "fnTable", fn := fun _ => fun
  | [d1, d2] => { results := [.lit (.bool true)], args := [d1, d2] }
  | _ => none }
def fnTableRow : OpenClaim := { program := "ytnnclcfklbeocaa", sum := "a0479e218b5840dd592655ab88451417216ae9e3987822ddb633844e51c8b696", func := "loop.example/pub-g03450/laws.FnTable", spec := "fnTable", inPlace := ["math.Float64frombits", "math.Float64bits"], unfollowed := true, recurses := true, apart := false }
def FnTableSaid : Prop := fnTableRow.holds Try.pinned (OpenSpec.ofChange fnTableSpec)

/-- ITS FALSE NEIGHBOUR: 'it returns false'. Refute it at one input. -/
def fnTableWrong : ChangeSpec := { name := "fnTable", fn := fun _ => fun
  | [d1, d2] => { results := [.lit (.bool false)], args := [d1, d2] }
  | _ => none }
def FnTableWrongFalsely : Prop := fnTableRow.holds Try.pinned (OpenSpec.ofChange fnTableWrong)

/-- 'laws.FnTableOfNone': WHATEVER THE INPUT: true; the input reads as it did. -/
def fnTableOfNoneSpec : ChangeSpec := { name := "fnTableOfNone", fn := fun _ => fun
  | [d] => { results := [.lit (.bool true)], args := [d] }
  | _ => none }
def fnTableOfNoneRow : OpenClaim := { program := "ytnnclcfklbeocaa", sum := "a0479e218b5840dd592655ab88451417216ae9e3987822ddb633844e51c8b696", func := "loop.example/pub-g03450/laws.FnTableOfNone", spec := "fnTableOfNone", inPlace := ["math.Float64frombits", "math.Float64bits"], unfollowed := true, recurses := true, apart := false }
def FnTableOfNoneSaid : Prop := fnTableOfNoneRow.holds Try.pinned (OpenSpec.ofChange fnTableOfNoneSpec)

/-- ITS FALSE NEIGHBOUR: 'it returns false'. Refute it at one input. -/
def fnTableOfNoneWrong : ChangeSpec := { name := "fnTableOfNone", fn := fun _ => fun
  | [d] => { results := [.lit (.bool false)], args := [d] }
  | _ => none }
def FnTableOfNoneWrongFalsely : Prop := fnTableOfNoneRow.holds Try.pinned (OpenSpec.ofChange fnTableOfNoneWrong)

/-- 'laws.FnTables': WHATEVER THE INPUT: true; the input reads as it did. -/
def fnTablesSpec : ChangeSpec := { name := "fnTables", fn := fun _ => fun
  | [d1, d2, d3] => { results := [.lit (.bool true)], args := [d1, d2, d3] }
  | _ => none }
def fnTablesRow : OpenClaim := { program := "ytnnclcfklbeocaa", sum := "a0479e218b5840dd592655ab88451417216ae9e3987822ddb633844e51c8b696", func := "loop.example/pub-g03450/laws.FnTables", spec := "fnTables", inPlace := ["math.Float64frombits", "math.Float64bits"], unfollowed := true, recurses := true, apart := false }
def FnTablesSaid : Prop := fnTablesRow.holds Try.pinned (OpenSpec.ofChange fnTablesSpec)

/-- ITS FALSE NEIGHBOUR: 'it returns false'. Refute it at one input. -/
def fnTablesWrong : ChangeSpec := { name := "fnTables", fn := fun _ => fun
  | [d1, d2, d3] => { results := [.lit (.bool false)], args := [d1, d2, d3] }
  | _ => none }
def FnTablesWrongFalsely : Prop := fnTablesRow.holds Try.pinned (OpenSpec.ofChange fnTablesWrong)

/-- 'laws.FnPathValue': WHATEVER THE INPUT: true; the input reads as it did. -/
def fnPathValueSpec : ChangeSpec := { name := "fnPathValue", fn := fun _ => fun
  | [d1, d2] => { results := [.lit (.bool true)], args := [d1, d2] }
  | _ => none }
def fnPathValueRow : OpenClaim := { program := "ytnnclcfklbeocaa", sum := "a0479e218b5840dd592655ab88451417216ae9e3987822ddb633844e51c8b696", func := "loop.example/pub-g03450/laws.FnPathValue", spec := "fnPathValue", inPlace := ["math.Float64frombits", "internal/abi.NoEscape", "internal/bytealg.MakeNoZero", "math.Float64bits"], unfollowed := true, recurses := true, apart := false }
def FnPathValueSaid : Prop := fnPathValueRow.holds Try.pinned (OpenSpec.ofChange fnPathValueSpec)

/-- ITS FALSE NEIGHBOUR: 'it returns false'. Refute it at one input. -/
def fnPathValueWrong : ChangeSpec := { name := "fnPathValue", fn := fun _ => fun
  | [d1, d2] => { results := [.lit (.bool false)], args := [d1, d2] }
  | _ => none }
def FnPathValueWrongFalsely : Prop := fnPathValueRow.holds Try.pinned (OpenSpec.ofChange fnPathValueWrong)

/-- 'laws.FnCharts': WHATEVER THE INPUT: true; the input reads as it did. -/
def fnChartsSpec : ChangeSpec := { name := "fnCharts", fn := fun _ => fun
  | [d1, d2, d3] => { results := [.lit (.bool true)], args := [d1, d2, d3] }
  | _ => none }
def fnChartsRow : OpenClaim := { program := "ytnnclcfklbeocaa", sum := "a0479e218b5840dd592655ab88451417216ae9e3987822ddb633844e51c8b696", func := "loop.example/pub-g03450/laws.FnCharts", spec := "fnCharts", inPlace := ["math.Float64frombits", "math.Float64bits"], unfollowed := true, recurses := true, apart := false }
def FnChartsSaid : Prop := fnChartsRow.holds Try.pinned (OpenSpec.ofChange fnChartsSpec)

/-- ITS FALSE NEIGHBOUR: 'it returns false'. Refute it at one input. -/
def fnChartsWrong : ChangeSpec := { name := "fnCharts", fn := fun _ => fun
  | [d1, d2, d3] => { results := [.lit (.bool false)], args := [d1, d2, d3] }
  | _ => none }
def FnChartsWrongFalsely : Prop := fnChartsRow.holds Try.pinned (OpenSpec.ofChange fnChartsWrong)

/- THE SECOND FORM. 'bulk': how many values and letters a reading holds, each counted each time it is reached (what is shared counts as often as it is met; a slice's spare places count too). A statement '..UptoSaid' is the law's where the arguments, and the package variables that the reading takes, are together of bulk at most 1048576: NARROWER than '..Said'. Prove '..Said' where nothing that the law and all that it calls make is longer than what came in: it says more and counts as full. Else prove '..UptoSaid'. A law counts once. -/
mutual
def uptoBulk {H : Type} : DataW H → Nat
  | .lit (.string bytes) => bytes.length + 1
  | .lit _ => 1
  | .nil => 1
  | .ptr d => uptoBulk d + 1
  | .slice elems spare => uptoBulkAll elems + uptoBulkAll spare + 1
  | .agg parts => uptoBulkAll parts + 1
  | .iface _ d => uptoBulk d + 1
  | .map entries => uptoBulkEntries entries + 1
  | .held _ => 1
def uptoBulkAll {H : Type} : List (DataW H) → Nat
  | [] => 0
  | d :: r => uptoBulk d + uptoBulkAll r
def uptoBulkEntries {H : Type} : List (Lit × DataW H) → Nat
  | [] => 0
  | x :: r => uptoBulkEntry x + uptoBulkEntries r
def uptoBulkEntry {H : Type} : Lit × DataW H → Nat
  | (.string bytes, d) => bytes.length + uptoBulk d + 1
  | (_, d) => uptoBulk d + 1
 end
def uptoSmall : (H : Type) → List (DataW H) → Bool := fun _ ds => decide (uptoBulkAll ds ≤ 1048576)
def OpenSpec.upto (s : _root_.Go.ChangeSpec) : _root_.Go.OpenSpec := { _root_.Go.OpenSpec.ofChange s with cond := some uptoSmall }

/-- 'laws.FnTable', WHERE WHAT IT READS IS OF BULK AT MOST 1048576: true; the input reads as it did. -/
def fnTableUptoRow : OpenClaim := { program := "ytnnclcfklbeocaa", sum := "a0479e218b5840dd592655ab88451417216ae9e3987822ddb633844e51c8b696", func := "loop.example/pub-g03450/laws.FnTable", spec := "fnTable", inPlace := ["math.Float64frombits", "math.Float64bits"], unfollowed := true, recurses := true, apart := false, narrowed := true }
def FnTableUptoSaid : Prop := fnTableUptoRow.holds Try.pinned (OpenSpec.upto fnTableSpec)

/-- 'laws.FnTableOfNone', WHERE WHAT IT READS IS OF BULK AT MOST 1048576: true; the input reads as it did. -/
def fnTableOfNoneUptoRow : OpenClaim := { program := "ytnnclcfklbeocaa", sum := "a0479e218b5840dd592655ab88451417216ae9e3987822ddb633844e51c8b696", func := "loop.example/pub-g03450/laws.FnTableOfNone", spec := "fnTableOfNone", inPlace := ["math.Float64frombits", "math.Float64bits"], unfollowed := true, recurses := true, apart := false, narrowed := true }
def FnTableOfNoneUptoSaid : Prop := fnTableOfNoneUptoRow.holds Try.pinned (OpenSpec.upto fnTableOfNoneSpec)

/-- 'laws.FnTables', WHERE WHAT IT READS IS OF BULK AT MOST 1048576: true; the input reads as it did. -/
def fnTablesUptoRow : OpenClaim := { program := "ytnnclcfklbeocaa", sum := "a0479e218b5840dd592655ab88451417216ae9e3987822ddb633844e51c8b696", func := "loop.example/pub-g03450/laws.FnTables", spec := "fnTables", inPlace := ["math.Float64frombits", "math.Float64bits"], unfollowed := true, recurses := true, apart := false, narrowed := true }
def FnTablesUptoSaid : Prop := fnTablesUptoRow.holds Try.pinned (OpenSpec.upto fnTablesSpec)

/-- 'laws.FnPathValue', WHERE WHAT IT READS IS OF BULK AT MOST 1048576: true; the input reads as it did. -/
def fnPathValueUptoRow : OpenClaim := { program := "ytnnclcfklbeocaa", sum := "a0479e218b5840dd592655ab88451417216ae9e3987822ddb633844e51c8b696", func := "loop.example/pub-g03450/laws.FnPathValue", spec := "fnPathValue", inPlace := ["math.Float64frombits", "internal/abi.NoEscape", "internal/bytealg.MakeNoZero", "math.Float64bits"], unfollowed := true, recurses := true, apart := false, narrowed := true }
def FnPathValueUptoSaid : Prop := fnPathValueUptoRow.holds Try.pinned (OpenSpec.upto fnPathValueSpec)

/-- 'laws.FnCharts', WHERE WHAT IT READS IS OF BULK AT MOST 1048576: true; the input reads as it did. -/
def fnChartsUptoRow : OpenClaim := { program := "ytnnclcfklbeocaa", sum := "a0479e218b5840dd592655ab88451417216ae9e3987822ddb633844e51c8b696", func := "loop.example/pub-g03450/laws.FnCharts", spec := "fnCharts", inPlace := ["math.Float64frombits", "math.Float64bits"], unfollowed := true, recurses := true, apart := false, narrowed := true }
def FnChartsUptoSaid : Prop := fnChartsUptoRow.holds Try.pinned (OpenSpec.upto fnChartsSpec)

end Rows
end Go.Proofs.Ytnnclcfklbeocaa
