/-
  No cell of these rows narrows 'for every input' (looked for: loops, veiled, ifaces, maps, wideKeys, modest, calm, conditions, laid).
  DERIVED. THE GIVEN ROWS OF THIS SEAT. 6 by the template 'for every input the law returns true; each argument reads behind the call as it read before'; 0 by the template 'total and deterministic' (their statements: YtoelbclpimjmdaaTotals.lean).
  GIVEN WITH THE SEED: the statements are not yours to turn. If you find one false, say at which input.
  Laid BY PROGRAM, IN A SANDBOX (cutbox-rows.mjs): the forced cells as the released guide's own fill.sh prints them over the translation c34fa3b8817db7ff… (all of the seat's roots in one cut). By AI agents, Wed Nov 11 2026. No macro, syntax, notation, axiom, sorry.
-/
import Derived.Test.YtoelbclpimjmdaaChecked
import GoSem.Claim
import GoSem.ClaimJoined
import GoSem.ClaimMapViews
import Derived.JoinedTies
import Derived.KernelRfl
namespace Go.Proofs.Ytoelbclpimjmdaa
/- THE CELL 'sum', in the pinned program and in every row, IS THE sha256 OF THE DUMP (.gsa) THAT YtoelbclpimjmdaaProg.lean LOADS. Nothing in Lean hashes anything: it is a label: what it is worth is what the hold of that sum in a sandbox is worth. -/
noncomputable def Try.pinned : Pinned := { name := "ytoelbclpimjmdaa", sum := "c34fa3b8817db7ff7f3b13f8c36c7b5ca9273df66406bd5ac30b4a727c2b7727", checked := Try.checked }
namespace Rows
def none {H : Type} : Left H := { results := [], args := [] }

/-- 'n003_5.FnMaxLeastUpperBound': WHATEVER THE INPUT: true; the input reads as it did. -/
def fnMaxLeastUpperBoundSpec : ChangeSpec := { name := "fnMaxLeastUpperBound", fn := fun _ => fun
  | [d1, d2, d3] => { results := [.lit (.bool true)], args := [d1, d2, d3] }
  | _ => none }
def fnMaxLeastUpperBoundRow : OpenClaim := { program := "ytoelbclpimjmdaa", sum := "c34fa3b8817db7ff7f3b13f8c36c7b5ca9273df66406bd5ac30b4a727c2b7727", func := "github.com/expr-lang/expr/n003_5.FnMaxLeastUpperBound", spec := "fnMaxLeastUpperBound", apart := false }
def FnMaxLeastUpperBoundSaid : Prop := fnMaxLeastUpperBoundRow.holds Try.pinned (OpenSpec.ofChange fnMaxLeastUpperBoundSpec)

/-- ITS FALSE NEIGHBOUR: 'it returns false'. Refute it at one input. -/
def fnMaxLeastUpperBoundWrong : ChangeSpec := { name := "fnMaxLeastUpperBound", fn := fun _ => fun
  | [d1, d2, d3] => { results := [.lit (.bool false)], args := [d1, d2, d3] }
  | _ => none }
def FnMaxLeastUpperBoundWrongFalsely : Prop := fnMaxLeastUpperBoundRow.holds Try.pinned (OpenSpec.ofChange fnMaxLeastUpperBoundWrong)

/-- 'n003_5.FnMinGreatestLowerBound': WHATEVER THE INPUT: true; the input reads as it did. -/
def fnMinGreatestLowerBoundSpec : ChangeSpec := { name := "fnMinGreatestLowerBound", fn := fun _ => fun
  | [d1, d2, d3] => { results := [.lit (.bool true)], args := [d1, d2, d3] }
  | _ => none }
def fnMinGreatestLowerBoundRow : OpenClaim := { program := "ytoelbclpimjmdaa", sum := "c34fa3b8817db7ff7f3b13f8c36c7b5ca9273df66406bd5ac30b4a727c2b7727", func := "github.com/expr-lang/expr/n003_5.FnMinGreatestLowerBound", spec := "fnMinGreatestLowerBound", apart := false }
def FnMinGreatestLowerBoundSaid : Prop := fnMinGreatestLowerBoundRow.holds Try.pinned (OpenSpec.ofChange fnMinGreatestLowerBoundSpec)

/-- ITS FALSE NEIGHBOUR: 'it returns false'. Refute it at one input. -/
def fnMinGreatestLowerBoundWrong : ChangeSpec := { name := "fnMinGreatestLowerBound", fn := fun _ => fun
  | [d1, d2, d3] => { results := [.lit (.bool false)], args := [d1, d2, d3] }
  | _ => none }
def FnMinGreatestLowerBoundWrongFalsely : Prop := fnMinGreatestLowerBoundRow.holds Try.pinned (OpenSpec.ofChange fnMinGreatestLowerBoundWrong)

/-- 'n003_5.FnMinMaxSplitPair': WHATEVER THE INPUT: true; the input reads as it did. -/
def fnMinMaxSplitPairSpec : ChangeSpec := { name := "fnMinMaxSplitPair", fn := fun _ => fun
  | [d1, d2] => { results := [.lit (.bool true)], args := [d1, d2] }
  | _ => none }
def fnMinMaxSplitPairRow : OpenClaim := { program := "ytoelbclpimjmdaa", sum := "c34fa3b8817db7ff7f3b13f8c36c7b5ca9273df66406bd5ac30b4a727c2b7727", func := "github.com/expr-lang/expr/n003_5.FnMinMaxSplitPair", spec := "fnMinMaxSplitPair", apart := false }
def FnMinMaxSplitPairSaid : Prop := fnMinMaxSplitPairRow.holds Try.pinned (OpenSpec.ofChange fnMinMaxSplitPairSpec)

/-- ITS FALSE NEIGHBOUR: 'it returns false'. Refute it at one input. -/
def fnMinMaxSplitPairWrong : ChangeSpec := { name := "fnMinMaxSplitPair", fn := fun _ => fun
  | [d1, d2] => { results := [.lit (.bool false)], args := [d1, d2] }
  | _ => none }
def FnMinMaxSplitPairWrongFalsely : Prop := fnMinMaxSplitPairRow.holds Try.pinned (OpenSpec.ofChange fnMinMaxSplitPairWrong)

/-- 'n003_5.FnMaxAssocCommIdem': WHATEVER THE INPUT: true; the input reads as it did. -/
def fnMaxAssocCommIdemSpec : ChangeSpec := { name := "fnMaxAssocCommIdem", fn := fun _ => fun
  | [d1, d2, d3] => { results := [.lit (.bool true)], args := [d1, d2, d3] }
  | _ => none }
def fnMaxAssocCommIdemRow : OpenClaim := { program := "ytoelbclpimjmdaa", sum := "c34fa3b8817db7ff7f3b13f8c36c7b5ca9273df66406bd5ac30b4a727c2b7727", func := "github.com/expr-lang/expr/n003_5.FnMaxAssocCommIdem", spec := "fnMaxAssocCommIdem", apart := false }
def FnMaxAssocCommIdemSaid : Prop := fnMaxAssocCommIdemRow.holds Try.pinned (OpenSpec.ofChange fnMaxAssocCommIdemSpec)

/-- ITS FALSE NEIGHBOUR: 'it returns false'. Refute it at one input. -/
def fnMaxAssocCommIdemWrong : ChangeSpec := { name := "fnMaxAssocCommIdem", fn := fun _ => fun
  | [d1, d2, d3] => { results := [.lit (.bool false)], args := [d1, d2, d3] }
  | _ => none }
def FnMaxAssocCommIdemWrongFalsely : Prop := fnMaxAssocCommIdemRow.holds Try.pinned (OpenSpec.ofChange fnMaxAssocCommIdemWrong)

/-- 'n003_5.FnMinAssocCommIdem': WHATEVER THE INPUT: true; the input reads as it did. -/
def fnMinAssocCommIdemSpec : ChangeSpec := { name := "fnMinAssocCommIdem", fn := fun _ => fun
  | [d1, d2, d3] => { results := [.lit (.bool true)], args := [d1, d2, d3] }
  | _ => none }
def fnMinAssocCommIdemRow : OpenClaim := { program := "ytoelbclpimjmdaa", sum := "c34fa3b8817db7ff7f3b13f8c36c7b5ca9273df66406bd5ac30b4a727c2b7727", func := "github.com/expr-lang/expr/n003_5.FnMinAssocCommIdem", spec := "fnMinAssocCommIdem", apart := false }
def FnMinAssocCommIdemSaid : Prop := fnMinAssocCommIdemRow.holds Try.pinned (OpenSpec.ofChange fnMinAssocCommIdemSpec)

/-- ITS FALSE NEIGHBOUR: 'it returns false'. Refute it at one input. -/
def fnMinAssocCommIdemWrong : ChangeSpec := { name := "fnMinAssocCommIdem", fn := fun _ => fun
  | [d1, d2, d3] => { results := [.lit (.bool false)], args := [d1, d2, d3] }
  | _ => none }
def FnMinAssocCommIdemWrongFalsely : Prop := fnMinAssocCommIdemRow.holds Try.pinned (OpenSpec.ofChange fnMinAssocCommIdemWrong)

/-- 'n003_5.FnMinMaxLattice': WHATEVER THE INPUT: true; the input reads as it did. -/
def fnMinMaxLatticeSpec : ChangeSpec := { name := "fnMinMaxLattice", fn := fun _ => fun
  | [d1, d2, d3] => { results := [.lit (.bool true)], args := [d1, d2, d3] }
  | _ => none }
def fnMinMaxLatticeRow : OpenClaim := { program := "ytoelbclpimjmdaa", sum := "c34fa3b8817db7ff7f3b13f8c36c7b5ca9273df66406bd5ac30b4a727c2b7727", func := "github.com/expr-lang/expr/n003_5.FnMinMaxLattice", spec := "fnMinMaxLattice", apart := false }
def FnMinMaxLatticeSaid : Prop := fnMinMaxLatticeRow.holds Try.pinned (OpenSpec.ofChange fnMinMaxLatticeSpec)

/-- ITS FALSE NEIGHBOUR: 'it returns false'. Refute it at one input. -/
def fnMinMaxLatticeWrong : ChangeSpec := { name := "fnMinMaxLattice", fn := fun _ => fun
  | [d1, d2, d3] => { results := [.lit (.bool false)], args := [d1, d2, d3] }
  | _ => none }
def FnMinMaxLatticeWrongFalsely : Prop := fnMinMaxLatticeRow.holds Try.pinned (OpenSpec.ofChange fnMinMaxLatticeWrong)

/- THE SECOND FORM. 'bulk': how many values and letters a reading holds, each counted each time it is reached (what is shared counts as often as it is met; a slice's spare places count too). A statement '..UptoSaid' is the law's where the arguments, and the package variables that the reading takes, are together of bulk at most 1048576: NARROWER than '..Said'. Prove '..Said' where nothing that the law and all that it calls make is longer than what came in: it says more and counts as full. Else prove '..UptoSaid'. A law counts once. -/
mutual
def uptoBulk {H : Type} : DataW H → Nat
  | .lit (.string bytes) => bytes.length + 1
  | .lit _ => 1
  | .nil => 1
  | .ptr d => uptoBulk d + 1
  | .slice elems spare => uptoBulkAll elems + uptoBulkAll spare + 1
  | .agg parts => uptoBulkAll parts + 1
  | .iface _ d => uptoBulk d + 1
  | .map entries => uptoBulkEntries entries + 1
  | .held _ => 1
def uptoBulkAll {H : Type} : List (DataW H) → Nat
  | [] => 0
  | d :: r => uptoBulk d + uptoBulkAll r
def uptoBulkEntries {H : Type} : List (Lit × DataW H) → Nat
  | [] => 0
  | x :: r => uptoBulkEntry x + uptoBulkEntries r
def uptoBulkEntry {H : Type} : Lit × DataW H → Nat
  | (.string bytes, d) => bytes.length + uptoBulk d + 1
  | (_, d) => uptoBulk d + 1
 end
def uptoSmall : (H : Type) → List (DataW H) → Bool := fun _ ds => decide (uptoBulkAll ds ≤ 1048576)
def OpenSpec.upto (s : _root_.Go.ChangeSpec) : _root_.Go.OpenSpec := { _root_.Go.OpenSpec.ofChange s with cond := some uptoSmall }

/-- 'n003_5.FnMaxLeastUpperBound', WHERE WHAT IT READS IS OF BULK AT MOST 1048576: true; the input reads as it did. -/
def fnMaxLeastUpperBoundUptoRow : OpenClaim := { program := "ytoelbclpimjmdaa", sum := "c34fa3b8817db7ff7f3b13f8c36c7b5ca9273df66406bd5ac30b4a727c2b7727", func := "github.com/expr-lang/expr/n003_5.FnMaxLeastUpperBound", spec := "fnMaxLeastUpperBound", apart := false, narrowed := true }
def FnMaxLeastUpperBoundUptoSaid : Prop := fnMaxLeastUpperBoundUptoRow.holds Try.pinned (OpenSpec.upto fnMaxLeastUpperBoundSpec)

/-- 'n003_5.FnMinGreatestLowerBound', WHERE WHAT IT READS IS OF BULK AT MOST 1048576: true; the input reads as it did. -/
def fnMinGreatestLowerBoundUptoRow : OpenClaim := { program := "ytoelbclpimjmdaa", sum := "c34fa3b8817db7ff7f3b13f8c36c7b5ca9273df66406bd5ac30b4a727c2b7727", func := "github.com/expr-lang/expr/n003_5.FnMinGreatestLowerBound", spec := "fnMinGreatestLowerBound", apart := false, narrowed := true }
def FnMinGreatestLowerBoundUptoSaid : Prop := fnMinGreatestLowerBoundUptoRow.holds Try.pinned (OpenSpec.upto fnMinGreatestLowerBoundSpec)

/-- 'n003_5.FnMinMaxSplitPair', WHERE WHAT IT READS IS OF BULK AT MOST 1048576: true; the input reads as it did. -/
def fnMinMaxSplitPairUptoRow : OpenClaim := { program := "ytoelbclpimjmdaa", sum := "c34fa3b8817db7ff7f3b13f8c36c7b5ca9273df66406bd5ac30b4a727c2b7727", func := "github.com/expr-lang/expr/n003_5.FnMinMaxSplitPair", spec := "fnMinMaxSplitPair", apart := false, narrowed := true }
def FnMinMaxSplitPairUptoSaid : Prop := fnMinMaxSplitPairUptoRow.holds Try.pinned (OpenSpec.upto fnMinMaxSplitPairSpec)

/-- 'n003_5.FnMaxAssocCommIdem', WHERE WHAT IT READS IS OF BULK AT MOST 1048576: true; the input reads as it did. -/
def fnMaxAssocCommIdemUptoRow : OpenClaim := { program := "ytoelbclpimjmdaa", sum := "c34fa3b8817db7ff7f3b13f8c36c7b5ca9273df66406bd5ac30b4a727c2b7727", func := "github.com/expr-lang/expr/n003_5.FnMaxAssocCommIdem", spec := "fnMaxAssocCommIdem", apart := false, narrowed := true }
def FnMaxAssocCommIdemUptoSaid : Prop := fnMaxAssocCommIdemUptoRow.holds Try.pinned (OpenSpec.upto fnMaxAssocCommIdemSpec)

/-- 'n003_5.FnMinAssocCommIdem', WHERE WHAT IT READS IS OF BULK AT MOST 1048576: true; the input reads as it did. -/
def fnMinAssocCommIdemUptoRow : OpenClaim := { program := "ytoelbclpimjmdaa", sum := "c34fa3b8817db7ff7f3b13f8c36c7b5ca9273df66406bd5ac30b4a727c2b7727", func := "github.com/expr-lang/expr/n003_5.FnMinAssocCommIdem", spec := "fnMinAssocCommIdem", apart := false, narrowed := true }
def FnMinAssocCommIdemUptoSaid : Prop := fnMinAssocCommIdemUptoRow.holds Try.pinned (OpenSpec.upto fnMinAssocCommIdemSpec)

/-- 'n003_5.FnMinMaxLattice', WHERE WHAT IT READS IS OF BULK AT MOST 1048576: true; the input reads as it did. -/
def fnMinMaxLatticeUptoRow : OpenClaim := { program := "ytoelbclpimjmdaa", sum := "c34fa3b8817db7ff7f3b13f8c36c7b5ca9273df66406bd5ac30b4a727c2b7727", func := "github.com/expr-lang/expr/n003_5.FnMinMaxLattice", spec := "fnMinMaxLattice", apart := false, narrowed := true }
def FnMinMaxLatticeUptoSaid : Prop := fnMinMaxLatticeUptoRow.holds Try.pinned (OpenSpec.upto fnMinMaxLatticeSpec)

end Rows
end Go.Proofs.Ytoelbclpimjmdaa
