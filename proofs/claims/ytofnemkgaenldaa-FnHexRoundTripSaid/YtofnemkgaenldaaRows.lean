/-
  No cell of these rows narrows 'for every input' (looked for: loops, veiled, ifaces, maps, wideKeys, modest, calm, conditions, laid).
  DERIVED. THE GIVEN ROWS OF THIS SEAT. 3 by the template 'for every input the law returns true; each argument reads behind the call as it read before'; 0 by the template 'total and deterministic' (their statements: YtofnemkgaenldaaTotals.lean).
  GIVEN WITH THE SEED: the statements are not yours to turn. If you find one false, say at which input.
  Laid BY PROGRAM, IN A SANDBOX (cutbox-rows.mjs): the forced cells as the released guide's own fill.sh prints them over the translation 3743cb3455332450… (all of the seat's roots in one cut). By AI agents, Wed Nov 11 2026. No macro, syntax, notation, axiom, sorry.
-/
import Derived.Test.YtofnemkgaenldaaChecked
import GoSem.Claim
import GoSem.ClaimJoined
import GoSem.ClaimMapViews
import Derived.JoinedTies
import Derived.KernelRfl
namespace Go.Proofs.Ytofnemkgaenldaa
/- THE CELL 'sum', in the pinned program and in every row, IS THE sha256 OF THE DUMP (.gsa) THAT YtofnemkgaenldaaProg.lean LOADS. Nothing in Lean hashes anything: it is a label: what it is worth is what the hold of that sum in a sandbox is worth. -/
noncomputable def Try.pinned : Pinned := { name := "ytofnemkgaenldaa", sum := "3743cb345533245042a242175c0bba417e3d8b84292f6e70efdca47a26cc8368", checked := Try.checked }
namespace Rows
def none {H : Type} : Left H := { results := [], args := [] }

/-- 'n003_4.FnUnhexMatchesTableModel': WHATEVER THE INPUT: true; the input reads as it did. -/
def fnUnhexMatchesTableModelSpec : ChangeSpec := { name := "fnUnhexMatchesTableModel", fn := fun _ => fun
  | [d] => { results := [.lit (.bool true)], args := [d] }
  | _ => none }
def fnUnhexMatchesTableModelRow : OpenClaim := { program := "ytofnemkgaenldaa", sum := "3743cb345533245042a242175c0bba417e3d8b84292f6e70efdca47a26cc8368", func := "github.com/expr-lang/expr/n003_4.FnUnhexMatchesTableModel", spec := "fnUnhexMatchesTableModel", apart := false }
def FnUnhexMatchesTableModelSaid : Prop := fnUnhexMatchesTableModelRow.holds Try.pinned (OpenSpec.ofChange fnUnhexMatchesTableModelSpec)

/-- ITS FALSE NEIGHBOUR: 'it returns false'. Refute it at one input. -/
def fnUnhexMatchesTableModelWrong : ChangeSpec := { name := "fnUnhexMatchesTableModel", fn := fun _ => fun
  | [d] => { results := [.lit (.bool false)], args := [d] }
  | _ => none }
def FnUnhexMatchesTableModelWrongFalsely : Prop := fnUnhexMatchesTableModelRow.holds Try.pinned (OpenSpec.ofChange fnUnhexMatchesTableModelWrong)

/-- 'n003_4.FnDigitValAgreesWithUnhex': WHATEVER THE INPUT: true; the input reads as it did. -/
def fnDigitValAgreesWithUnhexSpec : ChangeSpec := { name := "fnDigitValAgreesWithUnhex", fn := fun _ => fun
  | [d] => { results := [.lit (.bool true)], args := [d] }
  | _ => none }
def fnDigitValAgreesWithUnhexRow : OpenClaim := { program := "ytofnemkgaenldaa", sum := "3743cb345533245042a242175c0bba417e3d8b84292f6e70efdca47a26cc8368", func := "github.com/expr-lang/expr/n003_4.FnDigitValAgreesWithUnhex", spec := "fnDigitValAgreesWithUnhex", apart := false }
def FnDigitValAgreesWithUnhexSaid : Prop := fnDigitValAgreesWithUnhexRow.holds Try.pinned (OpenSpec.ofChange fnDigitValAgreesWithUnhexSpec)

/-- ITS FALSE NEIGHBOUR: 'it returns false'. Refute it at one input. -/
def fnDigitValAgreesWithUnhexWrong : ChangeSpec := { name := "fnDigitValAgreesWithUnhex", fn := fun _ => fun
  | [d] => { results := [.lit (.bool false)], args := [d] }
  | _ => none }
def FnDigitValAgreesWithUnhexWrongFalsely : Prop := fnDigitValAgreesWithUnhexRow.holds Try.pinned (OpenSpec.ofChange fnDigitValAgreesWithUnhexWrong)

/-- 'n003_4.FnHexRoundTrip': WHATEVER THE INPUT: true; the input reads as it did. -/
def fnHexRoundTripSpec : ChangeSpec := { name := "fnHexRoundTrip", fn := fun _ => fun
  | [d1, d2] => { results := [.lit (.bool true)], args := [d1, d2] }
  | _ => none }
def fnHexRoundTripRow : OpenClaim := { program := "ytofnemkgaenldaa", sum := "3743cb345533245042a242175c0bba417e3d8b84292f6e70efdca47a26cc8368", func := "github.com/expr-lang/expr/n003_4.FnHexRoundTrip", spec := "fnHexRoundTrip", apart := false }
def FnHexRoundTripSaid : Prop := fnHexRoundTripRow.holds Try.pinned (OpenSpec.ofChange fnHexRoundTripSpec)

/-- ITS FALSE NEIGHBOUR: 'it returns false'. Refute it at one input. -/
def fnHexRoundTripWrong : ChangeSpec := { name := "fnHexRoundTrip", fn := fun _ => fun
  | [d1, d2] => { results := [.lit (.bool false)], args := [d1, d2] }
  | _ => none }
def FnHexRoundTripWrongFalsely : Prop := fnHexRoundTripRow.holds Try.pinned (OpenSpec.ofChange fnHexRoundTripWrong)

/- THE SECOND FORM. 'bulk': how many values and letters a reading holds, each counted each time it is reached (what is shared counts as often as it is met; a slice's spare places count too). A statement '..UptoSaid' is the law's where the arguments, and the package variables that the reading takes, are together of bulk at most 1048576: NARROWER than '..Said'. Prove '..Said' where nothing that the law and all that it calls make is longer than what came in: it says more and counts as full. Else prove '..UptoSaid'. A law counts once. -/
mutual
def uptoBulk {H : Type} : DataW H → Nat
  | .lit (.string bytes) => bytes.length + 1
  | .lit _ => 1
  | .nil => 1
  | .ptr d => uptoBulk d + 1
  | .slice elems spare => uptoBulkAll elems + uptoBulkAll spare + 1
  | .agg parts => uptoBulkAll parts + 1
  | .iface _ d => uptoBulk d + 1
  | .map entries => uptoBulkEntries entries + 1
  | .held _ => 1
def uptoBulkAll {H : Type} : List (DataW H) → Nat
  | [] => 0
  | d :: r => uptoBulk d + uptoBulkAll r
def uptoBulkEntries {H : Type} : List (Lit × DataW H) → Nat
  | [] => 0
  | x :: r => uptoBulkEntry x + uptoBulkEntries r
def uptoBulkEntry {H : Type} : Lit × DataW H → Nat
  | (.string bytes, d) => bytes.length + uptoBulk d + 1
  | (_, d) => uptoBulk d + 1
 end
def uptoSmall : (H : Type) → List (DataW H) → Bool := fun _ ds => decide (uptoBulkAll ds ≤ 1048576)
def OpenSpec.upto (s : _root_.Go.ChangeSpec) : _root_.Go.OpenSpec := { _root_.Go.OpenSpec.ofChange s with cond := some uptoSmall }

/-- 'n003_4.FnUnhexMatchesTableModel', WHERE WHAT IT READS IS OF BULK AT MOST 1048576: true; the input reads as it did. -/
def fnUnhexMatchesTableModelUptoRow : OpenClaim := { program := "ytofnemkgaenldaa", sum := "3743cb345533245042a242175c0bba417e3d8b84292f6e70efdca47a26cc8368", func := "github.com/expr-lang/expr/n003_4.FnUnhexMatchesTableModel", spec := "fnUnhexMatchesTableModel", apart := false, narrowed := true }
def FnUnhexMatchesTableModelUptoSaid : Prop := fnUnhexMatchesTableModelUptoRow.holds Try.pinned (OpenSpec.upto fnUnhexMatchesTableModelSpec)

/-- 'n003_4.FnDigitValAgreesWithUnhex', WHERE WHAT IT READS IS OF BULK AT MOST 1048576: true; the input reads as it did. -/
def fnDigitValAgreesWithUnhexUptoRow : OpenClaim := { program := "ytofnemkgaenldaa", sum := "3743cb345533245042a242175c0bba417e3d8b84292f6e70efdca47a26cc8368", func := "github.com/expr-lang/expr/n003_4.FnDigitValAgreesWithUnhex", spec := "fnDigitValAgreesWithUnhex", apart := false, narrowed := true }
def FnDigitValAgreesWithUnhexUptoSaid : Prop := fnDigitValAgreesWithUnhexUptoRow.holds Try.pinned (OpenSpec.upto fnDigitValAgreesWithUnhexSpec)

/-- 'n003_4.FnHexRoundTrip', WHERE WHAT IT READS IS OF BULK AT MOST 1048576: true; the input reads as it did. -/
def fnHexRoundTripUptoRow : OpenClaim := { program := "ytofnemkgaenldaa", sum := "3743cb345533245042a242175c0bba417e3d8b84292f6e70efdca47a26cc8368", func := "github.com/expr-lang/expr/n003_4.FnHexRoundTrip", spec := "fnHexRoundTrip", apart := false, narrowed := true }
def FnHexRoundTripUptoSaid : Prop := fnHexRoundTripUptoRow.holds Try.pinned (OpenSpec.upto fnHexRoundTripSpec)

end Rows
end Go.Proofs.Ytofnemkgaenldaa
