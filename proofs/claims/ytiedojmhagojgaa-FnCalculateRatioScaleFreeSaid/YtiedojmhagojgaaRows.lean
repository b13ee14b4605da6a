/-
  No cell of these rows narrows 'for every input' (looked for: loops, veiled, ifaces, maps, wideKeys, modest, calm, conditions, laid).
  DERIVED. THE GIVEN ROWS OF THIS SEAT. 3 by the template 'for every input the law returns true; each argument reads behind the call as it read before'; 0 by the template 'total and deterministic' (their statements: YtiedojmhagojgaaTotals.lean).
  GIVEN WITH THE SEED: the statements are not yours to turn. If you find one false, say at which input.
  Laid BY PROGRAM, IN A SANDBOX (cutbox-rows.mjs): the forced cells as the released guide's own fill.sh prints them over the translation 52d5f6833d905e3b… (all of the seat's roots in one cut). By AI agents, Wed Nov 11 2026. No macro, syntax, notation, axiom, sorry.
-/
import Derived.Test.YtiedojmhagojgaaChecked
import GoSem.Claim
import GoSem.ClaimJoined
import GoSem.ClaimMapViews
import Derived.JoinedTies
import Derived.KernelRfl
namespace Go.Proofs.Ytiedojmhagojgaa
/- THE CELL 'sum', in the pinned program and in every row, IS THE sha256 OF THE DUMP (.gsa) THAT YtiedojmhagojgaaProg.lean LOADS. Nothing in Lean hashes anything: it is a label: what it is worth is what the hold of that sum in a sandbox is worth. -/
noncomputable def Try.pinned : Pinned := { name := "ytiedojmhagojgaa", sum := "52d5f6833d905e3b8e09ec1fb544d7548f38500c1c2f7716caf781f0f23272b9", checked := Try.checked }
namespace Rows
def none {H : Type} : Left H := { results := [], args := [] }

/-- 'n003_9.FnCalculateRatioMonotone': WHATEVER THE INPUT: true; the input reads as it did. -/
def fnCalculateRatioMonotoneSpec : ChangeSpec := { name := "fnCalculateRatioMonotone", fn := fun _ => fun
  | [d1, d2, d3, d4] => { results := [.lit (.bool true)], args := [d1, d2, d3, d4] }
  | _ => none }
def fnCalculateRatioMonotoneRow : OpenClaim := { program := "ytiedojmhagojgaa", sum := "52d5f6833d905e3b8e09ec1fb544d7548f38500c1c2f7716caf781f0f23272b9", func := "github.com/expr-lang/expr/n003_9.FnCalculateRatioMonotone", spec := "fnCalculateRatioMonotone", apart := false }
def FnCalculateRatioMonotoneSaid : Prop := fnCalculateRatioMonotoneRow.holds Try.pinned (OpenSpec.ofChange fnCalculateRatioMonotoneSpec)

/-- ITS FALSE NEIGHBOUR: 'it returns false'. Refute it at one input. -/
def fnCalculateRatioMonotoneWrong : ChangeSpec := { name := "fnCalculateRatioMonotone", fn := fun _ => fun
  | [d1, d2, d3, d4] => { results := [.lit (.bool false)], args := [d1, d2, d3, d4] }
  | _ => none }
def FnCalculateRatioMonotoneWrongFalsely : Prop := fnCalculateRatioMonotoneRow.holds Try.pinned (OpenSpec.ofChange fnCalculateRatioMonotoneWrong)

/-- 'n003_9.FnCalculateRatioBoundsAndTop': WHATEVER THE INPUT: true; the input reads as it did. -/
def fnCalculateRatioBoundsAndTopSpec : ChangeSpec := { name := "fnCalculateRatioBoundsAndTop", fn := fun _ => fun
  | [d1, d2] => { results := [.lit (.bool true)], args := [d1, d2] }
  | _ => none }
def fnCalculateRatioBoundsAndTopRow : OpenClaim := { program := "ytiedojmhagojgaa", sum := "52d5f6833d905e3b8e09ec1fb544d7548f38500c1c2f7716caf781f0f23272b9", func := "github.com/expr-lang/expr/n003_9.FnCalculateRatioBoundsAndTop", spec := "fnCalculateRatioBoundsAndTop", apart := false }
def FnCalculateRatioBoundsAndTopSaid : Prop := fnCalculateRatioBoundsAndTopRow.holds Try.pinned (OpenSpec.ofChange fnCalculateRatioBoundsAndTopSpec)

/-- ITS FALSE NEIGHBOUR: 'it returns false'. Refute it at one input. -/
def fnCalculateRatioBoundsAndTopWrong : ChangeSpec := { name := "fnCalculateRatioBoundsAndTop", fn := fun _ => fun
  | [d1, d2] => { results := [.lit (.bool false)], args := [d1, d2] }
  | _ => none }
def FnCalculateRatioBoundsAndTopWrongFalsely : Prop := fnCalculateRatioBoundsAndTopRow.holds Try.pinned (OpenSpec.ofChange fnCalculateRatioBoundsAndTopWrong)

/-- 'n003_9.FnCalculateRatioScaleFree': WHATEVER THE INPUT: true; the input reads as it did. -/
def fnCalculateRatioScaleFreeSpec : ChangeSpec := { name := "fnCalculateRatioScaleFree", fn := fun _ => fun
  | [d1, d2, d3] => { results := [.lit (.bool true)], args := [d1, d2, d3] }
  | _ => none }
def fnCalculateRatioScaleFreeRow : OpenClaim := { program := "ytiedojmhagojgaa", sum := "52d5f6833d905e3b8e09ec1fb544d7548f38500c1c2f7716caf781f0f23272b9", func := "github.com/expr-lang/expr/n003_9.FnCalculateRatioScaleFree", spec := "fnCalculateRatioScaleFree", apart := false }
def FnCalculateRatioScaleFreeSaid : Prop := fnCalculateRatioScaleFreeRow.holds Try.pinned (OpenSpec.ofChange fnCalculateRatioScaleFreeSpec)

/-- ITS FALSE NEIGHBOUR: 'it returns false'. Refute it at one input. -/
def fnCalculateRatioScaleFreeWrong : ChangeSpec := { name := "fnCalculateRatioScaleFree", fn := fun _ => fun
  | [d1, d2, d3] => { results := [.lit (.bool false)], args := [d1, d2, d3] }
  | _ => none }
def FnCalculateRatioScaleFreeWrongFalsely : Prop := fnCalculateRatioScaleFreeRow.holds Try.pinned (OpenSpec.ofChange fnCalculateRatioScaleFreeWrong)

/- THE SECOND FORM. 'bulk': how many values and letters a reading holds, each counted each time it is reached (what is shared counts as often as it is met; a slice's spare places count too). A statement '..UptoSaid' is the law's where the arguments, and the package variables that the reading takes, are together of bulk at most 1048576: NARROWER than '..Said'. Prove '..Said' where nothing that the law and all that it calls make is longer than what came in: it says more and counts as full. Else prove '..UptoSaid'. A law counts once. -/
mutual
def uptoBulk {H : Type} : DataW H → Nat
  | .lit (.string bytes) => bytes.length + 1
  | .lit _ => 1
  | .nil => 1
  | .ptr d => uptoBulk d + 1
  | .slice elems spare => uptoBulkAll elems + uptoBulkAll spare + 1
  | .agg parts => uptoBulkAll parts + 1
  | .iface _ d => uptoBulk d + 1
  | .map entries => uptoBulkEntries entries + 1
  | .held _ => 1
def uptoBulkAll {H : Type} : List (DataW H) → Nat
  | [] => 0
  | d :: r => uptoBulk d + uptoBulkAll r
def uptoBulkEntries {H : Type} : List (Lit × DataW H) → Nat
  | [] => 0
  | x :: r => uptoBulkEntry x + uptoBulkEntries r
def uptoBulkEntry {H : Type} : Lit × DataW H → Nat
  | (.string bytes, d) => bytes.length + uptoBulk d + 1
  | (_, d) => uptoBulk d + 1
 end
def uptoSmall : (H : Type) → List (DataW H) → Bool := fun _ ds => decide (uptoBulkAll ds ≤ 1048576)
def OpenSpec.upto (s : _root_.Go.ChangeSpec) : _root_.Go.OpenSpec := { _root_.Go.OpenSpec.ofChange s with cond := some uptoSmall }

/-- 'n003_9.FnCalculateRatioMonotone', WHERE WHAT IT READS IS OF BULK AT MOST 1048576: true; the input reads as it did. -/
def fnCalculateRatioMonotoneUptoRow : OpenClaim := { program := "ytiedojmhagojgaa", sum := "52d5f6833d905e3b8e09ec1fb544d7548f38500c1c2f7716caf781f0f23272b9", func := "github.com/expr-lang/expr/n003_9.FnCalculateRatioMonotone", spec := "fnCalculateRatioMonotone", apart := false, narrowed := true }
def FnCalculateRatioMonotoneUptoSaid : Prop := fnCalculateRatioMonotoneUptoRow.holds Try.pinned (OpenSpec.upto fnCalculateRatioMonotoneSpec)

/-- 'n003_9.FnCalculateRatioBoundsAndTop', WHERE WHAT IT READS IS OF BULK AT MOST 1048576: true; the input reads as it did. -/
def fnCalculateRatioBoundsAndTopUptoRow : OpenClaim := { program := "ytiedojmhagojgaa", sum := "52d5f6833d905e3b8e09ec1fb544d7548f38500c1c2f7716caf781f0f23272b9", func := "github.com/expr-lang/expr/n003_9.FnCalculateRatioBoundsAndTop", spec := "fnCalculateRatioBoundsAndTop", apart := false, narrowed := true }
def FnCalculateRatioBoundsAndTopUptoSaid : Prop := fnCalculateRatioBoundsAndTopUptoRow.holds Try.pinned (OpenSpec.upto fnCalculateRatioBoundsAndTopSpec)

/-- 'n003_9.FnCalculateRatioScaleFree', WHERE WHAT IT READS IS OF BULK AT MOST 1048576: true; the input reads as it did. -/
def fnCalculateRatioScaleFreeUptoRow : OpenClaim := { program := "ytiedojmhagojgaa", sum := "52d5f6833d905e3b8e09ec1fb544d7548f38500c1c2f7716caf781f0f23272b9", func := "github.com/expr-lang/expr/n003_9.FnCalculateRatioScaleFree", spec := "fnCalculateRatioScaleFree", apart := false, narrowed := true }
def FnCalculateRatioScaleFreeUptoSaid : Prop := fnCalculateRatioScaleFreeUptoRow.holds Try.pinned (OpenSpec.upto fnCalculateRatioScaleFreeSpec)

end Rows
end Go.Proofs.Ytiedojmhagojgaa
