/-
  No cell of these rows narrows 'for every input' (looked for: loops, veiled, ifaces, maps, wideKeys, modest, calm, conditions, laid).
  DERIVED. THE GIVEN ROWS OF THIS SEAT. 10 by the template 'for every input the law returns true; each argument reads behind the call as it read before'; 0 by the template 'total and deterministic' (their statements: YtjdjhccefnffmaaTotals.lean).
  GIVEN WITH THE SEED: the statements are not yours to turn. If you find one false, say at which input.
  Laid BY PROGRAM, IN A SANDBOX (cutbox-rows.mjs): the forced cells as the released guide's own fill.sh prints them over the translation 91b71709a96a93e8… (all of the seat's roots in one cut). By AI agents, Wed Nov 11 2026. No macro, syntax, notation, axiom, sorry.
-/
import Derived.Test.YtjdjhccefnffmaaChecked
import GoSem.Claim
import GoSem.ClaimJoined
import GoSem.ClaimMapViews
import Derived.JoinedTies
import Derived.KernelRfl
namespace Go.Proofs.Ytjdjhccefnffmaa
/- THE CELL 'sum', in the pinned program and in every row, IS THE sha256 OF THE DUMP (.gsa) THAT YtjdjhccefnffmaaProg.lean LOADS. Nothing in Lean hashes anything: it is a label: what it is worth is what the hold of that sum in a sandbox is worth. -/
noncomputable def Try.pinned : Pinned := { name := "ytjdjhccefnffmaa", sum := "91b71709a96a93e8b4ade4c157b5311c8e080e612f7194e54fcbaf4fd5a601da", checked := Try.checked }
namespace Rows
def none {H : Type} : Left H := { results := [], args := [] }

/-- 'laws.FnScalarMultInto': WHATEVER THE INPUT: true; the input reads as it did. -/
def fnScalarMultIntoSpec : ChangeSpec := { name := "fnScalarMultInto", fn := fun _ => fun
  | [d1, d2] => { results := [.lit (.bool true)], args := [d1, d2] }
  | _ => none }
def fnScalarMultIntoRow : OpenClaim := { program := "ytjdjhccefnffmaa", sum := "91b71709a96a93e8b4ade4c157b5311c8e080e612f7194e54fcbaf4fd5a601da", func := "loop.example/pub-g03238/laws.FnScalarMultInto", spec := "fnScalarMultInto", inPlace := ["math/bits.Sub64", "math/bits.Add64"], apart := false }
def FnScalarMultIntoSaid : Prop := fnScalarMultIntoRow.holds Try.pinned (OpenSpec.ofChange fnScalarMultIntoSpec)

/-- ITS FALSE NEIGHBOUR: 'it returns false'. Refute it at one input. -/
def fnScalarMultIntoWrong : ChangeSpec := { name := "fnScalarMultInto", fn := fun _ => fun
  | [d1, d2] => { results := [.lit (.bool false)], args := [d1, d2] }
  | _ => none }
def FnScalarMultIntoWrongFalsely : Prop := fnScalarMultIntoRow.holds Try.pinned (OpenSpec.ofChange fnScalarMultIntoWrong)

/-- 'laws.FnOrder': WHATEVER THE INPUT: true; the input reads as it did. -/
def fnOrderSpec : ChangeSpec := { name := "fnOrder", fn := fun _ => fun
  | [d] => { results := [.lit (.bool true)], args := [d] }
  | _ => none }
def fnOrderRow : OpenClaim := { program := "ytjdjhccefnffmaa", sum := "91b71709a96a93e8b4ade4c157b5311c8e080e612f7194e54fcbaf4fd5a601da", func := "loop.example/pub-g03238/laws.FnOrder", spec := "fnOrder", inPlace := ["math/bits.Sub64", "math/bits.Add64"], apart := false }
def FnOrderSaid : Prop := fnOrderRow.holds Try.pinned (OpenSpec.ofChange fnOrderSpec)

/-- ITS FALSE NEIGHBOUR: 'it returns false'. Refute it at one input. -/
def fnOrderWrong : ChangeSpec := { name := "fnOrder", fn := fun _ => fun
  | [d] => { results := [.lit (.bool false)], args := [d] }
  | _ => none }
def FnOrderWrongFalsely : Prop := fnOrderRow.holds Try.pinned (OpenSpec.ofChange fnOrderWrong)

/-- 'laws.FnScalarMult': WHATEVER THE INPUT: true; the input reads as it did. -/
def fnScalarMultSpec : ChangeSpec := { name := "fnScalarMult", fn := fun _ => fun
  | [d1, d2] => { results := [.lit (.bool true)], args := [d1, d2] }
  | _ => none }
def fnScalarMultRow : OpenClaim := { program := "ytjdjhccefnffmaa", sum := "91b71709a96a93e8b4ade4c157b5311c8e080e612f7194e54fcbaf4fd5a601da", func := "loop.example/pub-g03238/laws.FnScalarMult", spec := "fnScalarMult", inPlace := ["math/bits.Sub64", "math/bits.Add64"], apart := false }
def FnScalarMultSaid : Prop := fnScalarMultRow.holds Try.pinned (OpenSpec.ofChange fnScalarMultSpec)

/-- ITS FALSE NEIGHBOUR: 'it returns false'. Refute it at one input. -/
def fnScalarMultWrong : ChangeSpec := { name := "fnScalarMult", fn := fun _ => fun
  | [d1, d2] => { results := [.lit (.bool false)], args := [d1, d2] }
  | _ => none }
def FnScalarMultWrongFalsely : Prop := fnScalarMultRow.holds Try.pinned (OpenSpec.ofChange fnScalarMultWrong)

/-- 'laws.FnScalarTurns': WHATEVER THE INPUT: true; the input reads as it did. -/
def fnScalarTurnsSpec : ChangeSpec := { name := "fnScalarTurns", fn := fun _ => fun
  | [d1, d2, d3] => { results := [.lit (.bool true)], args := [d1, d2, d3] }
  | _ => none }
def fnScalarTurnsRow : OpenClaim := { program := "ytjdjhccefnffmaa", sum := "91b71709a96a93e8b4ade4c157b5311c8e080e612f7194e54fcbaf4fd5a601da", func := "loop.example/pub-g03238/laws.FnScalarTurns", spec := "fnScalarTurns", inPlace := ["math/bits.Sub64", "math/bits.Add64"], apart := false }
def FnScalarTurnsSaid : Prop := fnScalarTurnsRow.holds Try.pinned (OpenSpec.ofChange fnScalarTurnsSpec)

/-- ITS FALSE NEIGHBOUR: 'it returns false'. Refute it at one input. -/
def fnScalarTurnsWrong : ChangeSpec := { name := "fnScalarTurns", fn := fun _ => fun
  | [d1, d2, d3] => { results := [.lit (.bool false)], args := [d1, d2, d3] }
  | _ => none }
def FnScalarTurnsWrongFalsely : Prop := fnScalarTurnsRow.holds Try.pinned (OpenSpec.ofChange fnScalarTurnsWrong)

/-- 'laws.FnFew': WHATEVER THE INPUT: true; the input reads as it did. -/
def fnFewSpec : ChangeSpec := { name := "fnFew", fn := fun _ => fun
  | [d] => { results := [.lit (.bool true)], args := [d] }
  | _ => none }
def fnFewRow : OpenClaim := { program := "ytjdjhccefnffmaa", sum := "91b71709a96a93e8b4ade4c157b5311c8e080e612f7194e54fcbaf4fd5a601da", func := "loop.example/pub-g03238/laws.FnFew", spec := "fnFew", inPlace := ["math/bits.Sub64", "math/bits.Add64"], apart := false }
def FnFewSaid : Prop := fnFewRow.holds Try.pinned (OpenSpec.ofChange fnFewSpec)

/-- ITS FALSE NEIGHBOUR: 'it returns false'. Refute it at one input. -/
def fnFewWrong : ChangeSpec := { name := "fnFew", fn := fun _ => fun
  | [d] => { results := [.lit (.bool false)], args := [d] }
  | _ => none }
def FnFewWrongFalsely : Prop := fnFewRow.holds Try.pinned (OpenSpec.ofChange fnFewWrong)

/-- 'laws.FnScalarLength': WHATEVER THE INPUT: true; the input reads as it did. -/
def fnScalarLengthSpec : ChangeSpec := { name := "fnScalarLength", fn := fun _ => fun
  | [d1, d2] => { results := [.lit (.bool true)], args := [d1, d2] }
  | _ => none }
def fnScalarLengthRow : OpenClaim := { program := "ytjdjhccefnffmaa", sum := "91b71709a96a93e8b4ade4c157b5311c8e080e612f7194e54fcbaf4fd5a601da", func := "loop.example/pub-g03238/laws.FnScalarLength", spec := "fnScalarLength", inPlace := ["math/bits.Sub64", "math/bits.Add64"], apart := false }
def FnScalarLengthSaid : Prop := fnScalarLengthRow.holds Try.pinned (OpenSpec.ofChange fnScalarLengthSpec)

/-- ITS FALSE NEIGHBOUR: 'it returns false'. Refute it at one input. -/
def fnScalarLengthWrong : ChangeSpec := { name := "fnScalarLength", fn := fun _ => fun
  | [d1, d2] => { results := [.lit (.bool false)], args := [d1, d2] }
  | _ => none }
def FnScalarLengthWrongFalsely : Prop := fnScalarLengthRow.holds Try.pinned (OpenSpec.ofChange fnScalarLengthWrong)

/-- 'laws.FnScalarNext': WHATEVER THE INPUT: true; the input reads as it did. -/
def fnScalarNextSpec : ChangeSpec := { name := "fnScalarNext", fn := fun _ => fun
  | [d1, d2] => { results := [.lit (.bool true)], args := [d1, d2] }
  | _ => none }
def fnScalarNextRow : OpenClaim := { program := "ytjdjhccefnffmaa", sum := "91b71709a96a93e8b4ade4c157b5311c8e080e612f7194e54fcbaf4fd5a601da", func := "loop.example/pub-g03238/laws.FnScalarNext", spec := "fnScalarNext", inPlace := ["math/bits.Sub64", "math/bits.Add64"], apart := false }
def FnScalarNextSaid : Prop := fnScalarNextRow.holds Try.pinned (OpenSpec.ofChange fnScalarNextSpec)

/-- ITS FALSE NEIGHBOUR: 'it returns false'. Refute it at one input. -/
def fnScalarNextWrong : ChangeSpec := { name := "fnScalarNext", fn := fun _ => fun
  | [d1, d2] => { results := [.lit (.bool false)], args := [d1, d2] }
  | _ => none }
def FnScalarNextWrongFalsely : Prop := fnScalarNextRow.holds Try.pinned (OpenSpec.ofChange fnScalarNextWrong)

/-- 'laws.FnScalarSpreads': WHATEVER THE INPUT: true; the input reads as it did. -/
def fnScalarSpreadsSpec : ChangeSpec := { name := "fnScalarSpreads", fn := fun _ => fun
  | [d1, d2, d3] => { results := [.lit (.bool true)], args := [d1, d2, d3] }
  | _ => none }
def fnScalarSpreadsRow : OpenClaim := { program := "ytjdjhccefnffmaa", sum := "91b71709a96a93e8b4ade4c157b5311c8e080e612f7194e54fcbaf4fd5a601da", func := "loop.example/pub-g03238/laws.FnScalarSpreads", spec := "fnScalarSpreads", inPlace := ["math/bits.Sub64", "math/bits.Add64"], apart := false }
def FnScalarSpreadsSaid : Prop := fnScalarSpreadsRow.holds Try.pinned (OpenSpec.ofChange fnScalarSpreadsSpec)

/-- ITS FALSE NEIGHBOUR: 'it returns false'. Refute it at one input. -/
def fnScalarSpreadsWrong : ChangeSpec := { name := "fnScalarSpreads", fn := fun _ => fun
  | [d1, d2, d3] => { results := [.lit (.bool false)], args := [d1, d2, d3] }
  | _ => none }
def FnScalarSpreadsWrongFalsely : Prop := fnScalarSpreadsRow.holds Try.pinned (OpenSpec.ofChange fnScalarSpreadsWrong)

/-- 'laws.FnScalarSum': WHATEVER THE INPUT: true; the input reads as it did. -/
def fnScalarSumSpec : ChangeSpec := { name := "fnScalarSum", fn := fun _ => fun
  | [d1, d2, d3] => { results := [.lit (.bool true)], args := [d1, d2, d3] }
  | _ => none }
def fnScalarSumRow : OpenClaim := { program := "ytjdjhccefnffmaa", sum := "91b71709a96a93e8b4ade4c157b5311c8e080e612f7194e54fcbaf4fd5a601da", func := "loop.example/pub-g03238/laws.FnScalarSum", spec := "fnScalarSum", inPlace := ["math/bits.Sub64", "math/bits.Add64"], apart := false }
def FnScalarSumSaid : Prop := fnScalarSumRow.holds Try.pinned (OpenSpec.ofChange fnScalarSumSpec)

/-- ITS FALSE NEIGHBOUR: 'it returns false'. Refute it at one input. -/
def fnScalarSumWrong : ChangeSpec := { name := "fnScalarSum", fn := fun _ => fun
  | [d1, d2, d3] => { results := [.lit (.bool false)], args := [d1, d2, d3] }
  | _ => none }
def FnScalarSumWrongFalsely : Prop := fnScalarSumRow.holds Try.pinned (OpenSpec.ofChange fnScalarSumWrong)

/-- 'laws.FnGenerator': WHATEVER THE INPUT: true; the input reads as it did. -/
def fnGeneratorSpec : ChangeSpec := { name := "fnGenerator", fn := fun _ => fun
  | [d] => { results := [.lit (.bool true)], args := [d] }
  | _ => none }
def fnGeneratorRow : OpenClaim := { program := "ytjdjhccefnffmaa", sum := "91b71709a96a93e8b4ade4c157b5311c8e080e612f7194e54fcbaf4fd5a601da", func := "loop.example/pub-g03238/laws.FnGenerator", spec := "fnGenerator", inPlace := ["math/bits.Sub64", "math/bits.Add64"], apart := false }
def FnGeneratorSaid : Prop := fnGeneratorRow.holds Try.pinned (OpenSpec.ofChange fnGeneratorSpec)

/-- ITS FALSE NEIGHBOUR: 'it returns false'. Refute it at one input. -/
def fnGeneratorWrong : ChangeSpec := { name := "fnGenerator", fn := fun _ => fun
  | [d] => { results := [.lit (.bool false)], args := [d] }
  | _ => none }
def FnGeneratorWrongFalsely : Prop := fnGeneratorRow.holds Try.pinned (OpenSpec.ofChange fnGeneratorWrong)

/- THE SECOND FORM. 'bulk': how many values and letters a reading holds, each counted each time it is reached (what is shared counts as often as it is met; a slice's spare places count too). A statement '..UptoSaid' is the law's where the arguments, and the package variables that the reading takes, are together of bulk at most 1048576: NARROWER than '..Said'. Prove '..Said' where nothing that the law and all that it calls make is longer than what came in: it says more and counts as full. Else prove '..UptoSaid'. A law counts once. -/
mutual
def uptoBulk {H : Type} : DataW H → Nat
  | .lit (.string bytes) => bytes.length + 1
  | .lit _ => 1
  | .nil => 1
  | .ptr d => uptoBulk d + 1
  | .slice elems spare => uptoBulkAll elems + uptoBulkAll spare + 1
  | .agg parts => uptoBulkAll parts + 1
  | .iface _ d => uptoBulk d + 1
  | .map entries => uptoBulkEntries entries + 1
  | .held _ => 1
def uptoBulkAll {H : Type} : List (DataW H) → Nat
  | [] => 0
  | d :: r => uptoBulk d + uptoBulkAll r
def uptoBulkEntries {H : Type} : List (Lit × DataW H) → Nat
  | [] => 0
  | x :: r => uptoBulkEntry x + uptoBulkEntries r
def uptoBulkEntry {H : Type} : Lit × DataW H → Nat
  | (.string bytes, d) => bytes.length + uptoBulk d + 1
  | (_, d) => uptoBulk d + 1
 end
def uptoSmall : (H : Type) → List (DataW H) → Bool := fun _ ds => decide (uptoBulkAll ds ≤ 1048576)
def OpenSpec.upto (s : _root_.Go.ChangeSpec) : _root_.Go.OpenSpec := { _root_.Go.OpenSpec.ofChange s with cond := some uptoSmall }

/-- 'laws.FnScalarMultInto', WHERE WHAT IT READS IS OF BULK AT MOST 1048576: true; the input reads as it did. -/
def fnScalarMultIntoUptoRow : OpenClaim := { program := "ytjdjhccefnffmaa", sum := "91b71709a96a93e8b4ade4c157b5311c8e080e612f7194e54fcbaf4fd5a601da", func := "loop.example/pub-g03238/laws.FnScalarMultInto", spec := "fnScalarMultInto", inPlace := ["math/bits.Sub64", "math/bits.Add64"], apart := false, narrowed := true }
def FnScalarMultIntoUptoSaid : Prop := fnScalarMultIntoUptoRow.holds Try.pinned (OpenSpec.upto fnScalarMultIntoSpec)

/-- 'laws.FnOrder', WHERE WHAT IT READS IS OF BULK AT MOST 1048576: true; the input reads as it did. -/
def fnOrderUptoRow : OpenClaim := { program := "ytjdjhccefnffmaa", sum := "91b71709a96a93e8b4ade4c157b5311c8e080e612f7194e54fcbaf4fd5a601da", func := "loop.example/pub-g03238/laws.FnOrder", spec := "fnOrder", inPlace := ["math/bits.Sub64", "math/bits.Add64"], apart := false, narrowed := true }
def FnOrderUptoSaid : Prop := fnOrderUptoRow.holds Try.pinned (OpenSpec.upto fnOrderSpec)

/-- 'laws.FnScalarMult', WHERE WHAT IT READS IS OF BULK AT MOST 1048576: true; the input reads as it did. -/
def fnScalarMultUptoRow : OpenClaim := { program := "ytjdjhccefnffmaa", sum := "91b71709a96a93e8b4ade4c157b5311c8e080e612f7194e54fcbaf4fd5a601da", func := "loop.example/pub-g03238/laws.FnScalarMult", spec := "fnScalarMult", inPlace := ["math/bits.Sub64", "math/bits.Add64"], apart := false, narrowed := true }
def FnScalarMultUptoSaid : Prop := fnScalarMultUptoRow.holds Try.pinned (OpenSpec.upto fnScalarMultSpec)

/-- 'laws.FnScalarTurns', WHERE WHAT IT READS IS OF BULK AT MOST 1048576: true; the input reads as it did. -/
def fnScalarTurnsUptoRow : OpenClaim := { program := "ytjdjhccefnffmaa", sum := "91b71709a96a93e8b4ade4c157b5311c8e080e612f7194e54fcbaf4fd5a601da", func := "loop.example/pub-g03238/laws.FnScalarTurns", spec := "fnScalarTurns", inPlace := ["math/bits.Sub64", "math/bits.Add64"], apart := false, narrowed := true }
def FnScalarTurnsUptoSaid : Prop := fnScalarTurnsUptoRow.holds Try.pinned (OpenSpec.upto fnScalarTurnsSpec)

/-- 'laws.FnFew', WHERE WHAT IT READS IS OF BULK AT MOST 1048576: true; the input reads as it did. -/
def fnFewUptoRow : OpenClaim := { program := "ytjdjhccefnffmaa", sum := "91b71709a96a93e8b4ade4c157b5311c8e080e612f7194e54fcbaf4fd5a601da", func := "loop.example/pub-g03238/laws.FnFew", spec := "fnFew", inPlace := ["math/bits.Sub64", "math/bits.Add64"], apart := false, narrowed := true }
def FnFewUptoSaid : Prop := fnFewUptoRow.holds Try.pinned (OpenSpec.upto fnFewSpec)

/-- 'laws.FnScalarLength', WHERE WHAT IT READS IS OF BULK AT MOST 1048576: true; the input reads as it did. -/
def fnScalarLengthUptoRow : OpenClaim := { program := "ytjdjhccefnffmaa", sum := "91b71709a96a93e8b4ade4c157b5311c8e080e612f7194e54fcbaf4fd5a601da", func := "loop.example/pub-g03238/laws.FnScalarLength", spec := "fnScalarLength", inPlace := ["math/bits.Sub64", "math/bits.Add64"], apart := false, narrowed := true }
def FnScalarLengthUptoSaid : Prop := fnScalarLengthUptoRow.holds Try.pinned (OpenSpec.upto fnScalarLengthSpec)

/-- 'laws.FnScalarNext', WHERE WHAT IT READS IS OF BULK AT MOST 1048576: true; the input reads as it did. -/
def fnScalarNextUptoRow : OpenClaim := { program := "ytjdjhccefnffmaa", sum := "91b71709a96a93e8b4ade4c157b5311c8e080e612f7194e54fcbaf4fd5a601da", func := "loop.example/pub-g03238/laws.FnScalarNext", spec := "fnScalarNext", inPlace := ["math/bits.Sub64", "math/bits.Add64"], apart := false, narrowed := true }
def FnScalarNextUptoSaid : Prop := fnScalarNextUptoRow.holds Try.pinned (OpenSpec.upto fnScalarNextSpec)

/-- 'laws.FnScalarSpreads', WHERE WHAT IT READS IS OF BULK AT MOST 1048576: true; the input reads as it did. -/
def fnScalarSpreadsUptoRow : OpenClaim := { program := "ytjdjhccefnffmaa", sum := "91b71709a96a93e8b4ade4c157b5311c8e080e612f7194e54fcbaf4fd5a601da", func := "loop.example/pub-g03238/laws.FnScalarSpreads", spec := "fnScalarSpreads", inPlace := ["math/bits.Sub64", "math/bits.Add64"], apart := false, narrowed := true }
def FnScalarSpreadsUptoSaid : Prop := fnScalarSpreadsUptoRow.holds Try.pinned (OpenSpec.upto fnScalarSpreadsSpec)

/-- 'laws.FnScalarSum', WHERE WHAT IT READS IS OF BULK AT MOST 1048576: true; the input reads as it did. -/
def fnScalarSumUptoRow : OpenClaim := { program := "ytjdjhccefnffmaa", sum := "91b71709a96a93e8b4ade4c157b5311c8e080e612f7194e54fcbaf4fd5a601da", func := "loop.example/pub-g03238/laws.FnScalarSum", spec := "fnScalarSum", inPlace := ["math/bits.Sub64", "math/bits.Add64"], apart := false, narrowed := true }
def FnScalarSumUptoSaid : Prop := fnScalarSumUptoRow.holds Try.pinned (OpenSpec.upto fnScalarSumSpec)

/-- 'laws.FnGenerator', WHERE WHAT IT READS IS OF BULK AT MOST 1048576: true; the input reads as it did. -/
def fnGeneratorUptoRow : OpenClaim := { program := "ytjdjhccefnffmaa", sum := "91b71709a96a93e8b4ade4c157b5311c8e080e612f7194e54fcbaf4fd5a601da", func := "loop.example/pub-g03238/laws.FnGenerator", spec := "fnGenerator", inPlace := ["math/bits.Sub64", "math/bits.Add64"], apart := false, narrowed := true }
def FnGeneratorUptoSaid : Prop := fnGeneratorUptoRow.holds Try.pinned (OpenSpec.upto fnGeneratorSpec)

end Rows
end Go.Proofs.Ytjdjhccefnffmaa
