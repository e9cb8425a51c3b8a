/-
  No cell of these rows narrows 'for every input' (looked for: loops, veiled, ifaces, maps, wideKeys, modest, calm, conditions, laid).
  DERIVED. THE GIVEN ROWS OF THIS SEAT. 12 by the template 'for every input the law returns true; each argument reads behind the call as it read before'; 0 by the template 'total and deterministic' (their statements: YteinknonpejhgaaTotals.lean).
  GIVEN WITH THE SEED: the statements are not yours to turn. If you find one false, say at which input.
  Laid BY PROGRAM, IN A SANDBOX (cutbox-rows.mjs): the forced cells as the released guide's own fill.sh prints them over the translation dcb096acbdaa3566… (all of the seat's roots in one cut). By AI agents, Wed Nov 11 2026. No macro, syntax, notation, axiom, sorry.
-/
import Derived.Test.YteinknonpejhgaaChecked
import GoSem.Claim
import GoSem.ClaimJoined
import GoSem.ClaimMapViews
import Derived.JoinedTies
import Derived.KernelRfl
namespace Go.Proofs.Yteinknonpejhgaa
/- THE CELL 'sum', in the pinned program and in every row, IS THE sha256 OF THE DUMP (.gsa) THAT YteinknonpejhgaaProg.lean LOADS. Nothing in Lean hashes anything: it is a label: what it is worth is what the hold of that sum in a sandbox is worth. -/
noncomputable def Try.pinned : Pinned := { name := "yteinknonpejhgaa", sum := "dcb096acbdaa356612ea4fd4d0c7ee2e6896af0d9551813106e6ff35bc188183", checked := Try.checked }
namespace Rows
def none {H : Type} : Left H := { results := [], args := [] }

/-- 'laws.FnExactTextRunes': WHATEVER THE INPUT: true; the input reads as it did. -/
def fnExactTextRunesSpec : ChangeSpec := { name := "fnExactTextRunes", fn := fun _ => fun
  | [d] => { results := [.lit (.bool true)], args := [d] }
  | _ => none }
def fnExactTextRunesRow : OpenClaim := { program := "yteinknonpejhgaa", sum := "dcb096acbdaa356612ea4fd4d0c7ee2e6896af0d9551813106e6ff35bc188183", func := "loop.example/lib-codeunits/laws.FnExactTextRunes", spec := "fnExactTextRunes", apart := false }
def FnExactTextRunesSaid : Prop := fnExactTextRunesRow.holds Try.pinned (OpenSpec.ofChange fnExactTextRunesSpec)

/-- ITS FALSE NEIGHBOUR: 'it returns false'. Refute it at one input. -/
def fnExactTextRunesWrong : ChangeSpec := { name := "fnExactTextRunes", fn := fun _ => fun
  | [d] => { results := [.lit (.bool false)], args := [d] }
  | _ => none }
def FnExactTextRunesWrongFalsely : Prop := fnExactTextRunesRow.holds Try.pinned (OpenSpec.ofChange fnExactTextRunesWrong)

/-- 'laws.FnTextRunes': WHATEVER THE INPUT: true; the input reads as it did. -/
def fnTextRunesSpec : ChangeSpec := { name := "fnTextRunes", fn := fun _ => fun
  | [d] => { results := [.lit (.bool true)], args := [d] }
  | _ => none }
def fnTextRunesRow : OpenClaim := { program := "yteinknonpejhgaa", sum := "dcb096acbdaa356612ea4fd4d0c7ee2e6896af0d9551813106e6ff35bc188183", func := "loop.example/lib-codeunits/laws.FnTextRunes", spec := "fnTextRunes", apart := false }
def FnTextRunesSaid : Prop := fnTextRunesRow.holds Try.pinned (OpenSpec.ofChange fnTextRunesSpec)

/-- ITS FALSE NEIGHBOUR: 'it returns false'. Refute it at one input. -/
def fnTextRunesWrong : ChangeSpec := { name := "fnTextRunes", fn := fun _ => fun
  | [d] => { results := [.lit (.bool false)], args := [d] }
  | _ => none }
def FnTextRunesWrongFalsely : Prop := fnTextRunesRow.holds Try.pinned (OpenSpec.ofChange fnTextRunesWrong)

/-- 'laws.FnExactIsSurrogate': WHATEVER THE INPUT: true; the input reads as it did. -/
def fnExactIsSurrogateSpec : ChangeSpec := { name := "fnExactIsSurrogate", fn := fun _ => fun
  | [d] => { results := [.lit (.bool true)], args := [d] }
  | _ => none }
def fnExactIsSurrogateRow : OpenClaim := { program := "yteinknonpejhgaa", sum := "dcb096acbdaa356612ea4fd4d0c7ee2e6896af0d9551813106e6ff35bc188183", func := "loop.example/lib-codeunits/laws.FnExactIsSurrogate", spec := "fnExactIsSurrogate", apart := false }
def FnExactIsSurrogateSaid : Prop := fnExactIsSurrogateRow.holds Try.pinned (OpenSpec.ofChange fnExactIsSurrogateSpec)

/-- ITS FALSE NEIGHBOUR: 'it returns false'. Refute it at one input. -/
def fnExactIsSurrogateWrong : ChangeSpec := { name := "fnExactIsSurrogate", fn := fun _ => fun
  | [d] => { results := [.lit (.bool false)], args := [d] }
  | _ => none }
def FnExactIsSurrogateWrongFalsely : Prop := fnExactIsSurrogateRow.holds Try.pinned (OpenSpec.ofChange fnExactIsSurrogateWrong)

/-- 'laws.FnDecodeRune': WHATEVER THE INPUT: true; the input reads as it did. -/
def fnDecodeRuneSpec : ChangeSpec := { name := "fnDecodeRune", fn := fun _ => fun
  | [d] => { results := [.lit (.bool true)], args := [d] }
  | _ => none }
def fnDecodeRuneRow : OpenClaim := { program := "yteinknonpejhgaa", sum := "dcb096acbdaa356612ea4fd4d0c7ee2e6896af0d9551813106e6ff35bc188183", func := "loop.example/lib-codeunits/laws.FnDecodeRune", spec := "fnDecodeRune", apart := false }
def FnDecodeRuneSaid : Prop := fnDecodeRuneRow.holds Try.pinned (OpenSpec.ofChange fnDecodeRuneSpec)

/-- ITS FALSE NEIGHBOUR: 'it returns false'. Refute it at one input. -/
def fnDecodeRuneWrong : ChangeSpec := { name := "fnDecodeRune", fn := fun _ => fun
  | [d] => { results := [.lit (.bool false)], args := [d] }
  | _ => none }
def FnDecodeRuneWrongFalsely : Prop := fnDecodeRuneRow.holds Try.pinned (OpenSpec.ofChange fnDecodeRuneWrong)

/-- 'laws.FnDecodeRuneRange': WHATEVER THE INPUT: true; the input reads as it did. -/
def fnDecodeRuneRangeSpec : ChangeSpec := { name := "fnDecodeRuneRange", fn := fun _ => fun
  | [d] => { results := [.lit (.bool true)], args := [d] }
  | _ => none }
def fnDecodeRuneRangeRow : OpenClaim := { program := "yteinknonpejhgaa", sum := "dcb096acbdaa356612ea4fd4d0c7ee2e6896af0d9551813106e6ff35bc188183", func := "loop.example/lib-codeunits/laws.FnDecodeRuneRange", spec := "fnDecodeRuneRange", apart := false }
def FnDecodeRuneRangeSaid : Prop := fnDecodeRuneRangeRow.holds Try.pinned (OpenSpec.ofChange fnDecodeRuneRangeSpec)

/-- ITS FALSE NEIGHBOUR: 'it returns false'. Refute it at one input. -/
def fnDecodeRuneRangeWrong : ChangeSpec := { name := "fnDecodeRuneRange", fn := fun _ => fun
  | [d] => { results := [.lit (.bool false)], args := [d] }
  | _ => none }
def FnDecodeRuneRangeWrongFalsely : Prop := fnDecodeRuneRangeRow.holds Try.pinned (OpenSpec.ofChange fnDecodeRuneRangeWrong)

/-- 'laws.FnDecodeRuneTurned': WHATEVER THE INPUT: true; the input reads as it did. -/
def fnDecodeRuneTurnedSpec : ChangeSpec := { name := "fnDecodeRuneTurned", fn := fun _ => fun
  | [d] => { results := [.lit (.bool true)], args := [d] }
  | _ => none }
def fnDecodeRuneTurnedRow : OpenClaim := { program := "yteinknonpejhgaa", sum := "dcb096acbdaa356612ea4fd4d0c7ee2e6896af0d9551813106e6ff35bc188183", func := "loop.example/lib-codeunits/laws.FnDecodeRuneTurned", spec := "fnDecodeRuneTurned", apart := false }
def FnDecodeRuneTurnedSaid : Prop := fnDecodeRuneTurnedRow.holds Try.pinned (OpenSpec.ofChange fnDecodeRuneTurnedSpec)

/-- ITS FALSE NEIGHBOUR: 'it returns false'. Refute it at one input. -/
def fnDecodeRuneTurnedWrong : ChangeSpec := { name := "fnDecodeRuneTurned", fn := fun _ => fun
  | [d] => { results := [.lit (.bool false)], args := [d] }
  | _ => none }
def FnDecodeRuneTurnedWrongFalsely : Prop := fnDecodeRuneTurnedRow.holds Try.pinned (OpenSpec.ofChange fnDecodeRuneTurnedWrong)

/-- 'laws.FnEncodeDecode': WHATEVER THE INPUT: true; the input reads as it did. -/
def fnEncodeDecodeSpec : ChangeSpec := { name := "fnEncodeDecode", fn := fun _ => fun
  | [d] => { results := [.lit (.bool true)], args := [d] }
  | _ => none }
def fnEncodeDecodeRow : OpenClaim := { program := "yteinknonpejhgaa", sum := "dcb096acbdaa356612ea4fd4d0c7ee2e6896af0d9551813106e6ff35bc188183", func := "loop.example/lib-codeunits/laws.FnEncodeDecode", spec := "fnEncodeDecode", apart := false }
def FnEncodeDecodeSaid : Prop := fnEncodeDecodeRow.holds Try.pinned (OpenSpec.ofChange fnEncodeDecodeSpec)

/-- ITS FALSE NEIGHBOUR: 'it returns false'. Refute it at one input. -/
def fnEncodeDecodeWrong : ChangeSpec := { name := "fnEncodeDecode", fn := fun _ => fun
  | [d] => { results := [.lit (.bool false)], args := [d] }
  | _ => none }
def FnEncodeDecodeWrongFalsely : Prop := fnEncodeDecodeRow.holds Try.pinned (OpenSpec.ofChange fnEncodeDecodeWrong)

/-- 'laws.FnExactDecodeRune': WHATEVER THE INPUT: true; the input reads as it did. -/
def fnExactDecodeRuneSpec : ChangeSpec := { name := "fnExactDecodeRune", fn := fun _ => fun
  | [d1, d2] => { results := [.lit (.bool true)], args := [d1, d2] }
  | _ => none }
def fnExactDecodeRuneRow : OpenClaim := { program := "yteinknonpejhgaa", sum := "dcb096acbdaa356612ea4fd4d0c7ee2e6896af0d9551813106e6ff35bc188183", func := "loop.example/lib-codeunits/laws.FnExactDecodeRune", spec := "fnExactDecodeRune", apart := false }
def FnExactDecodeRuneSaid : Prop := fnExactDecodeRuneRow.holds Try.pinned (OpenSpec.ofChange fnExactDecodeRuneSpec)

/-- ITS FALSE NEIGHBOUR: 'it returns false'. Refute it at one input. -/
def fnExactDecodeRuneWrong : ChangeSpec := { name := "fnExactDecodeRune", fn := fun _ => fun
  | [d1, d2] => { results := [.lit (.bool false)], args := [d1, d2] }
  | _ => none }
def FnExactDecodeRuneWrongFalsely : Prop := fnExactDecodeRuneRow.holds Try.pinned (OpenSpec.ofChange fnExactDecodeRuneWrong)

/-- 'laws.FnEncodeRune': WHATEVER THE INPUT: true; the input reads as it did. -/
def fnEncodeRuneSpec : ChangeSpec := { name := "fnEncodeRune", fn := fun _ => fun
  | [d] => { results := [.lit (.bool true)], args := [d] }
  | _ => none }
def fnEncodeRuneRow : OpenClaim := { program := "yteinknonpejhgaa", sum := "dcb096acbdaa356612ea4fd4d0c7ee2e6896af0d9551813106e6ff35bc188183", func := "loop.example/lib-codeunits/laws.FnEncodeRune", spec := "fnEncodeRune", apart := false }
def FnEncodeRuneSaid : Prop := fnEncodeRuneRow.holds Try.pinned (OpenSpec.ofChange fnEncodeRuneSpec)

/-- ITS FALSE NEIGHBOUR: 'it returns false'. Refute it at one input. -/
def fnEncodeRuneWrong : ChangeSpec := { name := "fnEncodeRune", fn := fun _ => fun
  | [d] => { results := [.lit (.bool false)], args := [d] }
  | _ => none }
def FnEncodeRuneWrongFalsely : Prop := fnEncodeRuneRow.holds Try.pinned (OpenSpec.ofChange fnEncodeRuneWrong)

/-- 'laws.FnExactEncodeRune': WHATEVER THE INPUT: true; the input reads as it did. -/
def fnExactEncodeRuneSpec : ChangeSpec := { name := "fnExactEncodeRune", fn := fun _ => fun
  | [d] => { results := [.lit (.bool true)], args := [d] }
  | _ => none }
def fnExactEncodeRuneRow : OpenClaim := { program := "yteinknonpejhgaa", sum := "dcb096acbdaa356612ea4fd4d0c7ee2e6896af0d9551813106e6ff35bc188183", func := "loop.example/lib-codeunits/laws.FnExactEncodeRune", spec := "fnExactEncodeRune", apart := false }
def FnExactEncodeRuneSaid : Prop := fnExactEncodeRuneRow.holds Try.pinned (OpenSpec.ofChange fnExactEncodeRuneSpec)

/-- ITS FALSE NEIGHBOUR: 'it returns false'. Refute it at one input. -/
def fnExactEncodeRuneWrong : ChangeSpec := { name := "fnExactEncodeRune", fn := fun _ => fun
  | [d] => { results := [.lit (.bool false)], args := [d] }
  | _ => none }
def FnExactEncodeRuneWrongFalsely : Prop := fnExactEncodeRuneRow.holds Try.pinned (OpenSpec.ofChange fnExactEncodeRuneWrong)

/-- 'laws.FnExactRuneLen': WHATEVER THE INPUT: true; the input reads as it did. -/
def fnExactRuneLenSpec : ChangeSpec := { name := "fnExactRuneLen", fn := fun _ => fun
  | [d] => { results := [.lit (.bool true)], args := [d] }
  | _ => none }
def fnExactRuneLenRow : OpenClaim := { program := "yteinknonpejhgaa", sum := "dcb096acbdaa356612ea4fd4d0c7ee2e6896af0d9551813106e6ff35bc188183", func := "loop.example/lib-codeunits/laws.FnExactRuneLen", spec := "fnExactRuneLen", apart := false }
def FnExactRuneLenSaid : Prop := fnExactRuneLenRow.holds Try.pinned (OpenSpec.ofChange fnExactRuneLenSpec)

/-- ITS FALSE NEIGHBOUR: 'it returns false'. Refute it at one input. -/
def fnExactRuneLenWrong : ChangeSpec := { name := "fnExactRuneLen", fn := fun _ => fun
  | [d] => { results := [.lit (.bool false)], args := [d] }
  | _ => none }
def FnExactRuneLenWrongFalsely : Prop := fnExactRuneLenRow.holds Try.pinned (OpenSpec.ofChange fnExactRuneLenWrong)

/-- 'laws.FnRuneLen': WHATEVER THE INPUT: true; the input reads as it did. -/
def fnRuneLenSpec : ChangeSpec := { name := "fnRuneLen", fn := fun _ => fun
  | [d] => { results := [.lit (.bool true)], args := [d] }
  | _ => none }
def fnRuneLenRow : OpenClaim := { program := "yteinknonpejhgaa", sum := "dcb096acbdaa356612ea4fd4d0c7ee2e6896af0d9551813106e6ff35bc188183", func := "loop.example/lib-codeunits/laws.FnRuneLen", spec := "fnRuneLen", apart := false }
def FnRuneLenSaid : Prop := fnRuneLenRow.holds Try.pinned (OpenSpec.ofChange fnRuneLenSpec)

/-- ITS FALSE NEIGHBOUR: 'it returns false'. Refute it at one input. -/
def fnRuneLenWrong : ChangeSpec := { name := "fnRuneLen", fn := fun _ => fun
  | [d] => { results := [.lit (.bool false)], args := [d] }
  | _ => none }
def FnRuneLenWrongFalsely : Prop := fnRuneLenRow.holds Try.pinned (OpenSpec.ofChange fnRuneLenWrong)

/- THE SECOND FORM. 'bulk': how many values and letters a reading holds, each counted each time it is reached (what is shared counts as often as it is met; a slice's spare places count too). A statement '..UptoSaid' is the law's where the arguments, and the package variables that the reading takes, are together of bulk at most 1048576: NARROWER than '..Said'. Prove '..Said' where nothing that the law and all that it calls make is longer than what came in: it says more and counts as full. Else prove '..UptoSaid'. A law counts once. -/
mutual
def uptoBulk {H : Type} : DataW H → Nat
  | .lit (.string bytes) => bytes.length + 1
  | .lit _ => 1
  | .nil => 1
  | .ptr d => uptoBulk d + 1
  | .slice elems spare => uptoBulkAll elems + uptoBulkAll spare + 1
  | .agg parts => uptoBulkAll parts + 1
  | .iface _ d => uptoBulk d + 1
  | .map entries => uptoBulkEntries entries + 1
  | .held _ => 1
def uptoBulkAll {H : Type} : List (DataW H) → Nat
  | [] => 0
  | d :: r => uptoBulk d + uptoBulkAll r
def uptoBulkEntries {H : Type} : List (Lit × DataW H) → Nat
  | [] => 0
  | x :: r => uptoBulkEntry x + uptoBulkEntries r
def uptoBulkEntry {H : Type} : Lit × DataW H → Nat
  | (.string bytes, d) => bytes.length + uptoBulk d + 1
  | (_, d) => uptoBulk d + 1
 end
def uptoSmall : (H : Type) → List (DataW H) → Bool := fun _ ds => decide (uptoBulkAll ds ≤ 1048576)
def OpenSpec.upto (s : _root_.Go.ChangeSpec) : _root_.Go.OpenSpec := { _root_.Go.OpenSpec.ofChange s with cond := some uptoSmall }

/-- 'laws.FnExactTextRunes', WHERE WHAT IT READS IS OF BULK AT MOST 1048576: true; the input reads as it did. -/
def fnExactTextRunesUptoRow : OpenClaim := { program := "yteinknonpejhgaa", sum := "dcb096acbdaa356612ea4fd4d0c7ee2e6896af0d9551813106e6ff35bc188183", func := "loop.example/lib-codeunits/laws.FnExactTextRunes", spec := "fnExactTextRunes", apart := false, narrowed := true }
def FnExactTextRunesUptoSaid : Prop := fnExactTextRunesUptoRow.holds Try.pinned (OpenSpec.upto fnExactTextRunesSpec)

/-- 'laws.FnTextRunes', WHERE WHAT IT READS IS OF BULK AT MOST 1048576: true; the input reads as it did. -/
def fnTextRunesUptoRow : OpenClaim := { program := "yteinknonpejhgaa", sum := "dcb096acbdaa356612ea4fd4d0c7ee2e6896af0d9551813106e6ff35bc188183", func := "loop.example/lib-codeunits/laws.FnTextRunes", spec := "fnTextRunes", apart := false, narrowed := true }
def FnTextRunesUptoSaid : Prop := fnTextRunesUptoRow.holds Try.pinned (OpenSpec.upto fnTextRunesSpec)

/-- 'laws.FnExactIsSurrogate', WHERE WHAT IT READS IS OF BULK AT MOST 1048576: true; the input reads as it did. -/
def fnExactIsSurrogateUptoRow : OpenClaim := { program := "yteinknonpejhgaa", sum := "dcb096acbdaa356612ea4fd4d0c7ee2e6896af0d9551813106e6ff35bc188183", func := "loop.example/lib-codeunits/laws.FnExactIsSurrogate", spec := "fnExactIsSurrogate", apart := false, narrowed := true }
def FnExactIsSurrogateUptoSaid : Prop := fnExactIsSurrogateUptoRow.holds Try.pinned (OpenSpec.upto fnExactIsSurrogateSpec)

/-- 'laws.FnDecodeRune', WHERE WHAT IT READS IS OF BULK AT MOST 1048576: true; the input reads as it did. -/
def fnDecodeRuneUptoRow : OpenClaim := { program := "yteinknonpejhgaa", sum := "dcb096acbdaa356612ea4fd4d0c7ee2e6896af0d9551813106e6ff35bc188183", func := "loop.example/lib-codeunits/laws.FnDecodeRune", spec := "fnDecodeRune", apart := false, narrowed := true }
def FnDecodeRuneUptoSaid : Prop := fnDecodeRuneUptoRow.holds Try.pinned (OpenSpec.upto fnDecodeRuneSpec)

/-- 'laws.FnDecodeRuneRange', WHERE WHAT IT READS IS OF BULK AT MOST 1048576: true; the input reads as it did. -/
def fnDecodeRuneRangeUptoRow : OpenClaim := { program := "yteinknonpejhgaa", sum := "dcb096acbdaa356612ea4fd4d0c7ee2e6896af0d9551813106e6ff35bc188183", func := "loop.example/lib-codeunits/laws.FnDecodeRuneRange", spec := "fnDecodeRuneRange", apart := false, narrowed := true }
def FnDecodeRuneRangeUptoSaid : Prop := fnDecodeRuneRangeUptoRow.holds Try.pinned (OpenSpec.upto fnDecodeRuneRangeSpec)

/-- 'laws.FnDecodeRuneTurned', WHERE WHAT IT READS IS OF BULK AT MOST 1048576: true; the input reads as it did. -/
def fnDecodeRuneTurnedUptoRow : OpenClaim := { program := "yteinknonpejhgaa", sum := "dcb096acbdaa356612ea4fd4d0c7ee2e6896af0d9551813106e6ff35bc188183", func := "loop.example/lib-codeunits/laws.FnDecodeRuneTurned", spec := "fnDecodeRuneTurned", apart := false, narrowed := true }
def FnDecodeRuneTurnedUptoSaid : Prop := fnDecodeRuneTurnedUptoRow.holds Try.pinned (OpenSpec.upto fnDecodeRuneTurnedSpec)

/-- 'laws.FnEncodeDecode', WHERE WHAT IT READS IS OF BULK AT MOST 1048576: true; the input reads as it did. -/
def fnEncodeDecodeUptoRow : OpenClaim := { program := "yteinknonpejhgaa", sum := "dcb096acbdaa356612ea4fd4d0c7ee2e6896af0d9551813106e6ff35bc188183", func := "loop.example/lib-codeunits/laws.FnEncodeDecode", spec := "fnEncodeDecode", apart := false, narrowed := true }
def FnEncodeDecodeUptoSaid : Prop := fnEncodeDecodeUptoRow.holds Try.pinned (OpenSpec.upto fnEncodeDecodeSpec)

/-- 'laws.FnExactDecodeRune', WHERE WHAT IT READS IS OF BULK AT MOST 1048576: true; the input reads as it did. -/
def fnExactDecodeRuneUptoRow : OpenClaim := { program := "yteinknonpejhgaa", sum := "dcb096acbdaa356612ea4fd4d0c7ee2e6896af0d9551813106e6ff35bc188183", func := "loop.example/lib-codeunits/laws.FnExactDecodeRune", spec := "fnExactDecodeRune", apart := false, narrowed := true }
def FnExactDecodeRuneUptoSaid : Prop := fnExactDecodeRuneUptoRow.holds Try.pinned (OpenSpec.upto fnExactDecodeRuneSpec)

/-- 'laws.FnEncodeRune', WHERE WHAT IT READS IS OF BULK AT MOST 1048576: true; the input reads as it did. -/
def fnEncodeRuneUptoRow : OpenClaim := { program := "yteinknonpejhgaa", sum := "dcb096acbdaa356612ea4fd4d0c7ee2e6896af0d9551813106e6ff35bc188183", func := "loop.example/lib-codeunits/laws.FnEncodeRune", spec := "fnEncodeRune", apart := false, narrowed := true }
def FnEncodeRuneUptoSaid : Prop := fnEncodeRuneUptoRow.holds Try.pinned (OpenSpec.upto fnEncodeRuneSpec)

/-- 'laws.FnExactEncodeRune', WHERE WHAT IT READS IS OF BULK AT MOST 1048576: true; the input reads as it did. -/
def fnExactEncodeRuneUptoRow : OpenClaim := { program := "yteinknonpejhgaa", sum := "dcb096acbdaa356612ea4fd4d0c7ee2e6896af0d9551813106e6ff35bc188183", func := "loop.example/lib-codeunits/laws.FnExactEncodeRune", spec := "fnExactEncodeRune", apart := false, narrowed := true }
def FnExactEncodeRuneUptoSaid : Prop := fnExactEncodeRuneUptoRow.holds Try.pinned (OpenSpec.upto fnExactEncodeRuneSpec)

/-- 'laws.FnExactRuneLen', WHERE WHAT IT READS IS OF BULK AT MOST 1048576: true; the input reads as it did. -/
def fnExactRuneLenUptoRow : OpenClaim := { program := "yteinknonpejhgaa", sum := "dcb096acbdaa356612ea4fd4d0c7ee2e6896af0d9551813106e6ff35bc188183", func := "loop.example/lib-codeunits/laws.FnExactRuneLen", spec := "fnExactRuneLen", apart := false, narrowed := true }
def FnExactRuneLenUptoSaid : Prop := fnExactRuneLenUptoRow.holds Try.pinned (OpenSpec.upto fnExactRuneLenSpec)

/-- 'laws.FnRuneLen', WHERE WHAT IT READS IS OF BULK AT MOST 1048576: true; the input reads as it did. -/
def fnRuneLenUptoRow : OpenClaim := { program := "yteinknonpejhgaa", sum := "dcb096acbdaa356612ea4fd4d0c7ee2e6896af0d9551813106e6ff35bc188183", func := "loop.example/lib-codeunits/laws.FnRuneLen", spec := "fnRuneLen", apart := false, narrowed := true }
def FnRuneLenUptoSaid : Prop := fnRuneLenUptoRow.holds Try.pinned (OpenSpec.upto fnRuneLenSpec)

end Rows
end Go.Proofs.Yteinknonpejhgaa
