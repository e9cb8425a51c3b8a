/-
  No cell of these rows narrows 'for every input' (looked for: loops, veiled, ifaces, maps, wideKeys, modest, calm, conditions, laid).
  DERIVED. THE GIVEN ROWS OF THIS SEAT. 12 by the template 'for every input the law returns true; each argument reads behind the call as it read before'; 0 by the template 'total and deterministic' (their statements: YtmbhlicgljjmlaaTotals.lean).
  GIVEN WITH THE SEED: the statements are not yours to turn. If you find one false, say at which input.
  Laid BY PROGRAM, IN A SANDBOX (cutbox-rows.mjs): the forced cells as the released guide's own fill.sh prints them over the translation 05fba030a0beb21d… (all of the seat's roots in one cut). By AI agents, Wed Nov 11 2026. No macro, syntax, notation, axiom, sorry.
-/
import Derived.Test.YtmbhlicgljjmlaaChecked
import GoSem.Claim
import GoSem.ClaimJoined
import GoSem.ClaimMapViews
import Derived.JoinedTies
import Derived.KernelRfl
namespace Go.Proofs.Ytmbhlicgljjmlaa
/- THE CELL 'sum', in the pinned program and in every row, IS THE sha256 OF THE DUMP (.gsa) THAT YtmbhlicgljjmlaaProg.lean LOADS. Nothing in Lean hashes anything: it is a label: what it is worth is what the hold of that sum in a sandbox is worth. -/
noncomputable def Try.pinned : Pinned := { name := "ytmbhlicgljjmlaa", sum := "05fba030a0beb21dababaa910a2576143600fd1f6878e2b930f8774868a2a990", checked := Try.checked }
namespace Rows
def none {H : Type} : Left H := { results := [], args := [] }

/-- 'laws.FnAppendRune': WHATEVER THE INPUT: true; the input reads as it did. -/
def fnAppendRuneSpec : ChangeSpec := { name := "fnAppendRune", fn := fun _ => fun
  | [d] => { results := [.lit (.bool true)], args := [d] }
  | _ => none }
def fnAppendRuneRow : OpenClaim := { program := "ytmbhlicgljjmlaa", sum := "05fba030a0beb21dababaa910a2576143600fd1f6878e2b930f8774868a2a990", func := "loop.example/lib-codeunits/laws.FnAppendRune", spec := "fnAppendRune", apart := false }
def FnAppendRuneSaid : Prop := fnAppendRuneRow.holds Try.pinned (OpenSpec.ofChange fnAppendRuneSpec)

/-- ITS FALSE NEIGHBOUR: 'it returns false'. Refute it at one input. -/
def fnAppendRuneWrong : ChangeSpec := { name := "fnAppendRune", fn := fun _ => fun
  | [d] => { results := [.lit (.bool false)], args := [d] }
  | _ => none }
def FnAppendRuneWrongFalsely : Prop := fnAppendRuneRow.holds Try.pinned (OpenSpec.ofChange fnAppendRuneWrong)

/-- 'laws.FnDecodeRuneEncode': WHATEVER THE INPUT: true; the input reads as it did. -/
def fnDecodeRuneEncodeSpec : ChangeSpec := { name := "fnDecodeRuneEncode", fn := fun _ => fun
  | [d] => { results := [.lit (.bool true)], args := [d] }
  | _ => none }
def fnDecodeRuneEncodeRow : OpenClaim := { program := "ytmbhlicgljjmlaa", sum := "05fba030a0beb21dababaa910a2576143600fd1f6878e2b930f8774868a2a990", func := "loop.example/lib-codeunits/laws.FnDecodeRuneEncode", spec := "fnDecodeRuneEncode", apart := false }
def FnDecodeRuneEncodeSaid : Prop := fnDecodeRuneEncodeRow.holds Try.pinned (OpenSpec.ofChange fnDecodeRuneEncodeSpec)

/-- ITS FALSE NEIGHBOUR: 'it returns false'. Refute it at one input. -/
def fnDecodeRuneEncodeWrong : ChangeSpec := { name := "fnDecodeRuneEncode", fn := fun _ => fun
  | [d] => { results := [.lit (.bool false)], args := [d] }
  | _ => none }
def FnDecodeRuneEncodeWrongFalsely : Prop := fnDecodeRuneEncodeRow.holds Try.pinned (OpenSpec.ofChange fnDecodeRuneEncodeWrong)

/-- 'laws.FnDecode': WHATEVER THE INPUT: true; the input reads as it did. -/
def fnDecodeSpec : ChangeSpec := { name := "fnDecode", fn := fun _ => fun
  | [d] => { results := [.lit (.bool true)], args := [d] }
  | _ => none }
def fnDecodeRow : OpenClaim := { program := "ytmbhlicgljjmlaa", sum := "05fba030a0beb21dababaa910a2576143600fd1f6878e2b930f8774868a2a990", func := "loop.example/lib-codeunits/laws.FnDecode", spec := "fnDecode", apart := false }
def FnDecodeSaid : Prop := fnDecodeRow.holds Try.pinned (OpenSpec.ofChange fnDecodeSpec)

/-- ITS FALSE NEIGHBOUR: 'it returns false'. Refute it at one input. -/
def fnDecodeWrong : ChangeSpec := { name := "fnDecode", fn := fun _ => fun
  | [d] => { results := [.lit (.bool false)], args := [d] }
  | _ => none }
def FnDecodeWrongFalsely : Prop := fnDecodeRow.holds Try.pinned (OpenSpec.ofChange fnDecodeWrong)

/-- 'laws.FnDecodeAlone': WHATEVER THE INPUT: true; the input reads as it did. -/
def fnDecodeAloneSpec : ChangeSpec := { name := "fnDecodeAlone", fn := fun _ => fun
  | [d] => { results := [.lit (.bool true)], args := [d] }
  | _ => none }
def fnDecodeAloneRow : OpenClaim := { program := "ytmbhlicgljjmlaa", sum := "05fba030a0beb21dababaa910a2576143600fd1f6878e2b930f8774868a2a990", func := "loop.example/lib-codeunits/laws.FnDecodeAlone", spec := "fnDecodeAlone", apart := false }
def FnDecodeAloneSaid : Prop := fnDecodeAloneRow.holds Try.pinned (OpenSpec.ofChange fnDecodeAloneSpec)

/-- ITS FALSE NEIGHBOUR: 'it returns false'. Refute it at one input. -/
def fnDecodeAloneWrong : ChangeSpec := { name := "fnDecodeAlone", fn := fun _ => fun
  | [d] => { results := [.lit (.bool false)], args := [d] }
  | _ => none }
def FnDecodeAloneWrongFalsely : Prop := fnDecodeAloneRow.holds Try.pinned (OpenSpec.ofChange fnDecodeAloneWrong)

/-- 'laws.FnDecodeJoinWhole': WHATEVER THE INPUT: true; the input reads as it did. -/
def fnDecodeJoinWholeSpec : ChangeSpec := { name := "fnDecodeJoinWhole", fn := fun _ => fun
  | [d1, d2] => { results := [.lit (.bool true)], args := [d1, d2] }
  | _ => none }
def fnDecodeJoinWholeRow : OpenClaim := { program := "ytmbhlicgljjmlaa", sum := "05fba030a0beb21dababaa910a2576143600fd1f6878e2b930f8774868a2a990", func := "loop.example/lib-codeunits/laws.FnDecodeJoinWhole", spec := "fnDecodeJoinWhole", apart := false }
def FnDecodeJoinWholeSaid : Prop := fnDecodeJoinWholeRow.holds Try.pinned (OpenSpec.ofChange fnDecodeJoinWholeSpec)

/-- ITS FALSE NEIGHBOUR: 'it returns false'. Refute it at one input. -/
def fnDecodeJoinWholeWrong : ChangeSpec := { name := "fnDecodeJoinWhole", fn := fun _ => fun
  | [d1, d2] => { results := [.lit (.bool false)], args := [d1, d2] }
  | _ => none }
def FnDecodeJoinWholeWrongFalsely : Prop := fnDecodeJoinWholeRow.holds Try.pinned (OpenSpec.ofChange fnDecodeJoinWholeWrong)

/-- 'laws.FnDecodeLen': WHATEVER THE INPUT: true; the input reads as it did. -/
def fnDecodeLenSpec : ChangeSpec := { name := "fnDecodeLen", fn := fun _ => fun
  | [d] => { results := [.lit (.bool true)], args := [d] }
  | _ => none }
def fnDecodeLenRow : OpenClaim := { program := "ytmbhlicgljjmlaa", sum := "05fba030a0beb21dababaa910a2576143600fd1f6878e2b930f8774868a2a990", func := "loop.example/lib-codeunits/laws.FnDecodeLen", spec := "fnDecodeLen", apart := false }
def FnDecodeLenSaid : Prop := fnDecodeLenRow.holds Try.pinned (OpenSpec.ofChange fnDecodeLenSpec)

/-- ITS FALSE NEIGHBOUR: 'it returns false'. Refute it at one input. -/
def fnDecodeLenWrong : ChangeSpec := { name := "fnDecodeLen", fn := fun _ => fun
  | [d] => { results := [.lit (.bool false)], args := [d] }
  | _ => none }
def FnDecodeLenWrongFalsely : Prop := fnDecodeLenRow.holds Try.pinned (OpenSpec.ofChange fnDecodeLenWrong)

/-- 'laws.FnDecodeSame': WHATEVER THE INPUT: true; the input reads as it did. -/
def fnDecodeSameSpec : ChangeSpec := { name := "fnDecodeSame", fn := fun _ => fun
  | [d1, d2] => { results := [.lit (.bool true)], args := [d1, d2] }
  | _ => none }
def fnDecodeSameRow : OpenClaim := { program := "ytmbhlicgljjmlaa", sum := "05fba030a0beb21dababaa910a2576143600fd1f6878e2b930f8774868a2a990", func := "loop.example/lib-codeunits/laws.FnDecodeSame", spec := "fnDecodeSame", apart := false }
def FnDecodeSameSaid : Prop := fnDecodeSameRow.holds Try.pinned (OpenSpec.ofChange fnDecodeSameSpec)

/-- ITS FALSE NEIGHBOUR: 'it returns false'. Refute it at one input. -/
def fnDecodeSameWrong : ChangeSpec := { name := "fnDecodeSame", fn := fun _ => fun
  | [d1, d2] => { results := [.lit (.bool false)], args := [d1, d2] }
  | _ => none }
def FnDecodeSameWrongFalsely : Prop := fnDecodeSameRow.holds Try.pinned (OpenSpec.ofChange fnDecodeSameWrong)

/-- 'laws.FnDecodeWrong': WHATEVER THE INPUT: true; the input reads as it did. -/
def fnDecodeWrongSpec : ChangeSpec := { name := "fnDecodeWrong", fn := fun _ => fun
  | [d] => { results := [.lit (.bool true)], args := [d] }
  | _ => none }
def fnDecodeWrongRow : OpenClaim := { program := "ytmbhlicgljjmlaa", sum := "05fba030a0beb21dababaa910a2576143600fd1f6878e2b930f8774868a2a990", func := "loop.example/lib-codeunits/laws.FnDecodeWrong", spec := "fnDecodeWrong", apart := false }
def FnDecodeWrongSaid : Prop := fnDecodeWrongRow.holds Try.pinned (OpenSpec.ofChange fnDecodeWrongSpec)

/-- ITS FALSE NEIGHBOUR: 'it returns false'. Refute it at one input. -/
def fnDecodeWrongWrong : ChangeSpec := { name := "fnDecodeWrong", fn := fun _ => fun
  | [d] => { results := [.lit (.bool false)], args := [d] }
  | _ => none }
def FnDecodeWrongWrongFalsely : Prop := fnDecodeWrongRow.holds Try.pinned (OpenSpec.ofChange fnDecodeWrongWrong)

/-- 'laws.FnExactDecode': WHATEVER THE INPUT: true; the input reads as it did. -/
def fnExactDecodeSpec : ChangeSpec := { name := "fnExactDecode", fn := fun _ => fun
  | [d] => { results := [.lit (.bool true)], args := [d] }
  | _ => none }
def fnExactDecodeRow : OpenClaim := { program := "ytmbhlicgljjmlaa", sum := "05fba030a0beb21dababaa910a2576143600fd1f6878e2b930f8774868a2a990", func := "loop.example/lib-codeunits/laws.FnExactDecode", spec := "fnExactDecode", apart := false }
def FnExactDecodeSaid : Prop := fnExactDecodeRow.holds Try.pinned (OpenSpec.ofChange fnExactDecodeSpec)

/-- ITS FALSE NEIGHBOUR: 'it returns false'. Refute it at one input. -/
def fnExactDecodeWrong : ChangeSpec := { name := "fnExactDecode", fn := fun _ => fun
  | [d] => { results := [.lit (.bool false)], args := [d] }
  | _ => none }
def FnExactDecodeWrongFalsely : Prop := fnExactDecodeRow.holds Try.pinned (OpenSpec.ofChange fnExactDecodeWrong)

/-- 'laws.FnExactDecodeWrong': WHATEVER THE INPUT: true; the input reads as it did. -/
def fnExactDecodeWrongSpec : ChangeSpec := { name := "fnExactDecodeWrong", fn := fun _ => fun
  | [d] => { results := [.lit (.bool true)], args := [d] }
  | _ => none }
def fnExactDecodeWrongRow : OpenClaim := { program := "ytmbhlicgljjmlaa", sum := "05fba030a0beb21dababaa910a2576143600fd1f6878e2b930f8774868a2a990", func := "loop.example/lib-codeunits/laws.FnExactDecodeWrong", spec := "fnExactDecodeWrong", apart := false }
def FnExactDecodeWrongSaid : Prop := fnExactDecodeWrongRow.holds Try.pinned (OpenSpec.ofChange fnExactDecodeWrongSpec)

/-- ITS FALSE NEIGHBOUR: 'it returns false'. Refute it at one input. -/
def fnExactDecodeWrongWrong : ChangeSpec := { name := "fnExactDecodeWrong", fn := fun _ => fun
  | [d] => { results := [.lit (.bool false)], args := [d] }
  | _ => none }
def FnExactDecodeWrongWrongFalsely : Prop := fnExactDecodeWrongRow.holds Try.pinned (OpenSpec.ofChange fnExactDecodeWrongWrong)

/-- 'laws.FnAppendLen': WHATEVER THE INPUT: true; the input reads as it did. -/
def fnAppendLenSpec : ChangeSpec := { name := "fnAppendLen", fn := fun _ => fun
  | [d] => { results := [.lit (.bool true)], args := [d] }
  | _ => none }
def fnAppendLenRow : OpenClaim := { program := "ytmbhlicgljjmlaa", sum := "05fba030a0beb21dababaa910a2576143600fd1f6878e2b930f8774868a2a990", func := "loop.example/lib-codeunits/laws.FnAppendLen", spec := "fnAppendLen", apart := false }
def FnAppendLenSaid : Prop := fnAppendLenRow.holds Try.pinned (OpenSpec.ofChange fnAppendLenSpec)

/-- ITS FALSE NEIGHBOUR: 'it returns false'. Refute it at one input. -/
def fnAppendLenWrong : ChangeSpec := { name := "fnAppendLen", fn := fun _ => fun
  | [d] => { results := [.lit (.bool false)], args := [d] }
  | _ => none }
def FnAppendLenWrongFalsely : Prop := fnAppendLenRow.holds Try.pinned (OpenSpec.ofChange fnAppendLenWrong)

/-- 'laws.FnAppendOne': WHATEVER THE INPUT: true; the input reads as it did. -/
def fnAppendOneSpec : ChangeSpec := { name := "fnAppendOne", fn := fun _ => fun
  | [d] => { results := [.lit (.bool true)], args := [d] }
  | _ => none }
def fnAppendOneRow : OpenClaim := { program := "ytmbhlicgljjmlaa", sum := "05fba030a0beb21dababaa910a2576143600fd1f6878e2b930f8774868a2a990", func := "loop.example/lib-codeunits/laws.FnAppendOne", spec := "fnAppendOne", apart := false }
def FnAppendOneSaid : Prop := fnAppendOneRow.holds Try.pinned (OpenSpec.ofChange fnAppendOneSpec)

/-- ITS FALSE NEIGHBOUR: 'it returns false'. Refute it at one input. -/
def fnAppendOneWrong : ChangeSpec := { name := "fnAppendOne", fn := fun _ => fun
  | [d] => { results := [.lit (.bool false)], args := [d] }
  | _ => none }
def FnAppendOneWrongFalsely : Prop := fnAppendOneRow.holds Try.pinned (OpenSpec.ofChange fnAppendOneWrong)

/- THE SECOND FORM. 'bulk': how many values and letters a reading holds, each counted each time it is reached (what is shared counts as often as it is met; a slice's spare places count too). A statement '..UptoSaid' is the law's where the arguments, and the package variables that the reading takes, are together of bulk at most 1048576: NARROWER than '..Said'. Prove '..Said' where nothing that the law and all that it calls make is longer than what came in: it says more and counts as full. Else prove '..UptoSaid'. A law counts once. -/
mutual
def uptoBulk {H : Type} : DataW H → Nat
  | .lit (.string bytes) => bytes.length + 1
  | .lit _ => 1
  | .nil => 1
  | .ptr d => uptoBulk d + 1
  | .slice elems spare => uptoBulkAll elems + uptoBulkAll spare + 1
  | .agg parts => uptoBulkAll parts + 1
  | .iface _ d => uptoBulk d + 1
  | .map entries => uptoBulkEntries entries + 1
  | .held _ => 1
def uptoBulkAll {H : Type} : List (DataW H) → Nat
  | [] => 0
  | d :: r => uptoBulk d + uptoBulkAll r
def uptoBulkEntries {H : Type} : List (Lit × DataW H) → Nat
  | [] => 0
  | x :: r => uptoBulkEntry x + uptoBulkEntries r
def uptoBulkEntry {H : Type} : Lit × DataW H → Nat
  | (.string bytes, d) => bytes.length + uptoBulk d + 1
  | (_, d) => uptoBulk d + 1
 end
def uptoSmall : (H : Type) → List (DataW H) → Bool := fun _ ds => decide (uptoBulkAll ds ≤ 1048576)
def OpenSpec.upto (s : _root_.Go.ChangeSpec) : _root_.Go.OpenSpec := { _root_.Go.OpenSpec.ofChange s with cond := some uptoSmall }

/-- 'laws.FnAppendRune', WHERE WHAT IT READS IS OF BULK AT MOST 1048576: true; the input reads as it did. -/
def fnAppendRuneUptoRow : OpenClaim := { program := "ytmbhlicgljjmlaa", sum := "05fba030a0beb21dababaa910a2576143600fd1f6878e2b930f8774868a2a990", func := "loop.example/lib-codeunits/laws.FnAppendRune", spec := "fnAppendRune", apart := false, narrowed := true }
def FnAppendRuneUptoSaid : Prop := fnAppendRuneUptoRow.holds Try.pinned (OpenSpec.upto fnAppendRuneSpec)

/-- 'laws.FnDecodeRuneEncode', WHERE WHAT IT READS IS OF BULK AT MOST 1048576: true; the input reads as it did. -/
def fnDecodeRuneEncodeUptoRow : OpenClaim := { program := "ytmbhlicgljjmlaa", sum := "05fba030a0beb21dababaa910a2576143600fd1f6878e2b930f8774868a2a990", func := "loop.example/lib-codeunits/laws.FnDecodeRuneEncode", spec := "fnDecodeRuneEncode", apart := false, narrowed := true }
def FnDecodeRuneEncodeUptoSaid : Prop := fnDecodeRuneEncodeUptoRow.holds Try.pinned (OpenSpec.upto fnDecodeRuneEncodeSpec)

/-- 'laws.FnDecode', WHERE WHAT IT READS IS OF BULK AT MOST 1048576: true; the input reads as it did. -/
def fnDecodeUptoRow : OpenClaim := { program := "ytmbhlicgljjmlaa", sum := "05fba030a0beb21dababaa910a2576143600fd1f6878e2b930f8774868a2a990", func := "loop.example/lib-codeunits/laws.FnDecode", spec := "fnDecode", apart := false, narrowed := true }
def FnDecodeUptoSaid : Prop := fnDecodeUptoRow.holds Try.pinned (OpenSpec.upto fnDecodeSpec)

/-- 'laws.FnDecodeAlone', WHERE WHAT IT READS IS OF BULK AT MOST 1048576: true; the input reads as it did. -/
def fnDecodeAloneUptoRow : OpenClaim := { program := "ytmbhlicgljjmlaa", sum := "05fba030a0beb21dababaa910a2576143600fd1f6878e2b930f8774868a2a990", func := "loop.example/lib-codeunits/laws.FnDecodeAlone", spec := "fnDecodeAlone", apart := false, narrowed := true }
def FnDecodeAloneUptoSaid : Prop := fnDecodeAloneUptoRow.holds Try.pinned (OpenSpec.upto fnDecodeAloneSpec)

/-- 'laws.FnDecodeJoinWhole', WHERE WHAT IT READS IS OF BULK AT MOST 1048576: true; the input reads as it did. -/
def fnDecodeJoinWholeUptoRow : OpenClaim := { program := "ytmbhlicgljjmlaa", sum := "05fba030a0beb21dababaa910a2576143600fd1f6878e2b930f8774868a2a990", func := "loop.example/lib-codeunits/laws.FnDecodeJoinWhole", spec := "fnDecodeJoinWhole", apart := false, narrowed := true }
def FnDecodeJoinWholeUptoSaid : Prop := fnDecodeJoinWholeUptoRow.holds Try.pinned (OpenSpec.upto fnDecodeJoinWholeSpec)

/-- 'laws.FnDecodeLen', WHERE WHAT IT READS IS OF BULK AT MOST 1048576: true; the input reads as it did. -/
def fnDecodeLenUptoRow : OpenClaim := { program := "ytmbhlicgljjmlaa", sum := "05fba030a0beb21dababaa910a2576143600fd1f6878e2b930f8774868a2a990", func := "loop.example/lib-codeunits/laws.FnDecodeLen", spec := "fnDecodeLen", apart := false, narrowed := true }
def FnDecodeLenUptoSaid : Prop := fnDecodeLenUptoRow.holds Try.pinned (OpenSpec.upto fnDecodeLenSpec)

/-- 'laws.FnDecodeSame', WHERE WHAT IT READS IS OF BULK AT MOST 1048576: true; the input reads as it did. -/
def fnDecodeSameUptoRow : OpenClaim := { program := "ytmbhlicgljjmlaa", sum := "05fba030a0beb21dababaa910a2576143600fd1f6878e2b930f8774868a2a990", func := "loop.example/lib-codeunits/laws.FnDecodeSame", spec := "fnDecodeSame", apart := false, narrowed := true }
def FnDecodeSameUptoSaid : Prop := fnDecodeSameUptoRow.holds Try.pinned (OpenSpec.upto fnDecodeSameSpec)

/-- 'laws.FnDecodeWrong', WHERE WHAT IT READS IS OF BULK AT MOST 1048576: true; the input reads as it did. -/
def fnDecodeWrongUptoRow : OpenClaim := { program := "ytmbhlicgljjmlaa", sum := "05fba030a0beb21dababaa910a2576143600fd1f6878e2b930f8774868a2a990", func := "loop.example/lib-codeunits/laws.FnDecodeWrong", spec := "fnDecodeWrong", apart := false, narrowed := true }
def FnDecodeWrongUptoSaid : Prop := fnDecodeWrongUptoRow.holds Try.pinned (OpenSpec.upto fnDecodeWrongSpec)

/-- 'laws.FnExactDecode', WHERE WHAT IT READS IS OF BULK AT MOST 1048576: true; the input reads as it did. -/
def fnExactDecodeUptoRow : OpenClaim := { program := "ytmbhlicgljjmlaa", sum := "05fba030a0beb21dababaa910a2576143600fd1f6878e2b930f8774868a2a990", func := "loop.example/lib-codeunits/laws.FnExactDecode", spec := "fnExactDecode", apart := false, narrowed := true }
def FnExactDecodeUptoSaid : Prop := fnExactDecodeUptoRow.holds Try.pinned (OpenSpec.upto fnExactDecodeSpec)

/-- 'laws.FnExactDecodeWrong', WHERE WHAT IT READS IS OF BULK AT MOST 1048576: true; the input reads as it did. -/
def fnExactDecodeWrongUptoRow : OpenClaim := { program := "ytmbhlicgljjmlaa", sum := "05fba030a0beb21dababaa910a2576143600fd1f6878e2b930f8774868a2a990", func := "loop.example/lib-codeunits/laws.FnExactDecodeWrong", spec := "fnExactDecodeWrong", apart := false, narrowed := true }
def FnExactDecodeWrongUptoSaid : Prop := fnExactDecodeWrongUptoRow.holds Try.pinned (OpenSpec.upto fnExactDecodeWrongSpec)

/-- 'laws.FnAppendLen', WHERE WHAT IT READS IS OF BULK AT MOST 1048576: true; the input reads as it did. -/
def fnAppendLenUptoRow : OpenClaim := { program := "ytmbhlicgljjmlaa", sum := "05fba030a0beb21dababaa910a2576143600fd1f6878e2b930f8774868a2a990", func := "loop.example/lib-codeunits/laws.FnAppendLen", spec := "fnAppendLen", apart := false, narrowed := true }
def FnAppendLenUptoSaid : Prop := fnAppendLenUptoRow.holds Try.pinned (OpenSpec.upto fnAppendLenSpec)

/-- 'laws.FnAppendOne', WHERE WHAT IT READS IS OF BULK AT MOST 1048576: true; the input reads as it did. -/
def fnAppendOneUptoRow : OpenClaim := { program := "ytmbhlicgljjmlaa", sum := "05fba030a0beb21dababaa910a2576143600fd1f6878e2b930f8774868a2a990", func := "loop.example/lib-codeunits/laws.FnAppendOne", spec := "fnAppendOne", apart := false, narrowed := true }
def FnAppendOneUptoSaid : Prop := fnAppendOneUptoRow.holds Try.pinned (OpenSpec.upto fnAppendOneSpec)

end Rows
end Go.Proofs.Ytmbhlicgljjmlaa
