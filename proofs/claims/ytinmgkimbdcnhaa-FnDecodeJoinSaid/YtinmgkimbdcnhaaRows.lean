/-
  No cell of these rows narrows 'for every input' (looked for: loops, veiled, ifaces, maps, wideKeys, modest, calm, conditions, laid).
  DERIVED. THE GIVEN ROWS OF THIS SEAT. 12 by the template 'for every input the law returns true; each argument reads behind the call as it read before'; 0 by the template 'total and deterministic' (their statements: YtinmgkimbdcnhaaTotals.lean).
  GIVEN WITH THE SEED: the statements are not yours to turn. If you find one false, say at which input.
  Laid BY PROGRAM, IN A SANDBOX (cutbox-rows.mjs): the forced cells as the released guide's own fill.sh prints them over the translation ec7f7d4058b0879b… (all of the seat's roots in one cut). By AI agents, Wed Nov 11 2026. No macro, syntax, notation, axiom, sorry.
-/
import Derived.Test.YtinmgkimbdcnhaaChecked
import GoSem.Claim
import GoSem.ClaimJoined
import GoSem.ClaimMapViews
import Derived.JoinedTies
import Derived.KernelRfl
namespace Go.Proofs.Ytinmgkimbdcnhaa
/- THE CELL 'sum', in the pinned program and in every row, IS THE sha256 OF THE DUMP (.gsa) THAT YtinmgkimbdcnhaaProg.lean LOADS. Nothing in Lean hashes anything: it is a label: what it is worth is what the hold of that sum in a sandbox is worth. -/
noncomputable def Try.pinned : Pinned := { name := "ytinmgkimbdcnhaa", sum := "ec7f7d4058b0879bed0b8f870205352b574b66e0636a7d18899edeb26c718dab", checked := Try.checked }
namespace Rows
def none {H : Type} : Left H := { results := [], args := [] }

/-- 'laws.FnDecodeJoin': WHATEVER THE INPUT: true; the input reads as it did. -/
def fnDecodeJoinSpec : ChangeSpec := { name := "fnDecodeJoin", fn := fun _ => fun
  | [d1, d2] => { results := [.lit (.bool true)], args := [d1, d2] }
  | _ => none }
def fnDecodeJoinRow : OpenClaim := { program := "ytinmgkimbdcnhaa", sum := "ec7f7d4058b0879bed0b8f870205352b574b66e0636a7d18899edeb26c718dab", func := "loop.example/lib-codeunits/laws.FnDecodeJoin", spec := "fnDecodeJoin", apart := false }
def FnDecodeJoinSaid : Prop := fnDecodeJoinRow.holds Try.pinned (OpenSpec.ofChange fnDecodeJoinSpec)

/-- ITS FALSE NEIGHBOUR: 'it returns false'. Refute it at one input. -/
def fnDecodeJoinWrong : ChangeSpec := { name := "fnDecodeJoin", fn := fun _ => fun
  | [d1, d2] => { results := [.lit (.bool false)], args := [d1, d2] }
  | _ => none }
def FnDecodeJoinWrongFalsely : Prop := fnDecodeJoinRow.holds Try.pinned (OpenSpec.ofChange fnDecodeJoinWrong)

/-- 'laws.FnDecodePair': WHATEVER THE INPUT: true; the input reads as it did. -/
def fnDecodePairSpec : ChangeSpec := { name := "fnDecodePair", fn := fun _ => fun
  | [d] => { results := [.lit (.bool true)], args := [d] }
  | _ => none }
def fnDecodePairRow : OpenClaim := { program := "ytinmgkimbdcnhaa", sum := "ec7f7d4058b0879bed0b8f870205352b574b66e0636a7d18899edeb26c718dab", func := "loop.example/lib-codeunits/laws.FnDecodePair", spec := "fnDecodePair", apart := false }
def FnDecodePairSaid : Prop := fnDecodePairRow.holds Try.pinned (OpenSpec.ofChange fnDecodePairSpec)

/-- ITS FALSE NEIGHBOUR: 'it returns false'. Refute it at one input. -/
def fnDecodePairWrong : ChangeSpec := { name := "fnDecodePair", fn := fun _ => fun
  | [d] => { results := [.lit (.bool false)], args := [d] }
  | _ => none }
def FnDecodePairWrongFalsely : Prop := fnDecodePairRow.holds Try.pinned (OpenSpec.ofChange fnDecodePairWrong)

/-- 'laws.FnEncodeRuneDecode': WHATEVER THE INPUT: true; the input reads as it did. -/
def fnEncodeRuneDecodeSpec : ChangeSpec := { name := "fnEncodeRuneDecode", fn := fun _ => fun
  | [d] => { results := [.lit (.bool true)], args := [d] }
  | _ => none }
def fnEncodeRuneDecodeRow : OpenClaim := { program := "ytinmgkimbdcnhaa", sum := "ec7f7d4058b0879bed0b8f870205352b574b66e0636a7d18899edeb26c718dab", func := "loop.example/lib-codeunits/laws.FnEncodeRuneDecode", spec := "fnEncodeRuneDecode", apart := false }
def FnEncodeRuneDecodeSaid : Prop := fnEncodeRuneDecodeRow.holds Try.pinned (OpenSpec.ofChange fnEncodeRuneDecodeSpec)

/-- ITS FALSE NEIGHBOUR: 'it returns false'. Refute it at one input. -/
def fnEncodeRuneDecodeWrong : ChangeSpec := { name := "fnEncodeRuneDecode", fn := fun _ => fun
  | [d] => { results := [.lit (.bool false)], args := [d] }
  | _ => none }
def FnEncodeRuneDecodeWrongFalsely : Prop := fnEncodeRuneDecodeRow.holds Try.pinned (OpenSpec.ofChange fnEncodeRuneDecodeWrong)

/-- 'laws.FnAppendPair': WHATEVER THE INPUT: true; the input reads as it did. -/
def fnAppendPairSpec : ChangeSpec := { name := "fnAppendPair", fn := fun _ => fun
  | [d] => { results := [.lit (.bool true)], args := [d] }
  | _ => none }
def fnAppendPairRow : OpenClaim := { program := "ytinmgkimbdcnhaa", sum := "ec7f7d4058b0879bed0b8f870205352b574b66e0636a7d18899edeb26c718dab", func := "loop.example/lib-codeunits/laws.FnAppendPair", spec := "fnAppendPair", apart := false }
def FnAppendPairSaid : Prop := fnAppendPairRow.holds Try.pinned (OpenSpec.ofChange fnAppendPairSpec)

/-- ITS FALSE NEIGHBOUR: 'it returns false'. Refute it at one input. -/
def fnAppendPairWrong : ChangeSpec := { name := "fnAppendPair", fn := fun _ => fun
  | [d] => { results := [.lit (.bool false)], args := [d] }
  | _ => none }
def FnAppendPairWrongFalsely : Prop := fnAppendPairRow.holds Try.pinned (OpenSpec.ofChange fnAppendPairWrong)

/-- 'laws.FnDecodeUnit': WHATEVER THE INPUT: true; the input reads as it did. -/
def fnDecodeUnitSpec : ChangeSpec := { name := "fnDecodeUnit", fn := fun _ => fun
  | [d] => { results := [.lit (.bool true)], args := [d] }
  | _ => none }
def fnDecodeUnitRow : OpenClaim := { program := "ytinmgkimbdcnhaa", sum := "ec7f7d4058b0879bed0b8f870205352b574b66e0636a7d18899edeb26c718dab", func := "loop.example/lib-codeunits/laws.FnDecodeUnit", spec := "fnDecodeUnit", apart := false }
def FnDecodeUnitSaid : Prop := fnDecodeUnitRow.holds Try.pinned (OpenSpec.ofChange fnDecodeUnitSpec)

/-- ITS FALSE NEIGHBOUR: 'it returns false'. Refute it at one input. -/
def fnDecodeUnitWrong : ChangeSpec := { name := "fnDecodeUnit", fn := fun _ => fun
  | [d] => { results := [.lit (.bool false)], args := [d] }
  | _ => none }
def FnDecodeUnitWrongFalsely : Prop := fnDecodeUnitRow.holds Try.pinned (OpenSpec.ofChange fnDecodeUnitWrong)

/-- 'laws.FnEncode': WHATEVER THE INPUT: true; the input reads as it did. -/
def fnEncodeSpec : ChangeSpec := { name := "fnEncode", fn := fun _ => fun
  | [d] => { results := [.lit (.bool true)], args := [d] }
  | _ => none }
def fnEncodeRow : OpenClaim := { program := "ytinmgkimbdcnhaa", sum := "ec7f7d4058b0879bed0b8f870205352b574b66e0636a7d18899edeb26c718dab", func := "loop.example/lib-codeunits/laws.FnEncode", spec := "fnEncode", apart := false }
def FnEncodeSaid : Prop := fnEncodeRow.holds Try.pinned (OpenSpec.ofChange fnEncodeSpec)

/-- ITS FALSE NEIGHBOUR: 'it returns false'. Refute it at one input. -/
def fnEncodeWrong : ChangeSpec := { name := "fnEncode", fn := fun _ => fun
  | [d] => { results := [.lit (.bool false)], args := [d] }
  | _ => none }
def FnEncodeWrongFalsely : Prop := fnEncodeRow.holds Try.pinned (OpenSpec.ofChange fnEncodeWrong)

/-- 'laws.FnEncodeJoin': WHATEVER THE INPUT: true; the input reads as it did. -/
def fnEncodeJoinSpec : ChangeSpec := { name := "fnEncodeJoin", fn := fun _ => fun
  | [d1, d2] => { results := [.lit (.bool true)], args := [d1, d2] }
  | _ => none }
def fnEncodeJoinRow : OpenClaim := { program := "ytinmgkimbdcnhaa", sum := "ec7f7d4058b0879bed0b8f870205352b574b66e0636a7d18899edeb26c718dab", func := "loop.example/lib-codeunits/laws.FnEncodeJoin", spec := "fnEncodeJoin", apart := false }
def FnEncodeJoinSaid : Prop := fnEncodeJoinRow.holds Try.pinned (OpenSpec.ofChange fnEncodeJoinSpec)

/-- ITS FALSE NEIGHBOUR: 'it returns false'. Refute it at one input. -/
def fnEncodeJoinWrong : ChangeSpec := { name := "fnEncodeJoin", fn := fun _ => fun
  | [d1, d2] => { results := [.lit (.bool false)], args := [d1, d2] }
  | _ => none }
def FnEncodeJoinWrongFalsely : Prop := fnEncodeJoinRow.holds Try.pinned (OpenSpec.ofChange fnEncodeJoinWrong)

/-- 'laws.FnEncodeSame': WHATEVER THE INPUT: true; the input reads as it did. -/
def fnEncodeSameSpec : ChangeSpec := { name := "fnEncodeSame", fn := fun _ => fun
  | [d1, d2] => { results := [.lit (.bool true)], args := [d1, d2] }
  | _ => none }
def fnEncodeSameRow : OpenClaim := { program := "ytinmgkimbdcnhaa", sum := "ec7f7d4058b0879bed0b8f870205352b574b66e0636a7d18899edeb26c718dab", func := "loop.example/lib-codeunits/laws.FnEncodeSame", spec := "fnEncodeSame", apart := false }
def FnEncodeSameSaid : Prop := fnEncodeSameRow.holds Try.pinned (OpenSpec.ofChange fnEncodeSameSpec)

/-- ITS FALSE NEIGHBOUR: 'it returns false'. Refute it at one input. -/
def fnEncodeSameWrong : ChangeSpec := { name := "fnEncodeSame", fn := fun _ => fun
  | [d1, d2] => { results := [.lit (.bool false)], args := [d1, d2] }
  | _ => none }
def FnEncodeSameWrongFalsely : Prop := fnEncodeSameRow.holds Try.pinned (OpenSpec.ofChange fnEncodeSameWrong)

/-- 'laws.FnEncodeWrong': WHATEVER THE INPUT: true; the input reads as it did. -/
def fnEncodeWrongSpec : ChangeSpec := { name := "fnEncodeWrong", fn := fun _ => fun
  | [d] => { results := [.lit (.bool true)], args := [d] }
  | _ => none }
def fnEncodeWrongRow : OpenClaim := { program := "ytinmgkimbdcnhaa", sum := "ec7f7d4058b0879bed0b8f870205352b574b66e0636a7d18899edeb26c718dab", func := "loop.example/lib-codeunits/laws.FnEncodeWrong", spec := "fnEncodeWrong", apart := false }
def FnEncodeWrongSaid : Prop := fnEncodeWrongRow.holds Try.pinned (OpenSpec.ofChange fnEncodeWrongSpec)

/-- ITS FALSE NEIGHBOUR: 'it returns false'. Refute it at one input. -/
def fnEncodeWrongWrong : ChangeSpec := { name := "fnEncodeWrong", fn := fun _ => fun
  | [d] => { results := [.lit (.bool false)], args := [d] }
  | _ => none }
def FnEncodeWrongWrongFalsely : Prop := fnEncodeWrongRow.holds Try.pinned (OpenSpec.ofChange fnEncodeWrongWrong)

/-- 'laws.FnExactEncode': WHATEVER THE INPUT: true; the input reads as it did. -/
def fnExactEncodeSpec : ChangeSpec := { name := "fnExactEncode", fn := fun _ => fun
  | [d] => { results := [.lit (.bool true)], args := [d] }
  | _ => none }
def fnExactEncodeRow : OpenClaim := { program := "ytinmgkimbdcnhaa", sum := "ec7f7d4058b0879bed0b8f870205352b574b66e0636a7d18899edeb26c718dab", func := "loop.example/lib-codeunits/laws.FnExactEncode", spec := "fnExactEncode", apart := false }
def FnExactEncodeSaid : Prop := fnExactEncodeRow.holds Try.pinned (OpenSpec.ofChange fnExactEncodeSpec)

/-- ITS FALSE NEIGHBOUR: 'it returns false'. Refute it at one input. -/
def fnExactEncodeWrong : ChangeSpec := { name := "fnExactEncode", fn := fun _ => fun
  | [d] => { results := [.lit (.bool false)], args := [d] }
  | _ => none }
def FnExactEncodeWrongFalsely : Prop := fnExactEncodeRow.holds Try.pinned (OpenSpec.ofChange fnExactEncodeWrong)

/-- 'laws.FnExactEncodeWrong': WHATEVER THE INPUT: true; the input reads as it did. -/
def fnExactEncodeWrongSpec : ChangeSpec := { name := "fnExactEncodeWrong", fn := fun _ => fun
  | [d] => { results := [.lit (.bool true)], args := [d] }
  | _ => none }
def fnExactEncodeWrongRow : OpenClaim := { program := "ytinmgkimbdcnhaa", sum := "ec7f7d4058b0879bed0b8f870205352b574b66e0636a7d18899edeb26c718dab", func := "loop.example/lib-codeunits/laws.FnExactEncodeWrong", spec := "fnExactEncodeWrong", apart := false }
def FnExactEncodeWrongSaid : Prop := fnExactEncodeWrongRow.holds Try.pinned (OpenSpec.ofChange fnExactEncodeWrongSpec)

/-- ITS FALSE NEIGHBOUR: 'it returns false'. Refute it at one input. -/
def fnExactEncodeWrongWrong : ChangeSpec := { name := "fnExactEncodeWrong", fn := fun _ => fun
  | [d] => { results := [.lit (.bool false)], args := [d] }
  | _ => none }
def FnExactEncodeWrongWrongFalsely : Prop := fnExactEncodeWrongRow.holds Try.pinned (OpenSpec.ofChange fnExactEncodeWrongWrong)

/-- 'laws.FnEncodeLen': WHATEVER THE INPUT: true; the input reads as it did. -/
def fnEncodeLenSpec : ChangeSpec := { name := "fnEncodeLen", fn := fun _ => fun
  | [d] => { results := [.lit (.bool true)], args := [d] }
  | _ => none }
def fnEncodeLenRow : OpenClaim := { program := "ytinmgkimbdcnhaa", sum := "ec7f7d4058b0879bed0b8f870205352b574b66e0636a7d18899edeb26c718dab", func := "loop.example/lib-codeunits/laws.FnEncodeLen", spec := "fnEncodeLen", apart := false }
def FnEncodeLenSaid : Prop := fnEncodeLenRow.holds Try.pinned (OpenSpec.ofChange fnEncodeLenSpec)

/-- ITS FALSE NEIGHBOUR: 'it returns false'. Refute it at one input. -/
def fnEncodeLenWrong : ChangeSpec := { name := "fnEncodeLen", fn := fun _ => fun
  | [d] => { results := [.lit (.bool false)], args := [d] }
  | _ => none }
def FnEncodeLenWrongFalsely : Prop := fnEncodeLenRow.holds Try.pinned (OpenSpec.ofChange fnEncodeLenWrong)

/- THE SECOND FORM. 'bulk': how many values and letters a reading holds, each counted each time it is reached (what is shared counts as often as it is met; a slice's spare places count too). A statement '..UptoSaid' is the law's where the arguments, and the package variables that the reading takes, are together of bulk at most 1048576: NARROWER than '..Said'. Prove '..Said' where nothing that the law and all that it calls make is longer than what came in: it says more and counts as full. Else prove '..UptoSaid'. A law counts once. -/
mutual
def uptoBulk {H : Type} : DataW H → Nat
  | .lit (.string bytes) => bytes.length + 1
  | .lit _ => 1
  | .nil => 1
  | .ptr d => uptoBulk d + 1
  | .slice elems spare => uptoBulkAll elems + uptoBulkAll spare + 1
  | .agg parts => uptoBulkAll parts + 1
  | .iface _ d => uptoBulk d + 1
  | .map entries => uptoBulkEntries entries + 1
  | .held _ => 1
def uptoBulkAll {H : Type} : List (DataW H) → Nat
  | [] => 0
  | d :: r => uptoBulk d + uptoBulkAll r
def uptoBulkEntries {H : Type} : List (Lit × DataW H) → Nat
  | [] => 0
  | x :: r => uptoBulkEntry x + uptoBulkEntries r
def uptoBulkEntry {H : Type} : Lit × DataW H → Nat
  | (.string bytes, d) => bytes.length + uptoBulk d + 1
  | (_, d) => uptoBulk d + 1
 end
def uptoSmall : (H : Type) → List (DataW H) → Bool := fun _ ds => decide (uptoBulkAll ds ≤ 1048576)
def OpenSpec.upto (s : _root_.Go.ChangeSpec) : _root_.Go.OpenSpec := { _root_.Go.OpenSpec.ofChange s with cond := some uptoSmall }

/-- 'laws.FnDecodeJoin', WHERE WHAT IT READS IS OF BULK AT MOST 1048576: true; the input reads as it did. -/
def fnDecodeJoinUptoRow : OpenClaim := { program := "ytinmgkimbdcnhaa", sum := "ec7f7d4058b0879bed0b8f870205352b574b66e0636a7d18899edeb26c718dab", func := "loop.example/lib-codeunits/laws.FnDecodeJoin", spec := "fnDecodeJoin", apart := false, narrowed := true }
def FnDecodeJoinUptoSaid : Prop := fnDecodeJoinUptoRow.holds Try.pinned (OpenSpec.upto fnDecodeJoinSpec)

/-- 'laws.FnDecodePair', WHERE WHAT IT READS IS OF BULK AT MOST 1048576: true; the input reads as it did. -/
def fnDecodePairUptoRow : OpenClaim := { program := "ytinmgkimbdcnhaa", sum := "ec7f7d4058b0879bed0b8f870205352b574b66e0636a7d18899edeb26c718dab", func := "loop.example/lib-codeunits/laws.FnDecodePair", spec := "fnDecodePair", apart := false, narrowed := true }
def FnDecodePairUptoSaid : Prop := fnDecodePairUptoRow.holds Try.pinned (OpenSpec.upto fnDecodePairSpec)

/-- 'laws.FnEncodeRuneDecode', WHERE WHAT IT READS IS OF BULK AT MOST 1048576: true; the input reads as it did. -/
def fnEncodeRuneDecodeUptoRow : OpenClaim := { program := "ytinmgkimbdcnhaa", sum := "ec7f7d4058b0879bed0b8f870205352b574b66e0636a7d18899edeb26c718dab", func := "loop.example/lib-codeunits/laws.FnEncodeRuneDecode", spec := "fnEncodeRuneDecode", apart := false, narrowed := true }
def FnEncodeRuneDecodeUptoSaid : Prop := fnEncodeRuneDecodeUptoRow.holds Try.pinned (OpenSpec.upto fnEncodeRuneDecodeSpec)

/-- 'laws.FnAppendPair', WHERE WHAT IT READS IS OF BULK AT MOST 1048576: true; the input reads as it did. -/
def fnAppendPairUptoRow : OpenClaim := { program := "ytinmgkimbdcnhaa", sum := "ec7f7d4058b0879bed0b8f870205352b574b66e0636a7d18899edeb26c718dab", func := "loop.example/lib-codeunits/laws.FnAppendPair", spec := "fnAppendPair", apart := false, narrowed := true }
def FnAppendPairUptoSaid : Prop := fnAppendPairUptoRow.holds Try.pinned (OpenSpec.upto fnAppendPairSpec)

/-- 'laws.FnDecodeUnit', WHERE WHAT IT READS IS OF BULK AT MOST 1048576: true; the input reads as it did. -/
def fnDecodeUnitUptoRow : OpenClaim := { program := "ytinmgkimbdcnhaa", sum := "ec7f7d4058b0879bed0b8f870205352b574b66e0636a7d18899edeb26c718dab", func := "loop.example/lib-codeunits/laws.FnDecodeUnit", spec := "fnDecodeUnit", apart := false, narrowed := true }
def FnDecodeUnitUptoSaid : Prop := fnDecodeUnitUptoRow.holds Try.pinned (OpenSpec.upto fnDecodeUnitSpec)

/-- 'laws.FnEncode', WHERE WHAT IT READS IS OF BULK AT MOST 1048576: true; the input reads as it did. -/
def fnEncodeUptoRow : OpenClaim := { program := "ytinmgkimbdcnhaa", sum := "ec7f7d4058b0879bed0b8f870205352b574b66e0636a7d18899edeb26c718dab", func := "loop.example/lib-codeunits/laws.FnEncode", spec := "fnEncode", apart := false, narrowed := true }
def FnEncodeUptoSaid : Prop := fnEncodeUptoRow.holds Try.pinned (OpenSpec.upto fnEncodeSpec)

/-- 'laws.FnEncodeJoin', WHERE WHAT IT READS IS OF BULK AT MOST 1048576: true; the input reads as it did. -/
def fnEncodeJoinUptoRow : OpenClaim := { program := "ytinmgkimbdcnhaa", sum := "ec7f7d4058b0879bed0b8f870205352b574b66e0636a7d18899edeb26c718dab", func := "loop.example/lib-codeunits/laws.FnEncodeJoin", spec := "fnEncodeJoin", apart := false, narrowed := true }
def FnEncodeJoinUptoSaid : Prop := fnEncodeJoinUptoRow.holds Try.pinned (OpenSpec.upto fnEncodeJoinSpec)

/-- 'laws.FnEncodeSame', WHERE WHAT IT READS IS OF BULK AT MOST 1048576: true; the input reads as it did. -/
def fnEncodeSameUptoRow : OpenClaim := { program := "ytinmgkimbdcnhaa", sum := "ec7f7d4058b0879bed0b8f870205352b574b66e0636a7d18899edeb26c718dab", func := "loop.example/lib-codeunits/laws.FnEncodeSame", spec := "fnEncodeSame", apart := false, narrowed := true }
def FnEncodeSameUptoSaid : Prop := fnEncodeSameUptoRow.holds Try.pinned (OpenSpec.upto fnEncodeSameSpec)

/-- 'laws.FnEncodeWrong', WHERE WHAT IT READS IS OF BULK AT MOST 1048576: true; the input reads as it did. -/
def fnEncodeWrongUptoRow : OpenClaim := { program := "ytinmgkimbdcnhaa", sum := "ec7f7d4058b0879bed0b8f870205352b574b66e0636a7d18899edeb26c718dab", func := "loop.example/lib-codeunits/laws.FnEncodeWrong", spec := "fnEncodeWrong", apart := false, narrowed := true }
def FnEncodeWrongUptoSaid : Prop := fnEncodeWrongUptoRow.holds Try.pinned (OpenSpec.upto fnEncodeWrongSpec)

/-- 'laws.FnExactEncode', WHERE WHAT IT READS IS OF BULK AT MOST 1048576: true; the input reads as it did. -/
def fnExactEncodeUptoRow : OpenClaim := { program := "ytinmgkimbdcnhaa", sum := "ec7f7d4058b0879bed0b8f870205352b574b66e0636a7d18899edeb26c718dab", func := "loop.example/lib-codeunits/laws.FnExactEncode", spec := "fnExactEncode", apart := false, narrowed := true }
def FnExactEncodeUptoSaid : Prop := fnExactEncodeUptoRow.holds Try.pinned (OpenSpec.upto fnExactEncodeSpec)

/-- 'laws.FnExactEncodeWrong', WHERE WHAT IT READS IS OF BULK AT MOST 1048576: true; the input reads as it did. -/
def fnExactEncodeWrongUptoRow : OpenClaim := { program := "ytinmgkimbdcnhaa", sum := "ec7f7d4058b0879bed0b8f870205352b574b66e0636a7d18899edeb26c718dab", func := "loop.example/lib-codeunits/laws.FnExactEncodeWrong", spec := "fnExactEncodeWrong", apart := false, narrowed := true }
def FnExactEncodeWrongUptoSaid : Prop := fnExactEncodeWrongUptoRow.holds Try.pinned (OpenSpec.upto fnExactEncodeWrongSpec)

/-- 'laws.FnEncodeLen', WHERE WHAT IT READS IS OF BULK AT MOST 1048576: true; the input reads as it did. -/
def fnEncodeLenUptoRow : OpenClaim := { program := "ytinmgkimbdcnhaa", sum := "ec7f7d4058b0879bed0b8f870205352b574b66e0636a7d18899edeb26c718dab", func := "loop.example/lib-codeunits/laws.FnEncodeLen", spec := "fnEncodeLen", apart := false, narrowed := true }
def FnEncodeLenUptoSaid : Prop := fnEncodeLenUptoRow.holds Try.pinned (OpenSpec.upto fnEncodeLenSpec)

end Rows
end Go.Proofs.Ytinmgkimbdcnhaa
