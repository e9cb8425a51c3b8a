/-
  No cell of these rows narrows 'for every input' (looked for: loops, veiled, ifaces, maps, wideKeys, modest, calm, conditions, laid).
  DERIVED. THE GIVEN ROWS OF THIS SEAT. 12 by the template 'for every input the law returns true; each argument reads behind the call as it read before'; 0 by the template 'total and deterministic' (their statements: YtmakhfaikpgfnaaTotals.lean).
  GIVEN WITH THE SEED: the statements are not yours to turn. If you find one false, say at which input.
  Laid BY PROGRAM, IN A SANDBOX (cutbox-rows.mjs): the forced cells as the released guide's own fill.sh prints them over the translation e98f49bd4ca5cf12… (all of the seat's roots in one cut). By AI agents, Wed Nov 11 2026. No macro, syntax, notation, axiom, sorry.
-/
import Derived.Test.YtmakhfaikpgfnaaChecked
import GoSem.Claim
import GoSem.ClaimJoined
import GoSem.ClaimMapViews
import Derived.JoinedTies
import Derived.KernelRfl
namespace Go.Proofs.Ytmakhfaikpgfnaa
/- THE CELL 'sum', in the pinned program and in every row, IS THE sha256 OF THE DUMP (.gsa) THAT YtmakhfaikpgfnaaProg.lean LOADS. Nothing in Lean hashes anything: it is a label: what it is worth is what the hold of that sum in a sandbox is worth. -/
noncomputable def Try.pinned : Pinned := { name := "ytmakhfaikpgfnaa", sum := "e98f49bd4ca5cf12194b68aa819300ec1c19d0fc1ff782bb0320cfab14379ff6", checked := Try.checked }
namespace Rows
def none {H : Type} : Left H := { results := [], args := [] }

/-- 'laws.FnSurrogatePartner': WHATEVER THE INPUT: true; the input reads as it did. -/
def fnSurrogatePartnerSpec : ChangeSpec := { name := "fnSurrogatePartner", fn := fun _ => fun
  | [d] => { results := [.lit (.bool true)], args := [d] }
  | _ => none }
def fnSurrogatePartnerRow : OpenClaim := { program := "ytmakhfaikpgfnaa", sum := "e98f49bd4ca5cf12194b68aa819300ec1c19d0fc1ff782bb0320cfab14379ff6", func := "loop.example/lib-codeunits/laws.FnSurrogatePartner", spec := "fnSurrogatePartner", apart := false }
def FnSurrogatePartnerSaid : Prop := fnSurrogatePartnerRow.holds Try.pinned (OpenSpec.ofChange fnSurrogatePartnerSpec)

/-- ITS FALSE NEIGHBOUR: 'it returns false'. Refute it at one input. -/
def fnSurrogatePartnerWrong : ChangeSpec := { name := "fnSurrogatePartner", fn := fun _ => fun
  | [d] => { results := [.lit (.bool false)], args := [d] }
  | _ => none }
def FnSurrogatePartnerWrongFalsely : Prop := fnSurrogatePartnerRow.holds Try.pinned (OpenSpec.ofChange fnSurrogatePartnerWrong)

/-- 'laws.FnIsSurrogate': WHATEVER THE INPUT: true; the input reads as it did. -/
def fnIsSurrogateSpec : ChangeSpec := { name := "fnIsSurrogate", fn := fun _ => fun
  | [d] => { results := [.lit (.bool true)], args := [d] }
  | _ => none }
def fnIsSurrogateRow : OpenClaim := { program := "ytmakhfaikpgfnaa", sum := "e98f49bd4ca5cf12194b68aa819300ec1c19d0fc1ff782bb0320cfab14379ff6", func := "loop.example/lib-codeunits/laws.FnIsSurrogate", spec := "fnIsSurrogate", apart := false }
def FnIsSurrogateSaid : Prop := fnIsSurrogateRow.holds Try.pinned (OpenSpec.ofChange fnIsSurrogateSpec)

/-- ITS FALSE NEIGHBOUR: 'it returns false'. Refute it at one input. -/
def fnIsSurrogateWrong : ChangeSpec := { name := "fnIsSurrogate", fn := fun _ => fun
  | [d] => { results := [.lit (.bool false)], args := [d] }
  | _ => none }
def FnIsSurrogateWrongFalsely : Prop := fnIsSurrogateRow.holds Try.pinned (OpenSpec.ofChange fnIsSurrogateWrong)

/-- 'laws.FnEncodeDecodeWrong': WHATEVER THE INPUT: true; the input reads as it did. -/
def fnEncodeDecodeWrongSpec : ChangeSpec := { name := "fnEncodeDecodeWrong", fn := fun _ => fun
  | [d] => { results := [.lit (.bool true)], args := [d] }
  | _ => none }
def fnEncodeDecodeWrongRow : OpenClaim := { program := "ytmakhfaikpgfnaa", sum := "e98f49bd4ca5cf12194b68aa819300ec1c19d0fc1ff782bb0320cfab14379ff6", func := "loop.example/lib-codeunits/laws.FnEncodeDecodeWrong", spec := "fnEncodeDecodeWrong", apart := false }
def FnEncodeDecodeWrongSaid : Prop := fnEncodeDecodeWrongRow.holds Try.pinned (OpenSpec.ofChange fnEncodeDecodeWrongSpec)

/-- ITS FALSE NEIGHBOUR: 'it returns false'. Refute it at one input. -/
def fnEncodeDecodeWrongWrong : ChangeSpec := { name := "fnEncodeDecodeWrong", fn := fun _ => fun
  | [d] => { results := [.lit (.bool false)], args := [d] }
  | _ => none }
def FnEncodeDecodeWrongWrongFalsely : Prop := fnEncodeDecodeWrongRow.holds Try.pinned (OpenSpec.ofChange fnEncodeDecodeWrongWrong)

/-- 'laws.FnAppendKeeps': WHATEVER THE INPUT: true; the input reads as it did. -/
def fnAppendKeepsSpec : ChangeSpec := { name := "fnAppendKeeps", fn := fun _ => fun
  | [d] => { results := [.lit (.bool true)], args := [d] }
  | _ => none }
def fnAppendKeepsRow : OpenClaim := { program := "ytmakhfaikpgfnaa", sum := "e98f49bd4ca5cf12194b68aa819300ec1c19d0fc1ff782bb0320cfab14379ff6", func := "loop.example/lib-codeunits/laws.FnAppendKeeps", spec := "fnAppendKeeps", apart := false }
def FnAppendKeepsSaid : Prop := fnAppendKeepsRow.holds Try.pinned (OpenSpec.ofChange fnAppendKeepsSpec)

/-- ITS FALSE NEIGHBOUR: 'it returns false'. Refute it at one input. -/
def fnAppendKeepsWrong : ChangeSpec := { name := "fnAppendKeeps", fn := fun _ => fun
  | [d] => { results := [.lit (.bool false)], args := [d] }
  | _ => none }
def FnAppendKeepsWrongFalsely : Prop := fnAppendKeepsRow.holds Try.pinned (OpenSpec.ofChange fnAppendKeepsWrong)

/-- 'laws.FnAppendSurrogate': WHATEVER THE INPUT: true; the input reads as it did. -/
def fnAppendSurrogateSpec : ChangeSpec := { name := "fnAppendSurrogate", fn := fun _ => fun
  | [d] => { results := [.lit (.bool true)], args := [d] }
  | _ => none }
def fnAppendSurrogateRow : OpenClaim := { program := "ytmakhfaikpgfnaa", sum := "e98f49bd4ca5cf12194b68aa819300ec1c19d0fc1ff782bb0320cfab14379ff6", func := "loop.example/lib-codeunits/laws.FnAppendSurrogate", spec := "fnAppendSurrogate", apart := false }
def FnAppendSurrogateSaid : Prop := fnAppendSurrogateRow.holds Try.pinned (OpenSpec.ofChange fnAppendSurrogateSpec)

/-- ITS FALSE NEIGHBOUR: 'it returns false'. Refute it at one input. -/
def fnAppendSurrogateWrong : ChangeSpec := { name := "fnAppendSurrogate", fn := fun _ => fun
  | [d] => { results := [.lit (.bool false)], args := [d] }
  | _ => none }
def FnAppendSurrogateWrongFalsely : Prop := fnAppendSurrogateRow.holds Try.pinned (OpenSpec.ofChange fnAppendSurrogateWrong)

/-- 'laws.FnExactAppendRune': WHATEVER THE INPUT: true; the input reads as it did. -/
def fnExactAppendRuneSpec : ChangeSpec := { name := "fnExactAppendRune", fn := fun _ => fun
  | [d1, d2] => { results := [.lit (.bool true)], args := [d1, d2] }
  | _ => none }
def fnExactAppendRuneRow : OpenClaim := { program := "ytmakhfaikpgfnaa", sum := "e98f49bd4ca5cf12194b68aa819300ec1c19d0fc1ff782bb0320cfab14379ff6", func := "loop.example/lib-codeunits/laws.FnExactAppendRune", spec := "fnExactAppendRune", apart := false }
def FnExactAppendRuneSaid : Prop := fnExactAppendRuneRow.holds Try.pinned (OpenSpec.ofChange fnExactAppendRuneSpec)

/-- ITS FALSE NEIGHBOUR: 'it returns false'. Refute it at one input. -/
def fnExactAppendRuneWrong : ChangeSpec := { name := "fnExactAppendRune", fn := fun _ => fun
  | [d1, d2] => { results := [.lit (.bool false)], args := [d1, d2] }
  | _ => none }
def FnExactAppendRuneWrongFalsely : Prop := fnExactAppendRuneRow.holds Try.pinned (OpenSpec.ofChange fnExactAppendRuneWrong)

/-- 'laws.FnExactAppendSurrogate': WHATEVER THE INPUT: true; the input reads as it did. -/
def fnExactAppendSurrogateSpec : ChangeSpec := { name := "fnExactAppendSurrogate", fn := fun _ => fun
  | [d1, d2] => { results := [.lit (.bool true)], args := [d1, d2] }
  | _ => none }
def fnExactAppendSurrogateRow : OpenClaim := { program := "ytmakhfaikpgfnaa", sum := "e98f49bd4ca5cf12194b68aa819300ec1c19d0fc1ff782bb0320cfab14379ff6", func := "loop.example/lib-codeunits/laws.FnExactAppendSurrogate", spec := "fnExactAppendSurrogate", apart := false }
def FnExactAppendSurrogateSaid : Prop := fnExactAppendSurrogateRow.holds Try.pinned (OpenSpec.ofChange fnExactAppendSurrogateSpec)

/-- ITS FALSE NEIGHBOUR: 'it returns false'. Refute it at one input. -/
def fnExactAppendSurrogateWrong : ChangeSpec := { name := "fnExactAppendSurrogate", fn := fun _ => fun
  | [d1, d2] => { results := [.lit (.bool false)], args := [d1, d2] }
  | _ => none }
def FnExactAppendSurrogateWrongFalsely : Prop := fnExactAppendSurrogateRow.holds Try.pinned (OpenSpec.ofChange fnExactAppendSurrogateWrong)

/-- 'laws.FnEncodeRuneNeeds': WHATEVER THE INPUT: true; the input reads as it did. -/
def fnEncodeRuneNeedsSpec : ChangeSpec := { name := "fnEncodeRuneNeeds", fn := fun _ => fun
  | [d] => { results := [.lit (.bool true)], args := [d] }
  | _ => none }
def fnEncodeRuneNeedsRow : OpenClaim := { program := "ytmakhfaikpgfnaa", sum := "e98f49bd4ca5cf12194b68aa819300ec1c19d0fc1ff782bb0320cfab14379ff6", func := "loop.example/lib-codeunits/laws.FnEncodeRuneNeeds", spec := "fnEncodeRuneNeeds", apart := false }
def FnEncodeRuneNeedsSaid : Prop := fnEncodeRuneNeedsRow.holds Try.pinned (OpenSpec.ofChange fnEncodeRuneNeedsSpec)

/-- ITS FALSE NEIGHBOUR: 'it returns false'. Refute it at one input. -/
def fnEncodeRuneNeedsWrong : ChangeSpec := { name := "fnEncodeRuneNeeds", fn := fun _ => fun
  | [d] => { results := [.lit (.bool false)], args := [d] }
  | _ => none }
def FnEncodeRuneNeedsWrongFalsely : Prop := fnEncodeRuneNeedsRow.holds Try.pinned (OpenSpec.ofChange fnEncodeRuneNeedsWrong)

/-- 'laws.FnPairNext': WHATEVER THE INPUT: true; the input reads as it did. -/
def fnPairNextSpec : ChangeSpec := { name := "fnPairNext", fn := fun _ => fun
  | [d] => { results := [.lit (.bool true)], args := [d] }
  | _ => none }
def fnPairNextRow : OpenClaim := { program := "ytmakhfaikpgfnaa", sum := "e98f49bd4ca5cf12194b68aa819300ec1c19d0fc1ff782bb0320cfab14379ff6", func := "loop.example/lib-codeunits/laws.FnPairNext", spec := "fnPairNext", apart := false }
def FnPairNextSaid : Prop := fnPairNextRow.holds Try.pinned (OpenSpec.ofChange fnPairNextSpec)

/-- ITS FALSE NEIGHBOUR: 'it returns false'. Refute it at one input. -/
def fnPairNextWrong : ChangeSpec := { name := "fnPairNext", fn := fun _ => fun
  | [d] => { results := [.lit (.bool false)], args := [d] }
  | _ => none }
def FnPairNextWrongFalsely : Prop := fnPairNextRow.holds Try.pinned (OpenSpec.ofChange fnPairNextWrong)

/-- 'laws.FnEncodeDecodeText': WHATEVER THE INPUT: true; the input reads as it did. -/
def fnEncodeDecodeTextSpec : ChangeSpec := { name := "fnEncodeDecodeText", fn := fun _ => fun
  | [d] => { results := [.lit (.bool true)], args := [d] }
  | _ => none }
def fnEncodeDecodeTextRow : OpenClaim := { program := "ytmakhfaikpgfnaa", sum := "e98f49bd4ca5cf12194b68aa819300ec1c19d0fc1ff782bb0320cfab14379ff6", func := "loop.example/lib-codeunits/laws.FnEncodeDecodeText", spec := "fnEncodeDecodeText", apart := false }
def FnEncodeDecodeTextSaid : Prop := fnEncodeDecodeTextRow.holds Try.pinned (OpenSpec.ofChange fnEncodeDecodeTextSpec)

/-- ITS FALSE NEIGHBOUR: 'it returns false'. Refute it at one input. -/
def fnEncodeDecodeTextWrong : ChangeSpec := { name := "fnEncodeDecodeText", fn := fun _ => fun
  | [d] => { results := [.lit (.bool false)], args := [d] }
  | _ => none }
def FnEncodeDecodeTextWrongFalsely : Prop := fnEncodeDecodeTextRow.holds Try.pinned (OpenSpec.ofChange fnEncodeDecodeTextWrong)

/-- 'laws.FnPairOrder': WHATEVER THE INPUT: true; the input reads as it did. -/
def fnPairOrderSpec : ChangeSpec := { name := "fnPairOrder", fn := fun _ => fun
  | [d1, d2] => { results := [.lit (.bool true)], args := [d1, d2] }
  | _ => none }
def fnPairOrderRow : OpenClaim := { program := "ytmakhfaikpgfnaa", sum := "e98f49bd4ca5cf12194b68aa819300ec1c19d0fc1ff782bb0320cfab14379ff6", func := "loop.example/lib-codeunits/laws.FnPairOrder", spec := "fnPairOrder", apart := false }
def FnPairOrderSaid : Prop := fnPairOrderRow.holds Try.pinned (OpenSpec.ofChange fnPairOrderSpec)

/-- ITS FALSE NEIGHBOUR: 'it returns false'. Refute it at one input. -/
def fnPairOrderWrong : ChangeSpec := { name := "fnPairOrder", fn := fun _ => fun
  | [d1, d2] => { results := [.lit (.bool false)], args := [d1, d2] }
  | _ => none }
def FnPairOrderWrongFalsely : Prop := fnPairOrderRow.holds Try.pinned (OpenSpec.ofChange fnPairOrderWrong)

/-- 'laws.FnExactAppendAll': WHATEVER THE INPUT: true; the input reads as it did. -/
def fnExactAppendAllSpec : ChangeSpec := { name := "fnExactAppendAll", fn := fun _ => fun
  | [d] => { results := [.lit (.bool true)], args := [d] }
  | _ => none }
def fnExactAppendAllRow : OpenClaim := { program := "ytmakhfaikpgfnaa", sum := "e98f49bd4ca5cf12194b68aa819300ec1c19d0fc1ff782bb0320cfab14379ff6", func := "loop.example/lib-codeunits/laws.FnExactAppendAll", spec := "fnExactAppendAll", apart := false }
def FnExactAppendAllSaid : Prop := fnExactAppendAllRow.holds Try.pinned (OpenSpec.ofChange fnExactAppendAllSpec)

/-- ITS FALSE NEIGHBOUR: 'it returns false'. Refute it at one input. -/
def fnExactAppendAllWrong : ChangeSpec := { name := "fnExactAppendAll", fn := fun _ => fun
  | [d] => { results := [.lit (.bool false)], args := [d] }
  | _ => none }
def FnExactAppendAllWrongFalsely : Prop := fnExactAppendAllRow.holds Try.pinned (OpenSpec.ofChange fnExactAppendAllWrong)

/- THE SECOND FORM. 'bulk': how many values and letters a reading holds, each counted each time it is reached (what is shared counts as often as it is met; a slice's spare places count too). A statement '..UptoSaid' is the law's where the arguments, and the package variables that the reading takes, are together of bulk at most 1048576: NARROWER than '..Said'. Prove '..Said' where nothing that the law and all that it calls make is longer than what came in: it says more and counts as full. Else prove '..UptoSaid'. A law counts once. -/
mutual
def uptoBulk {H : Type} : DataW H → Nat
  | .lit (.string bytes) => bytes.length + 1
  | .lit _ => 1
  | .nil => 1
  | .ptr d => uptoBulk d + 1
  | .slice elems spare => uptoBulkAll elems + uptoBulkAll spare + 1
  | .agg parts => uptoBulkAll parts + 1
  | .iface _ d => uptoBulk d + 1
  | .map entries => uptoBulkEntries entries + 1
  | .held _ => 1
def uptoBulkAll {H : Type} : List (DataW H) → Nat
  | [] => 0
  | d :: r => uptoBulk d + uptoBulkAll r
def uptoBulkEntries {H : Type} : List (Lit × DataW H) → Nat
  | [] => 0
  | x :: r => uptoBulkEntry x + uptoBulkEntries r
def uptoBulkEntry {H : Type} : Lit × DataW H → Nat
  | (.string bytes, d) => bytes.length + uptoBulk d + 1
  | (_, d) => uptoBulk d + 1
 end
def uptoSmall : (H : Type) → List (DataW H) → Bool := fun _ ds => decide (uptoBulkAll ds ≤ 1048576)
def OpenSpec.upto (s : _root_.Go.ChangeSpec) : _root_.Go.OpenSpec := { _root_.Go.OpenSpec.ofChange s with cond := some uptoSmall }

/-- 'laws.FnSurrogatePartner', WHERE WHAT IT READS IS OF BULK AT MOST 1048576: true; the input reads as it did. -/
def fnSurrogatePartnerUptoRow : OpenClaim := { program := "ytmakhfaikpgfnaa", sum := "e98f49bd4ca5cf12194b68aa819300ec1c19d0fc1ff782bb0320cfab14379ff6", func := "loop.example/lib-codeunits/laws.FnSurrogatePartner", spec := "fnSurrogatePartner", apart := false, narrowed := true }
def FnSurrogatePartnerUptoSaid : Prop := fnSurrogatePartnerUptoRow.holds Try.pinned (OpenSpec.upto fnSurrogatePartnerSpec)

/-- 'laws.FnIsSurrogate', WHERE WHAT IT READS IS OF BULK AT MOST 1048576: true; the input reads as it did. -/
def fnIsSurrogateUptoRow : OpenClaim := { program := "ytmakhfaikpgfnaa", sum := "e98f49bd4ca5cf12194b68aa819300ec1c19d0fc1ff782bb0320cfab14379ff6", func := "loop.example/lib-codeunits/laws.FnIsSurrogate", spec := "fnIsSurrogate", apart := false, narrowed := true }
def FnIsSurrogateUptoSaid : Prop := fnIsSurrogateUptoRow.holds Try.pinned (OpenSpec.upto fnIsSurrogateSpec)

/-- 'laws.FnEncodeDecodeWrong', WHERE WHAT IT READS IS OF BULK AT MOST 1048576: true; the input reads as it did. -/
def fnEncodeDecodeWrongUptoRow : OpenClaim := { program := "ytmakhfaikpgfnaa", sum := "e98f49bd4ca5cf12194b68aa819300ec1c19d0fc1ff782bb0320cfab14379ff6", func := "loop.example/lib-codeunits/laws.FnEncodeDecodeWrong", spec := "fnEncodeDecodeWrong", apart := false, narrowed := true }
def FnEncodeDecodeWrongUptoSaid : Prop := fnEncodeDecodeWrongUptoRow.holds Try.pinned (OpenSpec.upto fnEncodeDecodeWrongSpec)

/-- 'laws.FnAppendKeeps', WHERE WHAT IT READS IS OF BULK AT MOST 1048576: true; the input reads as it did. -/
def fnAppendKeepsUptoRow : OpenClaim := { program := "ytmakhfaikpgfnaa", sum := "e98f49bd4ca5cf12194b68aa819300ec1c19d0fc1ff782bb0320cfab14379ff6", func := "loop.example/lib-codeunits/laws.FnAppendKeeps", spec := "fnAppendKeeps", apart := false, narrowed := true }
def FnAppendKeepsUptoSaid : Prop := fnAppendKeepsUptoRow.holds Try.pinned (OpenSpec.upto fnAppendKeepsSpec)

/-- 'laws.FnAppendSurrogate', WHERE WHAT IT READS IS OF BULK AT MOST 1048576: true; the input reads as it did. -/
def fnAppendSurrogateUptoRow : OpenClaim := { program := "ytmakhfaikpgfnaa", sum := "e98f49bd4ca5cf12194b68aa819300ec1c19d0fc1ff782bb0320cfab14379ff6", func := "loop.example/lib-codeunits/laws.FnAppendSurrogate", spec := "fnAppendSurrogate", apart := false, narrowed := true }
def FnAppendSurrogateUptoSaid : Prop := fnAppendSurrogateUptoRow.holds Try.pinned (OpenSpec.upto fnAppendSurrogateSpec)

/-- 'laws.FnExactAppendRune', WHERE WHAT IT READS IS OF BULK AT MOST 1048576: true; the input reads as it did. -/
def fnExactAppendRuneUptoRow : OpenClaim := { program := "ytmakhfaikpgfnaa", sum := "e98f49bd4ca5cf12194b68aa819300ec1c19d0fc1ff782bb0320cfab14379ff6", func := "loop.example/lib-codeunits/laws.FnExactAppendRune", spec := "fnExactAppendRune", apart := false, narrowed := true }
def FnExactAppendRuneUptoSaid : Prop := fnExactAppendRuneUptoRow.holds Try.pinned (OpenSpec.upto fnExactAppendRuneSpec)

/-- 'laws.FnExactAppendSurrogate', WHERE WHAT IT READS IS OF BULK AT MOST 1048576: true; the input reads as it did. -/
def fnExactAppendSurrogateUptoRow : OpenClaim := { program := "ytmakhfaikpgfnaa", sum := "e98f49bd4ca5cf12194b68aa819300ec1c19d0fc1ff782bb0320cfab14379ff6", func := "loop.example/lib-codeunits/laws.FnExactAppendSurrogate", spec := "fnExactAppendSurrogate", apart := false, narrowed := true }
def FnExactAppendSurrogateUptoSaid : Prop := fnExactAppendSurrogateUptoRow.holds Try.pinned (OpenSpec.upto fnExactAppendSurrogateSpec)

/-- 'laws.FnEncodeRuneNeeds', WHERE WHAT IT READS IS OF BULK AT MOST 1048576: true; the input reads as it did. -/
def fnEncodeRuneNeedsUptoRow : OpenClaim := { program := "ytmakhfaikpgfnaa", sum := "e98f49bd4ca5cf12194b68aa819300ec1c19d0fc1ff782bb0320cfab14379ff6", func := "loop.example/lib-codeunits/laws.FnEncodeRuneNeeds", spec := "fnEncodeRuneNeeds", apart := false, narrowed := true }
def FnEncodeRuneNeedsUptoSaid : Prop := fnEncodeRuneNeedsUptoRow.holds Try.pinned (OpenSpec.upto fnEncodeRuneNeedsSpec)

/-- 'laws.FnPairNext', WHERE WHAT IT READS IS OF BULK AT MOST 1048576: true; the input reads as it did. -/
def fnPairNextUptoRow : OpenClaim := { program := "ytmakhfaikpgfnaa", sum := "e98f49bd4ca5cf12194b68aa819300ec1c19d0fc1ff782bb0320cfab14379ff6", func := "loop.example/lib-codeunits/laws.FnPairNext", spec := "fnPairNext", apart := false, narrowed := true }
def FnPairNextUptoSaid : Prop := fnPairNextUptoRow.holds Try.pinned (OpenSpec.upto fnPairNextSpec)

/-- 'laws.FnEncodeDecodeText', WHERE WHAT IT READS IS OF BULK AT MOST 1048576: true; the input reads as it did. -/
def fnEncodeDecodeTextUptoRow : OpenClaim := { program := "ytmakhfaikpgfnaa", sum := "e98f49bd4ca5cf12194b68aa819300ec1c19d0fc1ff782bb0320cfab14379ff6", func := "loop.example/lib-codeunits/laws.FnEncodeDecodeText", spec := "fnEncodeDecodeText", apart := false, narrowed := true }
def FnEncodeDecodeTextUptoSaid : Prop := fnEncodeDecodeTextUptoRow.holds Try.pinned (OpenSpec.upto fnEncodeDecodeTextSpec)

/-- 'laws.FnPairOrder', WHERE WHAT IT READS IS OF BULK AT MOST 1048576: true; the input reads as it did. -/
def fnPairOrderUptoRow : OpenClaim := { program := "ytmakhfaikpgfnaa", sum := "e98f49bd4ca5cf12194b68aa819300ec1c19d0fc1ff782bb0320cfab14379ff6", func := "loop.example/lib-codeunits/laws.FnPairOrder", spec := "fnPairOrder", apart := false, narrowed := true }
def FnPairOrderUptoSaid : Prop := fnPairOrderUptoRow.holds Try.pinned (OpenSpec.upto fnPairOrderSpec)

/-- 'laws.FnExactAppendAll', WHERE WHAT IT READS IS OF BULK AT MOST 1048576: true; the input reads as it did. -/
def fnExactAppendAllUptoRow : OpenClaim := { program := "ytmakhfaikpgfnaa", sum := "e98f49bd4ca5cf12194b68aa819300ec1c19d0fc1ff782bb0320cfab14379ff6", func := "loop.example/lib-codeunits/laws.FnExactAppendAll", spec := "fnExactAppendAll", apart := false, narrowed := true }
def FnExactAppendAllUptoSaid : Prop := fnExactAppendAllUptoRow.holds Try.pinned (OpenSpec.upto fnExactAppendAllSpec)

end Rows
end Go.Proofs.Ytmakhfaikpgfnaa
