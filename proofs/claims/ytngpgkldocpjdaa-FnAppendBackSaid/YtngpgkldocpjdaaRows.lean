/-
  No cell of these rows narrows 'for every input' (looked for: loops, veiled, ifaces, maps, wideKeys, modest, calm, conditions, laid).
  DERIVED. THE GIVEN ROWS OF THIS SEAT. 10 by the template 'for every input the law returns true; each argument reads behind the call as it read before'; 0 by the template 'total and deterministic' (their statements: YtngpgkldocpjdaaTotals.lean).
  GIVEN WITH THE SEED: the statements are not yours to turn. If you find one false, say at which input.
  Laid BY PROGRAM, IN A SANDBOX (cutbox-rows.mjs): the forced cells as the released guide's own fill.sh prints them over the translation c2017f604e82f8a7… (all of the seat's roots in one cut). By AI agents, Wed Nov 11 2026. No macro, syntax, notation, axiom, sorry.
-/
import Derived.Test.YtngpgkldocpjdaaChecked
import GoSem.Claim
import GoSem.ClaimJoined
import GoSem.ClaimMapViews
import Derived.JoinedTies
import Derived.KernelRfl
namespace Go.Proofs.Ytngpgkldocpjdaa
/- THE CELL 'sum', in the pinned program and in every row, IS THE sha256 OF THE DUMP (.gsa) THAT YtngpgkldocpjdaaProg.lean LOADS. Nothing in Lean hashes anything: it is a label: what it is worth is what the hold of that sum in a sandbox is worth. -/
noncomputable def Try.pinned : Pinned := { name := "ytngpgkldocpjdaa", sum := "c2017f604e82f8a79ad3d2903fed964848bc999679d4a90fe1d47af1c6401cad", checked := Try.checked }
namespace Rows
def none {H : Type} : Left H := { results := [], args := [] }

/-- 'laws.FnEncodeWhole': WHATEVER THE INPUT: true; the input reads as it did. -/
def fnEncodeWholeSpec : ChangeSpec := { name := "fnEncodeWhole", fn := fun _ => fun
  | [d] => { results := [.lit (.bool true)], args := [d] }
  | _ => none }
def fnEncodeWholeRow : OpenClaim := { program := "ytngpgkldocpjdaa", sum := "c2017f604e82f8a79ad3d2903fed964848bc999679d4a90fe1d47af1c6401cad", func := "loop.example/lib-codeunits/laws.FnEncodeWhole", spec := "fnEncodeWhole", apart := false }
def FnEncodeWholeSaid : Prop := fnEncodeWholeRow.holds Try.pinned (OpenSpec.ofChange fnEncodeWholeSpec)

/-- ITS FALSE NEIGHBOUR: 'it returns false'. Refute it at one input. -/
def fnEncodeWholeWrong : ChangeSpec := { name := "fnEncodeWhole", fn := fun _ => fun
  | [d] => { results := [.lit (.bool false)], args := [d] }
  | _ => none }
def FnEncodeWholeWrongFalsely : Prop := fnEncodeWholeRow.holds Try.pinned (OpenSpec.ofChange fnEncodeWholeWrong)

/-- 'laws.FnDecodeValid': WHATEVER THE INPUT: true; the input reads as it did. -/
def fnDecodeValidSpec : ChangeSpec := { name := "fnDecodeValid", fn := fun _ => fun
  | [d] => { results := [.lit (.bool true)], args := [d] }
  | _ => none }
def fnDecodeValidRow : OpenClaim := { program := "ytngpgkldocpjdaa", sum := "c2017f604e82f8a79ad3d2903fed964848bc999679d4a90fe1d47af1c6401cad", func := "loop.example/lib-codeunits/laws.FnDecodeValid", spec := "fnDecodeValid", apart := false }
def FnDecodeValidSaid : Prop := fnDecodeValidRow.holds Try.pinned (OpenSpec.ofChange fnDecodeValidSpec)

/-- ITS FALSE NEIGHBOUR: 'it returns false'. Refute it at one input. -/
def fnDecodeValidWrong : ChangeSpec := { name := "fnDecodeValid", fn := fun _ => fun
  | [d] => { results := [.lit (.bool false)], args := [d] }
  | _ => none }
def FnDecodeValidWrongFalsely : Prop := fnDecodeValidRow.holds Try.pinned (OpenSpec.ofChange fnDecodeValidWrong)

/-- 'laws.FnEncodeOne': WHATEVER THE INPUT: true; the input reads as it did. -/
def fnEncodeOneSpec : ChangeSpec := { name := "fnEncodeOne", fn := fun _ => fun
  | [d] => { results := [.lit (.bool true)], args := [d] }
  | _ => none }
def fnEncodeOneRow : OpenClaim := { program := "ytngpgkldocpjdaa", sum := "c2017f604e82f8a79ad3d2903fed964848bc999679d4a90fe1d47af1c6401cad", func := "loop.example/lib-codeunits/laws.FnEncodeOne", spec := "fnEncodeOne", apart := false }
def FnEncodeOneSaid : Prop := fnEncodeOneRow.holds Try.pinned (OpenSpec.ofChange fnEncodeOneSpec)

/-- ITS FALSE NEIGHBOUR: 'it returns false'. Refute it at one input. -/
def fnEncodeOneWrong : ChangeSpec := { name := "fnEncodeOne", fn := fun _ => fun
  | [d] => { results := [.lit (.bool false)], args := [d] }
  | _ => none }
def FnEncodeOneWrongFalsely : Prop := fnEncodeOneRow.holds Try.pinned (OpenSpec.ofChange fnEncodeOneWrong)

/-- 'laws.FnEncodeAppend': WHATEVER THE INPUT: true; the input reads as it did. -/
def fnEncodeAppendSpec : ChangeSpec := { name := "fnEncodeAppend", fn := fun _ => fun
  | [d] => { results := [.lit (.bool true)], args := [d] }
  | _ => none }
def fnEncodeAppendRow : OpenClaim := { program := "ytngpgkldocpjdaa", sum := "c2017f604e82f8a79ad3d2903fed964848bc999679d4a90fe1d47af1c6401cad", func := "loop.example/lib-codeunits/laws.FnEncodeAppend", spec := "fnEncodeAppend", apart := false }
def FnEncodeAppendSaid : Prop := fnEncodeAppendRow.holds Try.pinned (OpenSpec.ofChange fnEncodeAppendSpec)

/-- ITS FALSE NEIGHBOUR: 'it returns false'. Refute it at one input. -/
def fnEncodeAppendWrong : ChangeSpec := { name := "fnEncodeAppend", fn := fun _ => fun
  | [d] => { results := [.lit (.bool false)], args := [d] }
  | _ => none }
def FnEncodeAppendWrongFalsely : Prop := fnEncodeAppendRow.holds Try.pinned (OpenSpec.ofChange fnEncodeAppendWrong)

/-- 'laws.FnEncodeAppendValid': WHATEVER THE INPUT: true; the input reads as it did. -/
def fnEncodeAppendValidSpec : ChangeSpec := { name := "fnEncodeAppendValid", fn := fun _ => fun
  | [d] => { results := [.lit (.bool true)], args := [d] }
  | _ => none }
def fnEncodeAppendValidRow : OpenClaim := { program := "ytngpgkldocpjdaa", sum := "c2017f604e82f8a79ad3d2903fed964848bc999679d4a90fe1d47af1c6401cad", func := "loop.example/lib-codeunits/laws.FnEncodeAppendValid", spec := "fnEncodeAppendValid", apart := false }
def FnEncodeAppendValidSaid : Prop := fnEncodeAppendValidRow.holds Try.pinned (OpenSpec.ofChange fnEncodeAppendValidSpec)

/-- ITS FALSE NEIGHBOUR: 'it returns false'. Refute it at one input. -/
def fnEncodeAppendValidWrong : ChangeSpec := { name := "fnEncodeAppendValid", fn := fun _ => fun
  | [d] => { results := [.lit (.bool false)], args := [d] }
  | _ => none }
def FnEncodeAppendValidWrongFalsely : Prop := fnEncodeAppendValidRow.holds Try.pinned (OpenSpec.ofChange fnEncodeAppendValidWrong)

/-- 'laws.FnAppendBack': WHATEVER THE INPUT: true; the input reads as it did. -/
def fnAppendBackSpec : ChangeSpec := { name := "fnAppendBack", fn := fun _ => fun
  | [d] => { results := [.lit (.bool true)], args := [d] }
  | _ => none }
def fnAppendBackRow : OpenClaim := { program := "ytngpgkldocpjdaa", sum := "c2017f604e82f8a79ad3d2903fed964848bc999679d4a90fe1d47af1c6401cad", func := "loop.example/lib-codeunits/laws.FnAppendBack", spec := "fnAppendBack", apart := false }
def FnAppendBackSaid : Prop := fnAppendBackRow.holds Try.pinned (OpenSpec.ofChange fnAppendBackSpec)

/-- ITS FALSE NEIGHBOUR: 'it returns false'. Refute it at one input. -/
def fnAppendBackWrong : ChangeSpec := { name := "fnAppendBack", fn := fun _ => fun
  | [d] => { results := [.lit (.bool false)], args := [d] }
  | _ => none }
def FnAppendBackWrongFalsely : Prop := fnAppendBackRow.holds Try.pinned (OpenSpec.ofChange fnAppendBackWrong)

/-- 'laws.FnDecodeEncode': WHATEVER THE INPUT: true; the input reads as it did. -/
def fnDecodeEncodeSpec : ChangeSpec := { name := "fnDecodeEncode", fn := fun _ => fun
  | [d] => { results := [.lit (.bool true)], args := [d] }
  | _ => none }
def fnDecodeEncodeRow : OpenClaim := { program := "ytngpgkldocpjdaa", sum := "c2017f604e82f8a79ad3d2903fed964848bc999679d4a90fe1d47af1c6401cad", func := "loop.example/lib-codeunits/laws.FnDecodeEncode", spec := "fnDecodeEncode", apart := false }
def FnDecodeEncodeSaid : Prop := fnDecodeEncodeRow.holds Try.pinned (OpenSpec.ofChange fnDecodeEncodeSpec)

/-- ITS FALSE NEIGHBOUR: 'it returns false'. Refute it at one input. -/
def fnDecodeEncodeWrong : ChangeSpec := { name := "fnDecodeEncode", fn := fun _ => fun
  | [d] => { results := [.lit (.bool false)], args := [d] }
  | _ => none }
def FnDecodeEncodeWrongFalsely : Prop := fnDecodeEncodeRow.holds Try.pinned (OpenSpec.ofChange fnDecodeEncodeWrong)

/-- 'laws.FnDecodeEncodeWrong': WHATEVER THE INPUT: true; the input reads as it did. -/
def fnDecodeEncodeWrongSpec : ChangeSpec := { name := "fnDecodeEncodeWrong", fn := fun _ => fun
  | [d] => { results := [.lit (.bool true)], args := [d] }
  | _ => none }
def fnDecodeEncodeWrongRow : OpenClaim := { program := "ytngpgkldocpjdaa", sum := "c2017f604e82f8a79ad3d2903fed964848bc999679d4a90fe1d47af1c6401cad", func := "loop.example/lib-codeunits/laws.FnDecodeEncodeWrong", spec := "fnDecodeEncodeWrong", apart := false }
def FnDecodeEncodeWrongSaid : Prop := fnDecodeEncodeWrongRow.holds Try.pinned (OpenSpec.ofChange fnDecodeEncodeWrongSpec)

/-- ITS FALSE NEIGHBOUR: 'it returns false'. Refute it at one input. -/
def fnDecodeEncodeWrongWrong : ChangeSpec := { name := "fnDecodeEncodeWrong", fn := fun _ => fun
  | [d] => { results := [.lit (.bool false)], args := [d] }
  | _ => none }
def FnDecodeEncodeWrongWrongFalsely : Prop := fnDecodeEncodeWrongRow.holds Try.pinned (OpenSpec.ofChange fnDecodeEncodeWrongWrong)

/-- 'laws.FnDecodeKeeps': WHATEVER THE INPUT: true; the input reads as it did. -/
def fnDecodeKeepsSpec : ChangeSpec := { name := "fnDecodeKeeps", fn := fun _ => fun
  | [d1, d2] => { results := [.lit (.bool true)], args := [d1, d2] }
  | _ => none }
def fnDecodeKeepsRow : OpenClaim := { program := "ytngpgkldocpjdaa", sum := "c2017f604e82f8a79ad3d2903fed964848bc999679d4a90fe1d47af1c6401cad", func := "loop.example/lib-codeunits/laws.FnDecodeKeeps", spec := "fnDecodeKeeps", apart := false }
def FnDecodeKeepsSaid : Prop := fnDecodeKeepsRow.holds Try.pinned (OpenSpec.ofChange fnDecodeKeepsSpec)

/-- ITS FALSE NEIGHBOUR: 'it returns false'. Refute it at one input. -/
def fnDecodeKeepsWrong : ChangeSpec := { name := "fnDecodeKeeps", fn := fun _ => fun
  | [d1, d2] => { results := [.lit (.bool false)], args := [d1, d2] }
  | _ => none }
def FnDecodeKeepsWrongFalsely : Prop := fnDecodeKeepsRow.holds Try.pinned (OpenSpec.ofChange fnDecodeKeepsWrong)

/-- 'laws.FnDecodeTwice': WHATEVER THE INPUT: true; the input reads as it did. -/
def fnDecodeTwiceSpec : ChangeSpec := { name := "fnDecodeTwice", fn := fun _ => fun
  | [d] => { results := [.lit (.bool true)], args := [d] }
  | _ => none }
def fnDecodeTwiceRow : OpenClaim := { program := "ytngpgkldocpjdaa", sum := "c2017f604e82f8a79ad3d2903fed964848bc999679d4a90fe1d47af1c6401cad", func := "loop.example/lib-codeunits/laws.FnDecodeTwice", spec := "fnDecodeTwice", apart := false }
def FnDecodeTwiceSaid : Prop := fnDecodeTwiceRow.holds Try.pinned (OpenSpec.ofChange fnDecodeTwiceSpec)

/-- ITS FALSE NEIGHBOUR: 'it returns false'. Refute it at one input. -/
def fnDecodeTwiceWrong : ChangeSpec := { name := "fnDecodeTwice", fn := fun _ => fun
  | [d] => { results := [.lit (.bool false)], args := [d] }
  | _ => none }
def FnDecodeTwiceWrongFalsely : Prop := fnDecodeTwiceRow.holds Try.pinned (OpenSpec.ofChange fnDecodeTwiceWrong)

/- THE SECOND FORM. 'bulk': how many values and letters a reading holds, each counted each time it is reached (what is shared counts as often as it is met; a slice's spare places count too). A statement '..UptoSaid' is the law's where the arguments, and the package variables that the reading takes, are together of bulk at most 1048576: NARROWER than '..Said'. Prove '..Said' where nothing that the law and all that it calls make is longer than what came in: it says more and counts as full. Else prove '..UptoSaid'. A law counts once. -/
mutual
def uptoBulk {H : Type} : DataW H → Nat
  | .lit (.string bytes) => bytes.length + 1
  | .lit _ => 1
  | .nil => 1
  | .ptr d => uptoBulk d + 1
  | .slice elems spare => uptoBulkAll elems + uptoBulkAll spare + 1
  | .agg parts => uptoBulkAll parts + 1
  | .iface _ d => uptoBulk d + 1
  | .map entries => uptoBulkEntries entries + 1
  | .held _ => 1
def uptoBulkAll {H : Type} : List (DataW H) → Nat
  | [] => 0
  | d :: r => uptoBulk d + uptoBulkAll r
def uptoBulkEntries {H : Type} : List (Lit × DataW H) → Nat
  | [] => 0
  | x :: r => uptoBulkEntry x + uptoBulkEntries r
def uptoBulkEntry {H : Type} : Lit × DataW H → Nat
  | (.string bytes, d) => bytes.length + uptoBulk d + 1
  | (_, d) => uptoBulk d + 1
 end
def uptoSmall : (H : Type) → List (DataW H) → Bool := fun _ ds => decide (uptoBulkAll ds ≤ 1048576)
def OpenSpec.upto (s : _root_.Go.ChangeSpec) : _root_.Go.OpenSpec := { _root_.Go.OpenSpec.ofChange s with cond := some uptoSmall }

/-- 'laws.FnEncodeWhole', WHERE WHAT IT READS IS OF BULK AT MOST 1048576: true; the input reads as it did. -/
def fnEncodeWholeUptoRow : OpenClaim := { program := "ytngpgkldocpjdaa", sum := "c2017f604e82f8a79ad3d2903fed964848bc999679d4a90fe1d47af1c6401cad", func := "loop.example/lib-codeunits/laws.FnEncodeWhole", spec := "fnEncodeWhole", apart := false, narrowed := true }
def FnEncodeWholeUptoSaid : Prop := fnEncodeWholeUptoRow.holds Try.pinned (OpenSpec.upto fnEncodeWholeSpec)

/-- 'laws.FnDecodeValid', WHERE WHAT IT READS IS OF BULK AT MOST 1048576: true; the input reads as it did. -/
def fnDecodeValidUptoRow : OpenClaim := { program := "ytngpgkldocpjdaa", sum := "c2017f604e82f8a79ad3d2903fed964848bc999679d4a90fe1d47af1c6401cad", func := "loop.example/lib-codeunits/laws.FnDecodeValid", spec := "fnDecodeValid", apart := false, narrowed := true }
def FnDecodeValidUptoSaid : Prop := fnDecodeValidUptoRow.holds Try.pinned (OpenSpec.upto fnDecodeValidSpec)

/-- 'laws.FnEncodeOne', WHERE WHAT IT READS IS OF BULK AT MOST 1048576: true; the input reads as it did. -/
def fnEncodeOneUptoRow : OpenClaim := { program := "ytngpgkldocpjdaa", sum := "c2017f604e82f8a79ad3d2903fed964848bc999679d4a90fe1d47af1c6401cad", func := "loop.example/lib-codeunits/laws.FnEncodeOne", spec := "fnEncodeOne", apart := false, narrowed := true }
def FnEncodeOneUptoSaid : Prop := fnEncodeOneUptoRow.holds Try.pinned (OpenSpec.upto fnEncodeOneSpec)

/-- 'laws.FnEncodeAppend', WHERE WHAT IT READS IS OF BULK AT MOST 1048576: true; the input reads as it did. -/
def fnEncodeAppendUptoRow : OpenClaim := { program := "ytngpgkldocpjdaa", sum := "c2017f604e82f8a79ad3d2903fed964848bc999679d4a90fe1d47af1c6401cad", func := "loop.example/lib-codeunits/laws.FnEncodeAppend", spec := "fnEncodeAppend", apart := false, narrowed := true }
def FnEncodeAppendUptoSaid : Prop := fnEncodeAppendUptoRow.holds Try.pinned (OpenSpec.upto fnEncodeAppendSpec)

/-- 'laws.FnEncodeAppendValid', WHERE WHAT IT READS IS OF BULK AT MOST 1048576: true; the input reads as it did. -/
def fnEncodeAppendValidUptoRow : OpenClaim := { program := "ytngpgkldocpjdaa", sum := "c2017f604e82f8a79ad3d2903fed964848bc999679d4a90fe1d47af1c6401cad", func := "loop.example/lib-codeunits/laws.FnEncodeAppendValid", spec := "fnEncodeAppendValid", apart := false, narrowed := true }
def FnEncodeAppendValidUptoSaid : Prop := fnEncodeAppendValidUptoRow.holds Try.pinned (OpenSpec.upto fnEncodeAppendValidSpec)

/-- 'laws.FnAppendBack', WHERE WHAT IT READS IS OF BULK AT MOST 1048576: true; the input reads as it did. -/
def fnAppendBackUptoRow : OpenClaim := { program := "ytngpgkldocpjdaa", sum := "c2017f604e82f8a79ad3d2903fed964848bc999679d4a90fe1d47af1c6401cad", func := "loop.example/lib-codeunits/laws.FnAppendBack", spec := "fnAppendBack", apart := false, narrowed := true }
def FnAppendBackUptoSaid : Prop := fnAppendBackUptoRow.holds Try.pinned (OpenSpec.upto fnAppendBackSpec)

/-- 'laws.FnDecodeEncode', WHERE WHAT IT READS IS OF BULK AT MOST 1048576: true; the input reads as it did. -/
def fnDecodeEncodeUptoRow : OpenClaim := { program := "ytngpgkldocpjdaa", sum := "c2017f604e82f8a79ad3d2903fed964848bc999679d4a90fe1d47af1c6401cad", func := "loop.example/lib-codeunits/laws.FnDecodeEncode", spec := "fnDecodeEncode", apart := false, narrowed := true }
def FnDecodeEncodeUptoSaid : Prop := fnDecodeEncodeUptoRow.holds Try.pinned (OpenSpec.upto fnDecodeEncodeSpec)

/-- 'laws.FnDecodeEncodeWrong', WHERE WHAT IT READS IS OF BULK AT MOST 1048576: true; the input reads as it did. -/
def fnDecodeEncodeWrongUptoRow : OpenClaim := { program := "ytngpgkldocpjdaa", sum := "c2017f604e82f8a79ad3d2903fed964848bc999679d4a90fe1d47af1c6401cad", func := "loop.example/lib-codeunits/laws.FnDecodeEncodeWrong", spec := "fnDecodeEncodeWrong", apart := false, narrowed := true }
def FnDecodeEncodeWrongUptoSaid : Prop := fnDecodeEncodeWrongUptoRow.holds Try.pinned (OpenSpec.upto fnDecodeEncodeWrongSpec)

/-- 'laws.FnDecodeKeeps', WHERE WHAT IT READS IS OF BULK AT MOST 1048576: true; the input reads as it did. -/
def fnDecodeKeepsUptoRow : OpenClaim := { program := "ytngpgkldocpjdaa", sum := "c2017f604e82f8a79ad3d2903fed964848bc999679d4a90fe1d47af1c6401cad", func := "loop.example/lib-codeunits/laws.FnDecodeKeeps", spec := "fnDecodeKeeps", apart := false, narrowed := true }
def FnDecodeKeepsUptoSaid : Prop := fnDecodeKeepsUptoRow.holds Try.pinned (OpenSpec.upto fnDecodeKeepsSpec)

/-- 'laws.FnDecodeTwice', WHERE WHAT IT READS IS OF BULK AT MOST 1048576: true; the input reads as it did. -/
def fnDecodeTwiceUptoRow : OpenClaim := { program := "ytngpgkldocpjdaa", sum := "c2017f604e82f8a79ad3d2903fed964848bc999679d4a90fe1d47af1c6401cad", func := "loop.example/lib-codeunits/laws.FnDecodeTwice", spec := "fnDecodeTwice", apart := false, narrowed := true }
def FnDecodeTwiceUptoSaid : Prop := fnDecodeTwiceUptoRow.holds Try.pinned (OpenSpec.upto fnDecodeTwiceSpec)

end Rows
end Go.Proofs.Ytngpgkldocpjdaa
