/-
  Proved: Decode equals the reference for all code units: laws.FnExactDecodeWrong returns true for every list of code units. Condition: the argument holds at most 1048576 values (the statement's own bound, uptoSmall); above 2^47 bytes of result the statement without it does not hold.
-/
import Derived.Test.YtmbhlicgljjmlaaFrame
import Derived.Test.YtmbhlicgljjmlaaBulk
import Derived.JoinedCond
import Derived.Test.YtmbhlicgljjmlaaDecode
import Derived.Test.YtmbhlicgljjmlaaSpecDec
import Derived.Test.YtmbhlicgljjmlaaSameR
namespace Go.Proofs.Ytmbhlicgljjmlaa.fnExactDecodeWrong
open Go.ChangeShapes Go.WideShapes Go.ChangeAt Go.RowKit
set_option linter.unusedVariables false


set_option maxHeartbeats 3200000 in
theorem walk (A0 : Option Addr) (n0 c0 : Nat) (us0 : List Int) (w : World) (w0 : Rd .u16 w A0 n0 c0 us0) (u0 : c0 ≤ 1048576) :
    Calls Try.prog 12 #[.slice A0 n0 c0] w fun e w' => e = .returned (.bool true) ∧ Below w.heap.size w w' := by
  have hc := w0.cap
  have Hln := Lib.hid w0.len
  go_enter Try.func12, Try.ntmps12
  go_wp2_with fail
  refine (iDecode_any _ _ _ _ _ w0 (by omega)).mono ?_
  rintro e w1 ⟨B, m, d, rfl, hB, hb⟩
  have hm : m ≤ 1048576 := by have := hB.len; have := Hln.out; have := U.dec_len us0; omega
  go_wp2_with fail
  refine (sDecode_any _ _ _ _ _ (w0.below hb (Nat.le_refl _)) (by omega)).mono ?_
  rintro e w2 ⟨C, l, f, rfl, hC, hb2⟩
  go_wp2_with fail
  refine (sameRunes_any _ _ _ _ _ _ _ _ _ (hB.below hb2 (Nat.le_refl _)) hC (by omega)).mono ?_
  rintro e w3 ⟨rfl, hb3⟩
  rw [decide_eq_true rfl]
  go_wp2_with fail
  go_ret
  exact ⟨rfl, bel_then (bel_then hb hb2) hb3⟩

theorem contract (H : Type) (enc : TypeId × Value → H) (W : World) (base : Nat) (args : Array Value) (ds gs : List (DataW H)) (before : List MemPlace)
    (hval0 : ∀ (j : Nat) t v, Try.f12.params[j]? = some t → args[j]? = some v → Value.okWide Try.prog W .any base t v)
    (hW : DataW.Whole enc Try.prog Try.f12.params.toList Rows.fnExactDecodeWrongSpec.vars false W args.toList ds gs before) (hk : Rows.uptoSmall H (ds ++ gs) = true) :
    Calls Try.prog 12 args W fun e W' => ∃ v, e = .returned v ∧ Rows.fnExactDecodeWrongSpec.post enc Try.prog Try.f12 false true false false W args v W' := by
  have hval := hval0
  have hW' := hW
  obtain ⟨p, q, hA0, hV, rfl, hfz, hnd⟩ := hW
  have hA : DataW.TrodAll enc Try.prog W 0 (fun _ => true) true Try.f12.params.toList args.toList ds p := hA0
  rw [Try.params12] at hA hval
  obtain ⟨v0, vs0, d0, ds0, p0, q0, hargs, rfl, rfl, h0, r0⟩ := trodAll_cons hA
  obtain ⟨rfl, rfl, rfl⟩ := trodAll_nil r0
  obtain rfl : args = #[v0] := by cases args; simp_all
  obtain ⟨rfl, rfl⟩ := trodVars_none hV
  obtain ⟨A0, n0, c0, rfl⟩ := okWide_slice Try.underlying23 (hval 0 23 v0 rfl rfl)
  have k0 := h0
  have lt0 : ∀ x ∈ p0, x.block < W.heap.size := by obtain ⟨m, hm⟩ := k0; exact DataW.trod_lt m _ _ _ hm
  obtain ⟨us0, w0, hd0⟩ := rd_of_reading Try.underlying23 Try.underlying40 (by kernel_rfl) h0
  have u0 : c0 ≤ 1048576 := by
    rcases hd0 with ⟨rfl, rfl⟩ | ⟨el, sp, rfl, hl⟩
    · omega
    · have := bulk_slice hk
      omega
  clear hd0
  clear hA0 hval0
  refine (walk A0 n0 c0 us0 W w0 u0).mono fun e W' ⟨he, bel⟩ => ?_
  subst he
  exact ⟨_, rfl, _, _, _, [], _, [], hW', trodAll_mk1 (shut_bool Try.underlying4 _), (trodAll_cons_mk (Below.trod laidOut (by kernel_rfl) (of_decide_eq_true (by kernel_rfl)) k0 bel lt0) trodAll_mk0), rfl, bel.frame _, fun h => by cases h⟩

set_option maxRecDepth 100000 in
theorem lifted (os : Os) (started : os.Started) (H : Type) (enc : TypeId × Value → H) (F : Stop.Interp) :
    ReturnsInHanded {} Try.checked os 12 .any ((Rows.OpenSpec.upto Rows.fnExactDecodeWrongSpec).pre6 enc Try.prog Try.f12 Rows.fnExactDecodeWrongUptoRow.domain false) (((Rows.OpenSpec.upto Rows.fnExactDecodeWrongSpec).at F).post enc Try.prog Try.f12 false true false false) := by
  refine returnsInHanded_of_cond (C := Try.checked) (s := Rows.OpenSpec.upto Rows.fnExactDecodeWrongSpec) (k := Rows.uptoSmall) rfl own started (by kernel_rfl) Try.func12
    (OpenSpec.witness (enc := enc) (C := Try.checked) (s := Rows.OpenSpec.upto Rows.fnExactDecodeWrongSpec) (k := Rows.uptoSmall) rfl false ⟨#[], #[.slice none 0 0], []⟩ 8 (by kernel_rfl) (by kernel_rfl) (by kernel_rfl)
      (x := ([.nil], [], [])) (by kernel_rfl) rfl (by kernel_rfl)) ?_
  intro W base args ds gs before hval hW _ hk _
  exact contract H enc W base args ds gs before hval hW hk

/-- THE STATEMENT -/
theorem proved : Rows.FnExactDecodeWrongUptoSaid :=
  OpenClaim.holds_of_cond 12 Try.f12 rfl rfl rfl rfl rfl rfl rfl ⟨rfl, rfl, rfl, rfl, rfl⟩ rfl rfl rfl rfl rfl (by kernel_rfl) Try.func12 (by kernel_rfl)
    (of_decide_eq_true (by kernel_rfl)) (by unfold Func.isWrapper; first | (rw [if_pos (by decide +kernel)]; kernel_rfl) | (rw [if_neg (by decide +kernel)]; exact ⟨rfl, rfl⟩))
    (fun os started H enc _ F => lifted os started H enc F)
#print axioms proved
end Go.Proofs.Ytmbhlicgljjmlaa.fnExactDecodeWrong
