/-
  Proved: Encode equals the reference for all numbers: laws.FnExactEncodeWrong returns true for every list of numbers. Conditions: none.
-/
import Derived.Test.YtinmgkimbdcnhaaFrame
import Derived.Test.YtinmgkimbdcnhaaLists
import Derived.Test.YtinmgkimbdcnhaaEncode
import Derived.Test.YtinmgkimbdcnhaaSpecEnc
import Derived.Test.YtinmgkimbdcnhaaSameU
namespace Go.Proofs.Ytinmgkimbdcnhaa.fnExactEncodeWrong
open Go.ChangeShapes Go.WideShapes Go.ChangeAt Go.RowKit
set_option linter.unusedVariables false


set_option maxHeartbeats 3200000 in
theorem walk (A0 : Option Addr) (n0 c0 : Nat) (us0 : List Int) (w : World) (w0 : Rd .i32 w A0 n0 c0 us0) (s0 : c0 * 4 ≤ 140737488351232) :
    Calls Try.prog 13 #[.slice A0 n0 c0] w fun e w' => e = .returned (.bool true) ∧ Below w.heap.size w w' := by
  have hc := w0.cap
  have hln := w0.len
  have Hln := Lib.hid hln
  clear hln
  go_enter Try.func13, Try.ntmps13
  go_wp2_with fail
  refine (iEncode_any _ _ _ _ _ w0 (by omega)).mono ?_
  rintro e w1 ⟨B, m, d, rfl, hB, hb⟩
  have hm : m ≤ 140737488355328 := by have := hB.len; have := Hln.out; have := U.enc_len us0; omega
  go_wp2_with fail
  refine (sEncode_any _ _ _ _ _ (w0.below hb (Nat.le_refl _)) (by omega)).mono ?_
  rintro e w2 ⟨C, l, f, rfl, hC, hb2⟩
  go_wp2_with fail
  refine (sameUnits_any _ _ _ _ _ _ _ _ _ (hB.below hb2 (Nat.le_refl _)) hC hm).mono ?_
  rintro e w3 ⟨rfl, hb3⟩
  rw [decide_eq_true rfl]
  go_wp2_with fail
  go_ret
  exact ⟨rfl, bel_then (bel_then hb hb2) hb3⟩

set_option maxRecDepth 100000 in
theorem lifted (os : Os) (started : os.Started) (H : Type) (enc : TypeId × Value → H) :
    ReturnsInHanded {} Try.checked os 13 .any (Rows.fnExactEncodeWrongSpec.pre6 enc Try.prog Try.f13 Rows.fnExactEncodeWrongRow.domain false) (Rows.fnExactEncodeWrongSpec.post enc Try.prog Try.f13 false true false false) := by
  refine returnsInHanded_of_change_sized (C := Try.checked) own started (by kernel_rfl) Try.func13
    (ChangeSpec.witness6 (enc := enc) (C := Try.checked) false ⟨#[], #[.slice none 0 0], []⟩ 8 (by kernel_rfl) (by kernel_rfl) (by kernel_rfl) (by kernel_rfl)) ?_
  intro W base args ds gs before hval0 hW hcnd hsz0 _
  have hsz : (DataW.weightsEach Try.prog (Try.f13.params.toList ++ Rows.fnExactEncodeWrongSpec.plain.varTypes Try.prog) (ds ++ gs)).all (· ≤ reachBytes) = true := hsz0
  have hval : ∀ (j : Nat) t v, Try.f13.params[j]? = some t → args[j]? = some v → Value.okWide Try.prog W .any base t v := hval0
  have hW' := hW
  obtain ⟨p, q, hA0, hV, rfl, hfz, hnd⟩ := hW
  have hA : DataW.TrodAll enc Try.prog W 0 (fun _ => true) true Try.f13.params.toList args.toList ds p := hA0
  rw [Try.params13] at hA hval hsz
  obtain ⟨v0, vs0, d0, ds0, p0, q0, hargs, rfl, rfl, h0, r0⟩ := trodAll_cons hA
  obtain ⟨rfl, rfl, rfl⟩ := trodAll_nil r0
  obtain rfl : args = #[v0] := by cases args; simp_all
  obtain ⟨rfl, rfl⟩ := trodVars_none hV
  obtain ⟨A0, n0, c0, rfl⟩ := okWide_slice Try.underlying25 (hval 0 25 v0 rfl rfl)
  have k0 := h0
  have lt0 : ∀ x ∈ p0, x.block < W.heap.size := by obtain ⟨m, hm⟩ := k0; exact DataW.trod_lt m _ _ _ hm
  obtain ⟨us0, w0, hd0⟩ := rd_of_reading Try.underlying25 Try.underlying21 (by kernel_rfl) h0
  have s0 : c0 * 4 ≤ 140737488351232 := by
    rcases hd0 with ⟨rfl, rfl⟩ | ⟨el, sp, rfl, hl⟩
    · omega
    · have := sized_slice hsz (j := 0) (t := 25) (e := 21) rfl rfl Try.underlying25
      rw [show Try.prog.bytesOf 21 = 4 by kernel_rfl, hl] at this
      exact this
  clear hd0
  clear hA0 hval0 hsz0 hsz
  refine (walk A0 n0 c0 us0 W w0 s0).mono fun e W' ⟨he, bel⟩ => ?_
  subst he
  exact ⟨_, rfl, _, _, _, [], _, [], hW', trodAll_mk1 (shut_bool Try.underlying4 _), (trodAll_cons_mk (Below.trod laidOut (by kernel_rfl) (of_decide_eq_true (by kernel_rfl)) k0 bel lt0) trodAll_mk0), rfl, bel.frame _, fun h => by cases h⟩

theorem over : Rows.fnExactEncodeWrongRow.holds Try.pinned (OpenSpec.ofChange Rows.fnExactEncodeWrongSpec) :=
  OpenClaim.holds_of_wide 13 Try.f13 rfl rfl rfl rfl rfl rfl rfl ⟨rfl, rfl, rfl, rfl, rfl⟩ rfl rfl rfl rfl rfl (by kernel_rfl) Try.func13 (by kernel_rfl)
    (of_decide_eq_true (by kernel_rfl)) (by unfold Func.isWrapper; first | (rw [if_pos (by decide +kernel)]; kernel_rfl) | (rw [if_neg (by decide +kernel)]; exact ⟨rfl, rfl⟩))
    (fun os started H enc _ => lifted os started H enc)

/-- THE STATEMENT -/
theorem proved : Rows.FnExactEncodeWrongSaid := over
#print axioms proved
end Go.Proofs.Ytinmgkimbdcnhaa.fnExactEncodeWrong
