/-
  Proved: everything that is decoded can be encoded: laws.FnDecodeValid returns true for every list of bytes. Conditions: none.
-/
import Derived.Test.YtngpgkldocpjdaaFrame
import Derived.Test.YtngpgkldocpjdaaDrawDecode
import Derived.Test.YtngpgkldocpjdaaDecode
import Derived.Test.YtngpgkldocpjdaaSpecDec
import Derived.Test.YtngpgkldocpjdaaPlainM
namespace Go.Proofs.Ytngpgkldocpjdaa.fnDecodeValid
open Go.ChangeShapes Go.WideShapes Go.ChangeAt Go.RowKit
set_option linter.unusedVariables false


set_option maxHeartbeats 3200000 in
theorem walk (A0 : Option Addr) (n0 c0 : Nat) (us0 : List Int) (w : World) (w0 : Rd .u8 w A0 n0 c0 us0) (s0 : c0 * 1 ≤ 140737488351232) :
    Calls Try.prog 4 #[.slice A0 n0 c0] w fun e w' => e = .returned (.bool true) ∧ Below w.heap.size w w' := by
  by_cases hn : n0 ≤ 1048576
  · go_enter Try.func4, Try.ntmps4
    go_wp2_with fail
    refine (drawDecode_any _ _ _ _ _ w0 hn).mono ?_
    rintro e w1 ⟨us, hl, A, n, c, rfl, hA, hb⟩
    have Hlen := Lib.hid hA.len
    have hnl : n ≤ 1048576 := by have := Hlen.out; omega
    go_wp2_with fail
    refine (iDecode_any A n c us _ hA (by omega)).mono ?_
    rintro e w2 ⟨B, m, d, rfl, hB, hb2⟩
    have hm : m ≤ 1048576 := by have := hB.len; have := U.dec_len us; have := Hlen.out; omega
    have hA2 := hA.below hb2 (Nat.le_refl _)
    have He := Lib.hid (U.dec_encB us (isU_of hA.wf))
    go_wp2_with fail
    go_loop [5] (fun i => ∃ j : Nat, j ≤ m ∧ i = .int .i64 j) (fun i => m - (intOf i).toNat)
    case atStart => exact ⟨0, Nat.zero_le _, rfl⟩
    case round =>
      obtain ⟨j, hj, rfl⟩ := hrel
      by_cases hlt : j < m
      · obtain ⟨b1, o1, u, rfl, hb1, hu, hc1, hw1⟩ := hB.at_ hlt
        have hq := He.out u (List.mem_of_getElem? hu)
        clear hu
        have hs : U.surB u = false := by
          simp only [U.encB, decide_eq_true_eq] at hq
          apply decide_eq_false; omega
        rcases U.len_cases u with ⟨_, _, h⟩ | ⟨_, _, h⟩ | ⟨h, _⟩
        · go_wp2_with (first | (go_at_call 15; refine (iRuneLen_any _ _).mono ?_; rintro e w' ⟨rfl, rfl⟩) | (go_at_call 20; refine (iIsSurrogate_any _ _).mono ?_; rintro e w' ⟨rfl, rfl⟩))
          go_round
          case rel => exact ⟨j + 1, by omega, by go_num⟩
          case measure => simp [intOf]; omega
        · go_wp2_with (first | (go_at_call 15; refine (iRuneLen_any _ _).mono ?_; rintro e w' ⟨rfl, rfl⟩) | (go_at_call 20; refine (iIsSurrogate_any _ _).mono ?_; rintro e w' ⟨rfl, rfl⟩))
          go_round
          case rel => exact ⟨j + 1, by omega, by go_num⟩
          case measure => simp [intOf]; omega
        · rw [hq] at h; cases h
      · go_wp2_with fail
        refine (sDecode_any A n c us _ hA2 (by omega)).mono ?_
        rintro e w3 ⟨C, l, f, rfl, hC, hb3⟩
        obtain rfl : l = m := hC.len.symm.trans hB.len
        go_wp2_with fail
        go_ret
        first | exact ⟨rfl, bel_then (bel_then hb hb2) hb3⟩ | exact ⟨ret_bool (by simp), bel_then (bel_then hb hb2) hb3⟩
  · have hgt : (1048576 : Int) < (n0 : Int) := by omega
    go_enter Try.func4, Try.ntmps4
    go_wp2_with fail
    go_ret
    exact ⟨rfl, Below.refl _ _⟩

set_option maxRecDepth 100000 in
theorem lifted (os : Os) (started : os.Started) (H : Type) (enc : TypeId × Value → H) :
    ReturnsInHanded {} Try.checked os 4 .any (Rows.fnDecodeValidSpec.pre6 enc Try.prog Try.f4 Rows.fnDecodeValidRow.domain false) (Rows.fnDecodeValidSpec.post enc Try.prog Try.f4 false true false false) := by
  refine returnsInHanded_of_change_sized (C := Try.checked) own started (by kernel_rfl) Try.func4
    (ChangeSpec.witness6 (enc := enc) (C := Try.checked) false ⟨#[], #[.slice none 0 0], []⟩ 8 (by kernel_rfl) (by kernel_rfl) (by kernel_rfl) (by kernel_rfl)) ?_
  intro W base args ds gs before hval0 hW hcnd hsz0 _
  have hsz : (DataW.weightsEach Try.prog (Try.f4.params.toList ++ Rows.fnDecodeValidSpec.plain.varTypes Try.prog) (ds ++ gs)).all (· ≤ reachBytes) = true := hsz0
  have hval : ∀ (j : Nat) t v, Try.f4.params[j]? = some t → args[j]? = some v → Value.okWide Try.prog W .any base t v := hval0
  have hW' := hW
  obtain ⟨p, q, hA0, hV, rfl, hfz, hnd⟩ := hW
  have hA : DataW.TrodAll enc Try.prog W 0 (fun _ => true) true Try.f4.params.toList args.toList ds p := hA0
  rw [Try.params4] at hA hval hsz
  obtain ⟨v0, vs0, d0, ds0, p0, q0, hargs, rfl, rfl, h0, r0⟩ := trodAll_cons hA
  obtain ⟨rfl, rfl, rfl⟩ := trodAll_nil r0
  obtain rfl : args = #[v0] := by cases args; simp_all
  obtain ⟨rfl, rfl⟩ := trodVars_none hV
  obtain ⟨A0, n0, c0, rfl⟩ := okWide_slice Try.underlying22 (hval 0 22 v0 rfl rfl)
  have k0 := h0
  have lt0 : ∀ x ∈ p0, x.block < W.heap.size := by obtain ⟨m, hm⟩ := k0; exact DataW.trod_lt m _ _ _ hm
  obtain ⟨us0, w0, hd0⟩ := rd_of_reading Try.underlying22 Try.underlying5 (by kernel_rfl) h0
  have s0 : c0 * 1 ≤ 140737488351232 := by
    rcases hd0 with ⟨rfl, rfl⟩ | ⟨el, sp, rfl, hl⟩
    · omega
    · have := sized_slice hsz (j := 0) (t := 22) (e := 5) rfl rfl Try.underlying22
      rw [show Try.prog.bytesOf 5 = 1 by kernel_rfl, hl] at this
      exact this
  clear hd0
  clear hA0 hval0 hsz0 hsz
  refine (walk A0 n0 c0 us0 W w0 s0).mono fun e W' ⟨he, bel⟩ => ?_
  subst he
  exact ⟨_, rfl, _, _, _, [], _, [], hW', trodAll_mk1 (shut_bool Try.underlying4 _), (trodAll_cons_mk (Below.trod laidOut (by kernel_rfl) (of_decide_eq_true (by kernel_rfl)) k0 bel lt0) trodAll_mk0), rfl, bel.frame _, fun h => by cases h⟩

theorem over : Rows.fnDecodeValidRow.holds Try.pinned (OpenSpec.ofChange Rows.fnDecodeValidSpec) :=
  OpenClaim.holds_of_wide 4 Try.f4 rfl rfl rfl rfl rfl rfl rfl ⟨rfl, rfl, rfl, rfl, rfl⟩ rfl rfl rfl rfl rfl (by kernel_rfl) Try.func4 (by kernel_rfl)
    (of_decide_eq_true (by kernel_rfl)) (by unfold Func.isWrapper; first | (rw [if_pos (by decide +kernel)]; kernel_rfl) | (rw [if_neg (by decide +kernel)]; exact ⟨rfl, rfl⟩))
    (fun os started H enc _ => lifted os started H enc)

/-- THE STATEMENT -/
theorem proved : Rows.FnDecodeValidSaid := over
#print axioms proved
end Go.Proofs.Ytngpgkldocpjdaa.fnDecodeValid
