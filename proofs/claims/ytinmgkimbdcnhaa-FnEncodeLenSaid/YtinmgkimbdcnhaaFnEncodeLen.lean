/-
  Proved: the lengths of code points add up: laws.FnEncodeLen returns true for every list of bytes. Conditions: none.
-/
import Derived.Test.YtinmgkimbdcnhaaFrame
import Derived.Test.YtinmgkimbdcnhaaDrawEncode
import Derived.Test.YtinmgkimbdcnhaaEncode
import Derived.Test.YtinmgkimbdcnhaaSpecEnc
import Derived.Test.YtinmgkimbdcnhaaPlainM
namespace Go.Proofs.Ytinmgkimbdcnhaa.fnEncodeLen
open Go.ChangeShapes Go.WideShapes Go.ChangeAt Go.RowKit
set_option linter.unusedVariables false


set_option maxHeartbeats 3200000 in
theorem walk (A0 : Option Addr) (n0 c0 : Nat) (us0 : List Int) (w : World) (w0 : Rd .u8 w A0 n0 c0 us0) (s0 : c0 * 1 ≤ 140737488351232) :
    Calls Try.prog 14 #[.slice A0 n0 c0] w fun e w' => e = .returned (.bool true) ∧ Below w.heap.size w w' := by
  by_cases hn : n0 ≤ 1048576
  · go_enter Try.func14, Try.ntmps14
    go_wp2_with fail
    refine (drawEncode_any _ _ _ _ _ w0 hn).mono ?_
    rintro e w1 ⟨us, hl, A, m, c, rfl, hA, hb⟩
    have hm : m ≤ 1048576 := by have := hA.len; omega
    cases hq : us.all U.encB
    · have Hne := Lib.hid (U.rep_ne us hq)
      go_wp2_with fail
      refine (allEncodable_any A m c us _ hA (by omega)).mono ?_
      rintro e w' ⟨rfl, rfl⟩
      go_wp2_with fail
      refine (replaced_any A m c us _ hA (by omega)).mono ?_
      rintro e w2 ⟨B, l, d, rfl, hB, hb2⟩
      have hlm : l ≤ 1048576 := by have := hB.len; simp at this; omega
      go_wp2_with fail
      refine (sameRunes_any _ _ _ _ _ _ _ _ _ hB (hA.below hb2 (Nat.le_refl _)) (by omega)).mono ?_
      rintro e w3 ⟨rfl, hb3⟩
      rw [decide_eq_false Hne.out]
      go_wp2_with fail
      go_ret
      exact ⟨rfl, bel_then (bel_then hb hb2) hb3⟩
    · have Hall := Lib.hid (List.all_eq_true.1 hq)
      have Hlen := Lib.hid hA.len
      go_wp2_with fail
      refine (allEncodable_any A m c us _ hA (by omega)).mono ?_
      rintro e w' ⟨rfl, rfl⟩
      go_wp2_with fail
      go_loop [4, 5] (fun k i => ∃ j s : Nat, j ≤ m ∧ i = .int .i64 j ∧ k = .int .i64 (s : Int) ∧ s ≤ 2 * j ∧ s = (U.enc (us.take j)).length) (fun _ i => m - (intOf i).toNat)
      case atStart => exact ⟨0, 0, Nat.zero_le _, rfl, rfl, by omega, rfl⟩
      case round =>
        obtain ⟨j, s, hj, rfl, rfl, hs2, hs⟩ := hrel
        have Hs := Lib.hid hs
        clear hs
        by_cases hlt : j < m
        · obtain ⟨b1, o1, u, rfl, hb1, hu, hc1, hw1⟩ := hA.at_ hlt
          have Hu := Lib.hid (U.enc_take_succ us j u hu)
          have hr := U.units_rlen u (Hall.out u (List.mem_of_getElem? hu))
          have hul := U.units_len u
          obtain ⟨k, hk⟩ : ∃ k, k = (U.units u).length := ⟨_, rfl⟩
          rw [← hk] at hr hul
          have Hk := Lib.hid hk
          have hr' := hr.symm
          clear hk hu hr
          go_wp2_with (go_at_call 24; refine (iRuneLen_any _ _).mono ?_; rintro e w' ⟨rfl, rfl⟩)
          go_round
          case rel => exact ⟨j + 1, s + k, by omega, by go_num, by go_num, by omega, by rw [Hu.out, List.length_append, ← Hs.out, ← Hk.out]⟩
          case measure => simp [intOf]; omega
        · have hs' : s = (U.enc us).length := by rw [Hs.out, List.take_of_length_le (by have := Hlen.out; omega)]
          have Hs' := Lib.hid hs'
          clear hs'
          go_wp2_with fail
          refine (iEncode_any A m c us _ hA (by omega)).mono ?_
          rintro e w2 ⟨B, l, d, rfl, hB, hb2⟩
          obtain rfl : l = s := by have := hB.len; have := Hs'.out; omega
          have t1 : ((l : Int) == (l : Int)) = true := by simp
          go_wp2_with fail
          refine (sEncode_any A m c us _ (hA.below hb2 (Nat.le_refl _)) (by omega)).mono ?_
          rintro e w3 ⟨C, k, f, rfl, hC, hb3⟩
          obtain rfl : k = l := by have := hC.len; have := Hs'.out; omega
          go_wp2_with fail
          go_ret
          first | exact ⟨rfl, bel_then (bel_then hb hb2) hb3⟩ | exact ⟨ret_bool (by simp), bel_then (bel_then hb hb2) hb3⟩
  · have hgt : (1048576 : Int) < (n0 : Int) := by omega
    go_enter Try.func14, Try.ntmps14
    go_wp2_with fail
    go_ret
    exact ⟨rfl, Below.refl _ _⟩

set_option maxRecDepth 100000 in
theorem lifted (os : Os) (started : os.Started) (H : Type) (enc : TypeId × Value → H) :
    ReturnsInHanded {} Try.checked os 14 .any (Rows.fnEncodeLenSpec.pre6 enc Try.prog Try.f14 Rows.fnEncodeLenRow.domain false) (Rows.fnEncodeLenSpec.post enc Try.prog Try.f14 false true false false) := by
  refine returnsInHanded_of_change_sized (C := Try.checked) own started (by kernel_rfl) Try.func14
    (ChangeSpec.witness6 (enc := enc) (C := Try.checked) false ⟨#[], #[.slice none 0 0], []⟩ 8 (by kernel_rfl) (by kernel_rfl) (by kernel_rfl) (by kernel_rfl)) ?_
  intro W base args ds gs before hval0 hW hcnd hsz0 _
  have hsz : (DataW.weightsEach Try.prog (Try.f14.params.toList ++ Rows.fnEncodeLenSpec.plain.varTypes Try.prog) (ds ++ gs)).all (· ≤ reachBytes) = true := hsz0
  have hval : ∀ (j : Nat) t v, Try.f14.params[j]? = some t → args[j]? = some v → Value.okWide Try.prog W .any base t v := hval0
  have hW' := hW
  obtain ⟨p, q, hA0, hV, rfl, hfz, hnd⟩ := hW
  have hA : DataW.TrodAll enc Try.prog W 0 (fun _ => true) true Try.f14.params.toList args.toList ds p := hA0
  rw [Try.params14] at hA hval hsz
  obtain ⟨v0, vs0, d0, ds0, p0, q0, hargs, rfl, rfl, h0, r0⟩ := trodAll_cons hA
  obtain ⟨rfl, rfl, rfl⟩ := trodAll_nil r0
  obtain rfl : args = #[v0] := by cases args; simp_all
  obtain ⟨rfl, rfl⟩ := trodVars_none hV
  obtain ⟨A0, n0, c0, rfl⟩ := okWide_slice Try.underlying22 (hval 0 22 v0 rfl rfl)
  have k0 := h0
  have lt0 : ∀ x ∈ p0, x.block < W.heap.size := by obtain ⟨m, hm⟩ := k0; exact DataW.trod_lt m _ _ _ hm
  obtain ⟨us0, w0, hd0⟩ := rd_of_reading Try.underlying22 Try.underlying5 (by kernel_rfl) h0
  have s0 : c0 * 1 ≤ 140737488351232 := by
    rcases hd0 with ⟨rfl, rfl⟩ | ⟨el, sp, rfl, hl⟩
    · omega
    · have := sized_slice hsz (j := 0) (t := 22) (e := 5) rfl rfl Try.underlying22
      rw [show Try.prog.bytesOf 5 = 1 by kernel_rfl, hl] at this
      exact this
  clear hd0
  clear hA0 hval0 hsz0 hsz
  refine (walk A0 n0 c0 us0 W w0 s0).mono fun e W' ⟨he, bel⟩ => ?_
  subst he
  exact ⟨_, rfl, _, _, _, [], _, [], hW', trodAll_mk1 (shut_bool Try.underlying4 _), (trodAll_cons_mk (Below.trod laidOut (by kernel_rfl) (of_decide_eq_true (by kernel_rfl)) k0 bel lt0) trodAll_mk0), rfl, bel.frame _, fun h => by cases h⟩

theorem over : Rows.fnEncodeLenRow.holds Try.pinned (OpenSpec.ofChange Rows.fnEncodeLenSpec) :=
  OpenClaim.holds_of_wide 14 Try.f14 rfl rfl rfl rfl rfl rfl rfl ⟨rfl, rfl, rfl, rfl, rfl⟩ rfl rfl rfl rfl rfl (by kernel_rfl) Try.func14 (by kernel_rfl)
    (of_decide_eq_true (by kernel_rfl)) (by unfold Func.isWrapper; first | (rw [if_pos (by decide +kernel)]; kernel_rfl) | (rw [if_neg (by decide +kernel)]; exact ⟨rfl, rfl⟩))
    (fun os started H enc _ => lifted os started H enc)

/-- THE STATEMENT -/
theorem proved : Rows.FnEncodeLenSaid := over
#print axioms proved
end Go.Proofs.Ytinmgkimbdcnhaa.fnEncodeLen
