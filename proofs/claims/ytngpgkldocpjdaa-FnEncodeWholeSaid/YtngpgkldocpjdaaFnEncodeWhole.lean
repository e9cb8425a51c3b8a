/-
  Proved: an encoding has no surrogate alone: laws.FnEncodeWhole returns true for every list of bytes. Conditions: none.
-/
import Derived.Test.YtngpgkldocpjdaaFrame
import Derived.Test.YtngpgkldocpjdaaDrawEncode
import Derived.Test.YtngpgkldocpjdaaEncode
import Derived.Test.YtngpgkldocpjdaaSpecDec
import Derived.Test.YtngpgkldocpjdaaPlainM
namespace Go.Proofs.Ytngpgkldocpjdaa.fnEncodeWhole
open Go.ChangeShapes Go.WideShapes Go.ChangeAt Go.RowKit
set_option linter.unusedVariables false


set_option maxHeartbeats 3200000 in
theorem walk (A0 : Option Addr) (n0 c0 : Nat) (us0 : List Int) (w : World) (w0 : Rd .u8 w A0 n0 c0 us0) (s0 : c0 * 1 ≤ 140737488351232) :
    Calls Try.prog 3 #[.slice A0 n0 c0] w fun e w' => e = .returned (.bool true) ∧ Below w.heap.size w w' := by
  by_cases hn : n0 ≤ 1048576
  · go_enter Try.func3, Try.ntmps3
    go_wp2_with fail
    refine (drawEncode_any _ _ _ _ _ w0 hn).mono ?_
    rintro e w1 ⟨us, hl, A, m, c, rfl, hA, hb⟩
    have Hlen := Lib.hid hA.len
    have hm : m ≤ 1048576 := by have := Hlen.out; omega
    go_wp2_with fail
    refine (iEncode_any A m c us _ hA (by omega)).mono ?_
    rintro e w2 ⟨B, l, d, rfl, hB, hb2⟩
    have hlm : l ≤ 2097152 := by have := hB.len; have := U.enc_len us; have := Hlen.out; omega
    have hA2 := hA.below hb2 (Nat.le_refl _)
    go_wp2_with fail
    go_loop [5, 6] (fun k i => ∃ j s : Nat, j ≤ m ∧ i = .int .i64 j ∧ k = .int .i64 (s : Int) ∧ s ≤ j ∧ s = U.two (us.take j)) (fun _ i => m - (intOf i).toNat)
    case atStart => exact ⟨0, 0, Nat.zero_le _, rfl, rfl, by omega, rfl⟩
    case round =>
      obtain ⟨j, s, hj, rfl, rfl, hs2, hs⟩ := hrel
      have Hs := Lib.hid hs
      clear hs
      by_cases hlt : j < m
      · obtain ⟨b1, o1, u, rfl, hb1, hu, hc1, hw1⟩ := hA2.at_ hlt
        have Hu : Hid (U.two (us.take (j + 1)) = U.two (us.take j) + if U.rlen u = 2 then 1 else 0) := by
          obtain ⟨hk, rfl⟩ := List.getElem?_eq_some_iff.1 hu
          rw [List.take_succ_eq_append_getElem hk, U.two_snoc]; rfl
        clear hu
        by_cases h2 : U.rlen u = 2
        · go_wp2_with (go_at_call 15; refine (iRuneLen_any _ _).mono ?_; rintro e w' ⟨rfl, rfl⟩)
          go_round
          case rel => exact ⟨j + 1, s + 1, by omega, by go_num, by go_num, by omega, by rw [Hu.out, ← Hs.out, if_pos h2]⟩
          case measure => simp [intOf]; omega
        · have h2' : (U.rlen u == 2) = false := by simpa using h2
          go_wp2_with (go_at_call 15; refine (iRuneLen_any _ _).mono ?_; rintro e w' ⟨rfl, rfl⟩)
          go_round
          case rel => exact ⟨j + 1, s, by omega, by go_num, by go_num, by omega, by rw [Hu.out, ← Hs.out, if_neg h2]; rfl⟩
          case measure => simp [intOf]; omega
      · have hs' : s = U.two us := by rw [Hs.out, List.take_of_length_le (by have := Hlen.out; omega)]
        have e1 := U.wfm_enc us
        obtain ⟨e2, e3⟩ := U.enc_two us
        rw [← hs'] at e2 e3
        rw [hB.len, Hlen.out] at e3
        have t1 : ((U.cnt (U.enc us) : Int) == (s : Int)) = true := by rw [e2]; simp
        have t2 : ((l : Int) == (m : Int) + (s : Int)) = true := by rw [e3]; simp
        have hsl : s ≤ m := by omega
        clear e2 e3 hs'
        go_wp2_with (first | (go_at_call 16; refine (wellFormed_any _ _ _ _ _ hB (by omega)).mono ?_; rintro e w' ⟨rfl, rfl⟩) | (go_at_call 17; refine (pairs_any _ _ _ _ _ hB (by omega)).mono ?_; rintro e w' ⟨rfl, rfl⟩))
        go_ret
        first | exact ⟨rfl, bel_then hb hb2⟩ | exact ⟨ret_bool (by simp [*]), bel_then hb hb2⟩
  · have hgt : (1048576 : Int) < (n0 : Int) := by omega
    go_enter Try.func3, Try.ntmps3
    go_wp2_with fail
    go_ret
    exact ⟨rfl, Below.refl _ _⟩

set_option maxRecDepth 100000 in
theorem lifted (os : Os) (started : os.Started) (H : Type) (enc : TypeId × Value → H) :
    ReturnsInHanded {} Try.checked os 3 .any (Rows.fnEncodeWholeSpec.pre6 enc Try.prog Try.f3 Rows.fnEncodeWholeRow.domain false) (Rows.fnEncodeWholeSpec.post enc Try.prog Try.f3 false true false false) := by
  refine returnsInHanded_of_change_sized (C := Try.checked) own started (by kernel_rfl) Try.func3
    (ChangeSpec.witness6 (enc := enc) (C := Try.checked) false ⟨#[], #[.slice none 0 0], []⟩ 8 (by kernel_rfl) (by kernel_rfl) (by kernel_rfl) (by kernel_rfl)) ?_
  intro W base args ds gs before hval0 hW hcnd hsz0 _
  have hsz : (DataW.weightsEach Try.prog (Try.f3.params.toList ++ Rows.fnEncodeWholeSpec.plain.varTypes Try.prog) (ds ++ gs)).all (· ≤ reachBytes) = true := hsz0
  have hval : ∀ (j : Nat) t v, Try.f3.params[j]? = some t → args[j]? = some v → Value.okWide Try.prog W .any base t v := hval0
  have hW' := hW
  obtain ⟨p, q, hA0, hV, rfl, hfz, hnd⟩ := hW
  have hA : DataW.TrodAll enc Try.prog W 0 (fun _ => true) true Try.f3.params.toList args.toList ds p := hA0
  rw [Try.params3] at hA hval hsz
  obtain ⟨v0, vs0, d0, ds0, p0, q0, hargs, rfl, rfl, h0, r0⟩ := trodAll_cons hA
  obtain ⟨rfl, rfl, rfl⟩ := trodAll_nil r0
  obtain rfl : args = #[v0] := by cases args; simp_all
  obtain ⟨rfl, rfl⟩ := trodVars_none hV
  obtain ⟨A0, n0, c0, rfl⟩ := okWide_slice Try.underlying22 (hval 0 22 v0 rfl rfl)
  have k0 := h0
  have lt0 : ∀ x ∈ p0, x.block < W.heap.size := by obtain ⟨m, hm⟩ := k0; exact DataW.trod_lt m _ _ _ hm
  obtain ⟨us0, w0, hd0⟩ := rd_of_reading Try.underlying22 Try.underlying5 (by kernel_rfl) h0
  have s0 : c0 * 1 ≤ 140737488351232 := by
    rcases hd0 with ⟨rfl, rfl⟩ | ⟨el, sp, rfl, hl⟩
    · omega
    · have := sized_slice hsz (j := 0) (t := 22) (e := 5) rfl rfl Try.underlying22
      rw [show Try.prog.bytesOf 5 = 1 by kernel_rfl, hl] at this
      exact this
  clear hd0
  clear hA0 hval0 hsz0 hsz
  refine (walk A0 n0 c0 us0 W w0 s0).mono fun e W' ⟨he, bel⟩ => ?_
  subst he
  exact ⟨_, rfl, _, _, _, [], _, [], hW', trodAll_mk1 (shut_bool Try.underlying4 _), (trodAll_cons_mk (Below.trod laidOut (by kernel_rfl) (of_decide_eq_true (by kernel_rfl)) k0 bel lt0) trodAll_mk0), rfl, bel.frame _, fun h => by cases h⟩

theorem over : Rows.fnEncodeWholeRow.holds Try.pinned (OpenSpec.ofChange Rows.fnEncodeWholeSpec) :=
  OpenClaim.holds_of_wide 3 Try.f3 rfl rfl rfl rfl rfl rfl rfl ⟨rfl, rfl, rfl, rfl, rfl⟩ rfl rfl rfl rfl rfl (by kernel_rfl) Try.func3 (by kernel_rfl)
    (of_decide_eq_true (by kernel_rfl)) (by unfold Func.isWrapper; first | (rw [if_pos (by decide +kernel)]; kernel_rfl) | (rw [if_neg (by decide +kernel)]; exact ⟨rfl, rfl⟩))
    (fun os started H enc _ => lifted os started H enc)

/-- THE STATEMENT -/
theorem proved : Rows.FnEncodeWholeSaid := over
#print axioms proved
end Go.Proofs.Ytngpgkldocpjdaa.fnEncodeWhole
