/-
  Proved: different code units without surrogates alone stand for different code points: laws.FnDecodeSame returns true for every two lists of bytes. Conditions: none.
-/
import Derived.Test.YtmbhlicgljjmlaaFrame
import Derived.Test.YtmbhlicgljjmlaaDrawDecode
import Derived.Test.YtmbhlicgljjmlaaDecode
import Derived.Test.YtmbhlicgljjmlaaSpecDec
import Derived.Test.YtmbhlicgljjmlaaSameR
import Derived.Test.YtmbhlicgljjmlaaSameU
import Derived.Test.YtmbhlicgljjmlaaPlainM
namespace Go.Proofs.Ytmbhlicgljjmlaa.fnDecodeSame
open Go.ChangeShapes Go.WideShapes Go.ChangeAt Go.RowKit
set_option linter.unusedVariables false


theorem walk (A0 : Option Addr) (n0 c0 : Nat) (us0 : List Int) (A1 : Option Addr) (n1 c1 : Nat) (us1 : List Int) (w : World) (w0 : Rd .u8 w A0 n0 c0 us0) (s0 : c0 * 1 ≤ 140737488351232) (w1 : Rd .u8 w A1 n1 c1 us1) (s1 : c1 * 1 ≤ 140737488351232) :
    Calls Try.prog 9 #[.slice A0 n0 c0, .slice A1 n1 c1] w fun e w' => e = .returned (.bool true) ∧ Below w.heap.size w w' := by
  by_cases hn : n0 ≤ 1048576
  · by_cases hn1 : n1 ≤ 1048576
    · go_enter Try.func9, Try.ntmps9
      go_wp2_with fail
      refine (drawDecode_any _ _ _ _ _ w0 hn).mono ?_
      rintro e w2 ⟨us, hl, A, n, c, rfl, hA, hb2⟩
      go_wp2_with fail
      refine (drawDecode_any _ _ _ _ _ (w1.below hb2 (Nat.le_refl _)) hn1).mono ?_
      rintro e w3 ⟨vs, hl3, B, m, d, rfl, hB, hb3⟩
      have hA3 := hA.below hb3 (Nat.le_refl _)
      have hb := bel_then hb2 hb3
      have Hl := Lib.hid hA.len
      have Hm := Lib.hid hB.len
      have hnl : n ≤ 1048576 := by have := Hl.out; omega
      have hml : m ≤ 1048576 := by have := Hm.out; omega
      clear hb2 hb3 hA
      cases hw : U.wfm us
      · have hp : 0 < n := by
          rcases Nat.eq_zero_or_pos n with h0 | h0
          · have : us = [] := List.eq_nil_of_length_eq_zero (by rw [Hl.out, h0])
            rw [this] at hw; cases hw
          · exact h0
        go_wp2_with (go_at_call 28; refine (wellFormed_any _ _ _ us _ hA3 (by omega)).mono ?_; rintro e w' ⟨rfl, rfl⟩)
        go_ret
        first | exact ⟨rfl, hb⟩ | exact ⟨ret_bool (decide_eq_true (by omega)), hb⟩
      · cases hv : U.wfm vs
        · have hp : 0 < m := by
            rcases Nat.eq_zero_or_pos m with h0 | h0
            · have : vs = [] := List.eq_nil_of_length_eq_zero (by rw [Hm.out, h0])
              rw [this] at hv; cases hv
            · exact h0
          go_wp2_with fail
          refine (wellFormed_any _ _ _ us _ hA3 (by omega)).mono ?_
          rintro e w' ⟨rfl, rfl⟩
          go_wp2_with fail
          refine (wellFormed_any _ _ _ vs _ hB (by omega)).mono ?_
          rintro e w' ⟨rfl, rfl⟩
          go_wp2_with fail
          go_ret
          first | exact ⟨rfl, hb⟩ | exact ⟨ret_bool (decide_eq_true (by omega)), hb⟩
        · have Hi := Lib.hid (U.dec_inj us vs (isU_ofs hA3.wf) (isU_ofs hB.wf) hw hv)
          go_wp2_with fail
          refine (wellFormed_any _ _ _ us _ hA3 (by omega)).mono ?_
          rintro e w' ⟨rfl, rfl⟩
          go_wp2_with fail
          refine (wellFormed_any _ _ _ vs _ hB (by omega)).mono ?_
          rintro e w' ⟨rfl, rfl⟩
          go_wp2_with fail
          refine (iDecode_any A n c us _ hA3 (by omega)).mono ?_
          rintro e w4 ⟨C, k, f, rfl, hC, hb4⟩
          have hk : k ≤ 1048576 := by have := hC.len; have := U.dec_len us; omega
          go_wp2_with fail
          refine (iDecode_any B m d vs _ (hB.below hb4 (Nat.le_refl _)) (by omega)).mono ?_
          rintro e w5 ⟨D, k5, f5, rfl, hD, hb5⟩
          go_wp2_with fail
          refine (sameRunes_any _ _ _ _ _ _ _ _ _ (hC.below hb5 (Nat.le_refl _)) hD (by omega)).mono ?_
          rintro e w6 ⟨rfl, hb6⟩
          have hA6 := ((hA3.below hb4 (Nat.le_refl _)).below hb5 (Nat.le_refl _)).below hb6 (Nat.le_refl _)
          have hB6 := ((hB.below hb4 (Nat.le_refl _)).below hb5 (Nat.le_refl _)).below hb6 (Nat.le_refl _)
          have hbb := bel_then (bel_then (bel_then hb hb4) hb5) hb6
          clear hb hb4 hb5 hb6 hA3 hB
          have He : Hid (decide (U.dec us = U.dec vs) = decide (us = vs)) := decide_eq_decide.2 Hi.out
          rw [He.out]
          generalize hq : decide (us = vs) = q at *
          have t1 : (q == q) = true := by simp
          have Hq := Lib.hid hq
          clear hq
          go_wp2_with fail
          refine (sameUnits_any _ _ _ _ _ _ _ _ _ hA6 hB6 (by omega)).mono ?_
          rintro e w7 ⟨rfl, hb7⟩
          rw [Hq.out]
          go_wp2_with fail
          refine (iDecode_any A n c us _ (hA6.below hb7 (Nat.le_refl _)) (by omega)).mono ?_
          rintro e w8 ⟨E, k8, f8, rfl, hE, hb8⟩
          have hk8 : k8 ≤ 1048576 := by have := hE.len; have := U.dec_len us; omega
          go_wp2_with fail
          refine (sDecode_any A n c us _ ((hA6.below hb7 (Nat.le_refl _)).below hb8 (Nat.le_refl _)) (by omega)).mono ?_
          rintro e w9 ⟨G, k9, f9, rfl, hG, hb9⟩
          go_wp2_with fail
          refine (sameRunes_any _ _ _ _ _ _ _ _ _ (hE.below hb9 (Nat.le_refl _)) hG (by omega)).mono ?_
          rintro e w10 ⟨rfl, hb10⟩
          rw [decide_eq_true rfl]
          go_wp2_with fail
          go_ret
          exact ⟨rfl, bel_then (bel_then (bel_then (bel_then hbb hb7) hb8) hb9) hb10⟩
    · have hgt : (1048576 : Int) < (n1 : Int) := by omega
      go_enter Try.func9, Try.ntmps9
      go_wp2_with fail
      go_ret
      exact ⟨rfl, Below.refl _ _⟩
  · have hgt : (1048576 : Int) < (n0 : Int) := by omega
    go_enter Try.func9, Try.ntmps9
    go_wp2_with fail
    go_ret
    exact ⟨rfl, Below.refl _ _⟩

set_option maxRecDepth 100000 in
theorem lifted (os : Os) (started : os.Started) (H : Type) (enc : TypeId × Value → H) :
    ReturnsInHanded {} Try.checked os 9 .any (Rows.fnDecodeSameSpec.pre6 enc Try.prog Try.f9 Rows.fnDecodeSameRow.domain false) (Rows.fnDecodeSameSpec.post enc Try.prog Try.f9 false true false false) := by
  refine returnsInHanded_of_change_sized (C := Try.checked) own started (by kernel_rfl) Try.func9
    (ChangeSpec.witness6 (enc := enc) (C := Try.checked) false ⟨#[], #[.slice none 0 0, .slice none 0 0], []⟩ 8 (by kernel_rfl) (by kernel_rfl) (by kernel_rfl) (by kernel_rfl)) ?_
  intro W base args ds gs before hval0 hW hcnd hsz0 _
  have hsz : (DataW.weightsEach Try.prog (Try.f9.params.toList ++ Rows.fnDecodeSameSpec.plain.varTypes Try.prog) (ds ++ gs)).all (· ≤ reachBytes) = true := hsz0
  have hval : ∀ (j : Nat) t v, Try.f9.params[j]? = some t → args[j]? = some v → Value.okWide Try.prog W .any base t v := hval0
  have hW' := hW
  obtain ⟨p, q, hA0, hV, rfl, hfz, hnd⟩ := hW
  have hA : DataW.TrodAll enc Try.prog W 0 (fun _ => true) true Try.f9.params.toList args.toList ds p := hA0
  rw [Try.params9] at hA hval hsz
  obtain ⟨v0, vs0, d0, ds0, p0, q0, hargs, rfl, rfl, h0, r0⟩ := trodAll_cons hA
  obtain ⟨v1, vs1, d1, ds1, p1, q1, rfl, rfl, rfl, h1, r1⟩ := trodAll_cons r0
  obtain ⟨rfl, rfl, rfl⟩ := trodAll_nil r1
  obtain rfl : args = #[v0, v1] := by cases args; simp_all
  obtain ⟨rfl, rfl⟩ := trodVars_none hV
  obtain ⟨A0, n0, c0, rfl⟩ := okWide_slice Try.underlying22 (hval 0 22 v0 rfl rfl)
  have k0 := h0
  have lt0 : ∀ x ∈ p0, x.block < W.heap.size := by obtain ⟨m, hm⟩ := k0; exact DataW.trod_lt m _ _ _ hm
  obtain ⟨us0, w0, hd0⟩ := rd_of_reading Try.underlying22 Try.underlying5 (by kernel_rfl) h0
  have s0 : c0 * 1 ≤ 140737488351232 := by
    rcases hd0 with ⟨rfl, rfl⟩ | ⟨el, sp, rfl, hl⟩
    · omega
    · have := sized_slice hsz (j := 0) (t := 22) (e := 5) rfl rfl Try.underlying22
      rw [show Try.prog.bytesOf 5 = 1 by kernel_rfl, hl] at this
      exact this
  clear hd0
  obtain ⟨A1, n1, c1, rfl⟩ := okWide_slice Try.underlying22 (hval 1 22 v1 rfl rfl)
  have k1 := h1
  have lt1 : ∀ x ∈ p1, x.block < W.heap.size := by obtain ⟨m, hm⟩ := k1; exact DataW.trod_lt m _ _ _ hm
  obtain ⟨us1, w1, hd1⟩ := rd_of_reading Try.underlying22 Try.underlying5 (by kernel_rfl) h1
  have s1 : c1 * 1 ≤ 140737488351232 := by
    rcases hd1 with ⟨rfl, rfl⟩ | ⟨el, sp, rfl, hl⟩
    · omega
    · have := sized_slice hsz (j := 1) (t := 22) (e := 5) rfl rfl Try.underlying22
      rw [show Try.prog.bytesOf 5 = 1 by kernel_rfl, hl] at this
      exact this
  clear hd1
  clear hA0 hval0 hsz0 hsz
  refine (walk A0 n0 c0 us0 A1 n1 c1 us1 W w0 s0 w1 s1).mono fun e W' ⟨he, bel⟩ => ?_
  subst he
  exact ⟨_, rfl, _, _, _, [], _, [], hW', trodAll_mk1 (shut_bool Try.underlying4 _), (trodAll_cons_mk (Below.trod laidOut (by kernel_rfl) (of_decide_eq_true (by kernel_rfl)) k0 bel lt0) (trodAll_cons_mk (Below.trod laidOut (by kernel_rfl) (of_decide_eq_true (by kernel_rfl)) k1 bel lt1) trodAll_mk0)), rfl, bel.frame _, fun h => by cases h⟩

theorem over : Rows.fnDecodeSameRow.holds Try.pinned (OpenSpec.ofChange Rows.fnDecodeSameSpec) :=
  OpenClaim.holds_of_wide 9 Try.f9 rfl rfl rfl rfl rfl rfl rfl ⟨rfl, rfl, rfl, rfl, rfl⟩ rfl rfl rfl rfl rfl (by kernel_rfl) Try.func9 (by kernel_rfl)
    (of_decide_eq_true (by kernel_rfl)) (by unfold Func.isWrapper; first | (rw [if_pos (by decide +kernel)]; kernel_rfl) | (rw [if_neg (by decide +kernel)]; exact ⟨rfl, rfl⟩))
    (fun os started H enc _ => lifted os started H enc)

/-- THE STATEMENT -/
theorem proved : Rows.FnDecodeSameSaid := over
#print axioms proved
end Go.Proofs.Ytmbhlicgljjmlaa.fnDecodeSame
