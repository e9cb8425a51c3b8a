/-
  Proved: lists have the same encoding exactly if they are equal with U+FFFD in place of each number that cannot be encoded: laws.FnEncodeSame returns true for every two lists of bytes. Conditions: none.
-/
import Derived.Test.YtinmgkimbdcnhaaFrame
import Derived.Test.YtinmgkimbdcnhaaDrawEncode
import Derived.Test.YtinmgkimbdcnhaaEncode
import Derived.Test.YtinmgkimbdcnhaaSameU
import Derived.Test.YtinmgkimbdcnhaaPlainM
namespace Go.Proofs.Ytinmgkimbdcnhaa.fnEncodeSame
open Go.ChangeShapes Go.WideShapes Go.ChangeAt Go.RowKit
set_option linter.unusedVariables false


set_option maxHeartbeats 3200000 in
theorem walk (A0 : Option Addr) (n0 c0 : Nat) (us0 : List Int) (A1 : Option Addr) (n1 c1 : Nat) (us1 : List Int) (w : World) (w0 : Rd .u8 w A0 n0 c0 us0) (s0 : c0 * 1 ≤ 140737488351232) (w1 : Rd .u8 w A1 n1 c1 us1) (s1 : c1 * 1 ≤ 140737488351232) :
    Calls Try.prog 10 #[.slice A0 n0 c0, .slice A1 n1 c1] w fun e w' => e = .returned (.bool true) ∧ Below w.heap.size w w' := by
  by_cases hn : n0 ≤ 1048576
  · by_cases hn1 : n1 ≤ 1048576
    · go_enter Try.func10, Try.ntmps10
      go_wp2_with fail
      refine (drawEncode_any _ _ _ _ _ w0 hn).mono ?_
      rintro e w2 ⟨us, hl, A, n, c, rfl, hA2, hb2⟩
      have hnl : n ≤ 1048576 := by have := hA2.len; omega
      go_wp2_with fail
      refine (drawEncode_any _ _ _ _ _ (w1.below hb2 (Nat.le_refl _)) hn1).mono ?_
      rintro e w3 ⟨vs, hl3, B, m, d, rfl, hB, hb3⟩
      have hml : m ≤ 1048576 := by have := hB.len; omega
      have hA := hA2.below hb3 (Nat.le_refl _)
      have hb := bel_then hb2 hb3
      clear hb2 hb3 hA2
      by_cases hp : n0 % 2 = 0
      · have t0 : ((n0 : Int) % 2 == 0) = true := by simp; omega
        go_wp2_with fail
        refine (replaced_any A n c us _ hA (by omega)).mono ?_
        rintro e w3' ⟨B, m, d, rfl, hB, hb3'⟩
        obtain ⟨vs, hvs⟩ : ∃ v, v = us.map U.rep := ⟨_, rfl⟩
        rw [← hvs] at hB
        have hml : m ≤ 1048576 := by have := hB.len; rw [hvs] at this; simp at this; omega
        have hA' := hA.below hb3' (Nat.le_refl _)
        have hb' := bel_then hb hb3'
        clear hvs hA hb
        have hA := hA'
        have hb := hb'
        clear hA' hb'
        go_wp2_with fail
        refine (iEncode_any A n c us _ hA (by omega)).mono ?_
        rintro e w4 ⟨C, k4, f4, rfl, hC, hb4⟩
        have hk4 : k4 ≤ 2097152 := by have := hC.len; have := U.enc_len us; omega
        go_wp2_with fail
        refine (iEncode_any B m d vs _ (hB.below hb4 (Nat.le_refl _)) (by omega)).mono ?_
        rintro e w5 ⟨D, k5, f5, rfl, hD, hb5⟩
        go_wp2_with fail
        refine (sameUnits_any _ _ _ _ _ _ _ _ _ (hC.below hb5 (Nat.le_refl _)) hD (by omega)).mono ?_
        rintro e w6 ⟨rfl, hb6⟩
        have He : Hid (decide (U.enc us = U.enc vs) = decide (us.map U.rep = vs.map U.rep)) := decide_eq_decide.2 (U.enc_inj us vs)
        rw [He.out]
        have hA6 := ((hA.below hb4 (Nat.le_refl _)).below hb5 (Nat.le_refl _)).below hb6 (Nat.le_refl _)
        have hB6 := ((hB.below hb4 (Nat.le_refl _)).below hb5 (Nat.le_refl _)).below hb6 (Nat.le_refl _)
        have hbb := bel_then (bel_then (bel_then hb hb4) hb5) hb6
        clear hb hb4 hb5 hb6 hA hB hC hD He
        generalize hq : decide (us.map U.rep = vs.map U.rep) = q at *
        have t1 : (q == q) = true := by simp
        have Hq := Lib.hid hq
        clear hq
        go_wp2_with fail
        refine (replaced_any A n c us _ hA6 (by omega)).mono ?_
        rintro e w7 ⟨E, k7, f7, rfl, hE, hb7⟩
        have hk7 : k7 ≤ 1048576 := by have := hE.len; simp at this; omega
        go_wp2_with fail
        refine (replaced_any B m d vs _ (hB6.below hb7 (Nat.le_refl _)) (by omega)).mono ?_
        rintro e w8 ⟨F, k8, f8, rfl, hF, hb8⟩
        go_wp2_with fail
        refine (sameRunes_any _ _ _ _ _ _ _ _ _ (hE.below hb8 (Nat.le_refl _)) hF (by omega)).mono ?_
        rintro e w9 ⟨rfl, hb9⟩
        rw [Hq.out]
        have hA9 := ((hA6.below hb7 (Nat.le_refl _)).below hb8 (Nat.le_refl _)).below hb9 (Nat.le_refl _)
        go_wp2_with fail
        refine (iEncode_any A n c us _ hA9 (by omega)).mono ?_
        rintro e w10 ⟨G, k10, f10, rfl, hG, hb10⟩
        have hge : n ≤ k10 := by have := hG.len; have := U.enc_len us; have := hA9.len; omega
        go_wp2_with fail
        go_ret
        first | exact ⟨rfl, bel_then (bel_then (bel_then (bel_then hbb hb7) hb8) hb9) hb10⟩ | exact ⟨ret_bool (decide_eq_true (by omega)), bel_then (bel_then (bel_then (bel_then hbb hb7) hb8) hb9) hb10⟩
      · have t0 : ((n0 : Int) % 2 == 0) = false := by simp; omega
        go_wp2_with fail
        refine (iEncode_any A n c us _ hA (by omega)).mono ?_
        rintro e w4 ⟨C, k4, f4, rfl, hC, hb4⟩
        have hk4 : k4 ≤ 2097152 := by have := hC.len; have := U.enc_len us; omega
        go_wp2_with fail
        refine (iEncode_any B m d vs _ (hB.below hb4 (Nat.le_refl _)) (by omega)).mono ?_
        rintro e w5 ⟨D, k5, f5, rfl, hD, hb5⟩
        go_wp2_with fail
        refine (sameUnits_any _ _ _ _ _ _ _ _ _ (hC.below hb5 (Nat.le_refl _)) hD (by omega)).mono ?_
        rintro e w6 ⟨rfl, hb6⟩
        have He : Hid (decide (U.enc us = U.enc vs) = decide (us.map U.rep = vs.map U.rep)) := decide_eq_decide.2 (U.enc_inj us vs)
        rw [He.out]
        have hA6 := ((hA.below hb4 (Nat.le_refl _)).below hb5 (Nat.le_refl _)).below hb6 (Nat.le_refl _)
        have hB6 := ((hB.below hb4 (Nat.le_refl _)).below hb5 (Nat.le_refl _)).below hb6 (Nat.le_refl _)
        have hbb := bel_then (bel_then (bel_then hb hb4) hb5) hb6
        clear hb hb4 hb5 hb6 hA hB hC hD He
        generalize hq : decide (us.map U.rep = vs.map U.rep) = q at *
        have t1 : (q == q) = true := by simp
        have Hq := Lib.hid hq
        clear hq
        go_wp2_with fail
        refine (replaced_any A n c us _ hA6 (by omega)).mono ?_
        rintro e w7 ⟨E, k7, f7, rfl, hE, hb7⟩
        have hk7 : k7 ≤ 1048576 := by have := hE.len; simp at this; omega
        go_wp2_with fail
        refine (replaced_any B m d vs _ (hB6.below hb7 (Nat.le_refl _)) (by omega)).mono ?_
        rintro e w8 ⟨F, k8, f8, rfl, hF, hb8⟩
        go_wp2_with fail
        refine (sameRunes_any _ _ _ _ _ _ _ _ _ (hE.below hb8 (Nat.le_refl _)) hF (by omega)).mono ?_
        rintro e w9 ⟨rfl, hb9⟩
        rw [Hq.out]
        have hA9 := ((hA6.below hb7 (Nat.le_refl _)).below hb8 (Nat.le_refl _)).below hb9 (Nat.le_refl _)
        go_wp2_with fail
        refine (iEncode_any A n c us _ hA9 (by omega)).mono ?_
        rintro e w10 ⟨G, k10, f10, rfl, hG, hb10⟩
        have hge : n ≤ k10 := by have := hG.len; have := U.enc_len us; have := hA9.len; omega
        go_wp2_with fail
        go_ret
        first | exact ⟨rfl, bel_then (bel_then (bel_then (bel_then hbb hb7) hb8) hb9) hb10⟩ | exact ⟨ret_bool (decide_eq_true (by omega)), bel_then (bel_then (bel_then (bel_then hbb hb7) hb8) hb9) hb10⟩
    · have hgt : (1048576 : Int) < (n1 : Int) := by omega
      go_enter Try.func10, Try.ntmps10
      go_wp2_with fail
      go_ret
      exact ⟨rfl, Below.refl _ _⟩
  · have hgt : (1048576 : Int) < (n0 : Int) := by omega
    go_enter Try.func10, Try.ntmps10
    go_wp2_with fail
    go_ret
    exact ⟨rfl, Below.refl _ _⟩

set_option maxRecDepth 100000 in
theorem lifted (os : Os) (started : os.Started) (H : Type) (enc : TypeId × Value → H) :
    ReturnsInHanded {} Try.checked os 10 .any (Rows.fnEncodeSameSpec.pre6 enc Try.prog Try.f10 Rows.fnEncodeSameRow.domain false) (Rows.fnEncodeSameSpec.post enc Try.prog Try.f10 false true false false) := by
  refine returnsInHanded_of_change_sized (C := Try.checked) own started (by kernel_rfl) Try.func10
    (ChangeSpec.witness6 (enc := enc) (C := Try.checked) false ⟨#[], #[.slice none 0 0, .slice none 0 0], []⟩ 8 (by kernel_rfl) (by kernel_rfl) (by kernel_rfl) (by kernel_rfl)) ?_
  intro W base args ds gs before hval0 hW hcnd hsz0 _
  have hsz : (DataW.weightsEach Try.prog (Try.f10.params.toList ++ Rows.fnEncodeSameSpec.plain.varTypes Try.prog) (ds ++ gs)).all (· ≤ reachBytes) = true := hsz0
  have hval : ∀ (j : Nat) t v, Try.f10.params[j]? = some t → args[j]? = some v → Value.okWide Try.prog W .any base t v := hval0
  have hW' := hW
  obtain ⟨p, q, hA0, hV, rfl, hfz, hnd⟩ := hW
  have hA : DataW.TrodAll enc Try.prog W 0 (fun _ => true) true Try.f10.params.toList args.toList ds p := hA0
  rw [Try.params10] at hA hval hsz
  obtain ⟨v0, vs0, d0, ds0, p0, q0, hargs, rfl, rfl, h0, r0⟩ := trodAll_cons hA
  obtain ⟨v1, vs1, d1, ds1, p1, q1, rfl, rfl, rfl, h1, r1⟩ := trodAll_cons r0
  obtain ⟨rfl, rfl, rfl⟩ := trodAll_nil r1
  obtain rfl : args = #[v0, v1] := by cases args; simp_all
  obtain ⟨rfl, rfl⟩ := trodVars_none hV
  obtain ⟨A0, n0, c0, rfl⟩ := okWide_slice Try.underlying22 (hval 0 22 v0 rfl rfl)
  have k0 := h0
  have lt0 : ∀ x ∈ p0, x.block < W.heap.size := by obtain ⟨m, hm⟩ := k0; exact DataW.trod_lt m _ _ _ hm
  obtain ⟨us0, w0, hd0⟩ := rd_of_reading Try.underlying22 Try.underlying5 (by kernel_rfl) h0
  have s0 : c0 * 1 ≤ 140737488351232 := by
    rcases hd0 with ⟨rfl, rfl⟩ | ⟨el, sp, rfl, hl⟩
    · omega
    · have := sized_slice hsz (j := 0) (t := 22) (e := 5) rfl rfl Try.underlying22
      rw [show Try.prog.bytesOf 5 = 1 by kernel_rfl, hl] at this
      exact this
  clear hd0
  obtain ⟨A1, n1, c1, rfl⟩ := okWide_slice Try.underlying22 (hval 1 22 v1 rfl rfl)
  have k1 := h1
  have lt1 : ∀ x ∈ p1, x.block < W.heap.size := by obtain ⟨m, hm⟩ := k1; exact DataW.trod_lt m _ _ _ hm
  obtain ⟨us1, w1, hd1⟩ := rd_of_reading Try.underlying22 Try.underlying5 (by kernel_rfl) h1
  have s1 : c1 * 1 ≤ 140737488351232 := by
    rcases hd1 with ⟨rfl, rfl⟩ | ⟨el, sp, rfl, hl⟩
    · omega
    · have := sized_slice hsz (j := 1) (t := 22) (e := 5) rfl rfl Try.underlying22
      rw [show Try.prog.bytesOf 5 = 1 by kernel_rfl, hl] at this
      exact this
  clear hd1
  clear hA0 hval0 hsz0 hsz
  refine (walk A0 n0 c0 us0 A1 n1 c1 us1 W w0 s0 w1 s1).mono fun e W' ⟨he, bel⟩ => ?_
  subst he
  exact ⟨_, rfl, _, _, _, [], _, [], hW', trodAll_mk1 (shut_bool Try.underlying4 _), (trodAll_cons_mk (Below.trod laidOut (by kernel_rfl) (of_decide_eq_true (by kernel_rfl)) k0 bel lt0) (trodAll_cons_mk (Below.trod laidOut (by kernel_rfl) (of_decide_eq_true (by kernel_rfl)) k1 bel lt1) trodAll_mk0)), rfl, bel.frame _, fun h => by cases h⟩

theorem over : Rows.fnEncodeSameRow.holds Try.pinned (OpenSpec.ofChange Rows.fnEncodeSameSpec) :=
  OpenClaim.holds_of_wide 10 Try.f10 rfl rfl rfl rfl rfl rfl rfl ⟨rfl, rfl, rfl, rfl, rfl⟩ rfl rfl rfl rfl rfl (by kernel_rfl) Try.func10 (by kernel_rfl)
    (of_decide_eq_true (by kernel_rfl)) (by unfold Func.isWrapper; first | (rw [if_pos (by decide +kernel)]; kernel_rfl) | (rw [if_neg (by decide +kernel)]; exact ⟨rfl, rfl⟩))
    (fun os started H enc _ => lifted os started H enc)

/-- THE STATEMENT -/
theorem proved : Rows.FnEncodeSameSaid := over
#print axioms proved
end Go.Proofs.Ytinmgkimbdcnhaa.fnEncodeSame
