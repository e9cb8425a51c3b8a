/-
  Proved: two code units are decoded as a pair, or one by one: laws.FnDecodePair returns true for every list of bytes. Conditions: none.
-/
import Derived.Test.YtinmgkimbdcnhaaFrame
import Derived.Test.YtinmgkimbdcnhaaDrawTwo
import Derived.Test.YtinmgkimbdcnhaaApp
import Derived.Test.YtinmgkimbdcnhaaDecode
import Derived.Laws.BitsAllLaws
namespace Go.Proofs.Ytinmgkimbdcnhaa.fnDecodePair
open Go.ChangeShapes Go.WideShapes Go.ChangeAt Go.RowKit
set_option linter.unusedVariables false


set_option maxHeartbeats 3200000 in
theorem walk (A0 : Option Addr) (n0 c0 : Nat) (us0 : List Int) (w : World) (w0 : Rd .u8 w A0 n0 c0 us0) (s0 : c0 * 1 ≤ 140737488351232) :
    Calls Try.prog 4 #[.slice A0 n0 c0] w fun e w' => e = .returned (.bool true) ∧ Below w.heap.size w w' := by
  by_cases hn : n0 ≤ 1048576
  · go_enter Try.func4, Try.ntmps4
    go_wp2_with fail
    refine (drawDecodeRune_any _ _ _ _ _ w0 hn).mono ?_
    rintro e w1 ⟨x, y, hx, hy, rfl, hb⟩
    clear hx hy
    go_wp2_with fail
    obtain ⟨u, hu⟩ : ∃ s, s = IntKind.u16.wrap x := ⟨_, rfl⟩
    obtain ⟨v, hv⟩ : ∃ s, s = IntKind.u16.wrap y := ⟨_, rfl⟩
    have hu1 : 0 ≤ u := by rw [hu, IntKind.wrap_u16]; omega
    have hu2 : u ≤ 65535 := by rw [hu, IntKind.wrap_u16]; omega
    have hv1 : 0 ≤ v := by rw [hv, IntKind.wrap_u16]; omega
    have hv2 : v ≤ 65535 := by rw [hv, IntKind.wrap_u16]; omega
    rw [← hu, ← hv]
    clear hu hv
    have hr := rd_new (E := 29) w1 [u, v] (by intro z hz; simp only [List.mem_cons, List.not_mem_nil, or_false] at hz; rcases hz with rfl | rfl <;> exact wf_u16.2 (by omega))
    refine (iDecode_any _ 2 2 [u, v] _ hr (by omega)).mono ?_
    rintro e w2 ⟨B, m, d, rfl, hB, hb2⟩
    have hbb : Below w.heap.size w w2 := hb.trans (((Below.refl w1.heap.size w1).alloc (Nat.le_refl _) _).trans (hb2.mono (by simp)) |>.mono hb.size)
    clear hb hb2 hr
    by_cases hp : U.hiB u = true ∧ U.loB v = true
    · have hd : U.dec [u, v] = [U.dr u v] := U.dec_pair u v [] hp.1 hp.2
      obtain ⟨_, _, e3, _⟩ := U.er_dr u v hp.1 hp.2
      have hq : (U.dr u v != 65533) = true := by simp; omega
      have hq2 : (U.dr u v == U.dr u v) = true := by simp
      rw [hd] at hB
      obtain rfl : m = 1 := hB.len.symm
      obtain ⟨b1, o1, z, rfl, hb1, hat, hc1, hw1⟩ := hB.at_ (j := 0) (by omega)
      obtain rfl : z = U.dr u v := by simpa using hat.symm
      rw [Nat.add_zero] at hc1
      clear hat hd hp e3
      go_wp2_with (go_at_call 18; refine (iDecodeRune_any _ _ _).mono ?_; rintro e w' ⟨rfl, rfl⟩)
      go_ret
      first | exact ⟨rfl, hbb⟩ | exact ⟨ret_bool (by simp), hbb⟩
    · have hd : U.dec [u, v] = [U.one u, U.one v] := by rw [U.dec, if_neg hp]; rfl
      have hdr : U.dr u v = 65533 := by
        rcases U.dec_cases u v with ⟨_, h⟩ | ⟨_, _, h⟩ | ⟨h1, h2, _⟩
        · exact h
        · exact h
        · exact absurd ⟨h1, h2⟩ hp
      rw [hd] at hB
      obtain rfl : m = 2 := hB.len.symm
      clear hd hp
      have hr3 := rd_new (E := 29) w2 [u] (by intro z hz; rw [List.mem_singleton.1 hz]; exact wf_u16.2 (by omega))
      go_wp2_with (first | (go_at_call 18; refine (iDecodeRune_any _ _ _).mono ?_; rintro e w' ⟨rfl, rfl⟩) | (go_at_call 16; fail))
      refine (iDecode_any _ 1 1 [u] _ hr3 (by omega)).mono ?_
      rintro e w3 ⟨C, k, f, rfl, hC, hb3⟩
      have hbb3 : Below w2.heap.size w2 w3 := ((Below.refl w2.heap.size w2).alloc (Nat.le_refl _) _).trans (hb3.mono (by simp))
      have hB3 := hB.below hbb3 (Nat.le_refl _)
      have hb13 := bel_then hbb hbb3
      clear hb3 hbb hr3
      have hr4 := rd_new (E := 29) w3 [v] (by intro z hz; rw [List.mem_singleton.1 hz]; exact wf_u16.2 (by omega))
      go_wp2_with fail
      refine (iDecode_any _ 1 1 [v] _ hr4 (by omega)).mono ?_
      rintro e w4 ⟨D, k4, f4, rfl, hD, hb4⟩
      have hbb4 : Below w3.heap.size w3 w4 := ((Below.refl w3.heap.size w3).alloc (Nat.le_refl _) _).trans (hb4.mono (by simp))
      have hB4 := hB3.below hbb4 (Nat.le_refl _)
      have hC4 := hC.below hbb4 (Nat.le_refl _)
      have hb14 := bel_then hb13 hbb4
      obtain rfl : k = 1 := hC.len.symm
      obtain rfl : k4 = 1 := hD.len.symm
      clear hb4 hbb4 hb13 hr4 hC hB3
      obtain ⟨b1, o1, z1, rfl, _, hat1, hc1, _⟩ := hB4.at_ (j := 0) (by omega)
      obtain ⟨b2, o2, z2, e2, _, hat2, hc2, _⟩ := hB4.at_ (j := 1) (by omega)
      obtain ⟨rfl, rfl⟩ : b2 = b1 ∧ o2 = o1 := by injection e2 with e2; injection e2 with e3 e4; exact ⟨e3.symm, e4.symm⟩
      obtain ⟨b3, o3, z3, rfl, _, hat3, hc3, _⟩ := hC4.at_ (j := 0) (by omega)
      obtain ⟨b4, o4, z4, rfl, _, hat4, hc4, _⟩ := hD.at_ (j := 0) (by omega)
      obtain rfl : z1 = U.one u := by simpa using hat1.symm
      obtain rfl : z2 = U.one v := by simpa using hat2.symm
      obtain rfl : z3 = U.one u := by simpa [U.dec] using hat3.symm
      obtain rfl : z4 = U.one v := by simpa [U.dec] using hat4.symm
      rw [Nat.add_zero] at hc1 hc3 hc4
      clear hat1 hat2 hat3 hat4 e2
      have t1 : (U.one u == U.one u) = true := by simp
      have t2 : (U.one v == U.one v) = true := by simp
      have i1 : (1 : Int) < 2 := by omega
      go_wp2_with fail
      go_quiet (fail)
      go_wp2_with fail
      go_ret
      first | exact ⟨rfl, bel_drewN hb14 _⟩ | exact ⟨ret_bool (by simp), bel_drewN hb14 _⟩
  · have hgt : (1048576 : Int) < (n0 : Int) := by omega
    go_enter Try.func4, Try.ntmps4
    go_wp2_with fail
    go_ret
    exact ⟨rfl, Below.refl _ _⟩

set_option maxRecDepth 100000 in
theorem lifted (os : Os) (started : os.Started) (H : Type) (enc : TypeId × Value → H) :
    ReturnsInHanded {} Try.checked os 4 .any (Rows.fnDecodePairSpec.pre6 enc Try.prog Try.f4 Rows.fnDecodePairRow.domain false) (Rows.fnDecodePairSpec.post enc Try.prog Try.f4 false true false false) := by
  refine returnsInHanded_of_change_sized (C := Try.checked) own started (by kernel_rfl) Try.func4
    (ChangeSpec.witness6 (enc := enc) (C := Try.checked) false ⟨#[], #[.slice none 0 0], []⟩ 8 (by kernel_rfl) (by kernel_rfl) (by kernel_rfl) (by kernel_rfl)) ?_
  intro W base args ds gs before hval0 hW hcnd hsz0 _
  have hsz : (DataW.weightsEach Try.prog (Try.f4.params.toList ++ Rows.fnDecodePairSpec.plain.varTypes Try.prog) (ds ++ gs)).all (· ≤ reachBytes) = true := hsz0
  have hval : ∀ (j : Nat) t v, Try.f4.params[j]? = some t → args[j]? = some v → Value.okWide Try.prog W .any base t v := hval0
  have hW' := hW
  obtain ⟨p, q, hA0, hV, rfl, hfz, hnd⟩ := hW
  have hA : DataW.TrodAll enc Try.prog W 0 (fun _ => true) true Try.f4.params.toList args.toList ds p := hA0
  rw [Try.params4] at hA hval hsz
  obtain ⟨v0, vs0, d0, ds0, p0, q0, hargs, rfl, rfl, h0, r0⟩ := trodAll_cons hA
  obtain ⟨rfl, rfl, rfl⟩ := trodAll_nil r0
  obtain rfl : args = #[v0] := by cases args; simp_all
  obtain ⟨rfl, rfl⟩ := trodVars_none hV
  obtain ⟨A0, n0, c0, rfl⟩ := okWide_slice Try.underlying22 (hval 0 22 v0 rfl rfl)
  have k0 := h0
  have lt0 : ∀ x ∈ p0, x.block < W.heap.size := by obtain ⟨m, hm⟩ := k0; exact DataW.trod_lt m _ _ _ hm
  obtain ⟨us0, w0, hd0⟩ := rd_of_reading Try.underlying22 Try.underlying5 (by kernel_rfl) h0
  have s0 : c0 * 1 ≤ 140737488351232 := by
    rcases hd0 with ⟨rfl, rfl⟩ | ⟨el, sp, rfl, hl⟩
    · omega
    · have := sized_slice hsz (j := 0) (t := 22) (e := 5) rfl rfl Try.underlying22
      rw [show Try.prog.bytesOf 5 = 1 by kernel_rfl, hl] at this
      exact this
  clear hd0
  clear hA0 hval0 hsz0 hsz
  refine (walk A0 n0 c0 us0 W w0 s0).mono fun e W' ⟨he, bel⟩ => ?_
  subst he
  exact ⟨_, rfl, _, _, _, [], _, [], hW', trodAll_mk1 (shut_bool Try.underlying4 _), (trodAll_cons_mk (Below.trod laidOut (by kernel_rfl) (of_decide_eq_true (by kernel_rfl)) k0 bel lt0) trodAll_mk0), rfl, bel.frame _, fun h => by cases h⟩

theorem over : Rows.fnDecodePairRow.holds Try.pinned (OpenSpec.ofChange Rows.fnDecodePairSpec) :=
  OpenClaim.holds_of_wide 4 Try.f4 rfl rfl rfl rfl rfl rfl rfl ⟨rfl, rfl, rfl, rfl, rfl⟩ rfl rfl rfl rfl rfl (by kernel_rfl) Try.func4 (by kernel_rfl)
    (of_decide_eq_true (by kernel_rfl)) (by unfold Func.isWrapper; first | (rw [if_pos (by decide +kernel)]; kernel_rfl) | (rw [if_neg (by decide +kernel)]; exact ⟨rfl, rfl⟩))
    (fun os started H enc _ => lifted os started H enc)

/-- THE STATEMENT -/
theorem proved : Rows.FnDecodePairSaid := over
#print axioms proved
end Go.Proofs.Ytinmgkimbdcnhaa.fnDecodePair
