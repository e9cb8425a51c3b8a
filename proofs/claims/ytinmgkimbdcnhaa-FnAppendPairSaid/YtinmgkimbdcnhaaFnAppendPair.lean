/-
  Proved: a greater code point is appended as its pair: laws.FnAppendPair returns true for every list of bytes. Conditions: none.
-/
import Derived.Test.YtinmgkimbdcnhaaFrame
import Derived.Test.YtinmgkimbdcnhaaDrawAppend
import Derived.Test.YtinmgkimbdcnhaaAppRune
namespace Go.Proofs.Ytinmgkimbdcnhaa.fnAppendPair
open Go.ChangeShapes Go.WideShapes Go.ChangeAt Go.RowKit
set_option linter.unusedVariables false


set_option maxHeartbeats 3200000 in
theorem walk (A0 : Option Addr) (n0 c0 : Nat) (us0 : List Int) (w : World) (w0 : Rd .u8 w A0 n0 c0 us0) (s0 : c0 * 1 ≤ 140737488351232) :
    Calls Try.prog 6 #[.slice A0 n0 c0] w fun e w' => e = .returned (.bool true) ∧ Below w.heap.size w w' := by
  by_cases hn : n0 ≤ 1048576
  · go_enter Try.func6, Try.ntmps6
    go_wp2_with fail
    refine (drawAppendRune_any _ _ _ _ _ w0 hn).mono ?_
    rintro e w1 ⟨us, x, A, n, c, hl, hx, rfl, hA, hb⟩
    have hlen := hA.len
    have Hlen := Lib.hid hlen
    have hnl : n ≤ 1048576 := by omega
    clear hx hlen
    by_cases hr : U.rlen x = 2
    · obtain ⟨hx0, hx1⟩ := (U.rlen_two_iff x).1 hr
      obtain ⟨g1, g2, g3, g4⟩ := U.er_range x ⟨hx0, hx1⟩
      have hu : U.units x = [U.er1 x, U.er2 x] := by
        rcases U.units_cases x with ⟨_, _, h2, _⟩ | ⟨_, _, _, _, _, h⟩ | ⟨h0, _⟩
        · omega
        · exact h
        · simp only [U.encB, decide_eq_false_iff_not] at h0; omega
      go_wp2_with fail
      refine (iRuneLen_any x _).mono ?_
      rintro e w' ⟨rfl, rfl⟩
      go_wp2_with fail
      refine (iEncodeRune_any x _).mono ?_
      rintro e w' ⟨rfl, rfl⟩
      go_wp2_with fail
      refine (iAppendRune_any A n c us x _ hA (by omega)).mono ?_
      rintro e w2 ⟨B, m, d, rfl, hB, hb2⟩
      rw [hu] at hB
      have hmB : m = n + 2 := by have := hB.len; rw [List.length_append, Hlen.out] at this; simp at this; omega
      subst hmB
      obtain ⟨b1, o1, u, rfl, hb1, hat, hc1, hw1⟩ := hB.at_ (j := n) (by omega)
      obtain ⟨b2, o2, v, e2, hb2', hat2, hc2, hw2⟩ := hB.at_ (j := n + 1) (by omega)
      obtain ⟨rfl, rfl⟩ : b2 = b1 ∧ o2 = o1 := by injection e2 with e2; injection e2 with e3 e4; exact ⟨e3.symm, e4.symm⟩
      obtain rfl : u = U.er1 x := by
        rw [List.getElem?_append_right (by have := Hlen.out; omega), Hlen.out, Nat.sub_self] at hat
        simpa using hat.symm
      obtain rfl : v = U.er2 x := by
        rw [List.getElem?_append_right (by have := Hlen.out; omega), Hlen.out, show n + 1 - n = 1 by omega] at hat2
        simpa using hat2.symm
      clear hat hat2 hu e2
      have t1 : (((n + 2 : Nat) : Int) == (n : Int) + 2) = true := by simp
      have t2 : (U.er1 x == U.er1 x) = true := by simp
      have t3 : (U.er2 x == U.er2 x) = true := by simp
      go_wp2_with fail
      go_ret
      first | exact ⟨rfl, bel_then hb hb2⟩ | exact ⟨ret_bool (by simp), bel_then hb hb2⟩
    · have h2' : (U.rlen x != 2) = true := by simpa using hr
      have h3 : (U.rlen x == U.rlen x) = true := by simp
      go_wp2_with (first | (go_at_call 24; refine (iRuneLen_any _ _).mono ?_; rintro e w' ⟨rfl, rfl⟩) | (go_at_call 27; refine (sRuneLen_any _ _).mono ?_; rintro e w' ⟨rfl, rfl⟩))
      go_ret
      exact ⟨rfl, hb⟩
  · have hgt : (1048576 : Int) < (n0 : Int) := by omega
    go_enter Try.func6, Try.ntmps6
    go_wp2_with fail
    go_ret
    exact ⟨rfl, Below.refl _ _⟩

set_option maxRecDepth 100000 in
theorem lifted (os : Os) (started : os.Started) (H : Type) (enc : TypeId × Value → H) :
    ReturnsInHanded {} Try.checked os 6 .any (Rows.fnAppendPairSpec.pre6 enc Try.prog Try.f6 Rows.fnAppendPairRow.domain false) (Rows.fnAppendPairSpec.post enc Try.prog Try.f6 false true false false) := by
  refine returnsInHanded_of_change_sized (C := Try.checked) own started (by kernel_rfl) Try.func6
    (ChangeSpec.witness6 (enc := enc) (C := Try.checked) false ⟨#[], #[.slice none 0 0], []⟩ 8 (by kernel_rfl) (by kernel_rfl) (by kernel_rfl) (by kernel_rfl)) ?_
  intro W base args ds gs before hval0 hW hcnd hsz0 _
  have hsz : (DataW.weightsEach Try.prog (Try.f6.params.toList ++ Rows.fnAppendPairSpec.plain.varTypes Try.prog) (ds ++ gs)).all (· ≤ reachBytes) = true := hsz0
  have hval : ∀ (j : Nat) t v, Try.f6.params[j]? = some t → args[j]? = some v → Value.okWide Try.prog W .any base t v := hval0
  have hW' := hW
  obtain ⟨p, q, hA0, hV, rfl, hfz, hnd⟩ := hW
  have hA : DataW.TrodAll enc Try.prog W 0 (fun _ => true) true Try.f6.params.toList args.toList ds p := hA0
  rw [Try.params6] at hA hval hsz
  obtain ⟨v0, vs0, d0, ds0, p0, q0, hargs, rfl, rfl, h0, r0⟩ := trodAll_cons hA
  obtain ⟨rfl, rfl, rfl⟩ := trodAll_nil r0
  obtain rfl : args = #[v0] := by cases args; simp_all
  obtain ⟨rfl, rfl⟩ := trodVars_none hV
  obtain ⟨A0, n0, c0, rfl⟩ := okWide_slice Try.underlying22 (hval 0 22 v0 rfl rfl)
  have k0 := h0
  have lt0 : ∀ x ∈ p0, x.block < W.heap.size := by obtain ⟨m, hm⟩ := k0; exact DataW.trod_lt m _ _ _ hm
  obtain ⟨us0, w0, hd0⟩ := rd_of_reading Try.underlying22 Try.underlying5 (by kernel_rfl) h0
  have s0 : c0 * 1 ≤ 140737488351232 := by
    rcases hd0 with ⟨rfl, rfl⟩ | ⟨el, sp, rfl, hl⟩
    · omega
    · have := sized_slice hsz (j := 0) (t := 22) (e := 5) rfl rfl Try.underlying22
      rw [show Try.prog.bytesOf 5 = 1 by kernel_rfl, hl] at this
      exact this
  clear hd0
  clear hA0 hval0 hsz0 hsz
  refine (walk A0 n0 c0 us0 W w0 s0).mono fun e W' ⟨he, bel⟩ => ?_
  subst he
  exact ⟨_, rfl, _, _, _, [], _, [], hW', trodAll_mk1 (shut_bool Try.underlying4 _), (trodAll_cons_mk (Below.trod laidOut (by kernel_rfl) (of_decide_eq_true (by kernel_rfl)) k0 bel lt0) trodAll_mk0), rfl, bel.frame _, fun h => by cases h⟩

theorem over : Rows.fnAppendPairRow.holds Try.pinned (OpenSpec.ofChange Rows.fnAppendPairSpec) :=
  OpenClaim.holds_of_wide 6 Try.f6 rfl rfl rfl rfl rfl rfl rfl ⟨rfl, rfl, rfl, rfl, rfl⟩ rfl rfl rfl rfl rfl (by kernel_rfl) Try.func6 (by kernel_rfl)
    (of_decide_eq_true (by kernel_rfl)) (by unfold Func.isWrapper; first | (rw [if_pos (by decide +kernel)]; kernel_rfl) | (rw [if_neg (by decide +kernel)]; exact ⟨rfl, rfl⟩))
    (fun os started H enc _ => lifted os started H enc)

/-- THE STATEMENT -/
theorem proved : Rows.FnAppendPairSaid := over
#print axioms proved
end Go.Proofs.Ytinmgkimbdcnhaa.fnAppendPair
