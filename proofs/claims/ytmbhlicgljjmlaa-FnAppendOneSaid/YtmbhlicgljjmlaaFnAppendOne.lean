/-
  Proved: a code point below 10000 (hexadecimal) is its own code unit: laws.FnAppendOne returns true for every list of bytes. Conditions: none.
-/
import Derived.Test.YtmbhlicgljjmlaaFrame
import Derived.Test.YtmbhlicgljjmlaaDrawAppend
import Derived.Test.YtmbhlicgljjmlaaAppRune
namespace Go.Proofs.Ytmbhlicgljjmlaa.fnAppendOne
open Go.ChangeShapes Go.WideShapes Go.ChangeAt Go.RowKit
set_option linter.unusedVariables false


theorem walk (A0 : Option Addr) (n0 c0 : Nat) (us0 : List Int) (w : World) (w0 : Rd .u8 w A0 n0 c0 us0) (s0 : c0 * 1 ≤ 140737488351232) :
    Calls Try.prog 14 #[.slice A0 n0 c0] w fun e w' => e = .returned (.bool true) ∧ Below w.heap.size w w' := by
  by_cases hn : n0 ≤ 1048576
  · go_enter Try.func14, Try.ntmps14
    go_wp2_with fail
    refine (drawAppendRune_any _ _ _ _ _ w0 hn).mono ?_
    rintro e w1 ⟨us, x, A, n, c, hl, hx, rfl, hA, hb⟩
    have hlen := hA.len
    have Hlen := Lib.hid hlen
    have hnl : n ≤ 1048576 := by omega
    clear hx hlen
    by_cases hr : U.rlen x = 1
    · obtain ⟨hx0, hx1, hu⟩ : 0 ≤ x ∧ x ≤ 65535 ∧ U.units x = [x] := by
        rcases U.units_cases x with ⟨_, h1, h2, _, h⟩ | ⟨_, h1, h2, _⟩ | ⟨h0, _⟩
        · exact ⟨h1, by omega, h⟩
        · rw [U.rlen_two ⟨h1, h2⟩] at hr; omega
        · rcases U.len_cases x with ⟨h, _⟩ | ⟨h, _⟩ | ⟨_, h⟩
          · rw [h0] at h; cases h
          · rw [h0] at h; cases h
          · omega
      go_wp2_with fail
      refine (iRuneLen_any x _).mono ?_
      rintro e w' ⟨rfl, rfl⟩
      go_wp2_with fail
      refine (iAppendRune_any A n c us x _ hA (by omega)).mono ?_
      rintro e w2 ⟨B, m, d, rfl, hB, hb2⟩
      rw [hu] at hB
      have hmB : m = n + 1 := by have := hB.len; rw [List.length_append, Hlen.out] at this; simp at this; omega
      subst hmB
      obtain ⟨b1, o1, u, rfl, hb1, hat, hc1, hw1⟩ := hB.at_ (j := n) (by omega)
      obtain rfl : u = x := by
        rw [List.getElem?_append_right (by have := Hlen.out; omega), Hlen.out, Nat.sub_self] at hat
        simpa using hat.symm
      clear hat hu
      have t1 : (((n + 1 : Nat) : Int) == (n : Int) + 1) = true := by simp
      go_wp2_with fail
      go_ret
      first | exact ⟨rfl, bel_then hb hb2⟩ | exact ⟨ret_bool (by simp), bel_then hb hb2⟩
    · have h2' : (U.rlen x != 1) = true := by simpa using hr
      have h3 : (U.rlen x == U.rlen x) = true := by simp
      go_wp2_with (first | (go_at_call 26; refine (iRuneLen_any _ _).mono ?_; rintro e w' ⟨rfl, rfl⟩) | (go_at_call 33; refine (sRuneLen_any _ _).mono ?_; rintro e w' ⟨rfl, rfl⟩))
      go_ret
      exact ⟨rfl, hb⟩
  · have hgt : (1048576 : Int) < (n0 : Int) := by omega
    go_enter Try.func14, Try.ntmps14
    go_wp2_with fail
    go_ret
    exact ⟨rfl, Below.refl _ _⟩

set_option maxRecDepth 100000 in
theorem lifted (os : Os) (started : os.Started) (H : Type) (enc : TypeId × Value → H) :
    ReturnsInHanded {} Try.checked os 14 .any (Rows.fnAppendOneSpec.pre6 enc Try.prog Try.f14 Rows.fnAppendOneRow.domain false) (Rows.fnAppendOneSpec.post enc Try.prog Try.f14 false true false false) := by
  refine returnsInHanded_of_change_sized (C := Try.checked) own started (by kernel_rfl) Try.func14
    (ChangeSpec.witness6 (enc := enc) (C := Try.checked) false ⟨#[], #[.slice none 0 0], []⟩ 8 (by kernel_rfl) (by kernel_rfl) (by kernel_rfl) (by kernel_rfl)) ?_
  intro W base args ds gs before hval0 hW hcnd hsz0 _
  have hsz : (DataW.weightsEach Try.prog (Try.f14.params.toList ++ Rows.fnAppendOneSpec.plain.varTypes Try.prog) (ds ++ gs)).all (· ≤ reachBytes) = true := hsz0
  have hval : ∀ (j : Nat) t v, Try.f14.params[j]? = some t → args[j]? = some v → Value.okWide Try.prog W .any base t v := hval0
  have hW' := hW
  obtain ⟨p, q, hA0, hV, rfl, hfz, hnd⟩ := hW
  have hA : DataW.TrodAll enc Try.prog W 0 (fun _ => true) true Try.f14.params.toList args.toList ds p := hA0
  rw [Try.params14] at hA hval hsz
  obtain ⟨v0, vs0, d0, ds0, p0, q0, hargs, rfl, rfl, h0, r0⟩ := trodAll_cons hA
  obtain ⟨rfl, rfl, rfl⟩ := trodAll_nil r0
  obtain rfl : args = #[v0] := by cases args; simp_all
  obtain ⟨rfl, rfl⟩ := trodVars_none hV
  obtain ⟨A0, n0, c0, rfl⟩ := okWide_slice Try.underlying22 (hval 0 22 v0 rfl rfl)
  have k0 := h0
  have lt0 : ∀ x ∈ p0, x.block < W.heap.size := by obtain ⟨m, hm⟩ := k0; exact DataW.trod_lt m _ _ _ hm
  obtain ⟨us0, w0, hd0⟩ := rd_of_reading Try.underlying22 Try.underlying5 (by kernel_rfl) h0
  have s0 : c0 * 1 ≤ 140737488351232 := by
    rcases hd0 with ⟨rfl, rfl⟩ | ⟨el, sp, rfl, hl⟩
    · omega
    · have := sized_slice hsz (j := 0) (t := 22) (e := 5) rfl rfl Try.underlying22
      rw [show Try.prog.bytesOf 5 = 1 by kernel_rfl, hl] at this
      exact this
  clear hd0
  clear hA0 hval0 hsz0 hsz
  refine (walk A0 n0 c0 us0 W w0 s0).mono fun e W' ⟨he, bel⟩ => ?_
  subst he
  exact ⟨_, rfl, _, _, _, [], _, [], hW', trodAll_mk1 (shut_bool Try.underlying4 _), (trodAll_cons_mk (Below.trod laidOut (by kernel_rfl) (of_decide_eq_true (by kernel_rfl)) k0 bel lt0) trodAll_mk0), rfl, bel.frame _, fun h => by cases h⟩

theorem over : Rows.fnAppendOneRow.holds Try.pinned (OpenSpec.ofChange Rows.fnAppendOneSpec) :=
  OpenClaim.holds_of_wide 14 Try.f14 rfl rfl rfl rfl rfl rfl rfl ⟨rfl, rfl, rfl, rfl, rfl⟩ rfl rfl rfl rfl rfl (by kernel_rfl) Try.func14 (by kernel_rfl)
    (of_decide_eq_true (by kernel_rfl)) (by unfold Func.isWrapper; first | (rw [if_pos (by decide +kernel)]; kernel_rfl) | (rw [if_neg (by decide +kernel)]; exact ⟨rfl, rfl⟩))
    (fun os started H enc _ => lifted os started H enc)

/-- THE STATEMENT -/
theorem proved : Rows.FnAppendOneSaid := over
#print axioms proved
end Go.Proofs.Ytmbhlicgljjmlaa.fnAppendOne
