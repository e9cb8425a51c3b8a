/-
  Proved: what is there stays, and does not matter: laws.FnAppendKeeps returns true for every list of bytes. Conditions: none.
-/
import Derived.Test.YtmakhfaikpgfnaaFrame
import Derived.Test.YtmakhfaikpgfnaaDrawAppend
import Derived.Test.YtmakhfaikpgfnaaAppRune
import Derived.Test.YtmakhfaikpgfnaaSameU
namespace Go.Proofs.Ytmakhfaikpgfnaa.fnAppendKeeps
open Go.ChangeShapes Go.WideShapes Go.ChangeAt Go.RowKit
set_option linter.unusedVariables false


theorem walk (A0 : Option Addr) (n0 c0 : Nat) (us0 : List Int) (w : World) (w0 : Rd .u8 w A0 n0 c0 us0) (s0 : c0 * 1 ≤ 140737488351232) :
    Calls Try.prog 6 #[.slice A0 n0 c0] w fun e w' => e = .returned (.bool true) ∧ Below w.heap.size w w' := by
  by_cases hn : n0 ≤ 1048576
  · go_enter Try.func6, Try.ntmps6
    go_wp2_with fail
    refine (drawAppendRune_any _ _ _ _ _ w0 hn).mono ?_
    rintro e w1 ⟨us, x, A, n, c, hl, hx, rfl, hA, hb⟩
    have hlen := hA.len
    have Hlen := Lib.hid hlen
    have hnl : n ≤ 2097152 := by omega
    clear hlen hx
    go_wp2_with fail
    refine (iAppendRune_any A n c us x _ hA (by omega)).mono ?_
    rintro e w2 ⟨B, m, d, rfl, hB, hb2⟩
    go_wp2_with fail
    refine (iAppendRune_any _ 0 0 [] x _ Rd.nil (by omega)).mono ?_
    rintro e w3 ⟨C, l, f, rfl, hC, hb3⟩
    have hB3 := (hB.alloc (.cells #[] 39)).below hb3 (Nat.le_refl _)
    have hA3 := ((hA.below hb2 (Nat.le_refl _)).alloc (.cells #[] 39)).below hb3 (Nat.le_refl _)
    have hb13 : Below w.heap.size w w3 := (bel_then hb hb2).trans ((((Below.refl w2.heap.size w2).alloc (Nat.le_refl _) _).trans (hb3.mono (by simp))).mono (bel_then hb hb2).size)
    have hul := U.units_len x
    have hlC : l = (U.units x).length := by have := hC.len; simpa using this.symm
    have hmB : m = n + l := by have := hB3.len; rw [List.length_append, Hlen.out] at this; omega
    have hlp : 0 < l := by omega
    have hll : l ≤ 2 := by omega
    have hmd := hB3.cap
    obtain ⟨b1, o1, rfl, hb1⟩ := hB3.some_ (by omega)
    have r1 := hB3.take (m := n) (by omega)
    have r2 := hB3.cut n m (by omega) (by omega)
    rw [List.take_left' Hlen.out] at r1
    rw [List.drop_left' Hlen.out, List.take_of_length_le (by omega), show m - n = l by omega] at r2
    rw [List.nil_append] at hC
    subst hmB
    clear hlC hB hB3 hb hb2 hb3 hA Hlen
    have t1 : (((n + l : Nat) : Int) == (n : Int) + (l : Int)) = true := by simp
    have t2 : ¬ d = n := by omega
    go_wp2_with fail
    refine (sameUnits_any _ _ _ _ _ _ _ _ _ r1 hA3 (by omega)).mono ?_
    rintro e w4 ⟨rfl, hb4⟩
    rw [decide_eq_true rfl]
    have r2' := r2.below hb4 (Nat.le_refl _)
    have hC' := hC.below hb4 (Nat.le_refl _)
    go_wp2_with fail
    refine (sameUnits_any _ _ _ _ _ _ _ _ _ r2' hC' (by omega)).mono ?_
    rintro e w5 ⟨rfl, hb5⟩
    rw [decide_eq_true rfl]
    go_wp2_with fail
    go_ret
    exact ⟨rfl, bel_then (bel_then hb13 hb4) hb5⟩
  · have hgt : (1048576 : Int) < (n0 : Int) := by omega
    go_enter Try.func6, Try.ntmps6
    go_wp2_with fail
    go_ret
    exact ⟨rfl, Below.refl _ _⟩

set_option maxRecDepth 100000 in
theorem lifted (os : Os) (started : os.Started) (H : Type) (enc : TypeId × Value → H) :
    ReturnsInHanded {} Try.checked os 6 .any (Rows.fnAppendKeepsSpec.pre6 enc Try.prog Try.f6 Rows.fnAppendKeepsRow.domain false) (Rows.fnAppendKeepsSpec.post enc Try.prog Try.f6 false true false false) := by
  refine returnsInHanded_of_change_sized (C := Try.checked) own started (by kernel_rfl) Try.func6
    (ChangeSpec.witness6 (enc := enc) (C := Try.checked) false ⟨#[], #[.slice none 0 0], []⟩ 8 (by kernel_rfl) (by kernel_rfl) (by kernel_rfl) (by kernel_rfl)) ?_
  intro W base args ds gs before hval0 hW hcnd hsz0 _
  have hsz : (DataW.weightsEach Try.prog (Try.f6.params.toList ++ Rows.fnAppendKeepsSpec.plain.varTypes Try.prog) (ds ++ gs)).all (· ≤ reachBytes) = true := hsz0
  have hval : ∀ (j : Nat) t v, Try.f6.params[j]? = some t → args[j]? = some v → Value.okWide Try.prog W .any base t v := hval0
  have hW' := hW
  obtain ⟨p, q, hA0, hV, rfl, hfz, hnd⟩ := hW
  have hA : DataW.TrodAll enc Try.prog W 0 (fun _ => true) true Try.f6.params.toList args.toList ds p := hA0
  rw [Try.params6] at hA hval hsz
  obtain ⟨v0, vs0, d0, ds0, p0, q0, hargs, rfl, rfl, h0, r0⟩ := trodAll_cons hA
  obtain ⟨rfl, rfl, rfl⟩ := trodAll_nil r0
  obtain rfl : args = #[v0] := by cases args; simp_all
  obtain ⟨rfl, rfl⟩ := trodVars_none hV
  obtain ⟨A0, n0, c0, rfl⟩ := okWide_slice Try.underlying22 (hval 0 22 v0 rfl rfl)
  have k0 := h0
  have lt0 : ∀ x ∈ p0, x.block < W.heap.size := by obtain ⟨m, hm⟩ := k0; exact DataW.trod_lt m _ _ _ hm
  obtain ⟨us0, w0, hd0⟩ := rd_of_reading Try.underlying22 Try.underlying5 (by kernel_rfl) h0
  have s0 : c0 * 1 ≤ 140737488351232 := by
    rcases hd0 with ⟨rfl, rfl⟩ | ⟨el, sp, rfl, hl⟩
    · omega
    · have := sized_slice hsz (j := 0) (t := 22) (e := 5) rfl rfl Try.underlying22
      rw [show Try.prog.bytesOf 5 = 1 by kernel_rfl, hl] at this
      exact this
  clear hd0
  clear hA0 hval0 hsz0 hsz
  refine (walk A0 n0 c0 us0 W w0 s0).mono fun e W' ⟨he, bel⟩ => ?_
  subst he
  exact ⟨_, rfl, _, _, _, [], _, [], hW', trodAll_mk1 (shut_bool Try.underlying4 _), (trodAll_cons_mk (Below.trod laidOut (by kernel_rfl) (of_decide_eq_true (by kernel_rfl)) k0 bel lt0) trodAll_mk0), rfl, bel.frame _, fun h => by cases h⟩

theorem over : Rows.fnAppendKeepsRow.holds Try.pinned (OpenSpec.ofChange Rows.fnAppendKeepsSpec) :=
  OpenClaim.holds_of_wide 6 Try.f6 rfl rfl rfl rfl rfl rfl rfl ⟨rfl, rfl, rfl, rfl, rfl⟩ rfl rfl rfl rfl rfl (by kernel_rfl) Try.func6 (by kernel_rfl)
    (of_decide_eq_true (by kernel_rfl)) (by unfold Func.isWrapper; first | (rw [if_pos (by decide +kernel)]; kernel_rfl) | (rw [if_neg (by decide +kernel)]; exact ⟨rfl, rfl⟩))
    (fun os started H enc _ => lifted os started H enc)

/-- THE STATEMENT -/
theorem proved : Rows.FnAppendKeepsSaid := over
#print axioms proved
end Go.Proofs.Ytmakhfaikpgfnaa.fnAppendKeeps
