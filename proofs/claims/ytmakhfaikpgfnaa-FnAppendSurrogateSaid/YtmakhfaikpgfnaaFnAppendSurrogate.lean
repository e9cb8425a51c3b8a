/-
  Proved: appending a surrogate appends U+FFFD: laws.FnAppendSurrogate returns true for every list of bytes. Conditions: none.
-/
import Derived.Test.YtmakhfaikpgfnaaFrame
import Derived.Test.YtmakhfaikpgfnaaDrawAppend
import Derived.Test.YtmakhfaikpgfnaaAppRune
import Derived.Test.YtmakhfaikpgfnaaSameU
namespace Go.Proofs.Ytmakhfaikpgfnaa.fnAppendSurrogate
open Go.ChangeShapes Go.WideShapes Go.ChangeAt Go.RowKit
set_option linter.unusedVariables false


theorem walk (A0 : Option Addr) (n0 c0 : Nat) (us0 : List Int) (w : World) (w0 : Rd .u8 w A0 n0 c0 us0) (s0 : c0 * 1 ≤ 140737488351232) :
    Calls Try.prog 7 #[.slice A0 n0 c0] w fun e w' => e = .returned (.bool true) ∧ Below w.heap.size w w' := by
  by_cases hn : n0 ≤ 1048576
  · go_enter Try.func7, Try.ntmps7
    go_wp2_with fail
    refine (drawAppendRune_any _ _ _ _ _ w0 hn).mono ?_
    rintro e w1 ⟨us, x, A, n, c, hl, hx, rfl, hA, hb⟩
    have hlen := hA.len
    have Hlen := Lib.hid hlen
    have hnl : n ≤ 1048576 := by omega
    clear hlen hx
    have ht1 : -2048 < Int.tmod x 2048 := by have := Int.lt_tmod_of_pos x (show (0 : Int) < 2048 by omega); omega
    have ht2 : Int.tmod x 2048 < 2048 := Int.tmod_lt_of_pos x (by omega)
    go_wp2_with fail
    generalize Int.tmod x 2048 = y at *
    obtain ⟨s, hs⟩ : ∃ s, s = 55296 + y % 2048 := ⟨_, rfl⟩
    have hs1 : 55296 ≤ s := by omega
    have hs2 : s ≤ 57343 := by omega
    rw [← hs]
    have hu : U.units s = [65533] := by
      rcases U.units_cases s with ⟨h0, _⟩ | ⟨_, h1, _⟩ | ⟨_, h⟩
      · simp only [U.encB, decide_eq_true_eq] at h0; omega
      · omega
      · exact h
    clear hs ht1 ht2
    refine (iAppendRune_any A n c us s _ hA (by omega)).mono ?_
    rintro e w2 ⟨B, m, d, rfl, hB, hb2⟩
    rw [hu] at hB
    have hmB : m = n + 1 := by have := hB.len; rw [List.length_append, Hlen.out] at this; simp at this; omega
    subst hmB
    have hmd := hB.cap
    obtain ⟨b1, o1, u, rfl, hb1, hat, hc1, hw1⟩ := hB.at_ (j := n) (by omega)
    have hu65 : u = 65533 := by
      rw [List.getElem?_append_right (by have := Hlen.out; omega), Hlen.out, Nat.sub_self] at hat
      simpa using hat.symm
    subst hu65
    have r1 := hB.take (m := n) (by omega)
    rw [List.take_left' Hlen.out] at r1
    have hA2 := hA.below hb2 (Nat.le_refl _)
    clear hat hu
    have t1 : (((n + 1 : Nat) : Int) == (n : Int) + 1) = true := by simp
    go_wp2_with fail
    refine (sameUnits_any _ _ _ _ _ _ _ _ _ r1 hA2 (by omega)).mono ?_
    rintro e w4 ⟨rfl, hb4⟩
    rw [decide_eq_true rfl]
    have cc := (hb4.cell (p := ⟨b1, o1 + n, none⟩) hb1).trans hc1
    go_wp2_with fail
    go_ret
    exact ⟨rfl, bel_then (bel_then hb hb2) hb4⟩
  · have hgt : (1048576 : Int) < (n0 : Int) := by omega
    go_enter Try.func7, Try.ntmps7
    go_wp2_with fail
    go_ret
    exact ⟨rfl, Below.refl _ _⟩

set_option maxRecDepth 100000 in
theorem lifted (os : Os) (started : os.Started) (H : Type) (enc : TypeId × Value → H) :
    ReturnsInHanded {} Try.checked os 7 .any (Rows.fnAppendSurrogateSpec.pre6 enc Try.prog Try.f7 Rows.fnAppendSurrogateRow.domain false) (Rows.fnAppendSurrogateSpec.post enc Try.prog Try.f7 false true false false) := by
  refine returnsInHanded_of_change_sized (C := Try.checked) own started (by kernel_rfl) Try.func7
    (ChangeSpec.witness6 (enc := enc) (C := Try.checked) false ⟨#[], #[.slice none 0 0], []⟩ 8 (by kernel_rfl) (by kernel_rfl) (by kernel_rfl) (by kernel_rfl)) ?_
  intro W base args ds gs before hval0 hW hcnd hsz0 _
  have hsz : (DataW.weightsEach Try.prog (Try.f7.params.toList ++ Rows.fnAppendSurrogateSpec.plain.varTypes Try.prog) (ds ++ gs)).all (· ≤ reachBytes) = true := hsz0
  have hval : ∀ (j : Nat) t v, Try.f7.params[j]? = some t → args[j]? = some v → Value.okWide Try.prog W .any base t v := hval0
  have hW' := hW
  obtain ⟨p, q, hA0, hV, rfl, hfz, hnd⟩ := hW
  have hA : DataW.TrodAll enc Try.prog W 0 (fun _ => true) true Try.f7.params.toList args.toList ds p := hA0
  rw [Try.params7] at hA hval hsz
  obtain ⟨v0, vs0, d0, ds0, p0, q0, hargs, rfl, rfl, h0, r0⟩ := trodAll_cons hA
  obtain ⟨rfl, rfl, rfl⟩ := trodAll_nil r0
  obtain rfl : args = #[v0] := by cases args; simp_all
  obtain ⟨rfl, rfl⟩ := trodVars_none hV
  obtain ⟨A0, n0, c0, rfl⟩ := okWide_slice Try.underlying22 (hval 0 22 v0 rfl rfl)
  have k0 := h0
  have lt0 : ∀ x ∈ p0, x.block < W.heap.size := by obtain ⟨m, hm⟩ := k0; exact DataW.trod_lt m _ _ _ hm
  obtain ⟨us0, w0, hd0⟩ := rd_of_reading Try.underlying22 Try.underlying5 (by kernel_rfl) h0
  have s0 : c0 * 1 ≤ 140737488351232 := by
    rcases hd0 with ⟨rfl, rfl⟩ | ⟨el, sp, rfl, hl⟩
    · omega
    · have := sized_slice hsz (j := 0) (t := 22) (e := 5) rfl rfl Try.underlying22
      rw [show Try.prog.bytesOf 5 = 1 by kernel_rfl, hl] at this
      exact this
  clear hd0
  clear hA0 hval0 hsz0 hsz
  refine (walk A0 n0 c0 us0 W w0 s0).mono fun e W' ⟨he, bel⟩ => ?_
  subst he
  exact ⟨_, rfl, _, _, _, [], _, [], hW', trodAll_mk1 (shut_bool Try.underlying4 _), (trodAll_cons_mk (Below.trod laidOut (by kernel_rfl) (of_decide_eq_true (by kernel_rfl)) k0 bel lt0) trodAll_mk0), rfl, bel.frame _, fun h => by cases h⟩

theorem over : Rows.fnAppendSurrogateRow.holds Try.pinned (OpenSpec.ofChange Rows.fnAppendSurrogateSpec) :=
  OpenClaim.holds_of_wide 7 Try.f7 rfl rfl rfl rfl rfl rfl rfl ⟨rfl, rfl, rfl, rfl, rfl⟩ rfl rfl rfl rfl rfl (by kernel_rfl) Try.func7 (by kernel_rfl)
    (of_decide_eq_true (by kernel_rfl)) (by unfold Func.isWrapper; first | (rw [if_pos (by decide +kernel)]; kernel_rfl) | (rw [if_neg (by decide +kernel)]; exact ⟨rfl, rfl⟩))
    (fun os started H enc _ => lifted os started H enc)

/-- THE STATEMENT -/
theorem proved : Rows.FnAppendSurrogateSaid := over
#print axioms proved
end Go.Proofs.Ytmakhfaikpgfnaa.fnAppendSurrogate
