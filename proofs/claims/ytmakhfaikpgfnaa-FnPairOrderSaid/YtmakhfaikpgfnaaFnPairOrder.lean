/-
  Proved: pairs are ordered as their code points: laws.FnPairOrder returns true for every two lists of bytes. Conditions: none.
-/
import Derived.Test.YtmakhfaikpgfnaaFrame
import Derived.Test.YtmakhfaikpgfnaaDrawRune
namespace Go.Proofs.Ytmakhfaikpgfnaa.fnPairOrder
open Go.ChangeShapes Go.WideShapes Go.ChangeAt Go.RowKit
set_option linter.unusedVariables false


theorem walk (A0 : Option Addr) (n0 c0 : Nat) (us0 : List Int) (A1 : Option Addr) (n1 c1 : Nat) (us1 : List Int) (w : World) (w0 : Rd .u8 w A0 n0 c0 us0) (s0 : c0 * 1 ≤ 140737488351232) (w1 : Rd .u8 w A1 n1 c1 us1) (s1 : c1 * 1 ≤ 140737488351232) :
    Calls Try.prog 13 #[.slice A0 n0 c0, .slice A1 n1 c1] w fun e w' => e = .returned (.bool true) ∧ Below w.heap.size w w' := by
  by_cases hn : n0 ≤ 1048576
  · by_cases hn1 : n1 ≤ 1048576
    · go_enter Try.func13, Try.ntmps13
      go_wp2_with fail
      refine (drawEncodeRune_any _ _ _ _ _ w0 hn).mono ?_
      rintro e w2 ⟨x, hx, rfl, hb⟩
      go_wp2_with fail
      refine (drawEncodeRune_any _ _ _ _ _ (w1.below hb (Nat.le_refl _)) hn1).mono ?_
      rintro e w3 ⟨y, hy, rfl, hb3⟩
      have hB := bel_then hb hb3
      clear hb hb3
      by_cases h2 : U.rlen x = 2
      · by_cases h3 : U.rlen y = 2
        · obtain ⟨hr1, hr2⟩ := (U.rlen_two_iff x).1 h2
          obtain ⟨hs1, hs2⟩ := (U.rlen_two_iff y).1 h3
          rcases U.order_cases x y hr1 hr2 hs1 hs2 with ⟨q1, q2⟩ | ⟨q1, q2, q3⟩ | ⟨q1, q2⟩ | ⟨q1, q2, q3⟩
          · go_wp2_with (first | (go_at_call 19; refine (iRuneLen_any _ _).mono ?_; rintro e w' ⟨rfl, rfl⟩) | (go_at_call 30; refine (iEncodeRune_any _ _).mono ?_; rintro e w' ⟨rfl, rfl⟩))
            go_ret
            refine ⟨ret_bool ?_, hB⟩; first | rfl | (rw [decide_eq_false (by omega), decide_eq_false (by omega)]; done) | (rw [decide_eq_false (by omega), decide_eq_false (by omega)]; rfl) | (rw [decide_eq_true q1, decide_eq_true q2]; rfl) | (simp [*]; done) | (simp; omega)
          · have q4 : ¬ U.er1 x < U.er1 y := by omega
            have q5 : (U.er1 x == U.er1 y) = true := by simpa using q2
            clear q2
            go_wp2_with (first | (go_at_call 19; refine (iRuneLen_any _ _).mono ?_; rintro e w' ⟨rfl, rfl⟩) | (go_at_call 30; refine (iEncodeRune_any _ _).mono ?_; rintro e w' ⟨rfl, rfl⟩))
            go_ret
            refine ⟨ret_bool ?_, hB⟩; first | rfl | (rw [decide_eq_false (by omega), decide_eq_false (by omega)]; done) | (rw [decide_eq_false (by omega), decide_eq_false (by omega)]; rfl) | (rw [decide_eq_true q1, decide_eq_true q2]; rfl) | (simp [*]; done) | (simp; omega)
          · have q4 : ¬ U.er1 x < U.er1 y := by omega
            have q5 : (U.er1 x == U.er1 y) = false := by simp; omega
            go_wp2_with (first | (go_at_call 19; refine (iRuneLen_any _ _).mono ?_; rintro e w' ⟨rfl, rfl⟩) | (go_at_call 30; refine (iEncodeRune_any _ _).mono ?_; rintro e w' ⟨rfl, rfl⟩))
            go_ret
            refine ⟨ret_bool ?_, hB⟩; first | rfl | (rw [decide_eq_false (by omega), decide_eq_false (by omega)]; done) | (rw [decide_eq_false (by omega), decide_eq_false (by omega)]; rfl) | (rw [decide_eq_true q1, decide_eq_true q2]; rfl) | (simp [*]; done) | (simp; omega)
          · have q4 : ¬ U.er1 x < U.er1 y := by omega
            have q5 : (U.er1 x == U.er1 y) = true := by simpa using q2
            have q6 : decide (x < y) = false := decide_eq_false (by omega)
            have q7 : decide (U.er2 x < U.er2 y) = false := decide_eq_false (by omega)
            clear q2
            go_wp2_with (first | (go_at_call 19; refine (iRuneLen_any _ _).mono ?_; rintro e w' ⟨rfl, rfl⟩) | (go_at_call 30; refine (iEncodeRune_any _ _).mono ?_; rintro e w' ⟨rfl, rfl⟩))
            go_ret
            refine ⟨ret_bool ?_, hB⟩; first | rfl | (rw [decide_eq_false (by omega), decide_eq_false (by omega)]; done) | (rw [decide_eq_false (by omega), decide_eq_false (by omega)]; rfl) | (rw [decide_eq_true q1, decide_eq_true q2]; rfl) | (simp [*]; done) | (simp; omega)
        · have h3' : (U.rlen y != 2) = true := by simpa using h3
          go_wp2_with (first | (go_at_call 19; refine (iRuneLen_any _ _).mono ?_; rintro e w' ⟨rfl, rfl⟩) | (go_at_call 33; refine (sRuneLen_any _ _).mono ?_; rintro e w' ⟨rfl, rfl⟩))
          go_ret
          refine ⟨ret_bool ?_, hB⟩; first | rfl | (rw [decide_eq_false (by omega), decide_eq_false (by omega)]; done) | (rw [decide_eq_false (by omega), decide_eq_false (by omega)]; rfl) | (rw [decide_eq_true q1, decide_eq_true q2]; rfl) | (simp [*]; done) | (simp; omega)
      · have h2' : (U.rlen x != 2) = true := by simpa using h2
        have h4 : (U.rlen x == U.rlen x) = true := by simp
        go_wp2_with (first | (go_at_call 19; refine (iRuneLen_any _ _).mono ?_; rintro e w' ⟨rfl, rfl⟩) | (go_at_call 33; refine (sRuneLen_any _ _).mono ?_; rintro e w' ⟨rfl, rfl⟩))
        go_ret
        refine ⟨ret_bool ?_, hB⟩; first | rfl | (rw [decide_eq_false (by omega), decide_eq_false (by omega)]; done) | (rw [decide_eq_false (by omega), decide_eq_false (by omega)]; rfl) | (rw [decide_eq_true q1, decide_eq_true q2]; rfl) | (simp [*]; done) | (simp; omega)
    · have hgt : (1048576 : Int) < (n1 : Int) := by omega
      go_enter Try.func13, Try.ntmps13
      go_wp2_with fail
      go_ret
      exact ⟨rfl, Below.refl _ _⟩
  · have hgt : (1048576 : Int) < (n0 : Int) := by omega
    go_enter Try.func13, Try.ntmps13
    go_wp2_with fail
    go_ret
    exact ⟨rfl, Below.refl _ _⟩

set_option maxRecDepth 100000 in
theorem lifted (os : Os) (started : os.Started) (H : Type) (enc : TypeId × Value → H) :
    ReturnsInHanded {} Try.checked os 13 .any (Rows.fnPairOrderSpec.pre6 enc Try.prog Try.f13 Rows.fnPairOrderRow.domain false) (Rows.fnPairOrderSpec.post enc Try.prog Try.f13 false true false false) := by
  refine returnsInHanded_of_change_sized (C := Try.checked) own started (by kernel_rfl) Try.func13
    (ChangeSpec.witness6 (enc := enc) (C := Try.checked) false ⟨#[], #[.slice none 0 0, .slice none 0 0], []⟩ 8 (by kernel_rfl) (by kernel_rfl) (by kernel_rfl) (by kernel_rfl)) ?_
  intro W base args ds gs before hval0 hW hcnd hsz0 _
  have hsz : (DataW.weightsEach Try.prog (Try.f13.params.toList ++ Rows.fnPairOrderSpec.plain.varTypes Try.prog) (ds ++ gs)).all (· ≤ reachBytes) = true := hsz0
  have hval : ∀ (j : Nat) t v, Try.f13.params[j]? = some t → args[j]? = some v → Value.okWide Try.prog W .any base t v := hval0
  have hW' := hW
  obtain ⟨p, q, hA0, hV, rfl, hfz, hnd⟩ := hW
  have hA : DataW.TrodAll enc Try.prog W 0 (fun _ => true) true Try.f13.params.toList args.toList ds p := hA0
  rw [Try.params13] at hA hval hsz
  obtain ⟨v0, vs0, d0, ds0, p0, q0, hargs, rfl, rfl, h0, r0⟩ := trodAll_cons hA
  obtain ⟨v1, vs1, d1, ds1, p1, q1, rfl, rfl, rfl, h1, r1⟩ := trodAll_cons r0
  obtain ⟨rfl, rfl, rfl⟩ := trodAll_nil r1
  obtain rfl : args = #[v0, v1] := by cases args; simp_all
  obtain ⟨rfl, rfl⟩ := trodVars_none hV
  obtain ⟨A0, n0, c0, rfl⟩ := okWide_slice Try.underlying22 (hval 0 22 v0 rfl rfl)
  have k0 := h0
  have lt0 : ∀ x ∈ p0, x.block < W.heap.size := by obtain ⟨m, hm⟩ := k0; exact DataW.trod_lt m _ _ _ hm
  obtain ⟨us0, w0, hd0⟩ := rd_of_reading Try.underlying22 Try.underlying5 (by kernel_rfl) h0
  have s0 : c0 * 1 ≤ 140737488351232 := by
    rcases hd0 with ⟨rfl, rfl⟩ | ⟨el, sp, rfl, hl⟩
    · omega
    · have := sized_slice hsz (j := 0) (t := 22) (e := 5) rfl rfl Try.underlying22
      rw [show Try.prog.bytesOf 5 = 1 by kernel_rfl, hl] at this
      exact this
  clear hd0
  obtain ⟨A1, n1, c1, rfl⟩ := okWide_slice Try.underlying22 (hval 1 22 v1 rfl rfl)
  have k1 := h1
  have lt1 : ∀ x ∈ p1, x.block < W.heap.size := by obtain ⟨m, hm⟩ := k1; exact DataW.trod_lt m _ _ _ hm
  obtain ⟨us1, w1, hd1⟩ := rd_of_reading Try.underlying22 Try.underlying5 (by kernel_rfl) h1
  have s1 : c1 * 1 ≤ 140737488351232 := by
    rcases hd1 with ⟨rfl, rfl⟩ | ⟨el, sp, rfl, hl⟩
    · omega
    · have := sized_slice hsz (j := 1) (t := 22) (e := 5) rfl rfl Try.underlying22
      rw [show Try.prog.bytesOf 5 = 1 by kernel_rfl, hl] at this
      exact this
  clear hd1
  clear hA0 hval0 hsz0 hsz
  refine (walk A0 n0 c0 us0 A1 n1 c1 us1 W w0 s0 w1 s1).mono fun e W' ⟨he, bel⟩ => ?_
  subst he
  exact ⟨_, rfl, _, _, _, [], _, [], hW', trodAll_mk1 (shut_bool Try.underlying4 _), (trodAll_cons_mk (Below.trod laidOut (by kernel_rfl) (of_decide_eq_true (by kernel_rfl)) k0 bel lt0) (trodAll_cons_mk (Below.trod laidOut (by kernel_rfl) (of_decide_eq_true (by kernel_rfl)) k1 bel lt1) trodAll_mk0)), rfl, bel.frame _, fun h => by cases h⟩

theorem over : Rows.fnPairOrderRow.holds Try.pinned (OpenSpec.ofChange Rows.fnPairOrderSpec) :=
  OpenClaim.holds_of_wide 13 Try.f13 rfl rfl rfl rfl rfl rfl rfl ⟨rfl, rfl, rfl, rfl, rfl⟩ rfl rfl rfl rfl rfl (by kernel_rfl) Try.func13 (by kernel_rfl)
    (of_decide_eq_true (by kernel_rfl)) (by unfold Func.isWrapper; first | (rw [if_pos (by decide +kernel)]; kernel_rfl) | (rw [if_neg (by decide +kernel)]; exact ⟨rfl, rfl⟩))
    (fun os started H enc _ => lifted os started H enc)

/-- THE STATEMENT -/
theorem proved : Rows.FnPairOrderSaid := over
#print axioms proved
end Go.Proofs.Ytmakhfaikpgfnaa.fnPairOrder
