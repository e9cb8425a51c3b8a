/-
  Proved: what was appended is decoded last: laws.FnAppendBack returns true for every list of bytes. Conditions: none.
-/
import Derived.Test.YtngpgkldocpjdaaFrame
import Derived.Test.YtngpgkldocpjdaaDrawAppend
import Derived.Test.YtngpgkldocpjdaaAppRune
import Derived.Test.YtngpgkldocpjdaaDecode
import Derived.Test.YtngpgkldocpjdaaSpecDec
import Derived.Test.YtngpgkldocpjdaaSameR
import Derived.Test.YtngpgkldocpjdaaPlainM
import Derived.Deep.RegionHeld3
namespace Go.Proofs.Ytngpgkldocpjdaa.fnAppendBack
open Go.ChangeShapes Go.WideShapes Go.ChangeAt Go.RowKit
set_option linter.unusedVariables false


set_option maxHeartbeats 1600000 in
theorem walk (A0 : Option Addr) (n0 c0 : Nat) (us0 : List Int) (w : World) (w0 : Rd .u8 w A0 n0 c0 us0) (s0 : c0 * 1 ≤ 140737488351232) :
    Calls Try.prog 8 #[.slice A0 n0 c0] w fun e w' => e = .returned (.bool true) ∧ Below w.heap.size w w' := by
  by_cases hn : n0 ≤ 1048576
  · go_enter Try.func8, Try.ntmps8
    go_wp2_with fail
    refine (drawAppendRune_any _ _ _ _ _ w0 hn).mono ?_
    rintro e w1 ⟨us, x, A, n, c, hl, hx, rfl, hA, hb⟩
    have hlen := hA.len
    have Hlen := Lib.hid hlen
    have hnl : n ≤ 1048576 := by omega
    clear hx hlen
    cases hw : U.wfm us
    · go_wp2_with fail
      refine (wellFormed_any _ _ _ us _ hA (by omega)).mono ?_
      rintro e w' ⟨rfl, rfl⟩
      rw [hw]
      go_wp2_with (first | (go_at_call 15; refine (iRuneLen_any x _).mono ?_; rintro e w' ⟨rfl, rfl⟩) | (go_at_call 32; refine (sRuneLen_any x _).mono ?_; rintro e w' ⟨rfl, rfl⟩))
      go_ret
      first | exact ⟨rfl, hb⟩ | exact ⟨ret_bool (by simp), hb⟩
    · cases he : U.encB x
      · go_wp2_with fail
        refine (wellFormed_any _ _ _ us _ hA (by omega)).mono ?_
        rintro e w' ⟨rfl, rfl⟩
        rw [hw]
        go_wp2_with (first | (go_at_call 31; refine (encodable_any x _).mono ?_; rintro e w' ⟨rfl, rfl⟩; rw [he]) | (go_at_call 15; refine (iRuneLen_any x _).mono ?_; rintro e w' ⟨rfl, rfl⟩) | (go_at_call 32; refine (sRuneLen_any x _).mono ?_; rintro e w' ⟨rfl, rfl⟩))
        go_ret
        first | exact ⟨rfl, hb⟩ | exact ⟨ret_bool (by simp), hb⟩
      · have Hj := Lib.hid (U.dec_back us x hw)
        have Hr : U.rep x = x := by rw [U.rep, if_pos he]
        go_wp2_with fail
        refine (wellFormed_any _ _ _ us _ hA (by omega)).mono ?_
        rintro e w' ⟨rfl, rfl⟩
        rw [hw]
        go_wp2_with (first | (go_at_call 31; refine (encodable_any x _).mono ?_; rintro e w' ⟨rfl, rfl⟩; rw [he]) | (go_at_call 24; fail))
        refine (iAppendRune_any A n c us x _ hA (by omega)).mono ?_
        rintro e w2 ⟨B, m, d, rfl, hB, hb2⟩
        have hul := U.units_len x
        have hmB : m ≤ n + 2 := by have := hB.len; rw [List.length_append, Hlen.out] at this; omega
        go_wp2_with fail
        refine (iDecode_any B m d _ _ hB (by omega)).mono ?_
        rintro e w3 ⟨C, l, f, rfl, hC, hb3⟩
        rw [Hj.out, Hr] at hC
        have Hk := Lib.hid (rfl : (U.dec us).length = (U.dec us).length)
        obtain ⟨k, hk⟩ : ∃ k, (U.dec us).length = k := ⟨_, rfl⟩
        have hkl : l = k + 1 := by have := hC.len; rw [List.length_append, hk] at this; simp at this; omega
        subst hkl
        have hdl := U.dec_len us
        have hk2 : k ≤ 1048576 := by omega
        obtain ⟨b1, o1, u, rfl, hb1, hat, hc1, hw1⟩ := hC.at_ (j := k) (by omega)
        obtain rfl : u = x := by
          rw [List.getElem?_append_right (by omega), hk, Nat.sub_self] at hat
          simpa using hat.symm
        have g1 := hC.take (m := k) (by omega)
        rw [List.take_left' hk] at g1
        have hcap := hC.cap
        have hA3 := (hA.below hb2 (Nat.le_refl _)).below hb3 (Nat.le_refl _)
        have hbb := bel_then (bel_then hb hb2) hb3
        have i0 : (0 : Int) ≤ (k : Int) := by omega
        have i1 : (k : Int) < (k : Int) + 1 := by omega
        have i2 : (k : Int) ≤ (k : Int) + 1 := by omega
        have i3 : (k : Int) ≤ (f : Int) := by omega
        have i4 : k ≤ f := by omega
        clear hb hb2 hb3 hA hB hC hat hw1 hul hdl hcap Hj Hk hk Hr hw
        have tok1 : True := trivial
        go_wp2_with fail
        go_region_held3 (fun w' => w'.cell? ⟨b1, o1 + k, none⟩ = some (.int .i32 u)) (first | go_keep | exact (hb4.cell (p := ⟨b1, o1 + k, none⟩) hb1).trans hc1 | exact (hb5.cell (p := ⟨b1, o1 + k, none⟩) (Nat.lt_of_lt_of_le hb1 hb4.size)).trans ((hb4.cell (p := ⟨b1, o1 + k, none⟩) hb1).trans hc1) | simp [*]) (first | (go_at_call 19; refine (iDecode_any A n c us _ (by exact hA3.drew) (by omega)).mono ?_; rintro e w4 ⟨D, l4, f4, rfl, hD, hb4⟩) | (go_at_call 29; refine (sameRunes_any _ _ _ _ _ _ _ _ _ (g1.drew.below hb4 (Nat.le_refl _)) hD (by omega)).mono ?_; rintro e w5 ⟨rfl, hb5⟩; rw [decide_eq_true rfl]))
        all_goals
          go_wp2_with fail
          go_ret
          exact ⟨rfl, bel_then (bel_then hbb.drew hb4) hb5⟩
  · have hgt : (1048576 : Int) < (n0 : Int) := by omega
    go_enter Try.func8, Try.ntmps8
    go_wp2_with fail
    go_ret
    exact ⟨rfl, Below.refl _ _⟩

set_option maxRecDepth 100000 in
theorem lifted (os : Os) (started : os.Started) (H : Type) (enc : TypeId × Value → H) :
    ReturnsInHanded {} Try.checked os 8 .any (Rows.fnAppendBackSpec.pre6 enc Try.prog Try.f8 Rows.fnAppendBackRow.domain false) (Rows.fnAppendBackSpec.post enc Try.prog Try.f8 false true false false) := by
  refine returnsInHanded_of_change_sized (C := Try.checked) own started (by kernel_rfl) Try.func8
    (ChangeSpec.witness6 (enc := enc) (C := Try.checked) false ⟨#[], #[.slice none 0 0], []⟩ 8 (by kernel_rfl) (by kernel_rfl) (by kernel_rfl) (by kernel_rfl)) ?_
  intro W base args ds gs before hval0 hW hcnd hsz0 _
  have hsz : (DataW.weightsEach Try.prog (Try.f8.params.toList ++ Rows.fnAppendBackSpec.plain.varTypes Try.prog) (ds ++ gs)).all (· ≤ reachBytes) = true := hsz0
  have hval : ∀ (j : Nat) t v, Try.f8.params[j]? = some t → args[j]? = some v → Value.okWide Try.prog W .any base t v := hval0
  have hW' := hW
  obtain ⟨p, q, hA0, hV, rfl, hfz, hnd⟩ := hW
  have hA : DataW.TrodAll enc Try.prog W 0 (fun _ => true) true Try.f8.params.toList args.toList ds p := hA0
  rw [Try.params8] at hA hval hsz
  obtain ⟨v0, vs0, d0, ds0, p0, q0, hargs, rfl, rfl, h0, r0⟩ := trodAll_cons hA
  obtain ⟨rfl, rfl, rfl⟩ := trodAll_nil r0
  obtain rfl : args = #[v0] := by cases args; simp_all
  obtain ⟨rfl, rfl⟩ := trodVars_none hV
  obtain ⟨A0, n0, c0, rfl⟩ := okWide_slice Try.underlying22 (hval 0 22 v0 rfl rfl)
  have k0 := h0
  have lt0 : ∀ x ∈ p0, x.block < W.heap.size := by obtain ⟨m, hm⟩ := k0; exact DataW.trod_lt m _ _ _ hm
  obtain ⟨us0, w0, hd0⟩ := rd_of_reading Try.underlying22 Try.underlying5 (by kernel_rfl) h0
  have s0 : c0 * 1 ≤ 140737488351232 := by
    rcases hd0 with ⟨rfl, rfl⟩ | ⟨el, sp, rfl, hl⟩
    · omega
    · have := sized_slice hsz (j := 0) (t := 22) (e := 5) rfl rfl Try.underlying22
      rw [show Try.prog.bytesOf 5 = 1 by kernel_rfl, hl] at this
      exact this
  clear hd0
  clear hA0 hval0 hsz0 hsz
  refine (walk A0 n0 c0 us0 W w0 s0).mono fun e W' ⟨he, bel⟩ => ?_
  subst he
  exact ⟨_, rfl, _, _, _, [], _, [], hW', trodAll_mk1 (shut_bool Try.underlying4 _), (trodAll_cons_mk (Below.trod laidOut (by kernel_rfl) (of_decide_eq_true (by kernel_rfl)) k0 bel lt0) trodAll_mk0), rfl, bel.frame _, fun h => by cases h⟩

theorem over : Rows.fnAppendBackRow.holds Try.pinned (OpenSpec.ofChange Rows.fnAppendBackSpec) :=
  OpenClaim.holds_of_wide 8 Try.f8 rfl rfl rfl rfl rfl rfl rfl ⟨rfl, rfl, rfl, rfl, rfl⟩ rfl rfl rfl rfl rfl (by kernel_rfl) Try.func8 (by kernel_rfl)
    (of_decide_eq_true (by kernel_rfl)) (by unfold Func.isWrapper; first | (rw [if_pos (by decide +kernel)]; kernel_rfl) | (rw [if_neg (by decide +kernel)]; exact ⟨rfl, rfl⟩))
    (fun os started H enc _ => lifted os started H enc)

/-- THE STATEMENT -/
theorem proved : Rows.FnAppendBackSaid := over
#print axioms proved
end Go.Proofs.Ytngpgkldocpjdaa.fnAppendBack
