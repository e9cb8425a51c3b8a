/-
  Proved: decoding and encoding change none of their arguments' numbers: laws.FnDecodeKeeps returns true for every two lists of bytes. Conditions: none.
-/
import Derived.Test.YtngpgkldocpjdaaFrame
import Derived.Test.YtngpgkldocpjdaaDrawDecode
import Derived.Test.YtngpgkldocpjdaaDrawEncode
import Derived.Test.YtngpgkldocpjdaaDecode
import Derived.Test.YtngpgkldocpjdaaEncode
import Derived.Test.YtngpgkldocpjdaaSpecDec
import Derived.Test.YtngpgkldocpjdaaSpecEnc
import Derived.Test.YtngpgkldocpjdaaSameR
import Derived.Test.YtngpgkldocpjdaaSameU
namespace Go.Proofs.Ytngpgkldocpjdaa.fnDecodeKeeps
open Go.ChangeShapes Go.WideShapes Go.ChangeAt Go.RowKit
set_option linter.unusedVariables false

theorem own_rdn {k : IntKind} {E : TypeId} {w : World} {base : Nat} {v : Value} {us : List Int} (h : Own k E w base v us) (hw : ∀ u ∈ us, (Lit.int k u).wf = true) : ∃ A n c, v = .slice A n c ∧ Rd k w A n c us := by
  obtain ⟨A, c, e, hr⟩ := h.rd hw
  exact ⟨A, _, c, e, hr⟩

set_option maxHeartbeats 1600000 in
theorem walk (A0 : Option Addr) (n0 c0 : Nat) (us0 : List Int) (A1 : Option Addr) (n1 c1 : Nat) (us1 : List Int) (w : World) (w0 : Rd .u8 w A0 n0 c0 us0) (s0 : c0 * 1 ≤ 140737488351232) (w1 : Rd .u8 w A1 n1 c1 us1) (s1 : c1 * 1 ≤ 140737488351232) :
    Calls Try.prog 11 #[.slice A0 n0 c0, .slice A1 n1 c1] w fun e w' => e = .returned (.bool true) ∧ Below w.heap.size w w' := by
  by_cases hn : n0 ≤ 1048576
  · by_cases hn1 : n1 ≤ 1048576
    · go_enter Try.func11, Try.ntmps11
      go_wp2_with fail
      refine (drawDecode_any _ _ _ _ _ w0 hn).mono ?_
      rintro e w2 ⟨us, hl, A, n, c, rfl, hA, hb2⟩
      go_wp2_with fail
      refine (drawEncode_any _ _ _ _ _ (w1.below hb2 (Nat.le_refl _)) hn1).mono ?_
      rintro e w3 ⟨vs, hl3, B, m, d, rfl, hB, hb3⟩
      have hA3 := hA.below hb3 (Nat.le_refl _)
      have hb := bel_then hb2 hb3
      have Hl := Lib.hid hA.len
      have Hm := Lib.hid hB.len
      have hnl : n ≤ 1048576 := by have := Hl.out; omega
      have hml : m ≤ 1048576 := by have := Hm.out; omega
      clear hb2 hb3 hA
      have ho := Own.empty (k := .u16) (E := 41) w3 (Nat.le_refl w3.heap.size)
      have hr := hA3.alloc (.cells #[] 41)
      have hbA := (Below.refl w3.heap.size w3).alloc (Nat.le_refl _) (.cells #[] 41)
      have Hwf : Hid (∀ u ∈ us, (Lit.int .u16 u).wf = true) := hA3.wf
      have Hwf2 : Hid (∀ u ∈ vs, (Lit.int .i32 u).wf = true) := hB.wf
      go_wp2_with (first | (at_builtin; refine wpList_appS (w3.alloc (.cells #[] 41)) rfl (.tmp 23) (.tmp 24) 25 rfl w3.heap.size 41 .u16 (.int .u16 0) 2 Try.underlying25 info_u16d rfl _ [] ho _ n c us hr rfl rfl (by simp; omega) (by omega) (by simp) ?_; intro v4 w4 hg4; have hb4 : Below w3.heap.size w3 w4 := hg4.bel hbA ho (Nat.le_refl _); obtain ⟨F, l5, d5, rfl, hF⟩ := own_rdn hg4.own Hwf.out; have ho4 := Own.empty (k := .i32) (E := 21) w4 (Nat.le_refl w4.heap.size); have hr4 := (hB.below hb4 (Nat.le_refl _)).alloc (.cells #[] 21); have hbA4 := (Below.refl w4.heap.size w4).alloc (Nat.le_refl _) (.cells #[] 21)) | (at_builtin; refine wpList_appS (w4.alloc (.cells #[] 21)) rfl (.tmp 26) (.tmp 27) 23 rfl w4.heap.size 21 .i32 (.int .i32 0) 4 Try.underlying23 info_i32' rfl _ [] ho4 _ m d vs hr4 rfl rfl (by simp; omega) (by omega) (by simp) ?_; intro v5 w5 hg5; have hb5 : Below w4.heap.size w4 w5 := hg5.bel hbA4 ho4 (Nat.le_refl _); obtain ⟨G, l6, d6, rfl, hG⟩ := own_rdn hg5.own Hwf2.out) | (go_at_call 19; fail))
      have hF5 := hF.below hb5 (Nat.le_refl _)
      have hb35 := bel_then hb4 hb5
      have hA5 := hA3.below hb35 (Nat.le_refl _)
      have hB5 := hB.below hb35 (Nat.le_refl _)
      have hbw := bel_then hb hb35
      clear hb hb4 hb5 hb35 hg4 hg5 ho ho4 hr hr4 hbA hbA4 hF hA3 hB
      obtain rfl : l5 = n := by have h1 := hF5.len; have := Hl.out; simp at h1; omega
      obtain rfl : l6 = m := by have h1 := hG.len; have := Hm.out; simp at h1; omega
      refine (iDecode_any F _ d5 _ _ hF5 (by omega)).mono ?_
      rintro e w6 ⟨I, k, f, rfl, hI, hb6⟩
      have hG6 := hG.below hb6 (Nat.le_refl _)
      go_wp2_with fail
      refine (iEncode_any G _ d6 _ _ hG6 (by omega)).mono ?_
      rintro e w7 ⟨J, p, g, rfl, hJ, hb7⟩
      have hb57 := bel_then hb6 hb7
      have hA7 := hA5.below hb57 (Nat.le_refl _)
      have hB7 := hB5.below hb57 (Nat.le_refl _)
      have hF7 := hF5.below hb57 (Nat.le_refl _)
      have hG7 := hG.below hb57 (Nat.le_refl _)
      have hk := hI.len
      have hp := hJ.len
      have hbw7 := bel_then hbw hb57
      clear hb57 hb6 hb7 hG hG6 hF5 hA5 hB5 hbw hI hJ
      rw [List.nil_append] at hF7 hG7 hk hp
      go_wp2_with fail
      refine (sameUnits_any _ _ _ _ _ _ _ _ _ hF7 hA7 (by omega)).mono ?_
      rintro e w8 ⟨rfl, hb8⟩
      rw [decide_eq_true rfl]
      go_wp2_with fail
      refine (sameRunes_any _ _ _ _ _ _ _ _ _ (hG7.below hb8 (Nat.le_refl _)) (hB7.below hb8 (Nat.le_refl _)) (by omega)).mono ?_
      rintro e w9 ⟨rfl, hb9⟩
      rw [decide_eq_true rfl]
      have hb79 := bel_then hb8 hb9
      go_wp2_with fail
      refine (sDecode_any A _ c us _ (hA7.below hb79 (Nat.le_refl _)) (by omega)).mono ?_
      rintro e w10 ⟨M, k10, f10, rfl, hM, hb10⟩
      obtain rfl : k10 = k := by have h1 := hM.len; omega
      have hb710 := bel_then hb79 hb10
      go_wp2_with fail
      refine (sEncode_any B _ d vs _ (hB7.below hb710 (Nat.le_refl _)) (by omega)).mono ?_
      rintro e w11 ⟨N, k11, f11, rfl, hN, hb11⟩
      obtain rfl : k11 = p := by have h1 := hN.len; omega
      go_wp2_with fail
      go_ret
      first | exact ⟨rfl, bel_then (bel_then hbw7 hb710) hb11⟩ | exact ⟨ret_bool (by simp), bel_then (bel_then hbw7 hb710) hb11⟩
    · have hgt : (1048576 : Int) < (n1 : Int) := by omega
      go_enter Try.func11, Try.ntmps11
      go_wp2_with fail
      go_ret
      exact ⟨rfl, Below.refl _ _⟩
  · have hgt : (1048576 : Int) < (n0 : Int) := by omega
    go_enter Try.func11, Try.ntmps11
    go_wp2_with fail
    go_ret
    exact ⟨rfl, Below.refl _ _⟩

set_option maxRecDepth 100000 in
theorem lifted (os : Os) (started : os.Started) (H : Type) (enc : TypeId × Value → H) :
    ReturnsInHanded {} Try.checked os 11 .any (Rows.fnDecodeKeepsSpec.pre6 enc Try.prog Try.f11 Rows.fnDecodeKeepsRow.domain false) (Rows.fnDecodeKeepsSpec.post enc Try.prog Try.f11 false true false false) := by
  refine returnsInHanded_of_change_sized (C := Try.checked) own started (by kernel_rfl) Try.func11
    (ChangeSpec.witness6 (enc := enc) (C := Try.checked) false ⟨#[], #[.slice none 0 0, .slice none 0 0], []⟩ 8 (by kernel_rfl) (by kernel_rfl) (by kernel_rfl) (by kernel_rfl)) ?_
  intro W base args ds gs before hval0 hW hcnd hsz0 _
  have hsz : (DataW.weightsEach Try.prog (Try.f11.params.toList ++ Rows.fnDecodeKeepsSpec.plain.varTypes Try.prog) (ds ++ gs)).all (· ≤ reachBytes) = true := hsz0
  have hval : ∀ (j : Nat) t v, Try.f11.params[j]? = some t → args[j]? = some v → Value.okWide Try.prog W .any base t v := hval0
  have hW' := hW
  obtain ⟨p, q, hA0, hV, rfl, hfz, hnd⟩ := hW
  have hA : DataW.TrodAll enc Try.prog W 0 (fun _ => true) true Try.f11.params.toList args.toList ds p := hA0
  rw [Try.params11] at hA hval hsz
  obtain ⟨v0, vs0, d0, ds0, p0, q0, hargs, rfl, rfl, h0, r0⟩ := trodAll_cons hA
  obtain ⟨v1, vs1, d1, ds1, p1, q1, rfl, rfl, rfl, h1, r1⟩ := trodAll_cons r0
  obtain ⟨rfl, rfl, rfl⟩ := trodAll_nil r1
  obtain rfl : args = #[v0, v1] := by cases args; simp_all
  obtain ⟨rfl, rfl⟩ := trodVars_none hV
  obtain ⟨A0, n0, c0, rfl⟩ := okWide_slice Try.underlying22 (hval 0 22 v0 rfl rfl)
  have k0 := h0
  have lt0 : ∀ x ∈ p0, x.block < W.heap.size := by obtain ⟨m, hm⟩ := k0; exact DataW.trod_lt m _ _ _ hm
  obtain ⟨us0, w0, hd0⟩ := rd_of_reading Try.underlying22 Try.underlying5 (by kernel_rfl) h0
  have s0 : c0 * 1 ≤ 140737488351232 := by
    rcases hd0 with ⟨rfl, rfl⟩ | ⟨el, sp, rfl, hl⟩
    · omega
    · have := sized_slice hsz (j := 0) (t := 22) (e := 5) rfl rfl Try.underlying22
      rw [show Try.prog.bytesOf 5 = 1 by kernel_rfl, hl] at this
      exact this
  clear hd0
  obtain ⟨A1, n1, c1, rfl⟩ := okWide_slice Try.underlying22 (hval 1 22 v1 rfl rfl)
  have k1 := h1
  have lt1 : ∀ x ∈ p1, x.block < W.heap.size := by obtain ⟨m, hm⟩ := k1; exact DataW.trod_lt m _ _ _ hm
  obtain ⟨us1, w1, hd1⟩ := rd_of_reading Try.underlying22 Try.underlying5 (by kernel_rfl) h1
  have s1 : c1 * 1 ≤ 140737488351232 := by
    rcases hd1 with ⟨rfl, rfl⟩ | ⟨el, sp, rfl, hl⟩
    · omega
    · have := sized_slice hsz (j := 1) (t := 22) (e := 5) rfl rfl Try.underlying22
      rw [show Try.prog.bytesOf 5 = 1 by kernel_rfl, hl] at this
      exact this
  clear hd1
  clear hA0 hval0 hsz0 hsz
  refine (walk A0 n0 c0 us0 A1 n1 c1 us1 W w0 s0 w1 s1).mono fun e W' ⟨he, bel⟩ => ?_
  subst he
  exact ⟨_, rfl, _, _, _, [], _, [], hW', trodAll_mk1 (shut_bool Try.underlying4 _), (trodAll_cons_mk (Below.trod laidOut (by kernel_rfl) (of_decide_eq_true (by kernel_rfl)) k0 bel lt0) (trodAll_cons_mk (Below.trod laidOut (by kernel_rfl) (of_decide_eq_true (by kernel_rfl)) k1 bel lt1) trodAll_mk0)), rfl, bel.frame _, fun h => by cases h⟩

theorem over : Rows.fnDecodeKeepsRow.holds Try.pinned (OpenSpec.ofChange Rows.fnDecodeKeepsSpec) :=
  OpenClaim.holds_of_wide 11 Try.f11 rfl rfl rfl rfl rfl rfl rfl ⟨rfl, rfl, rfl, rfl, rfl⟩ rfl rfl rfl rfl rfl (by kernel_rfl) Try.func11 (by kernel_rfl)
    (of_decide_eq_true (by kernel_rfl)) (by unfold Func.isWrapper; first | (rw [if_pos (by decide +kernel)]; kernel_rfl) | (rw [if_neg (by decide +kernel)]; exact ⟨rfl, rfl⟩))
    (fun os started H enc _ => lifted os started H enc)

/-- THE STATEMENT -/
theorem proved : Rows.FnDecodeKeepsSaid := over
#print axioms proved
end Go.Proofs.Ytngpgkldocpjdaa.fnDecodeKeeps
