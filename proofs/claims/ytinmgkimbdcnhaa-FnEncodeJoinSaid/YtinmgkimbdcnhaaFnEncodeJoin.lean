/-
  Proved: two lists in sequence are encoded in sequence: laws.FnEncodeJoin returns true for every two lists of bytes. Conditions: none.
-/
import Derived.Test.YtinmgkimbdcnhaaFrame
import Derived.Test.YtinmgkimbdcnhaaDrawEncode
import Derived.Test.YtinmgkimbdcnhaaEncode
import Derived.Test.YtinmgkimbdcnhaaSpecEnc
import Derived.Test.YtinmgkimbdcnhaaSameU
import Derived.Test.YtinmgkimbdcnhaaPlainM
import Derived.Deep.RegionHeld3
namespace Go.Proofs.Ytinmgkimbdcnhaa.fnEncodeJoin
open Go.ChangeShapes Go.WideShapes Go.ChangeAt Go.RowKit
set_option linter.unusedVariables false

theorem own_rdn {k : IntKind} {E : TypeId} {w : World} {base : Nat} {v : Value} {us : List Int} (h : Own k E w base v us) (hw : ∀ u ∈ us, (Lit.int k u).wf = true) : ∃ A n c, v = .slice A n c ∧ Rd k w A n c us := by
  obtain ⟨A, c, e, hr⟩ := h.rd hw
  exact ⟨A, _, c, e, hr⟩
theorem info_i32j : (Try.prog.info? 21).map (fun i => (i.zero, i.size, i.bytes)) = some (some (.int .i32 0), 1, 4) := by kernel_rfl

set_option maxHeartbeats 3200000 in
theorem walk (A0 : Option Addr) (n0 c0 : Nat) (us0 : List Int) (A1 : Option Addr) (n1 c1 : Nat) (us1 : List Int) (w : World) (w0 : Rd .u8 w A0 n0 c0 us0) (s0 : c0 * 1 ≤ 140737488351232) (w1 : Rd .u8 w A1 n1 c1 us1) (s1 : c1 * 1 ≤ 140737488351232) :
    Calls Try.prog 9 #[.slice A0 n0 c0, .slice A1 n1 c1] w fun e w' => e = .returned (.bool true) ∧ Below w.heap.size w w' := by
  by_cases hn : n0 ≤ 1048576
  · by_cases hn1 : n1 ≤ 1048576
    · go_enter Try.func9, Try.ntmps9
      go_wp2_with fail
      refine (drawEncode_any _ _ _ _ _ w0 hn).mono ?_
      rintro e w2 ⟨us, hl, A, n, c, rfl, hA, hb2⟩
      go_wp2_with fail
      refine (drawEncode_any _ _ _ _ _ (w1.below hb2 (Nat.le_refl _)) hn1).mono ?_
      rintro e w3 ⟨vs, hl3, B, m, d, rfl, hB, hb3⟩
      have hA3 := hA.below hb3 (Nat.le_refl _)
      have hb := bel_then hb2 hb3
      have Hl := Lib.hid hA.len
      have Hm := Lib.hid hB.len
      have hnl : n ≤ 1048576 := by have := Hl.out; omega
      have hml : m ≤ 1048576 := by have := Hm.out; omega
      clear hb2 hb3 hA
      have Hj := Lib.hid (U.enc_append us vs)
      have ho := Own.empty (k := .i32) (E := 21) w3 (Nat.le_refl w3.heap.size)
      have hr := hA3.alloc (.cells #[] 21)
      have hr2 := hB.alloc (.cells #[] 21)
      have hbA := (Below.refl w3.heap.size w3).alloc (Nat.le_refl _) (.cells #[] 21)
      have Hwf : Hid (∀ u ∈ us ++ vs, (Lit.int .i32 u).wf = true) := wf_apps hA3.wf hB.wf
      have hln : (us.length + m) * 4 ≤ 140737488355328 := by have := Hl.out; omega
      go_wp2_with (first | (at_builtin; refine wpList_appS (w3.alloc (.cells #[] 21)) rfl (.tmp 21) (.tmp 22) 25 rfl w3.heap.size 21 .i32 (.int .i32 0) 4 Try.underlying25 info_i32j rfl _ [] ho _ n c us hr rfl rfl (by simp; omega) (by omega) (by simp) ?_; intro v4 w4 hg4; have hb4 := hg4.bel hbA ho (Nat.le_refl _); have ho4 := hg4.own; rw [List.nil_append] at ho4) | (at_builtin; refine wpList_appS w4 rfl (.tmp 23) (.tmp 24) 25 rfl w3.heap.size 21 .i32 (.int .i32 0) 4 Try.underlying25 info_i32j rfl _ us ho4 _ m d vs (hB.below hb4 (Nat.le_refl _)) rfl rfl hln (by omega) hb4.size ?_; intro v5 w5 hg5; obtain ⟨F, l5, d5, rfl, hF⟩ := own_rdn hg5.own Hwf.out; have hb5 : Below w3.heap.size w3 w5 := hg5.bel hb4 ho4 (Nat.le_refl _)) | (go_at_call 34; fail))
      have hl5 : l5 ≤ 2097152 := by have := hF.len; rw [List.length_append] at this; omega
      refine (iEncode_any F l5 d5 _ _ hF (by omega)).mono ?_
      rintro e w6 ⟨G, l6, d6, rfl, hG, hb6⟩
      rw [Hj.out] at hG
      have hb36 := bel_then hb5 hb6
      have hA6 := hA3.below hb36 (Nat.le_refl _)
      have hB6 := hB.below hb36 (Nat.le_refl _)
      go_wp2_with fail
      refine (iEncode_any A n c us _ hA6 (by omega)).mono ?_
      rintro e w7 ⟨I, k, f, rfl, hI, hb7⟩
      have hk := hI.len
      have hG7 := hG.below hb7 (Nat.le_refl _)
      have hl6 : l6 = k + (U.enc vs).length := by have := hG.len; rw [List.length_append, hk] at this; omega
      have hdl := U.enc_len us
      have hdv := U.enc_len vs
      have hk2 : k ≤ 2097152 := by omega
      have hkl : k ≤ l6 := by omega
      have hl62 : l6 ≤ 4194304 := by omega
      have hcap := hG7.cap
      have g1 := hG7.take (m := k) hkl
      rw [List.take_left' hk] at g1
      have hA7 := hA6.below hb7 (Nat.le_refl _)
      have hB7 := hB6.below hb7 (Nat.le_refl _)
      have hbb := bel_then (bel_then hb hb36) hb7
      have hk6 : (k : Int) ≤ (l6 : Int) := by omega
      have hc6 : (l6 : Int) ≤ (d6 : Int) := by omega
      have hkd : (k : Int) ≤ (d6 : Int) := by omega
      have hkd' : k ≤ d6 := by omega
      by_cases hkk : k = l6
      · have hv0 : U.enc vs = [] := List.eq_nil_of_length_eq_zero (by omega)
        have Hv0 := Lib.hid hv0.symm
        subst hkk
        have hkk' : (k : Int) ≤ (k : Int) := by omega
        clear hb hb36 hb7 hb6 hb5 hb4 hG hG7 hF hI hl6 hdl hdv Hj hk Hwf hg4 hg5 ho4 ho hr hr2 hbA hln hA3 hB hA6 hB6 hl5 hcap w0 w1 s0 s1 hn hn1 Hl Hm hkl hl62
        by_cases hdk : d6 = k
        · subst hdk
          rcases G with _ | ⟨b1, o1, sp⟩
          all_goals
            go_wp2_with fail
            go_region_held3 (fun _ => True) (trivial) (first | (go_at_call 33; refine (sameUnits_any _ _ _ _ _ _ _ _ _ ((g1.drew.below hb8b (Nat.le_refl _)).below hb12 (Nat.le_refl _)) hN (by omega)).mono ?_; rintro e w13 ⟨rfl, hb13⟩; rw [decide_eq_true rfl]) | (go_at_call 35; have hb8b := bel_then (bel_then (bel_then hb8 hb9) hb10) hb11; refine (sEncode_any A n c us _ (hA7.drew.below hb8b (Nat.le_refl _)) (by omega)).mono ?_; rintro e w12 ⟨N, k12, f12, rfl, hN, hb12⟩) | (go_at_call 33; refine (sameUnits_any _ _ _ _ _ _ _ _ _ (Rd.nil) hM (by omega)).mono ?_; rintro e w11 ⟨rfl, hb11⟩; rw [decide_eq_true Hv0.out]) | (go_at_call 34; refine (iEncode_any B m d vs _ ((hB7.drew.below hb8 (Nat.le_refl _)).below hb9 (Nat.le_refl _)) (by omega)).mono ?_; rintro e w10 ⟨M, k10, f10, rfl, hM, hb10⟩) | (go_at_call 33; refine (sameUnits_any _ _ _ _ _ _ _ _ _ (g1.drew.below hb8 (Nat.le_refl _)) hJ (by omega)).mono ?_; rintro e w9 ⟨rfl, hb9⟩; rw [decide_eq_true rfl]) | (go_at_call 34; refine (iEncode_any A n c us _ (by exact hA7.drew) (by omega)).mono ?_; rintro e w8 ⟨J, k8, f8, rfl, hJ, hb8⟩))
            all_goals
              go_wp2_with fail
              go_ret
              exact ⟨rfl, bel_then (bel_then (bel_then hbb.drew hb8b) hb12) hb13⟩
        · rcases G with _ | ⟨b1, o1, sp⟩
          all_goals
            go_wp2_with fail
            go_region_held3 (fun _ => True) (trivial) (first | (go_at_call 33; refine (sameUnits_any _ _ _ _ _ _ _ _ _ ((g1.drew.below hb8b (Nat.le_refl _)).below hb12 (Nat.le_refl _)) hN (by omega)).mono ?_; rintro e w13 ⟨rfl, hb13⟩; rw [decide_eq_true rfl]) | (go_at_call 35; have hb8b := bel_then (bel_then (bel_then hb8 hb9) hb10) hb11; refine (sEncode_any A n c us _ (hA7.drew.below hb8b (Nat.le_refl _)) (by omega)).mono ?_; rintro e w12 ⟨N, k12, f12, rfl, hN, hb12⟩) | (go_at_call 33; refine (sameUnits_any _ _ _ _ _ _ _ _ _ (Rd.nil) hM (by omega)).mono ?_; rintro e w11 ⟨rfl, hb11⟩; rw [decide_eq_true Hv0.out]) | (go_at_call 34; refine (iEncode_any B m d vs _ ((hB7.drew.below hb8 (Nat.le_refl _)).below hb9 (Nat.le_refl _)) (by omega)).mono ?_; rintro e w10 ⟨M, k10, f10, rfl, hM, hb10⟩) | (go_at_call 33; refine (sameUnits_any _ _ _ _ _ _ _ _ _ (g1.drew.below hb8 (Nat.le_refl _)) hJ (by omega)).mono ?_; rintro e w9 ⟨rfl, hb9⟩; rw [decide_eq_true rfl]) | (go_at_call 34; refine (iEncode_any A n c us _ (by exact hA7.drew) (by omega)).mono ?_; rintro e w8 ⟨J, k8, f8, rfl, hJ, hb8⟩))
            all_goals
              go_wp2_with fail
              go_ret
              exact ⟨rfl, bel_then (bel_then (bel_then hbb.drew hb8b) hb12) hb13⟩
      · have hlt6 : k < l6 := by omega
        obtain ⟨b1, o1, rfl, hb1⟩ := hG7.some_ (by omega)
        have g2 := hG7.cut k l6 hkl (Nat.le_refl _)
        rw [List.drop_left' hk, List.take_of_length_le (by omega)] at g2
        have hdk : ¬ d6 = k := by omega
        clear hb hb36 hb7 hb6 hb5 hb4 hG hG7 hF hI hl6 hdl hdv Hj hk Hwf hg4 hg5 ho4 ho hr hr2 hbA hln hA3 hB hA6 hB6 hl5 hcap w0 w1 s0 s1 hn hn1 Hl Hm hkl hkk
        go_wp2_with fail
        go_region_held3 (fun _ => True) (trivial) (first | (go_at_call 33; refine (sameUnits_any _ _ _ _ _ _ _ _ _ ((g1.drew.below hb8b (Nat.le_refl _)).below hb12 (Nat.le_refl _)) hN (by omega)).mono ?_; rintro e w13 ⟨rfl, hb13⟩; rw [decide_eq_true rfl]) | (go_at_call 35; have hb8b := bel_then (bel_then (bel_then hb8 hb9) hb10) hb11; refine (sEncode_any A n c us _ (hA7.drew.below hb8b (Nat.le_refl _)) (by omega)).mono ?_; rintro e w12 ⟨N, k12, f12, rfl, hN, hb12⟩) | (go_at_call 33; refine (sameUnits_any _ _ _ _ _ _ _ _ _ (((g2.drew.below hb8 (Nat.le_refl _)).below hb9 (Nat.le_refl _)).below hb10 (Nat.le_refl _)) hM (by omega)).mono ?_; rintro e w11 ⟨rfl, hb11⟩; rw [decide_eq_true rfl]) | (go_at_call 34; refine (iEncode_any B m d vs _ ((hB7.drew.below hb8 (Nat.le_refl _)).below hb9 (Nat.le_refl _)) (by omega)).mono ?_; rintro e w10 ⟨M, k10, f10, rfl, hM, hb10⟩) | (go_at_call 33; refine (sameUnits_any _ _ _ _ _ _ _ _ _ (g1.drew.below hb8 (Nat.le_refl _)) hJ (by omega)).mono ?_; rintro e w9 ⟨rfl, hb9⟩; rw [decide_eq_true rfl]) | (go_at_call 34; refine (iEncode_any A n c us _ (by exact hA7.drew) (by omega)).mono ?_; rintro e w8 ⟨J, k8, f8, rfl, hJ, hb8⟩))
        all_goals
          go_wp2_with fail
          go_ret
          exact ⟨rfl, bel_then (bel_then (bel_then hbb.drew hb8b) hb12) hb13⟩
    · have hgt : (1048576 : Int) < (n1 : Int) := by omega
      go_enter Try.func9, Try.ntmps9
      go_wp2_with fail
      go_ret
      exact ⟨rfl, Below.refl _ _⟩
  · have hgt : (1048576 : Int) < (n0 : Int) := by omega
    go_enter Try.func9, Try.ntmps9
    go_wp2_with fail
    go_ret
    exact ⟨rfl, Below.refl _ _⟩

set_option maxRecDepth 100000 in
theorem lifted (os : Os) (started : os.Started) (H : Type) (enc : TypeId × Value → H) :
    ReturnsInHanded {} Try.checked os 9 .any (Rows.fnEncodeJoinSpec.pre6 enc Try.prog Try.f9 Rows.fnEncodeJoinRow.domain false) (Rows.fnEncodeJoinSpec.post enc Try.prog Try.f9 false true false false) := by
  refine returnsInHanded_of_change_sized (C := Try.checked) own started (by kernel_rfl) Try.func9
    (ChangeSpec.witness6 (enc := enc) (C := Try.checked) false ⟨#[], #[.slice none 0 0, .slice none 0 0], []⟩ 8 (by kernel_rfl) (by kernel_rfl) (by kernel_rfl) (by kernel_rfl)) ?_
  intro W base args ds gs before hval0 hW hcnd hsz0 _
  have hsz : (DataW.weightsEach Try.prog (Try.f9.params.toList ++ Rows.fnEncodeJoinSpec.plain.varTypes Try.prog) (ds ++ gs)).all (· ≤ reachBytes) = true := hsz0
  have hval : ∀ (j : Nat) t v, Try.f9.params[j]? = some t → args[j]? = some v → Value.okWide Try.prog W .any base t v := hval0
  have hW' := hW
  obtain ⟨p, q, hA0, hV, rfl, hfz, hnd⟩ := hW
  have hA : DataW.TrodAll enc Try.prog W 0 (fun _ => true) true Try.f9.params.toList args.toList ds p := hA0
  rw [Try.params9] at hA hval hsz
  obtain ⟨v0, vs0, d0, ds0, p0, q0, hargs, rfl, rfl, h0, r0⟩ := trodAll_cons hA
  obtain ⟨v1, vs1, d1, ds1, p1, q1, rfl, rfl, rfl, h1, r1⟩ := trodAll_cons r0
  obtain ⟨rfl, rfl, rfl⟩ := trodAll_nil r1
  obtain rfl : args = #[v0, v1] := by cases args; simp_all
  obtain ⟨rfl, rfl⟩ := trodVars_none hV
  obtain ⟨A0, n0, c0, rfl⟩ := okWide_slice Try.underlying22 (hval 0 22 v0 rfl rfl)
  have k0 := h0
  have lt0 : ∀ x ∈ p0, x.block < W.heap.size := by obtain ⟨m, hm⟩ := k0; exact DataW.trod_lt m _ _ _ hm
  obtain ⟨us0, w0, hd0⟩ := rd_of_reading Try.underlying22 Try.underlying5 (by kernel_rfl) h0
  have s0 : c0 * 1 ≤ 140737488351232 := by
    rcases hd0 with ⟨rfl, rfl⟩ | ⟨el, sp, rfl, hl⟩
    · omega
    · have := sized_slice hsz (j := 0) (t := 22) (e := 5) rfl rfl Try.underlying22
      rw [show Try.prog.bytesOf 5 = 1 by kernel_rfl, hl] at this
      exact this
  clear hd0
  obtain ⟨A1, n1, c1, rfl⟩ := okWide_slice Try.underlying22 (hval 1 22 v1 rfl rfl)
  have k1 := h1
  have lt1 : ∀ x ∈ p1, x.block < W.heap.size := by obtain ⟨m, hm⟩ := k1; exact DataW.trod_lt m _ _ _ hm
  obtain ⟨us1, w1, hd1⟩ := rd_of_reading Try.underlying22 Try.underlying5 (by kernel_rfl) h1
  have s1 : c1 * 1 ≤ 140737488351232 := by
    rcases hd1 with ⟨rfl, rfl⟩ | ⟨el, sp, rfl, hl⟩
    · omega
    · have := sized_slice hsz (j := 1) (t := 22) (e := 5) rfl rfl Try.underlying22
      rw [show Try.prog.bytesOf 5 = 1 by kernel_rfl, hl] at this
      exact this
  clear hd1
  clear hA0 hval0 hsz0 hsz
  refine (walk A0 n0 c0 us0 A1 n1 c1 us1 W w0 s0 w1 s1).mono fun e W' ⟨he, bel⟩ => ?_
  subst he
  exact ⟨_, rfl, _, _, _, [], _, [], hW', trodAll_mk1 (shut_bool Try.underlying4 _), (trodAll_cons_mk (Below.trod laidOut (by kernel_rfl) (of_decide_eq_true (by kernel_rfl)) k0 bel lt0) (trodAll_cons_mk (Below.trod laidOut (by kernel_rfl) (of_decide_eq_true (by kernel_rfl)) k1 bel lt1) trodAll_mk0)), rfl, bel.frame _, fun h => by cases h⟩

theorem over : Rows.fnEncodeJoinRow.holds Try.pinned (OpenSpec.ofChange Rows.fnEncodeJoinSpec) :=
  OpenClaim.holds_of_wide 9 Try.f9 rfl rfl rfl rfl rfl rfl rfl ⟨rfl, rfl, rfl, rfl, rfl⟩ rfl rfl rfl rfl rfl (by kernel_rfl) Try.func9 (by kernel_rfl)
    (of_decide_eq_true (by kernel_rfl)) (by unfold Func.isWrapper; first | (rw [if_pos (by decide +kernel)]; kernel_rfl) | (rw [if_neg (by decide +kernel)]; exact ⟨rfl, rfl⟩))
    (fun os started H enc _ => lifted os started H enc)

/-- THE STATEMENT -/
theorem proved : Rows.FnEncodeJoinSaid := over
#print axioms proved
end Go.Proofs.Ytinmgkimbdcnhaa.fnEncodeJoin
