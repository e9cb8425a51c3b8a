/-
  Proved: code units in sequence are decoded in sequence, unless a pair is cut: laws.FnDecodeJoin returns true for every two lists of bytes. Conditions: none.
-/
import Derived.Test.YtinmgkimbdcnhaaFrame
import Derived.Test.YtinmgkimbdcnhaaDrawDecode
import Derived.Test.YtinmgkimbdcnhaaDecode
import Derived.Test.YtinmgkimbdcnhaaSpecDec
import Derived.Test.YtinmgkimbdcnhaaPairAt
import Derived.Test.YtinmgkimbdcnhaaSameR
import Derived.Test.YtinmgkimbdcnhaaPlainM
import Derived.Deep.RegionHeld3
namespace Go.Proofs.Ytinmgkimbdcnhaa.fnDecodeJoin
open Go.ChangeShapes Go.WideShapes Go.ChangeAt Go.RowKit
set_option linter.unusedVariables false

theorem own_rdn {k : IntKind} {E : TypeId} {w : World} {base : Nat} {v : Value} {us : List Int} (h : Own k E w base v us) (hw : ∀ u ∈ us, (Lit.int k u).wf = true) : ∃ A n c, v = .slice A n c ∧ Rd k w A n c us := by
  obtain ⟨A, c, e, hr⟩ := h.rd hw
  exact ⟨A, _, c, e, hr⟩
theorem cut_of {us vs : List Int} {p : Nat} (h : us.length = p + 1) (hp : U.pairAt (us ++ vs) p = true) : ∃ a u v b, us = a ++ [u] ∧ vs = v :: b ∧ U.hiB u = true ∧ U.loB v = true := by
  obtain ⟨u, v, hu, hv, h1, h2⟩ := U.pairAt_true hp
  rw [List.getElem?_append_left (by omega)] at hu
  rw [List.getElem?_append_right (by omega), h, Nat.sub_self] at hv
  match vs, hv with
  | x :: b, hv =>
    obtain rfl : x = v := by simpa using hv
    refine ⟨us.take p, u, x, b, ?_, rfl, h1, h2⟩
    have h3 := take_succ_some hu
    rw [List.take_of_length_le (by omega)] at h3
    exact h3
theorem no_cut {us vs : List Int} {p : Nat} (h : us.length = p + 1) (hp : U.pairAt (us ++ vs) p = false) : ¬ U.cutP us vs := by
  rintro ⟨a, u, v, b, rfl, rfl, h1, h2⟩
  have ha : a.length = p := by simpa using h
  subst ha
  simp [U.pairAt, h1, h2] at hp
set_option maxRecDepth 100000

set_option maxHeartbeats 6400000 in
theorem walk (A0 : Option Addr) (n0 c0 : Nat) (us0 : List Int) (A1 : Option Addr) (n1 c1 : Nat) (us1 : List Int) (w : World) (w0 : Rd .u8 w A0 n0 c0 us0) (s0 : c0 * 1 ≤ 140737488351232) (w1 : Rd .u8 w A1 n1 c1 us1) (s1 : c1 * 1 ≤ 140737488351232) :
    Calls Try.prog 3 #[.slice A0 n0 c0, .slice A1 n1 c1] w fun e w' => e = .returned (.bool true) ∧ Below w.heap.size w w' := by
  by_cases hn : n0 ≤ 1048576
  · by_cases hn1 : n1 ≤ 1048576
    · go_enter Try.func3, Try.ntmps3
      go_wp2_with fail
      refine (drawDecode_any _ _ _ _ _ w0 hn).mono ?_
      rintro e w2 ⟨us, hl, A, n, c, rfl, hA, hb2⟩
      go_wp2_with fail
      refine (drawDecode_any _ _ _ _ _ (w1.below hb2 (Nat.le_refl _)) hn1).mono ?_
      rintro e w3 ⟨vs, hl3, B, m, d, rfl, hB, hb3⟩
      have hA3 := hA.below hb3 (Nat.le_refl _)
      have hb := bel_then hb2 hb3
      have Hl := Lib.hid hA.len
      have Hm := Lib.hid hB.len
      have hnl : n ≤ 1048576 := by have := Hl.out; omega
      have hml : m ≤ 1048576 := by have := Hm.out; omega
      clear hb2 hb3 hA
      have ho := Own.empty (k := .u16) (E := 29) w3 (Nat.le_refl w3.heap.size)
      have hr := hA3.alloc (.cells #[] 29)
      have hr2 := hB.alloc (.cells #[] 29)
      have hbA := (Below.refl w3.heap.size w3).alloc (Nat.le_refl _) (.cells #[] 29)
      have Hwf : Hid (∀ u ∈ us ++ vs, (Lit.int .u16 u).wf = true) := wf_appd hA3.wf hB.wf
      have hln : (us.length + m) * 2 ≤ 140737488355328 := by have := Hl.out; omega
      go_wp2_with (first | (at_builtin; refine wpList_appS (w3.alloc (.cells #[] 29)) rfl (.tmp 25) (.tmp 26) 23 rfl w3.heap.size 29 .u16 (.int .u16 0) 2 Try.underlying23 info_u16d rfl _ [] ho _ n c us hr rfl rfl (by simp; omega) (by omega) (by simp) ?_; intro v4 w4 hg4; have hb4 := hg4.bel hbA ho (Nat.le_refl _); have ho4 := hg4.own; rw [List.nil_append] at ho4) | (at_builtin; refine wpList_appS w4 rfl (.tmp 27) (.tmp 28) 23 rfl w3.heap.size 29 .u16 (.int .u16 0) 2 Try.underlying23 info_u16d rfl _ us ho4 _ m d vs (hB.below hb4 (Nat.le_refl _)) rfl rfl hln (by omega) hb4.size ?_; intro v5 w5 hg5; obtain ⟨F, l5, d5, rfl, hF⟩ := own_rdn hg5.own Hwf.out; have hb5 : Below w3.heap.size w3 w5 := hg5.bel hb4 ho4 (Nat.le_refl _)) | (go_at_call 16; fail))
      have hl5 : l5 = n + m := by have := hF.len; have := Hl.out; have := Hm.out; rw [List.length_append] at *; omega
      refine (iDecode_any F l5 d5 _ _ hF (by omega)).mono ?_
      rintro e w6 ⟨G, l6, d6, rfl, hG, hb6⟩
      have hb36 := bel_then hb5 hb6
      have hA6 := hA3.below hb36 (Nat.le_refl _)
      have hB6 := hB.below hb36 (Nat.le_refl _)
      go_wp2_with fail
      refine (iDecode_any A n c us _ hA6 (by omega)).mono ?_
      rintro e w7 ⟨I, k, f, rfl, hI, hb7⟩
      have hB7 := hB6.below hb7 (Nat.le_refl _)
      go_wp2_with fail
      refine (iDecode_any B m d vs _ hB7 (by omega)).mono ?_
      rintro e w8 ⟨J, j, g, rfl, hJ, hb8⟩
      have hb68 := bel_then hb7 hb8
      have hG8 := hG.below hb68 (Nat.le_refl _)
      have hF8 := (hF.below hb6 (Nat.le_refl _)).below hb68 (Nat.le_refl _)
      have hI8 := hI.below hb8 (Nat.le_refl _)
      have hA8 := hA6.below hb68 (Nat.le_refl _)
      have hB8 := hB6.below hb68 (Nat.le_refl _)
      have hbb := bel_then (bel_then hb hb36) hb68
      have hdl := U.dec_len us
      have hdv := U.dec_len vs
      have hk := hI.len
      have hjl := hJ.len
      have hk2 : k ≤ 1048576 := by omega
      have hj2 : j ≤ 1048576 := by omega
      have hcap := hG8.cap
      clear hb hb36 hb7 hb6 hb5 hb4 hb8 hb68 hG hF hI hg4 hg5 ho4 ho hr hr2 hbA hln hA3 hB hA6 hB6 hB7 Hwf w0 w1 s0 s1 hn hn1 hdl hdv
      rcases Nat.eq_zero_or_pos n with h0 | h0
      · subst h0
        have hus : us = [] := List.eq_nil_of_length_eq_zero Hl.out
        have Hj : Hid (U.dec (us ++ vs) = U.dec us ++ U.dec vs) := by subst hus; rfl
        clear hus hF8
        rw [Hj.out] at hG8
        have hl6 : l6 = k + j := by have := hG8.len; rw [List.length_append, hk, hjl] at this; omega
        subst hl6
        have g1 := hG8.take (m := k) (by omega)
        rw [List.take_left' hk] at g1
        have t1 : (((k + j : Nat) : Int) == (k : Int) + (j : Int)) = true := by simp
        have hkd : (k : Int) ≤ (d6 : Int) := by omega
        have hkd' : k ≤ d6 := by omega
        by_cases hj : j = 0
        · subst hj
          have hv0 : U.dec vs = [] := List.eq_nil_of_length_eq_zero (by omega)
          rw [hv0] at hJ
          clear Hj hG8
          rw [Nat.add_zero] at *
          by_cases hdk : d6 = k
          · replace hdk := hdk.symm
            subst hdk
            rcases G with _ | ⟨b1, o1, sp⟩
            all_goals
              go_wp2_with fail
              refine (sameRunes_any _ _ _ _ _ _ _ _ _ g1 hI8 (by omega)).mono ?_
              rintro e w9 ⟨rfl, hb9⟩
              rw [decide_eq_true rfl]
              go_wp2_with fail
              refine (sameRunes_any _ _ _ _ _ _ _ _ _ (Rd.nil) (hJ.below hb9 (Nat.le_refl _)) (by omega)).mono ?_
              rintro e w10 ⟨rfl, hb10⟩
              rw [decide_eq_true rfl]
              have hb8 := bel_then hb9 hb10
              go_wp2_with fail
              refine (sDecode_any A _ c us _ (hA8.below hb8 (Nat.le_refl _)) (by omega)).mono ?_
              rintro e w11 ⟨M, k11, f11, rfl, hM, hb11⟩
              obtain rfl : k11 = k := by have h1 := hM.len; omega
              go_wp2_with fail
              go_ret
              first | exact ⟨rfl, bel_then (bel_then hbb hb8) hb11⟩ | exact ⟨ret_bool (by simp), bel_then (bel_then hbb hb8) hb11⟩
          · rcases G with _ | ⟨b1, o1, sp⟩
            all_goals
              go_wp2_with fail
              refine (sameRunes_any _ _ _ _ _ _ _ _ _ g1 hI8 (by omega)).mono ?_
              rintro e w9 ⟨rfl, hb9⟩
              rw [decide_eq_true rfl]
              go_wp2_with fail
              refine (sameRunes_any _ _ _ _ _ _ _ _ _ (Rd.nil) (hJ.below hb9 (Nat.le_refl _)) (by omega)).mono ?_
              rintro e w10 ⟨rfl, hb10⟩
              rw [decide_eq_true rfl]
              have hb8 := bel_then hb9 hb10
              go_wp2_with fail
              refine (sDecode_any A _ c us _ (hA8.below hb8 (Nat.le_refl _)) (by omega)).mono ?_
              rintro e w11 ⟨M, k11, f11, rfl, hM, hb11⟩
              obtain rfl : k11 = k := by have h1 := hM.len; omega
              go_wp2_with fail
              go_ret
              first | exact ⟨rfl, bel_then (bel_then hbb hb8) hb11⟩ | exact ⟨ret_bool (by simp), bel_then (bel_then hbb hb8) hb11⟩
        · obtain ⟨b1, o1, rfl, hb1⟩ := hG8.some_ (by omega)
          have g2 := hG8.cut k (k + j) (by omega) (Nat.le_refl _)
          rw [List.drop_left' hk, List.take_of_length_le (by omega), show k + j - k = j by omega] at g2
          have hdk : ¬ d6 = k := by omega
          clear Hj hG8
          go_wp2_with fail
          refine (sameRunes_any _ _ _ _ _ _ _ _ _ g1 hI8 (by omega)).mono ?_
          rintro e w9 ⟨rfl, hb9⟩
          rw [decide_eq_true rfl]
          go_wp2_with fail
          refine (sameRunes_any _ _ _ _ _ _ _ _ _ (g2.below hb9 (Nat.le_refl _)) (hJ.below hb9 (Nat.le_refl _)) (by omega)).mono ?_
          rintro e w10 ⟨rfl, hb10⟩
          rw [decide_eq_true rfl]
          have hb8 := bel_then hb9 hb10
          go_wp2_with fail
          refine (sDecode_any A _ c us _ (hA8.below hb8 (Nat.le_refl _)) (by omega)).mono ?_
          rintro e w11 ⟨M, k11, f11, rfl, hM, hb11⟩
          obtain rfl : k11 = k := by have h1 := hM.len; omega
          go_wp2_with fail
          go_ret
          first | exact ⟨rfl, bel_then (bel_then hbb hb8) hb11⟩ | exact ⟨ret_bool (by simp), bel_then (bel_then hbb hb8) hb11⟩
      · obtain ⟨p, rfl⟩ : ∃ p, n = p + 1 := ⟨n - 1, by omega⟩
        subst hl5
        have i9 : (0 : Int) < (p : Int) + 1 := by omega
        cases hp : U.pairAt (us ++ vs) p
        · have Hj := Lib.hid (U.dec_join us vs (no_cut Hl.out hp))
          rw [Hj.out] at hG8
          have hl6 : l6 = k + j := by have := hG8.len; rw [List.length_append, hk, hjl] at this; omega
          subst hl6
          have g1 := hG8.take (m := k) (by omega)
          rw [List.take_left' hk] at g1
          have t1 : (((k + j : Nat) : Int) == (k : Int) + (j : Int)) = true := by simp
          have hkd : (k : Int) ≤ (d6 : Int) := by omega
          have hkd' : k ≤ d6 := by omega
          by_cases hj : j = 0
          · subst hj
            have hv0 : U.dec vs = [] := List.eq_nil_of_length_eq_zero (by omega)
            rw [hv0] at hJ
            clear Hj hG8
            rw [Nat.add_zero] at *
            by_cases hdk : d6 = k
            · replace hdk := hdk.symm
              subst hdk
              rcases G with _ | ⟨b1, o1, sp⟩
              all_goals
                go_wp2_with (go_at_call 17; refine (pairAt_any F _ d5 _ p _ hF8 (by omega) (by omega)).mono ?_; rintro e w' ⟨rfl, rfl⟩; rw [hp])
                refine (sameRunes_any _ _ _ _ _ _ _ _ _ g1 hI8 (by omega)).mono ?_
                rintro e w9 ⟨rfl, hb9⟩
                rw [decide_eq_true rfl]
                go_wp2_with fail
                refine (sameRunes_any _ _ _ _ _ _ _ _ _ (Rd.nil) (hJ.below hb9 (Nat.le_refl _)) (by omega)).mono ?_
                rintro e w10 ⟨rfl, hb10⟩
                rw [decide_eq_true rfl]
                have hb8 := bel_then hb9 hb10
                go_wp2_with fail
                refine (sDecode_any A _ c us _ (hA8.below hb8 (Nat.le_refl _)) (by omega)).mono ?_
                rintro e w11 ⟨M, k11, f11, rfl, hM, hb11⟩
                obtain rfl : k11 = k := by have h1 := hM.len; omega
                go_wp2_with fail
                go_ret
                first | exact ⟨rfl, bel_then (bel_then hbb hb8) hb11⟩ | exact ⟨ret_bool (by simp), bel_then (bel_then hbb hb8) hb11⟩
            · rcases G with _ | ⟨b1, o1, sp⟩
              all_goals
                go_wp2_with (go_at_call 17; refine (pairAt_any F _ d5 _ p _ hF8 (by omega) (by omega)).mono ?_; rintro e w' ⟨rfl, rfl⟩; rw [hp])
                refine (sameRunes_any _ _ _ _ _ _ _ _ _ g1 hI8 (by omega)).mono ?_
                rintro e w9 ⟨rfl, hb9⟩
                rw [decide_eq_true rfl]
                go_wp2_with fail
                refine (sameRunes_any _ _ _ _ _ _ _ _ _ (Rd.nil) (hJ.below hb9 (Nat.le_refl _)) (by omega)).mono ?_
                rintro e w10 ⟨rfl, hb10⟩
                rw [decide_eq_true rfl]
                have hb8 := bel_then hb9 hb10
                go_wp2_with fail
                refine (sDecode_any A _ c us _ (hA8.below hb8 (Nat.le_refl _)) (by omega)).mono ?_
                rintro e w11 ⟨M, k11, f11, rfl, hM, hb11⟩
                obtain rfl : k11 = k := by have h1 := hM.len; omega
                go_wp2_with fail
                go_ret
                first | exact ⟨rfl, bel_then (bel_then hbb hb8) hb11⟩ | exact ⟨ret_bool (by simp), bel_then (bel_then hbb hb8) hb11⟩
          · obtain ⟨b1, o1, rfl, hb1⟩ := hG8.some_ (by omega)
            have g2 := hG8.cut k (k + j) (by omega) (Nat.le_refl _)
            rw [List.drop_left' hk, List.take_of_length_le (by omega), show k + j - k = j by omega] at g2
            have hdk : ¬ d6 = k := by omega
            clear Hj hG8
            go_wp2_with (go_at_call 17; refine (pairAt_any F _ d5 _ p _ hF8 (by omega) (by omega)).mono ?_; rintro e w' ⟨rfl, rfl⟩; rw [hp])
            refine (sameRunes_any _ _ _ _ _ _ _ _ _ g1 hI8 (by omega)).mono ?_
            rintro e w9 ⟨rfl, hb9⟩
            rw [decide_eq_true rfl]
            go_wp2_with fail
            refine (sameRunes_any _ _ _ _ _ _ _ _ _ (g2.below hb9 (Nat.le_refl _)) (hJ.below hb9 (Nat.le_refl _)) (by omega)).mono ?_
            rintro e w10 ⟨rfl, hb10⟩
            rw [decide_eq_true rfl]
            have hb8 := bel_then hb9 hb10
            go_wp2_with fail
            refine (sDecode_any A _ c us _ (hA8.below hb8 (Nat.le_refl _)) (by omega)).mono ?_
            rintro e w11 ⟨M, k11, f11, rfl, hM, hb11⟩
            obtain rfl : k11 = k := by have h1 := hM.len; omega
            go_wp2_with fail
            go_ret
            first | exact ⟨rfl, bel_then (bel_then hbb hb8) hb11⟩ | exact ⟨ret_bool (by simp), bel_then (bel_then hbb hb8) hb11⟩
        · obtain ⟨a, u, v, b, rfl, rfl, h1, h2⟩ := cut_of Hl.out hp
          obtain ⟨e1, e2, e3⟩ := U.dec_cut a b u v h1 h2
          rw [e1] at hG8
          rw [e2] at hI8 hk
          rw [e3] at hJ hjl
          clear e1 e2 e3
          obtain ⟨K, hK⟩ : ∃ K, (U.dec a).length = K := ⟨_, rfl⟩
          obtain ⟨L, hL⟩ : ∃ L, (U.dec b).length = L := ⟨_, rfl⟩
          obtain rfl : k = K + 1 := by rw [List.length_append, hK] at hk; simp at hk; omega
          obtain rfl : j = L + 1 := by rw [List.length_cons, hL] at hjl; omega
          obtain rfl : l6 = K + (L + 1) := by have := hG8.len; rw [List.length_append, List.length_cons, hK, hL] at this; omega
          have hlp : a.length = p := by have := Hl.out; simpa using this
          obtain ⟨q, rfl⟩ : ∃ q, m = q + 1 := ⟨b.length, by have := Hm.out; simpa using this.symm⟩
          obtain ⟨bs, os, u', rfl, hbs, hu', hcs, hws⟩ := hA8.at_ (j := p) (by omega)
          obtain rfl : u' = u := by
            rw [List.getElem?_append_right (by omega), hlp, Nat.sub_self] at hu'
            simpa using hu'.symm
          obtain ⟨bt, ot, v', rfl, hbt, hv', hct, hwt⟩ := hB8.at_ (j := 0) (by omega)
          obtain rfl : v' = v := by simpa using hv'.symm
          obtain ⟨bg, og, x, rfl, hbg, hx, hcg, hwg⟩ := hG8.at_ (j := K) (by omega)
          obtain rfl : x = U.dr u' v' := by
            rw [List.getElem?_append_right (by omega), hK, Nat.sub_self] at hx
            simpa using hx.symm
          obtain ⟨bi, oi, rfl, hbi⟩ := hI8.some_ (by omega)
          obtain ⟨bj, oj, rfl, hbj⟩ := hJ.some_ (by omega)
          have g1 := hG8.take (m := K) (by omega)
          rw [List.take_left' hK] at g1
          have i1 := hI8.take (m := K) (by omega)
          rw [List.take_left' hK] at i1
          have g2 := hG8.cut (K + 1) (K + (L + 1)) (by omega) (Nat.le_refl _)
          rw [show (U.dec a ++ U.dr u' v' :: U.dec b).drop (K + 1) = U.dec b by rw [← List.drop_drop, List.drop_left' hK]; rfl, List.take_of_length_le (by omega)] at g2
          have j2 := hJ.cut 1 (L + 1) (by omega) (Nat.le_refl _)
          rw [show (65533 :: U.dec b : List Int).drop 1 = U.dec b from rfl, List.take_of_length_le (by omega), show L + 1 - 1 = L by omega] at j2
          have hcI := hI8.cap
          have hcJ := hJ.cap
          rw [wf_u16] at hws hwt
          obtain ⟨hs1, hs2⟩ := hws
          obtain ⟨ht1, ht2⟩ := hwt
          rw [Nat.add_zero] at hct
          have y0 : (0 : Int) ≤ (p : Int) := by omega
          have y1 : (p : Int) < (p : Int) + 1 := by omega
          have y2 : (0 : Int) < (q : Int) + 1 := by omega
          have z0 : (0 : Int) ≤ (K : Int) := by omega
          have z1 : (0 : Int) < (L : Int) + 1 := by omega
          have z2 : (K : Int) ≤ (d6 : Int) := by omega
          have z2' : K ≤ d6 := by omega
          have z3 : (K : Int) ≤ (f : Int) := by omega
          have z3' : K ≤ f := by omega
          have z4 : (K : Int) < (K : Int) + ((L : Int) + 1) := by omega
          have z5 : (K : Int) + 1 ≤ (K : Int) + ((L : Int) + 1) := by omega
          have z6 : (1 : Int) ≤ (L : Int) + 1 := by omega
          have z7 : K + 1 ≤ K + (L + 1) := by omega
          have z8 : (K : Int) + ((L : Int) + 1) ≤ (d6 : Int) := by omega
          have z9 : (L : Int) + 1 ≤ (g : Int) := by omega
          clear hx hu' hv' hwg hG8 hI8 hJ hA8 hB8 hk hjl hcI hcJ hcap
          go_wp2_with (go_at_call 17; refine (pairAt_any F _ d5 _ p _ hF8 (by omega) (by omega)).mono ?_; rintro e w' ⟨rfl, rfl⟩; rw [hp])
          have x1 : IntKind.i64.wrap ((p : Int) + 1 - 1) = (p : Int) := by rw [IntKind.wrap_i64]; omega
          have x2 : IntKind.i64.wrap (p : Int) = (p : Int) := by rw [IntKind.wrap_i64]; omega
          have x3 : IntKind.i32.wrap u' = u' := by rw [IntKind.wrap_i32]; omega
          have x4 : IntKind.i32.wrap v' = v' := by rw [IntKind.wrap_i32]; omega
          go_region_held3 (fun w' => w'.cell? ⟨bs, os + p, none⟩ = some (.int .u16 u') ∧ w'.cell? ⟨bt, ot, none⟩ = some (.int .u16 v')) (go_keep) ((go_at_call 18; refine (iDecodeRune_any _ _ _).mono ?_; rintro e w' ⟨rfl, rfl⟩))
          clear x1 x2 x3 x4 hcs hct hp hF8 Hl Hm hl hl3 h1 h2 hs1 hs2 ht1 ht2 y0 y1 y2 i9 h0
          have hK9 : K ≤ 140737488355328 := by omega
          have hK0 : (0 : Int) ≤ (K : Int) + 1 := by omega
          have hKt : ((K : Int) + 1).toNat = K + 1 := by omega
          have hL9 : K + (L + 1) - (K + 1) ≤ 140737488355328 := by omega
          by_cases h00 : L = 0
          · subst h00
            clear g2 j2
            have a1 : (K : Int) < (K : Int) + 1 := by omega
            have a2 : (K : Int) ≤ (K : Int) + 1 := by omega
            have a3 : (K : Int) + 1 ≤ (K : Int) + 1 := by omega
            have a4 : (K : Int) + 1 ≤ (d6 : Int) := by omega
            have a5 : K + 1 ≤ d6 := by omega
            have a6 : K ≤ K + 1 := by omega
            have a7 : (1 : Int) ≤ (g : Int) := by omega
            have a8 : 1 ≤ g := by omega
            by_cases hd : d6 = K + 1
            · subst hd
              by_cases hg : g = 1
              · subst hg
                go_wp2_with fail
                have x1 : IntKind.i64.wrap ((K : Int) + 1) = (K : Int) + 1 := by rw [IntKind.wrap_i64]; omega
                go_region_held3 (fun w' => w'.cell? ⟨bg, og + K, none⟩ = some (.int .i32 (U.dr u' v'))) (first | go_keep | exact (hb10.cell (p := ⟨bg, og + K, none⟩) (Nat.lt_of_lt_of_le hbg hb9.size)).trans ((hb9.cell (p := ⟨bg, og + K, none⟩) hbg).trans hcg) | exact (hb9.cell (p := ⟨bg, og + K, none⟩) hbg).trans hcg) (first | (go_at_call 19; refine (sameRunes_any _ _ _ _ _ _ _ _ _ (have _h := hb9; Rd.nil) Rd.nil (Nat.zero_le _)).mono ?_; rintro e w10 ⟨rfl, hb10⟩; rw [decide_eq_true rfl]) | (go_at_call 19; refine (sameRunes_any _ _ _ _ _ _ _ _ _ g1.drew.drew i1.drew.drew hK9).mono ?_; rintro e w9 ⟨rfl, hb9⟩; rw [decide_eq_true rfl]))
                all_goals
                  go_wp2_with fail
                  go_ret
                  first | exact ⟨rfl, bel_then (bel_then hbb.drew.drew hb9) hb10⟩ | exact ⟨ret_bool (by simp), bel_then (bel_then hbb.drew.drew hb9) hb10⟩
              · go_wp2_with fail
                have x1 : IntKind.i64.wrap ((K : Int) + 1) = (K : Int) + 1 := by rw [IntKind.wrap_i64]; omega
                go_region_held3 (fun w' => w'.cell? ⟨bg, og + K, none⟩ = some (.int .i32 (U.dr u' v'))) (first | go_keep | exact (hb10.cell (p := ⟨bg, og + K, none⟩) (Nat.lt_of_lt_of_le hbg hb9.size)).trans ((hb9.cell (p := ⟨bg, og + K, none⟩) hbg).trans hcg) | exact (hb9.cell (p := ⟨bg, og + K, none⟩) hbg).trans hcg) (first | (go_at_call 19; refine (sameRunes_any _ _ _ _ _ _ _ _ _ (have _h := hb9; Rd.nil) Rd.nil (Nat.zero_le _)).mono ?_; rintro e w10 ⟨rfl, hb10⟩; rw [decide_eq_true rfl]) | (go_at_call 19; refine (sameRunes_any _ _ _ _ _ _ _ _ _ g1.drew.drew i1.drew.drew hK9).mono ?_; rintro e w9 ⟨rfl, hb9⟩; rw [decide_eq_true rfl]))
                all_goals
                  go_wp2_with fail
                  go_ret
                  first | exact ⟨rfl, bel_then (bel_then hbb.drew.drew hb9) hb10⟩ | exact ⟨ret_bool (by simp), bel_then (bel_then hbb.drew.drew hb9) hb10⟩
            · by_cases hg : g = 1
              · subst hg
                go_wp2_with fail
                have x1 : IntKind.i64.wrap ((K : Int) + 1) = (K : Int) + 1 := by rw [IntKind.wrap_i64]; omega
                go_region_held3 (fun w' => w'.cell? ⟨bg, og + K, none⟩ = some (.int .i32 (U.dr u' v'))) (first | go_keep | exact (hb10.cell (p := ⟨bg, og + K, none⟩) (Nat.lt_of_lt_of_le hbg hb9.size)).trans ((hb9.cell (p := ⟨bg, og + K, none⟩) hbg).trans hcg) | exact (hb9.cell (p := ⟨bg, og + K, none⟩) hbg).trans hcg) (first | (go_at_call 19; refine (sameRunes_any _ _ _ _ _ _ _ _ _ (have _h := hb9; Rd.nil) Rd.nil (Nat.zero_le _)).mono ?_; rintro e w10 ⟨rfl, hb10⟩; rw [decide_eq_true rfl]) | (go_at_call 19; refine (sameRunes_any _ _ _ _ _ _ _ _ _ g1.drew.drew i1.drew.drew hK9).mono ?_; rintro e w9 ⟨rfl, hb9⟩; rw [decide_eq_true rfl]))
                all_goals
                  go_wp2_with fail
                  go_ret
                  first | exact ⟨rfl, bel_then (bel_then hbb.drew.drew hb9) hb10⟩ | exact ⟨ret_bool (by simp), bel_then (bel_then hbb.drew.drew hb9) hb10⟩
              · go_wp2_with fail
                have x1 : IntKind.i64.wrap ((K : Int) + 1) = (K : Int) + 1 := by rw [IntKind.wrap_i64]; omega
                go_region_held3 (fun w' => w'.cell? ⟨bg, og + K, none⟩ = some (.int .i32 (U.dr u' v'))) (first | go_keep | exact (hb10.cell (p := ⟨bg, og + K, none⟩) (Nat.lt_of_lt_of_le hbg hb9.size)).trans ((hb9.cell (p := ⟨bg, og + K, none⟩) hbg).trans hcg) | exact (hb9.cell (p := ⟨bg, og + K, none⟩) hbg).trans hcg) (first | (go_at_call 19; refine (sameRunes_any _ _ _ _ _ _ _ _ _ (have _h := hb9; Rd.nil) Rd.nil (Nat.zero_le _)).mono ?_; rintro e w10 ⟨rfl, hb10⟩; rw [decide_eq_true rfl]) | (go_at_call 19; refine (sameRunes_any _ _ _ _ _ _ _ _ _ g1.drew.drew i1.drew.drew hK9).mono ?_; rintro e w9 ⟨rfl, hb9⟩; rw [decide_eq_true rfl]))
                all_goals
                  go_wp2_with fail
                  go_ret
                  first | exact ⟨rfl, bel_then (bel_then hbb.drew.drew hb9) hb10⟩ | exact ⟨ret_bool (by simp), bel_then (bel_then hbb.drew.drew hb9) hb10⟩
          · have hd : ¬ d6 = K + 1 := by omega
            have hg : ¬ g = 1 := by omega
            have a4 : (K : Int) + 1 ≤ (d6 : Int) := by omega
            have a5 : K + 1 ≤ d6 := by omega
            have a7 : (1 : Int) ≤ (g : Int) := by omega
            have a8 : 1 ≤ g := by omega
            have a9 : (1 : Int) ≤ (L : Int) + 1 := by omega
            go_wp2_with fail
            obtain ⟨x1, x2⟩ : IntKind.i64.wrap ((K : Int) + 1) = (K : Int) + 1 ∧ IntKind.i64.wrap ((K : Int) + ((L : Int) + 1)) = (K : Int) + ((L : Int) + 1) := ⟨by rw [IntKind.wrap_i64]; omega, by rw [IntKind.wrap_i64]; omega⟩
            go_region_held3 (fun w' => w'.cell? ⟨bg, og + K, none⟩ = some (.int .i32 (U.dr u' v'))) (first | go_keep | exact (hb10.cell (p := ⟨bg, og + K, none⟩) (Nat.lt_of_lt_of_le hbg hb9.size)).trans ((hb9.cell (p := ⟨bg, og + K, none⟩) hbg).trans hcg) | exact (hb9.cell (p := ⟨bg, og + K, none⟩) hbg).trans hcg) (first | (go_at_call 19; refine (sameRunes_any _ _ _ _ _ _ _ _ _ (g2.drew.drew.below hb9 (Nat.le_refl _)) (j2.drew.drew.below hb9 (Nat.le_refl _)) (hL9)).mono ?_; rintro e w10 ⟨rfl, hb10⟩; rw [decide_eq_true rfl]) | (go_at_call 19; refine (sameRunes_any _ _ _ _ _ _ _ _ _ g1.drew.drew i1.drew.drew hK9).mono ?_; rintro e w9 ⟨rfl, hb9⟩; rw [decide_eq_true rfl]))
            all_goals
              go_wp2_with fail
              go_ret
              first | exact ⟨rfl, bel_then (bel_then hbb.drew.drew hb9) hb10⟩ | exact ⟨ret_bool (by simp), bel_then (bel_then hbb.drew.drew hb9) hb10⟩
    · have hgt : (1048576 : Int) < (n1 : Int) := by omega
      go_enter Try.func3, Try.ntmps3
      go_wp2_with fail
      go_ret
      exact ⟨rfl, Below.refl _ _⟩
  · have hgt : (1048576 : Int) < (n0 : Int) := by omega
    go_enter Try.func3, Try.ntmps3
    go_wp2_with fail
    go_ret
    exact ⟨rfl, Below.refl _ _⟩

set_option maxRecDepth 100000 in
theorem lifted (os : Os) (started : os.Started) (H : Type) (enc : TypeId × Value → H) :
    ReturnsInHanded {} Try.checked os 3 .any (Rows.fnDecodeJoinSpec.pre6 enc Try.prog Try.f3 Rows.fnDecodeJoinRow.domain false) (Rows.fnDecodeJoinSpec.post enc Try.prog Try.f3 false true false false) := by
  refine returnsInHanded_of_change_sized (C := Try.checked) own started (by kernel_rfl) Try.func3
    (ChangeSpec.witness6 (enc := enc) (C := Try.checked) false ⟨#[], #[.slice none 0 0, .slice none 0 0], []⟩ 8 (by kernel_rfl) (by kernel_rfl) (by kernel_rfl) (by kernel_rfl)) ?_
  intro W base args ds gs before hval0 hW hcnd hsz0 _
  have hsz : (DataW.weightsEach Try.prog (Try.f3.params.toList ++ Rows.fnDecodeJoinSpec.plain.varTypes Try.prog) (ds ++ gs)).all (· ≤ reachBytes) = true := hsz0
  have hval : ∀ (j : Nat) t v, Try.f3.params[j]? = some t → args[j]? = some v → Value.okWide Try.prog W .any base t v := hval0
  have hW' := hW
  obtain ⟨p, q, hA0, hV, rfl, hfz, hnd⟩ := hW
  have hA : DataW.TrodAll enc Try.prog W 0 (fun _ => true) true Try.f3.params.toList args.toList ds p := hA0
  rw [Try.params3] at hA hval hsz
  obtain ⟨v0, vs0, d0, ds0, p0, q0, hargs, rfl, rfl, h0, r0⟩ := trodAll_cons hA
  obtain ⟨v1, vs1, d1, ds1, p1, q1, rfl, rfl, rfl, h1, r1⟩ := trodAll_cons r0
  obtain ⟨rfl, rfl, rfl⟩ := trodAll_nil r1
  obtain rfl : args = #[v0, v1] := by cases args; simp_all
  obtain ⟨rfl, rfl⟩ := trodVars_none hV
  obtain ⟨A0, n0, c0, rfl⟩ := okWide_slice Try.underlying22 (hval 0 22 v0 rfl rfl)
  have k0 := h0
  have lt0 : ∀ x ∈ p0, x.block < W.heap.size := by obtain ⟨m, hm⟩ := k0; exact DataW.trod_lt m _ _ _ hm
  obtain ⟨us0, w0, hd0⟩ := rd_of_reading Try.underlying22 Try.underlying5 (by kernel_rfl) h0
  have s0 : c0 * 1 ≤ 140737488351232 := by
    rcases hd0 with ⟨rfl, rfl⟩ | ⟨el, sp, rfl, hl⟩
    · omega
    · have := sized_slice hsz (j := 0) (t := 22) (e := 5) rfl rfl Try.underlying22
      rw [show Try.prog.bytesOf 5 = 1 by kernel_rfl, hl] at this
      exact this
  clear hd0
  obtain ⟨A1, n1, c1, rfl⟩ := okWide_slice Try.underlying22 (hval 1 22 v1 rfl rfl)
  have k1 := h1
  have lt1 : ∀ x ∈ p1, x.block < W.heap.size := by obtain ⟨m, hm⟩ := k1; exact DataW.trod_lt m _ _ _ hm
  obtain ⟨us1, w1, hd1⟩ := rd_of_reading Try.underlying22 Try.underlying5 (by kernel_rfl) h1
  have s1 : c1 * 1 ≤ 140737488351232 := by
    rcases hd1 with ⟨rfl, rfl⟩ | ⟨el, sp, rfl, hl⟩
    · omega
    · have := sized_slice hsz (j := 1) (t := 22) (e := 5) rfl rfl Try.underlying22
      rw [show Try.prog.bytesOf 5 = 1 by kernel_rfl, hl] at this
      exact this
  clear hd1
  clear hA0 hval0 hsz0 hsz
  refine (walk A0 n0 c0 us0 A1 n1 c1 us1 W w0 s0 w1 s1).mono fun e W' ⟨he, bel⟩ => ?_
  subst he
  exact ⟨_, rfl, _, _, _, [], _, [], hW', trodAll_mk1 (shut_bool Try.underlying4 _), (trodAll_cons_mk (Below.trod laidOut (by kernel_rfl) (of_decide_eq_true (by kernel_rfl)) k0 bel lt0) (trodAll_cons_mk (Below.trod laidOut (by kernel_rfl) (of_decide_eq_true (by kernel_rfl)) k1 bel lt1) trodAll_mk0)), rfl, bel.frame _, fun h => by cases h⟩

theorem over : Rows.fnDecodeJoinRow.holds Try.pinned (OpenSpec.ofChange Rows.fnDecodeJoinSpec) :=
  OpenClaim.holds_of_wide 3 Try.f3 rfl rfl rfl rfl rfl rfl rfl ⟨rfl, rfl, rfl, rfl, rfl⟩ rfl rfl rfl rfl rfl (by kernel_rfl) Try.func3 (by kernel_rfl)
    (of_decide_eq_true (by kernel_rfl)) (by unfold Func.isWrapper; first | (rw [if_pos (by decide +kernel)]; kernel_rfl) | (rw [if_neg (by decide +kernel)]; exact ⟨rfl, rfl⟩))
    (fun os started H enc _ => lifted os started H enc)

/-- THE STATEMENT -/
theorem proved : Rows.FnDecodeJoinSaid := over
#print axioms proved
end Go.Proofs.Ytinmgkimbdcnhaa.fnDecodeJoin
