/-
  Proved: decoding and encoding changes nothing but surrogates that are alone: laws.FnDecodeEncodeWrong returns true for every list of bytes. Conditions: none.
-/
import Derived.Test.YtngpgkldocpjdaaFrame
import Derived.Test.YtngpgkldocpjdaaDrawDecode
import Derived.Test.YtngpgkldocpjdaaDecode
import Derived.Test.YtngpgkldocpjdaaSpecDec
import Derived.Test.YtngpgkldocpjdaaEncode
import Derived.Test.YtngpgkldocpjdaaSameU
import Derived.Test.YtngpgkldocpjdaaPlainM
import Derived.Deep.QuietTactic
import Derived.BigQuiet
namespace Go.Proofs.Ytngpgkldocpjdaa.fnDecodeEncodeWrong
open Go.ChangeShapes Go.WideShapes Go.ChangeAt Go.RowKit
set_option linter.unusedVariables false

theorem pairAt_int (A : Option Addr) (n c : Nat) (us : List Int) (i : Int) (w : World) (hA : Rd .u16 w A n c us) (h0 : 0 ≤ i) (h1 : i < (n : Int)) (hn : n ≤ 140737488355328) :
    Calls Try.prog 34 #[.slice A n c, .int .i64 i] w fun e w' => e = .returned (.bool (U.pairAt us i.toNat)) ∧ w = w' := by
  obtain ⟨j, rfl⟩ := Int.eq_ofNat_of_zero_le h0
  exact pairAt_any A n c us j w hA (by omega) hn

set_option maxHeartbeats 1600000 in
theorem walk (A0 : Option Addr) (n0 c0 : Nat) (us0 : List Int) (w : World) (w0 : Rd .u8 w A0 n0 c0 us0) (s0 : c0 * 1 ≤ 140737488351232) :
    Calls Try.prog 10 #[.slice A0 n0 c0] w fun e w' => e = .returned (.bool true) ∧ Below w.heap.size w w' := by
  by_cases hn : n0 ≤ 1048576
  · go_enter Try.func10, Try.ntmps10
    go_wp2_with fail
    refine (drawDecode_any _ _ _ _ _ w0 hn).mono ?_
    rintro e w1 ⟨us, hl, A, n, c, rfl, hA, hb⟩
    have Hlen := Lib.hid hA.len
    have hnl : n ≤ 1048576 := by have := Hlen.out; omega
    have Hat := Lib.hid (U.enc_dec_at us (isU_of hA.wf))
    have Hiff := Lib.hid (U.enc_dec_iff us (isU_of hA.wf))
    go_wp2_with fail
    refine (iDecode_any A n c us _ hA (by omega)).mono ?_
    rintro e w2 ⟨B, m, d, rfl, hB, hb2⟩
    have hm : m ≤ 1048576 := by have := hB.len; have := U.dec_len us; have := Hlen.out; omega
    go_wp2_with fail
    refine (iEncode_any B m d _ _ hB (by omega)).mono ?_
    rintro e w3 ⟨C, l, f, rfl, hC, hb3⟩
    obtain rfl : l = n := by have := hC.len; rw [Hat.out.1, Hlen.out] at this; exact this.symm
    have hA3 := (hA.below hb2 (Nat.le_refl _)).below hb3 (Nat.le_refl _)
    have hbb := bel_then (bel_then hb hb2) hb3
    have t0 : ((l : Int) != (l : Int)) = false := by simp
    clear hb hb2 hb3 hA hB
    go_wp2_with fail
    go_loopw [5] (fun i wr => ∃ j : Nat, j ≤ l ∧ i = .int .i64 j ∧ Below w3.heap.size w3 wr) (fun i _ => l - (intOf i).toNat)
    case atStart => exact ⟨0, Nat.zero_le _, rfl, Below.refl _ _⟩
    case round =>
      obtain ⟨j, hj, rfl, hbr⟩ := hrel
      by_cases hlt : j < l
      · obtain ⟨b1, o1, u, rfl, hb1, hu, hc1, hw1⟩ := hA3.at_ hlt
        obtain ⟨b2, o2, x, rfl, hb2, hx, hc2, hw2⟩ := hC.at_ hlt
        have hx2 := Hat.out.2 j u hu
        rw [hx] at hx2
        injection hx2 with hx2
        rw [wf_u16] at hw1
        obtain ⟨hw1a, hw1b⟩ := hw1
        have cc1 := (hbr.cell (p := ⟨b1, o1 + j, none⟩) hb1).trans hc1
        have cc2 := (hbr.cell (p := ⟨b2, o2 + j, none⟩) hb2).trans hc2
        have hAr := hA3.below hbr (Nat.le_refl _)
        clear hu hx hc1 hc2 hw2
        have i0 : (0 : Int) ≤ (j : Int) := by omega
        have i1 : (j : Int) < (l : Int) := by omega
        have hal : U.alone us j u = (U.surB u && !U.pairAt us j && !(decide (0 < j) && U.pairAt us (j - 1))) := rfl
        have q0 : ((j : Int)).toNat = j := Int.toNat_natCast j
        cases hs : U.surB u
        · have ha : U.alone us j u = false := by rw [hal, hs]; rfl
          rw [ha] at hx2
          obtain rfl : x = u := by simpa using hx2
          have tq : (x != x) = false := by simp
          clear hx2 hal ha
          go_wp2_with (first | (go_at_call 33; refine (sIsSurrogate_any _ _).mono ?_; rintro e w' ⟨rfl, rfl⟩) | (go_at_call 34; refine (pairAt_int _ _ _ us _ _ hAr (by omega) (by omega) (by omega)).mono ?_; rintro e w' ⟨rfl, rfl⟩))
          go_quiet (fail)
          go_wp2_with fail
          go_roundw
          case rel => exact ⟨j + 1, by omega, by go_num, bel_drewN hbr _⟩
          case measure => simp [intOf]; omega
        · cases hp : U.pairAt us j
          · by_cases hj0 : 0 < j
            · have q1 : ((j : Int) - 1).toNat = j - 1 := by omega
              have i2 : (0 : Int) < (j : Int) := by omega
              cases hp1 : U.pairAt us (j - 1)
              · have ha : U.alone us j u = true := by rw [hal, hs, hp, hp1]; simp
                rw [ha] at hx2
                obtain rfl : x = 65533 := by simpa using hx2
                clear hx2 hal ha
                go_wp2_with (first | (go_at_call 33; refine (sIsSurrogate_any _ _).mono ?_; rintro e w' ⟨rfl, rfl⟩) | (go_at_call 34; refine (pairAt_int _ _ _ us _ _ hAr (by omega) (by omega) (by omega)).mono ?_; rintro e w' ⟨rfl, rfl⟩))
                go_quiet (fail)
                go_wp2_with fail
                go_roundw
                case rel => exact ⟨j + 1, by omega, by go_num, bel_drewN hbr _⟩
                case measure => simp [intOf]; omega
              · have ha : U.alone us j u = false := by rw [hal, hs, hp, hp1]; simp; omega
                rw [ha] at hx2
                obtain rfl : x = u := by simpa using hx2
                have tq : (x != x) = false := by simp
                clear hx2 hal ha
                go_wp2_with (first | (go_at_call 33; refine (sIsSurrogate_any _ _).mono ?_; rintro e w' ⟨rfl, rfl⟩) | (go_at_call 34; refine (pairAt_int _ _ _ us _ _ hAr (by omega) (by omega) (by omega)).mono ?_; rintro e w' ⟨rfl, rfl⟩))
                go_quiet (fail)
                go_wp2_with fail
                go_roundw
                case rel => exact ⟨j + 1, by omega, by go_num, bel_drewN hbr _⟩
                case measure => simp [intOf]; omega
            · have ha : U.alone us j u = true := by rw [hal, hs, hp]; simp; omega
              have i2 : ¬ (0 : Int) < (j : Int) := by omega
              rw [ha] at hx2
              obtain rfl : x = 65533 := by simpa using hx2
              clear hx2 hal ha
              go_wp2_with (first | (go_at_call 33; refine (sIsSurrogate_any _ _).mono ?_; rintro e w' ⟨rfl, rfl⟩) | (go_at_call 34; refine (pairAt_int _ _ _ us _ _ hAr (by omega) (by omega) (by omega)).mono ?_; rintro e w' ⟨rfl, rfl⟩))
              go_quiet (fail)
              go_wp2_with fail
              go_roundw
              case rel => exact ⟨j + 1, by omega, by go_num, bel_drewN hbr _⟩
              case measure => simp [intOf]; omega
          · have ha : U.alone us j u = false := by rw [hal, hs, hp]; rfl
            rw [ha] at hx2
            obtain rfl : x = u := by simpa using hx2
            have tq : (x != x) = false := by simp
            clear hx2 hal ha
            go_wp2_with (first | (go_at_call 33; refine (sIsSurrogate_any _ _).mono ?_; rintro e w' ⟨rfl, rfl⟩) | (go_at_call 34; refine (pairAt_int _ _ _ us _ _ hAr (by omega) (by omega) (by omega)).mono ?_; rintro e w' ⟨rfl, rfl⟩))
            go_quiet (fail)
            go_wp2_with fail
            go_roundw
            case rel => exact ⟨j + 1, by omega, by go_num, bel_drewN hbr _⟩
            case measure => simp [intOf]; omega
      · have he : (decide (U.enc (U.dec us) = us) == U.wfm us) = true := by
          have := Hiff.out
          cases h : U.wfm us
          · rw [h] at this; simp at this ⊢; exact this
          · rw [h] at this; simp at this ⊢; exact this
        have hAr := hA3.below hbr (Nat.le_refl _)
        have hCr := hC.below hbr (Nat.le_refl _)
        have He := Lib.hid he
        clear he
        go_wp2_with fail
        refine (sameUnits_any _ _ _ _ _ _ _ _ _ hCr hAr (by omega)).mono ?_
        rintro e w5 ⟨rfl, hb5⟩
        generalize decide (U.enc (U.dec us) = us) = q at *
        have He' := He.out
        clear He
        go_wp2_with fail
        refine (wellFormed_any _ _ _ us _ (hAr.below hb5 (Nat.le_refl _)) (by omega)).mono ?_
        rintro e w6 ⟨rfl, rfl⟩
        go_wp2_with fail
        go_ret
        first | exact ⟨rfl, bel_then (hbb.trans (hbr.mono hbb.size)) hb5⟩ | exact ⟨ret_bool (by simp [*]), bel_then (hbb.trans (hbr.mono hbb.size)) hb5⟩
  · have hgt : (1048576 : Int) < (n0 : Int) := by omega
    go_enter Try.func10, Try.ntmps10
    go_wp2_with fail
    go_ret
    exact ⟨rfl, Below.refl _ _⟩

set_option maxRecDepth 100000 in
theorem lifted (os : Os) (started : os.Started) (H : Type) (enc : TypeId × Value → H) :
    ReturnsInHanded {} Try.checked os 10 .any (Rows.fnDecodeEncodeWrongSpec.pre6 enc Try.prog Try.f10 Rows.fnDecodeEncodeWrongRow.domain false) (Rows.fnDecodeEncodeWrongSpec.post enc Try.prog Try.f10 false true false false) := by
  refine returnsInHanded_of_change_sized (C := Try.checked) own started (by kernel_rfl) Try.func10
    (ChangeSpec.witness6 (enc := enc) (C := Try.checked) false ⟨#[], #[.slice none 0 0], []⟩ 8 (by kernel_rfl) (by kernel_rfl) (by kernel_rfl) (by kernel_rfl)) ?_
  intro W base args ds gs before hval0 hW hcnd hsz0 _
  have hsz : (DataW.weightsEach Try.prog (Try.f10.params.toList ++ Rows.fnDecodeEncodeWrongSpec.plain.varTypes Try.prog) (ds ++ gs)).all (· ≤ reachBytes) = true := hsz0
  have hval : ∀ (j : Nat) t v, Try.f10.params[j]? = some t → args[j]? = some v → Value.okWide Try.prog W .any base t v := hval0
  have hW' := hW
  obtain ⟨p, q, hA0, hV, rfl, hfz, hnd⟩ := hW
  have hA : DataW.TrodAll enc Try.prog W 0 (fun _ => true) true Try.f10.params.toList args.toList ds p := hA0
  rw [Try.params10] at hA hval hsz
  obtain ⟨v0, vs0, d0, ds0, p0, q0, hargs, rfl, rfl, h0, r0⟩ := trodAll_cons hA
  obtain ⟨rfl, rfl, rfl⟩ := trodAll_nil r0
  obtain rfl : args = #[v0] := by cases args; simp_all
  obtain ⟨rfl, rfl⟩ := trodVars_none hV
  obtain ⟨A0, n0, c0, rfl⟩ := okWide_slice Try.underlying22 (hval 0 22 v0 rfl rfl)
  have k0 := h0
  have lt0 : ∀ x ∈ p0, x.block < W.heap.size := by obtain ⟨m, hm⟩ := k0; exact DataW.trod_lt m _ _ _ hm
  obtain ⟨us0, w0, hd0⟩ := rd_of_reading Try.underlying22 Try.underlying5 (by kernel_rfl) h0
  have s0 : c0 * 1 ≤ 140737488351232 := by
    rcases hd0 with ⟨rfl, rfl⟩ | ⟨el, sp, rfl, hl⟩
    · omega
    · have := sized_slice hsz (j := 0) (t := 22) (e := 5) rfl rfl Try.underlying22
      rw [show Try.prog.bytesOf 5 = 1 by kernel_rfl, hl] at this
      exact this
  clear hd0
  clear hA0 hval0 hsz0 hsz
  refine (walk A0 n0 c0 us0 W w0 s0).mono fun e W' ⟨he, bel⟩ => ?_
  subst he
  exact ⟨_, rfl, _, _, _, [], _, [], hW', trodAll_mk1 (shut_bool Try.underlying4 _), (trodAll_cons_mk (Below.trod laidOut (by kernel_rfl) (of_decide_eq_true (by kernel_rfl)) k0 bel lt0) trodAll_mk0), rfl, bel.frame _, fun h => by cases h⟩

theorem over : Rows.fnDecodeEncodeWrongRow.holds Try.pinned (OpenSpec.ofChange Rows.fnDecodeEncodeWrongSpec) :=
  OpenClaim.holds_of_wide 10 Try.f10 rfl rfl rfl rfl rfl rfl rfl ⟨rfl, rfl, rfl, rfl, rfl⟩ rfl rfl rfl rfl rfl (by kernel_rfl) Try.func10 (by kernel_rfl)
    (of_decide_eq_true (by kernel_rfl)) (by unfold Func.isWrapper; first | (rw [if_pos (by decide +kernel)]; kernel_rfl) | (rw [if_neg (by decide +kernel)]; exact ⟨rfl, rfl⟩))
    (fun os started H enc _ => lifted os started H enc)

/-- THE STATEMENT -/
theorem proved : Rows.FnDecodeEncodeWrongSaid := over
#print axioms proved
end Go.Proofs.Ytngpgkldocpjdaa.fnDecodeEncodeWrong
