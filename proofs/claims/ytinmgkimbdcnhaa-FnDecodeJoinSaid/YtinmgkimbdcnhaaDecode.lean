/-
  Contracts of unicode/utf16's Decode (and its helper), and of the thin package's.
-/
import Derived.Test.YtinmgkimbdcnhaaRunes
import Derived.Test.YtinmgkimbdcnhaaMem
import Derived.Test.YtinmgkimbdcnhaaPlainL
namespace Go.Proofs.Ytinmgkimbdcnhaa
open Go.RowKit

theorem info_i32' : (Try.prog.info? 21).map (fun i => (i.zero, i.size, i.bytes)) = some (some (.int .i32 0), 1, 4) := by kernel_rfl

theorem isU_of {us : List Int} (h : ∀ u ∈ us, (Lit.int .u16 u).wf = true) : U.isU us := fun u hu => wf_u16.1 (h u hu)

theorem drop_some {us : List Int} {k : Nat} {u : Int} (h : us[k]? = some u) : us.drop k = u :: us.drop (k + 1) := by
  obtain ⟨hk, rfl⟩ := List.getElem?_eq_some_iff.1 h
  exact List.drop_eq_getElem_cons hk

/-- what a round of the decoding adds -/
theorem dec_round {us out : List Int} {j : Nat} {u x : Int} (h : out ++ U.dec (us.drop j) = U.dec us) (hu : us[j]? = some u) (hx : U.one u = x) (hc : U.hiB u = false ∨ us.length ≤ j + 1 ∨ ∃ v, us[j + 1]? = some v ∧ U.loB v = false) :
    (out ++ [x]) ++ U.dec (us.drop (j + 1)) = U.dec us := by
  rw [drop_some hu, U.dec_step, hx] at h
  · simpa using h
  · rcases hc with hc | hc | ⟨v, hv, hc⟩
    · exact .inl hc
    · exact .inr (.inl (List.drop_eq_nil_of_le hc))
    · exact .inr (.inr ⟨v, _, drop_some hv, hc⟩)

theorem dec_round2 {us out : List Int} {j : Nat} {u v : Int} (h : out ++ U.dec (us.drop j) = U.dec us) (hu : us[j]? = some u) (hv : us[j + 1]? = some v) (h1 : U.hiB u = true) (h2 : U.loB v = true) :
    (out ++ [U.dr u v]) ++ U.dec (us.drop (j + 2)) = U.dec us := by
  rw [drop_some hu, drop_some hv, U.dec_pair _ _ _ h1 h2] at h
  simpa using h

set_option maxHeartbeats 3200000 in
theorem uDecodeIn_any (A : Option Addr) (n c : Nat) (v0 : Value) (us : List Int) (w0 w : World) (hA : Rd .u16 w0 A n c us) (hb0 : Below w0.heap.size w0 w) (hB : w.ownsRow w0.heap.size 21 1 v0 0 []) (hn : n * 4 ≤ 140737488351232) :
    Calls Try.prog 56 #[.slice A n c, v0] w (Gives .i32 w0 (U.dec us)) := by
  go_enter Try.func56, Try.ntmps56
  go_wp2_with fail
  go_loopw [1, 5] (fun v i wr => ∃ (j : Nat) (out : List Int), j ≤ n ∧ i = .int .i64 j ∧ out.length ≤ j ∧ out ++ U.dec (us.drop j) = U.dec us ∧ Below w0.heap.size w0 wr ∧ wr.ownsRow w0.heap.size 21 1 v out.length (out.map (Value.int .i32))) (fun _ i _ => n - (intOf i).toNat)
  case atStart => exact ⟨0, [], by omega, rfl, by simp, rfl, hb0, hB⟩
  case round =>
    obtain ⟨j, out, hj, rfl, hl, hd, hB, hown⟩ := hrel
    have Hd := Lib.hid hd
    clear hd
    have hsz := hB.size
    have hlen := hA.len
    have Hlen := Lib.hid hlen
    clear hlen
    by_cases hlt : j < n
    · obtain ⟨b1, o1, u, rfl, hb1, hu, hc1, hw1⟩ := hA.at_ hlt
      have cc1 := (hB.cell (p := ⟨b1, o1 + j, none⟩) hb1).trans hc1
      rw [wf_u16] at hw1
      obtain ⟨hwa, hwb⟩ := hw1
      have Hu := Lib.hid hu
      clear hu hc1
      rcases (show u < 55296 ∨ 57344 ≤ u ∨ (55296 ≤ u ∧ u < 56320) ∨ (56320 ≤ u ∧ u < 57344) by omega) with h | h | ⟨h, h'⟩ | ⟨h, h'⟩
      · have R := Lib.hid (dec_round Hd.out Hu.out (U.one_nosur (decide_eq_false (by omega))) (.inl (decide_eq_false (by omega))))
        go_wp2_with (at_builtin; refine wpList_app1 wr rfl _ _ 25 rfl w0.heap.size 21 .i32 (.int .i32 0) 4 Try.underlying25 info_i32' rfl _ out (u) hown rfl rfl (by omega) (by omega) hsz ?_; intro v' w1 hown1 hg1)
        go_roundw
        case rel => exact ⟨j + 1, out ++ [u], by omega, by go_num, by simp; omega, R.out, hB.grown hg1 hsz (fun k hk => (hown.lt k hk).1), hown1⟩
        case measure => simp [intOf]; omega
      · have R := Lib.hid (dec_round Hd.out Hu.out (U.one_nosur (decide_eq_false (by omega))) (.inl (decide_eq_false (by omega))))
        go_wp2_with (at_builtin; refine wpList_app1 wr rfl _ _ 25 rfl w0.heap.size 21 .i32 (.int .i32 0) 4 Try.underlying25 info_i32' rfl _ out (u) hown rfl rfl (by omega) (by omega) hsz ?_; intro v' w1 hown1 hg1)
        go_roundw
        case rel => exact ⟨j + 1, out ++ [u], by omega, by go_num, by simp; omega, R.out, hB.grown hg1 hsz (fun k hk => (hown.lt k hk).1), hown1⟩
        case measure => simp [intOf]; omega
      · by_cases hlt2 : j + 1 < n
        · obtain ⟨b2, o2, v, e2, hb2, hv, hc2, hw2⟩ := hA.at_ hlt2
          obtain ⟨rfl, rfl⟩ : b2 = b1 ∧ o2 = o1 := by injection e2 with e2; injection e2 with e3 e4; exact ⟨e3.symm, e4.symm⟩
          clear e2
          have cc2 := (hB.cell (p := ⟨b2, o2 + (j + 1), none⟩) hb2).trans hc2
          rw [wf_u16] at hw2
          obtain ⟨hwc, hwd⟩ := hw2
          have Hv := Lib.hid hv
          clear hv hc2
          rcases (show v < 56320 ∨ 57344 ≤ v ∨ (56320 ≤ v ∧ v < 57344) by omega) with g | g | ⟨g, g'⟩
          · have R := Lib.hid (dec_round Hd.out Hu.out (U.one_sur (decide_eq_true (by omega))) (.inr (.inr ⟨v, Hv.out, decide_eq_false (by omega)⟩)))
            go_wp2_with (at_builtin; refine wpList_app1 wr rfl _ _ 25 rfl w0.heap.size 21 .i32 (.int .i32 0) 4 Try.underlying25 info_i32' rfl _ out (65533) hown rfl rfl (by omega) (by omega) hsz ?_; intro v' w1 hown1 hg1)
            go_roundw
            case rel => exact ⟨j + 1, out ++ [65533], by omega, by go_num, by simp; omega, R.out, hB.grown hg1 hsz (fun k hk => (hown.lt k hk).1), hown1⟩
            case measure => simp [intOf]; omega
          · have R := Lib.hid (dec_round Hd.out Hu.out (U.one_sur (decide_eq_true (by omega))) (.inr (.inr ⟨v, Hv.out, decide_eq_false (by omega)⟩)))
            go_wp2_with (at_builtin; refine wpList_app1 wr rfl _ _ 25 rfl w0.heap.size 21 .i32 (.int .i32 0) 4 Try.underlying25 info_i32' rfl _ out (65533) hown rfl rfl (by omega) (by omega) hsz ?_; intro v' w1 hown1 hg1)
            go_roundw
            case rel => exact ⟨j + 1, out ++ [65533], by omega, by go_num, by simp; omega, R.out, hB.grown hg1 hsz (fun k hk => (hown.lt k hk).1), hown1⟩
            case measure => simp [intOf]; omega
          · have R := Lib.hid (dec_round2 Hd.out Hu.out Hv.out (decide_eq_true (by omega)) (decide_eq_true (by omega)))
            go_wp2_with (first | (go_at_call 45; refine (uDecodeRune_any _ _ _).mono ?_; rintro e w' ⟨rfl, rfl⟩) | (at_builtin; refine wpList_app1 wr rfl _ _ 25 rfl w0.heap.size 21 .i32 (.int .i32 0) 4 Try.underlying25 info_i32' rfl _ out (U.dr u v) hown rfl rfl (by omega) (by omega) hsz ?_; intro v' w1 hown1 hg1))
            go_roundw
            case rel => exact ⟨j + 2, out ++ [U.dr u v], by omega, by go_num, by simp; omega, R.out, hB.grown hg1 hsz (fun k hk => (hown.lt k hk).1), hown1⟩
            case measure => simp [intOf]; omega
        · have R := Lib.hid (dec_round Hd.out Hu.out (U.one_sur (decide_eq_true (by omega))) (.inr (.inl (by have := Hlen.out; omega))))
          go_wp2_with (at_builtin; refine wpList_app1 wr rfl _ _ 25 rfl w0.heap.size 21 .i32 (.int .i32 0) 4 Try.underlying25 info_i32' rfl _ out (65533) hown rfl rfl (by omega) (by omega) hsz ?_; intro v' w1 hown1 hg1)
          go_roundw
          case rel => exact ⟨j + 1, out ++ [65533], by omega, by go_num, by simp; omega, R.out, hB.grown hg1 hsz (fun k hk => (hown.lt k hk).1), hown1⟩
          case measure => simp [intOf]; omega
      · have R := Lib.hid (dec_round Hd.out Hu.out (U.one_sur (decide_eq_true (by omega))) (.inl (decide_eq_false (by omega))))
        go_wp2_with (at_builtin; refine wpList_app1 wr rfl _ _ 25 rfl w0.heap.size 21 .i32 (.int .i32 0) 4 Try.underlying25 info_i32' rfl _ out (65533) hown rfl rfl (by omega) (by omega) hsz ?_; intro v' w1 hown1 hg1)
        go_roundw
        case rel => exact ⟨j + 1, out ++ [65533], by omega, by go_num, by simp; omega, R.out, hB.grown hg1 hsz (fun k hk => (hown.lt k hk).1), hown1⟩
        case measure => simp [intOf]; omega
    · go_wp2_with fail
      go_ret
      have e1 := Hd.out
      rw [List.drop_eq_nil_of_le (by have := Hlen.out; omega)] at e1
      have e2 : out = U.dec us := by simpa [U.dec] using e1
      rw [e2] at hown
      exact Gives.of_own hown (fun x hx => wf_i32.2 (by have := U.dec_wf us (isU_of hA.wf) x hx; omega)) hB

set_option maxHeartbeats 800000 in
theorem uDecode_any (A : Option Addr) (n c : Nat) (us : List Int) (w : World) (hA : Rd .u16 w A n c us) (hn : n * 4 ≤ 140737488351232) :
    Calls Try.prog 42 #[.slice A n c] w (Gives .i32 w (U.dec us)) := by
  obtain ⟨i0, hi, hz0, hz1, hz2⟩ := info_parts info_i32'
  obtain ⟨w1, hmk, hown, hg⟩ := run_make_own (P := Try.prog) w w.heap.size 25 21 i0 (.int .i32 0) 1 Try.underlying25 hi hz0 hz1 .i64 .i64 64 (by rw [hz2]; omega) (by unfold maxLen; omega) (Nat.le_refl _)
  have hmk' : (Instr.makeSlice 25 (.int .i64 0) (.int .i64 64)).run Try.prog w = .ok (.slice (some ⟨w.heap.size, 0, none⟩) 0 64) w1 := hmk
  have hb : Below w.heap.size w w1 := (Below.refl _ _).grown hg (Nat.le_refl _) (by simp)
  clear hmk hi hz0 hz1 hz2
  go_enter Try.func42, Try.ntmps42
  go_wp2_with fail
  refine (uDecodeIn_any A n c _ us w _ hA hb hown hn).mono ?_
  rintro e w2 ⟨B, m, d, rfl, hB, hb2⟩
  go_wp2_with fail
  go_ret
  exact ⟨B, m, d, rfl, hB, hb2⟩

theorem iDecode_any (A : Option Addr) (n c : Nat) (us : List Int) (w : World) (hA : Rd .u16 w A n c us) (hn : n * 4 ≤ 140737488351232) :
    Calls Try.prog 16 #[.slice A n c] w (Gives .i32 w (U.dec us)) := by
  go_enter Try.func16, Try.ntmps16
  go_wp2_with fail
  refine (uDecode_any A n c us _ hA hn).mono ?_
  rintro e w2 ⟨B, m, d, rfl, hB, hb2⟩
  go_wp2_with fail
  go_ret
  exact ⟨B, m, d, rfl, hB, hb2⟩

end Go.Proofs.Ytinmgkimbdcnhaa
