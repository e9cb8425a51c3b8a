/-
  Contract of the thin package's AppendAll.
-/
import Derived.Test.YtngpgkldocpjdaaAppRune
namespace Go.Proofs.Ytngpgkldocpjdaa
open Go.RowKit

theorem enc_wf' (us : List Int) : ∀ u ∈ U.enc us, (Lit.int .u16 u).wf = true := fun u hu => wf_u16.2 (U.enc_isU us u hu)

set_option maxHeartbeats 1600000 in
theorem iAppendAll_any (A : Option Addr) (n c : Nat) (us : List Int) (w : World) (hA : Rd .i32 w A n c us) (hn : n * 4 ≤ 140737488351232) :
    Calls Try.prog 26 #[.slice A n c] w (Gives .u16 w (U.enc us)) := by
  go_enter Try.func26, Try.ntmps26
  go_wp2_with fail
  go_loopw [3, 9] (fun v i wr => ∃ (j : Nat) (out : List Int), j ≤ n ∧ i = .int .i64 j ∧ out.length ≤ 2 * j ∧ out = U.enc (us.take j) ∧ Own .u16 41 wr w.heap.size v out ∧ Below w.heap.size w wr) (fun _ i _ => n - (intOf i).toNat)
  case atStart => exact ⟨0, [], Nat.zero_le _, rfl, by simp, rfl, Own.empty w (Nat.le_refl _), (Below.refl _ _).alloc (Nat.le_refl _) _⟩
  case round =>
    obtain ⟨j, out, hj, rfl, hl, hout, hown, hb⟩ := hrel
    have Hout := Lib.hid hout
    clear hout
    by_cases hlt : j < n
    · obtain ⟨b1, o1, u, rfl, hb1, hu, hc1, hw1⟩ := hA.at_ hlt
      have cc1 := (hb.cell (p := ⟨b1, o1 + j, none⟩) hb1).trans hc1
      have Hs := Lib.hid (U.enc_take_succ us j u hu)
      have hul := U.units_len u
      clear hu hc1
      go_wp2_with fail
      refine (uAppendRune_any _ out u w.heap.size _ hown hb.size (by omega)).mono ?_
      rintro e w2 ⟨v2, rfl, hg2⟩
      go_wp2_with fail
      go_roundw
      case rel => exact ⟨j + 1, out ++ U.units u, by omega, by go_num, by rw [List.length_append]; omega, by rw [Hs.out, Hout.out], hg2.own, hg2.bel hb hown (Nat.le_refl _)⟩
      case measure => simp [intOf]; omega
    · go_wp2_with fail
      go_ret
      have e1 : out = U.enc us := by rw [Hout.out, List.take_of_length_le (by have := hA.len; omega)]
      rw [e1] at hown
      exact hown.gives (enc_wf' us) hb

end Go.Proofs.Ytngpgkldocpjdaa
