/-
  Contracts of the reference's AppendRune, Encode, AppendAll.
-/
import Derived.Test.YtinmgkimbdcnhaaUnits
namespace Go.Proofs.Ytinmgkimbdcnhaa
open Go.RowKit

theorem info_u16s : (Try.prog.info? 29).map (fun i => (i.zero, i.size, i.bytes)) = some (some (.int .u16 0), 1, 2) := by kernel_rfl

theorem wf_apps {k : IntKind} {us vs : List Int} (h : ∀ x ∈ us, (Lit.int k x).wf = true) (h' : ∀ x ∈ vs, (Lit.int k x).wf = true) : ∀ x ∈ us ++ vs, (Lit.int k x).wf = true := by
  intro x hx
  rcases List.mem_append.1 hx with h1 | h1
  · exact h x h1
  · exact h' x h1

theorem enc_wf (us : List Int) : ∀ u ∈ U.enc us, (Lit.int .u16 u).wf = true := fun u hu => wf_u16.2 (U.enc_isU us u hu)

set_option maxHeartbeats 1600000 in
theorem sEncode_any (A : Option Addr) (n c : Nat) (us : List Int) (w : World) (hA : Rd .i32 w A n c us) (hn : n * 4 ≤ 140737488351232) :
    Calls Try.prog 35 #[.slice A n c] w (Gives .u16 w (U.enc us)) := by
  go_enter Try.func35, Try.ntmps35
  go_wp2_with fail
  go_loopw [3, 4] (fun v i wr => ∃ (j : Nat) (out : List Int), j ≤ n ∧ i = .int .i64 j ∧ out.length ≤ 2 * j ∧ out = U.enc (us.take j) ∧ Own .u16 29 wr w.heap.size v out ∧ Below w.heap.size w wr) (fun _ i _ => n - (intOf i).toNat)
  case atStart => exact ⟨0, [], Nat.zero_le _, rfl, by simp, rfl, Own.empty w (Nat.le_refl _), (Below.refl _ _).alloc (Nat.le_refl _) _⟩
  case round =>
    obtain ⟨j, out, hj, rfl, hl, hout, hown, hb⟩ := hrel
    have Hout := Lib.hid hout
    clear hout
    by_cases hlt : j < n
    · obtain ⟨b1, o1, u, rfl, hb1, hu, hc1, hw1⟩ := hA.at_ hlt
      have cc1 := (hb.cell (p := ⟨b1, o1 + j, none⟩) hb1).trans hc1
      have Hs := Lib.hid (U.enc_take_succ us j u hu)
      have hul := U.units_len u
      clear hu hc1
      go_wp2_with fail
      refine (units_any u _).mono ?_
      rintro e w2 ⟨B, m, d, rfl, hB, hb2⟩
      have hm : m = (U.units u).length := hB.len.symm
      have hm2 : m ≤ 2 := by omega
      have Hm := Lib.hid hm
      clear hm
      have ho2 := hown.below hb2
      have hb12 := bel_then hb hb2
      go_wp2_with (at_builtin; refine wpList_appS w2 rfl _ _ 23 rfl w.heap.size 29 .u16 (.int .u16 0) 2 Try.underlying23 info_u16s rfl _ out ho2 _ m d (U.units u) hB rfl rfl (by omega) (by omega) hb12.size ?_; intro v3 w3 hg3)
      go_roundw
      case rel => exact ⟨j + 1, out ++ U.units u, by omega, by go_num, by rw [List.length_append]; omega, by rw [Hs.out, Hout.out], hg3.own, hg3.bel hb12 ho2 (Nat.le_refl _)⟩
      case measure => simp [intOf]; omega
    · go_wp2_with fail
      go_ret
      have e1 : out = U.enc us := by rw [Hout.out, List.take_of_length_le (by have := hA.len; omega)]
      rw [e1] at hown
      exact hown.gives (enc_wf us) hb

end Go.Proofs.Ytinmgkimbdcnhaa
