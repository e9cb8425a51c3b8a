/-
  Contracts of the reference's PairAt, and of what goes by it: WellFormed, Decode.
-/
import Derived.Test.YtinmgkimbdcnhaaRunes
import Derived.Test.YtinmgkimbdcnhaaMem
import Derived.Test.YtinmgkimbdcnhaaPlainL
namespace Go.Proofs.Ytinmgkimbdcnhaa
open Go.RowKit

set_option maxHeartbeats 1600000 in
theorem pairAt_any (A : Option Addr) (n c : Nat) (us : List Int) (j : Nat) (w : World) (hA : Rd .u16 w A n c us) (hj : j < n) (hn : n ≤ 140737488355328) :
    Calls Try.prog 17 #[.slice A n c, .int .i64 (j : Int)] w fun e w' => e = .returned (.bool (U.pairAt us j)) ∧ w = w' := by
  have hlen := hA.len
  obtain ⟨b1, o1, u, rfl, hb1, hu, hc1, hw1⟩ := hA.at_ hj
  rw [wf_u16] at hw1
  obtain ⟨hwa, hwb⟩ := hw1
  by_cases hlt : j + 1 < n
  · obtain ⟨b2, o2, v, e2, hb2, hv, hc2, hw2⟩ := hA.at_ hlt
    obtain ⟨rfl, rfl⟩ : b2 = b1 ∧ o2 = o1 := by injection e2 with e2; injection e2 with e3 e4; exact ⟨e3.symm, e4.symm⟩
    clear e2
    rw [wf_u16] at hw2
    obtain ⟨hwc, hwd⟩ := hw2
    have e : U.pairAt us j = (U.hiB u && U.loB v) := by simp [U.pairAt, hu, hv]
    rw [e]
    clear hu hv hlen e
    cases q1 : U.hiB u <;> cases q2 : U.loB v
    all_goals
      go_enter Try.func17, Try.ntmps17
      go_wp2_with (first | (go_at_call 43; refine (highHalf_any _ _).mono ?_; rintro e w' ⟨rfl, rfl⟩) | (go_at_call 44; refine (lowHalf_any _ _).mono ?_; rintro e w' ⟨rfl, rfl⟩))
      go_ret
      exact ⟨rfl, rfl⟩
  · have e : U.pairAt us j = false := by simp [U.pairAt, hu, List.getElem?_eq_none (show us.length ≤ j + 1 by omega)]
    rw [e]
    clear hu hlen e
    go_enter Try.func17, Try.ntmps17
    go_wp2_with fail
    go_ret
    exact ⟨rfl, rfl⟩

end Go.Proofs.Ytinmgkimbdcnhaa
