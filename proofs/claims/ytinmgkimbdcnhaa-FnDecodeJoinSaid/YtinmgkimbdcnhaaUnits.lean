/-
  Contract of the reference's Units.
-/
import Derived.Test.YtinmgkimbdcnhaaRunes
import Derived.Test.YtinmgkimbdcnhaaApp
import Derived.Test.YtinmgkimbdcnhaaPlainL
namespace Go.Proofs.Ytinmgkimbdcnhaa
open Go.RowKit

theorem units_wf (r : Int) : ∀ u ∈ U.units r, (Lit.int .u16 u).wf = true := fun u hu => wf_u16.2 (U.units_isU r u hu)

set_option maxHeartbeats 800000 in
theorem units_any (r : Int) (w : World) : Calls Try.prog 40 #[.int .i32 r] w (Gives .u16 w (U.units r)) := by
  have hw := units_wf r
  rcases U.units_cases r with ⟨e0, e1, e2, _, e4⟩ | ⟨e0, e1, e2, e3, e4, e5⟩ | ⟨e0, e4⟩
  · have r1 : U.rlen r = 1 := by rcases U.len_cases r with ⟨_, _, h⟩ | ⟨_, h, _⟩ | ⟨h, _⟩; exact h; omega; rw [e0] at h; cases h
    rw [e4] at hw ⊢
    have Hw := Lib.hid hw
    clear hw e4 e0
    go_enter Try.func40, Try.ntmps40
    go_wp2_with (go_at_call 27; refine (sRuneLen_any _ _).mono ?_; rintro e w' ⟨rfl, rfl⟩)
    go_ret
    exact ⟨_, _, _, rfl, rd_new w [r] Hw.out, (Below.refl _ _).alloc (Nat.le_refl _) _⟩
  · have r1 : U.rlen r = 2 := U.rlen_two ⟨e1, e2⟩
    rw [e5] at hw ⊢
    simp only [U.hiB, U.loB, decide_eq_true_eq] at e3 e4
    obtain ⟨e3a, e3b⟩ := e3
    obtain ⟨e4a, e4b⟩ := e4
    have Hw := Lib.hid hw
    clear hw e5 e0
    go_enter Try.func40, Try.ntmps40
    go_wp2_with (first | (go_at_call 27; refine (sRuneLen_any _ _).mono ?_; rintro e w' ⟨rfl, rfl⟩) | (go_at_call 48; refine (sEncodeRune_any _ _).mono ?_; rintro e w' ⟨rfl, rfl⟩))
    go_ret
    exact ⟨_, _, _, rfl, rd_new w [U.er1 r, U.er2 r] Hw.out, (Below.refl _ _).alloc (Nat.le_refl _) _⟩
  · have r1 : U.rlen r = -1 := by rcases U.len_cases r with ⟨h, _⟩ | ⟨h, _⟩ | ⟨_, h⟩; (rw [e0] at h; cases h); (rw [e0] at h; cases h); exact h
    rw [e4] at hw ⊢
    have Hw := Lib.hid hw
    clear hw e4 e0
    go_enter Try.func40, Try.ntmps40
    go_wp2_with (go_at_call 27; refine (sRuneLen_any _ _).mono ?_; rintro e w' ⟨rfl, rfl⟩)
    go_ret
    exact ⟨_, _, _, rfl, rd_new w [65533] Hw.out, (Below.refl _ _).alloc (Nat.le_refl _) _⟩

end Go.Proofs.Ytinmgkimbdcnhaa
