/-
  The drawing of one number, and of two.
-/
import Derived.Test.YtinmgkimbdcnhaaDraws
import Derived.Deep.RegionWith
namespace Go.Proofs.Ytinmgkimbdcnhaa
open Go.RowKit

/-- some number is handed back; what was there is as it was -/
def SomeRune (w : World) (e : Ending) (w' : World) : Prop := ∃ x : Int, (Lit.int .i32 x).wf = true ∧ e = .returned (.int .i32 x) ∧ Below w.heap.size w w'

def SomeRunes (w : World) (e : Ending) (w' : World) : Prop := ∃ x y : Int, (Lit.int .i32 x).wf = true ∧ (Lit.int .i32 y).wf = true ∧ e = .returned (.tuple #[.int .i32 x, .int .i32 y]) ∧ Below w.heap.size w w'

set_option maxHeartbeats 800000 in
theorem drawRuneLen_any (w : World) (A : Option Addr) (n c : Nat) (zs : List Int) (h : Rd .u8 w A n c zs) (hn : n ≤ 1048576) :
    Calls Try.prog 49 #[.slice A n c] w (SomeRune w) := by
  have hc := h.cap
  go_enter Try.func49, Try.ntmps49
  go_wp2_with fail
  refine (raw_any _ A n c zs h hn).mono ?_
  rintro e w' ⟨b, hb, rfl, rfl⟩
  cases b
  · clear hb
    go_wp2_with fail
    refine (some_any w _ w.heap.size A n c zs 0 (RdAt.new h) (by omega) hn).mono ?_
    rintro e w2 ⟨x, p2, hx, rfl, hp2, hp2', hr2, hg2⟩
    go_wp2_with fail
    go_ret
    exact ⟨x, hx, rfl, hr2.bel⟩
  · clear hb
    by_cases h5 : n = 5
    · subst h5
      obtain ⟨b1, o1, rfl, hb1⟩ := h.some_ (by omega)
      go_wp2_with fail
      refine (number_any _ _ _ _ _ (h.cut 1 5 (by omega) (by omega)) (by omega)).mono ?_
      rintro e w2 ⟨rfl, rfl⟩
      go_wp2_with fail
      go_ret
      exact ⟨_, wrap32_wf _, rfl, Below.refl _ _⟩
    · have h5' : ((n : Int) == 5) = false := by simp; omega
      go_wp2_with fail
      refine (some_any w _ w.heap.size A n c zs 0 (RdAt.new h) (by omega) hn).mono ?_
      rintro e w2 ⟨x, p2, hx, rfl, hp2, hp2', hr2, hg2⟩
      go_wp2_with fail
      go_ret
      exact ⟨x, hx, rfl, hr2.bel⟩

theorem drawEncodeRune_any (w : World) (A : Option Addr) (n c : Nat) (zs : List Int) (h : Rd .u8 w A n c zs) (hn : n ≤ 1048576) :
    Calls Try.prog 22 #[.slice A n c] w (SomeRune w) := by
  go_enter Try.func22, Try.ntmps22
  go_wp2_with fail
  refine (drawRuneLen_any _ A n c zs h hn).mono ?_
  rintro e w' ⟨x, hx, rfl, hb⟩
  go_wp2_with fail
  go_ret
  exact ⟨x, hx, rfl, hb⟩

end Go.Proofs.Ytinmgkimbdcnhaa
