/-
  The drawing of an argument of AppendAll.
-/
import Derived.Test.YtngpgkldocpjdaaDrawEncode
namespace Go.Proofs.Ytngpgkldocpjdaa
open Go.RowKit

theorem drawAppendAll_any (w : World) (A : Option Addr) (n c : Nat) (zs : List Int) (h : Rd .u8 w A n c zs) (hn : n ≤ 1048576) :
    Calls Try.prog 25 #[.slice A n c] w (SomeList .i32 1048576 w) := by
  go_enter Try.func25, Try.ntmps25
  go_wp2_with fail
  refine (drawEncode_any _ A n c zs h hn).mono ?_
  rintro e w' ⟨us, hl, B, m, d, rfl, hB, hb⟩
  go_wp2_with fail
  go_ret
  exact ⟨us, hl, B, m, d, rfl, hB, hb⟩

end Go.Proofs.Ytngpgkldocpjdaa
