/-
  Contracts of the functions on single numbers: what each of them returns, for every number; none of them touches memory.
-/
import Derived.Test.YtinmgkimbdcnhaaRows
import Derived.Test.YtinmgkimbdcnhaaPlain
import Derived.WalkKit
import Derived.WalkSpells
import Derived.WalkLawsBesides
import Derived.Laws.BitsAllLaws
import Derived.Laws.BitsLemmas
namespace Go.Proofs.Ytinmgkimbdcnhaa
open Go.RowKit

theorem ret_bool {a b : Bool} (h : a = b) : Ending.returned (.bool a) = .returned (.bool b) := by rw [h]

theorem ret_int {k : IntKind} {a b : Int} (h : a = b) : Ending.returned (.int k a) = .returned (.int k b) := by rw [h]

theorem ret_two {k l : IntKind} {a b c d : Int} (h : a = b) (h' : c = d) : Ending.returned (.tuple #[.int k a, .int l c]) = .returned (.tuple #[.int k b, .int l d]) := by rw [h, h']

theorem ofInt_i32 (a : Nat) (ha : a < 2147483648) : (BitVec.ofInt 32 (a : Int)).toNat = a := by
  rw [BitVec.ofInt_natCast, BitVec.toNat_ofNat]; exact Nat.mod_eq_of_lt (by omega)

theorem i32_and_nat (a b : Nat) (ha : a < 2147483648) (hb : b < 2147483648) : bits .and .i32 (a : Int) (b : Int) = ((a &&& b : Nat) : Int) := by
  have hx : a &&& b < 2 ^ 31 := Nat.and_lt_two_pow _ (by omega)
  show IntKind.i32.wrap ((BitVec.ofInt 32 (a : Int) &&& BitVec.ofInt 32 (b : Int)).toNat : Int) = _
  rw [BitVec.toNat_and, ofInt_i32 a ha, ofInt_i32 b hb, IntKind.wrap_i32]
  omega

theorem i32_or_nat (a b : Nat) (ha : a < 2147483648) (hb : b < 2147483648) : bits .or .i32 (a : Int) (b : Int) = ((a ||| b : Nat) : Int) := by
  have hx : a ||| b < 2 ^ 31 := Nat.or_lt_two_pow (by omega) (by omega)
  show IntKind.i32.wrap ((BitVec.ofInt 32 (a : Int) ||| BitVec.ofInt 32 (b : Int)).toNat : Int) = _
  rw [BitVec.toNat_or, ofInt_i32 a ha, ofInt_i32 b hb, IntKind.wrap_i32]
  omega

theorem or_pair (a b : Int) (h1 : 0 ≤ a) (h2 : a < 1024) (h3 : 0 ≤ b) (h4 : b < 1024) : bits .or .i32 (a * 1024) b = a * 1024 + b := by
  obtain ⟨n, rfl⟩ := Int.eq_ofNat_of_zero_le h1
  obtain ⟨m, rfl⟩ := Int.eq_ofNat_of_zero_le h3
  have e := i32_or_nat (n * 1024) m (by omega) (by omega)
  rw [U.or_split n m (by omega)] at e
  simpa using e

theorem and_ten (a : Int) (h1 : 0 ≤ a) (h2 : a < 2147483648) : bits .and .i32 a 1023 = a % 1024 := by
  obtain ⟨n, rfl⟩ := Int.eq_ofNat_of_zero_le h1
  have e := i32_and_nat n 1023 (by omega) (by omega)
  rw [U.and_low n] at e
  simpa using e

set_option maxHeartbeats 400000 in
theorem highHalf_any (r : Int) (w : World) : Calls Try.prog 43 #[.int .i32 r] w fun e w' => e = .returned (.bool (U.hiB r)) ∧ w = w' := by
  rcases U.cls r with h | ⟨h, h'⟩ | ⟨h, h'⟩ | ⟨h, h'⟩ | ⟨h, h'⟩ | ⟨h, h'⟩ | h
  all_goals
    go_enter Try.func43, Try.ntmps43
    go_wp2
    go_ret
    refine ⟨ret_bool ?_, rfl⟩
    simp only [U.hiB]
    first | (symm; apply decide_eq_true; omega) | (symm; apply decide_eq_false; omega) | (apply decide_eq_decide.2; omega)

set_option maxHeartbeats 400000 in
theorem lowHalf_any (r : Int) (w : World) : Calls Try.prog 44 #[.int .i32 r] w fun e w' => e = .returned (.bool (U.loB r)) ∧ w = w' := by
  rcases U.cls r with h | ⟨h, h'⟩ | ⟨h, h'⟩ | ⟨h, h'⟩ | ⟨h, h'⟩ | ⟨h, h'⟩ | h
  all_goals
    go_enter Try.func44, Try.ntmps44
    go_wp2
    go_ret
    refine ⟨ret_bool ?_, rfl⟩
    simp only [U.loB]
    first | (symm; apply decide_eq_true; omega) | (symm; apply decide_eq_false; omega) | (apply decide_eq_decide.2; omega)

set_option maxHeartbeats 400000 in
theorem sIsSurrogate_any (r : Int) (w : World) : Calls Try.prog 29 #[.int .i32 r] w fun e w' => e = .returned (.bool (U.surB r)) ∧ w = w' := by
  rcases U.sur_cases r with ⟨h1, h2, h3⟩ | ⟨h1, h2, h3⟩ | ⟨h1, h2, h3⟩
  all_goals
    rw [h3]
    go_enter Try.func29, Try.ntmps29
    go_wp2_with (first | (go_at_call 43; refine (highHalf_any _ _).mono ?_; rintro e w' ⟨rfl, rfl⟩) | (go_at_call 44; refine (lowHalf_any _ _).mono ?_; rintro e w' ⟨rfl, rfl⟩))
    go_ret
    exact ⟨rfl, rfl⟩

set_option maxHeartbeats 400000 in
theorem encodable_any (r : Int) (w : World) : Calls Try.prog 53 #[.int .i32 r] w fun e w' => e = .returned (.bool (U.encB r)) ∧ w = w' := by
  rcases U.enc_cases r with ⟨h1, h3⟩ | ⟨h1, h3⟩ | ⟨h0, h1, h2, h3⟩ | ⟨h0, h1, h2, h3⟩
  all_goals
    rw [h3]
    go_enter Try.func53, Try.ntmps53
    go_wp2_with (go_at_call 29; refine (sIsSurrogate_any _ _).mono ?_; rintro e w' ⟨rfl, rfl⟩)
    go_ret
    exact ⟨rfl, rfl⟩

set_option maxHeartbeats 400000 in
theorem sRuneLen_any (r : Int) (w : World) : Calls Try.prog 27 #[.int .i32 r] w fun e w' => e = .returned (.int .i64 (U.rlen r)) ∧ w = w' := by
  rcases U.len_cases r with ⟨h1, h2, h3⟩ | ⟨h1, h2, h3⟩ | ⟨h1, h3⟩
  all_goals
    rw [h3]
    go_enter Try.func27, Try.ntmps27
    go_wp2_with (go_at_call 53; refine (encodable_any _ _).mono ?_; rintro e w' ⟨rfl, rfl⟩)
    go_ret
    exact ⟨rfl, rfl⟩

set_option maxHeartbeats 400000 in
theorem sEncodeRune_any (r : Int) (w : World) : Calls Try.prog 48 #[.int .i32 r] w fun e w' => e = .returned (.tuple #[.int .i32 (U.er1 r), .int .i32 (U.er2 r)]) ∧ w = w' := by
  rcases U.pair_cases r with ⟨h0, h1, h2, h3, h4⟩ | ⟨h2, h3, h4⟩
  all_goals
    rw [h3, h4]
    clear h3 h4
    go_enter Try.func48, Try.ntmps48
    go_wp2_with (go_at_call 27; refine (sRuneLen_any _ _).mono ?_; rintro e w' ⟨rfl, rfl⟩)
    go_ret2
    exact ⟨rfl, rfl⟩

set_option maxHeartbeats 400000 in
theorem sDecodeRune_any (r s : Int) (w : World) : Calls Try.prog 46 #[.int .i32 r, .int .i32 s] w fun e w' => e = .returned (.int .i32 (U.dr r s)) ∧ w = w' := by
  rcases U.dec_cases r s with ⟨h1, h3⟩ | ⟨h1, h2, h3⟩ | ⟨h1, h2, h4, h5, h6, h7, h3⟩
  all_goals
    rw [h3]
    clear h3
    go_enter Try.func46, Try.ntmps46
    go_wp2_with (first | (go_at_call 43; refine (highHalf_any _ _).mono ?_; rintro e w' ⟨rfl, rfl⟩) | (go_at_call 44; refine (lowHalf_any _ _).mono ?_; rintro e w' ⟨rfl, rfl⟩))
    go_ret
    exact ⟨rfl, rfl⟩

set_option maxHeartbeats 800000 in
theorem uIsSurrogate_any (r : Int) (w : World) : Calls Try.prog 52 #[.int .i32 r] w fun e w' => e = .returned (.bool (U.surB r)) ∧ w = w' := by
  rcases U.cls r with h | ⟨h, h'⟩ | ⟨h, h'⟩ | ⟨h, h'⟩ | ⟨h, h'⟩ | ⟨h, h'⟩ | h
  all_goals
    go_enter Try.func52, Try.ntmps52
    go_wp2
    go_ret
    refine ⟨ret_bool ?_, rfl⟩
    simp only [U.surB]
    first | (symm; apply decide_eq_true; omega) | (symm; apply decide_eq_false; omega) | (apply decide_eq_decide.2; omega)

set_option maxHeartbeats 800000 in
theorem uRuneLen_any (r : Int) (w : World) : Calls Try.prog 51 #[.int .i32 r] w fun e w' => e = .returned (.int .i64 (U.rlen r)) ∧ w = w' := by
  rcases U.cls r with h | ⟨h, h'⟩ | ⟨h, h'⟩ | ⟨h, h'⟩ | ⟨h, h'⟩ | ⟨h, h'⟩ | h
  all_goals
    go_enter Try.func51, Try.ntmps51
    go_wp2
    go_ret
    refine ⟨ret_int ?_, rfl⟩
    unfold U.rlen
    repeat' split
    all_goals first | rfl | omega

set_option maxHeartbeats 800000 in
theorem uEncodeRune_any (r : Int) (w : World) : Calls Try.prog 50 #[.int .i32 r] w fun e w' => e = .returned (.tuple #[.int .i32 (U.er1 r), .int .i32 (U.er2 r)]) ∧ w = w' := by
  rcases (show r < 65536 ∨ (65536 ≤ r ∧ r ≤ 1114111) ∨ 1114111 < r by omega) with h | ⟨h, h'⟩ | h
  · go_enter Try.func50, Try.ntmps50
    go_wp2
    go_ret2
    refine ⟨ret_two ?_ ?_, rfl⟩
    · unfold U.er1
      split <;> first | rfl | omega
    · unfold U.er2
      split <;> first | rfl | omega
  · have b1 := and_ten ((r - 65536) / 1024) (by omega) (by omega)
    have b2 := and_ten (r - 65536) (by omega) (by omega)
    go_enter Try.func50, Try.ntmps50
    go_wp2
    go_ret2
    refine ⟨ret_two ?_ ?_, rfl⟩
    · unfold U.er1
      split <;> first | rfl | omega
    · unfold U.er2
      split <;> first | rfl | omega
  · go_enter Try.func50, Try.ntmps50
    go_wp2
    go_ret2
    refine ⟨ret_two ?_ ?_, rfl⟩
    · unfold U.er1
      split <;> first | rfl | omega
    · unfold U.er2
      split <;> first | rfl | omega

set_option maxHeartbeats 800000 in
theorem uDecodeRune_any (r s : Int) (w : World) : Calls Try.prog 45 #[.int .i32 r, .int .i32 s] w fun e w' => e = .returned (.int .i32 (U.dr r s)) ∧ w = w' := by
  by_cases h1 : 55296 ≤ r ∧ r ≤ 56319
  · obtain ⟨h1, h2⟩ := h1
    rcases (show s < 56320 ∨ (56320 ≤ s ∧ s ≤ 57343) ∨ 57343 < s by omega) with h | ⟨h, h'⟩ | h
    · go_enter Try.func45, Try.ntmps45
      go_wp2
      go_ret
      refine ⟨ret_int ?_, rfl⟩
      unfold U.dr
      split <;> first | rfl | omega
    · have b1 := or_pair (r - 55296) (s - 56320) (by omega) (by omega) (by omega) (by omega)
      go_enter Try.func45, Try.ntmps45
      go_wp2
      go_ret
      refine ⟨ret_int ?_, rfl⟩
      unfold U.dr
      split <;> first | rfl | omega
    · go_enter Try.func45, Try.ntmps45
      go_wp2
      go_ret
      refine ⟨ret_int ?_, rfl⟩
      unfold U.dr
      split <;> first | rfl | omega
  · rcases (show r < 55296 ∨ 56319 < r by omega) with h | h
    all_goals
      clear h1
      go_enter Try.func45, Try.ntmps45
      go_wp2
      go_ret
      refine ⟨ret_int ?_, rfl⟩
      unfold U.dr
      split <;> first | rfl | omega

theorem iIsSurrogate_any (r : Int) (w : World) : Calls Try.prog 25 #[.int .i32 r] w fun e w' => e = .returned (.bool (U.surB r)) ∧ w = w' := by
  go_enter Try.func25, Try.ntmps25
  go_wp2_with fail
  refine (uIsSurrogate_any r _).mono ?_
  rintro e w' ⟨rfl, rfl⟩
  go_wp2_with fail
  go_ret
  exact ⟨rfl, rfl⟩

theorem iRuneLen_any (r : Int) (w : World) : Calls Try.prog 24 #[.int .i32 r] w fun e w' => e = .returned (.int .i64 (U.rlen r)) ∧ w = w' := by
  go_enter Try.func24, Try.ntmps24
  go_wp2_with fail
  refine (uRuneLen_any r _).mono ?_
  rintro e w' ⟨rfl, rfl⟩
  go_wp2_with fail
  go_ret
  exact ⟨rfl, rfl⟩

theorem iEncodeRune_any (r : Int) (w : World) : Calls Try.prog 23 #[.int .i32 r] w fun e w' => e = .returned (.tuple #[.int .i32 (U.er1 r), .int .i32 (U.er2 r)]) ∧ w = w' := by
  go_enter Try.func23, Try.ntmps23
  go_wp2_with fail
  refine (uEncodeRune_any r _).mono ?_
  rintro e w' ⟨rfl, rfl⟩
  go_wp2_with fail
  go_ret2
  exact ⟨rfl, rfl⟩

theorem iDecodeRune_any (r s : Int) (w : World) : Calls Try.prog 18 #[.int .i32 r, .int .i32 s] w fun e w' => e = .returned (.int .i32 (U.dr r s)) ∧ w = w' := by
  go_enter Try.func18, Try.ntmps18
  go_wp2_with fail
  refine (uDecodeRune_any r s _).mono ?_
  rintro e w' ⟨rfl, rfl⟩
  go_wp2_with fail
  go_ret
  exact ⟨rfl, rfl⟩

end Go.Proofs.Ytinmgkimbdcnhaa
