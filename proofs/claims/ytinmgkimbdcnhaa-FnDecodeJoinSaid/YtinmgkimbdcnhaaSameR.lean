/-
  Contracts of the functions that hold two lists against each other.
-/
import Derived.Test.YtinmgkimbdcnhaaRunes
import Derived.Test.YtinmgkimbdcnhaaMem
import Derived.Deep.QuietTactic
import Derived.BigQuiet
namespace Go.Proofs.Ytinmgkimbdcnhaa
open Go.RowKit

theorem take_succ_some {us : List Int} {k : Nat} {u : Int} (h : us[k]? = some u) : us.take (k + 1) = us.take k ++ [u] := by
  obtain ⟨hk, rfl⟩ := List.getElem?_eq_some_iff.1 h
  exact List.take_succ_eq_append_getElem hk

set_option maxHeartbeats 800000 in
theorem sameRunes_any (A B : Option Addr) (n m c d : Nat) (us vs : List Int) (w : World) (hA : Rd .i32 w A n c us) (hB : Rd .i32 w B m d vs) (hn : n ≤ 140737488355328) :
    Calls Try.prog 19 #[.slice A n c, .slice B m d] w fun e w' => e = .returned (.bool (decide (us = vs))) ∧ Below w.heap.size w w' := by
  by_cases hne : n = m
  · subst hne
    have hf : ((n : Int) != (n : Int)) = false := by simp
    go_enter Try.func19, Try.ntmps19
    go_wp2
    go_loopw [5] (fun i wr => ∃ j : Nat, j ≤ n ∧ i = .int .i64 j ∧ (us.take j = vs.take j) ∧ Below w.heap.size w wr) (fun i _ => n - (intOf i).toNat)
    case atStart => exact ⟨0, Nat.zero_le _, rfl, rfl, Below.refl _ _⟩
    case round =>
      obtain ⟨j, hj, rfl, ht, hb⟩ := hrel
      have Ht := Lib.hid ht
      clear ht
      by_cases hlt : j < n
      · obtain ⟨b1, o1, u, rfl, hb1, hu, hc1, hw1⟩ := hA.at_ hlt
        obtain ⟨b2, o2, v, rfl, hb2, hv, hc2, hw2⟩ := hB.at_ hlt
        have Hu := Lib.hid hu
        have Hv := Lib.hid hv
        clear hu hv
        have hc1' := (hb.cell (p := ⟨b1, o1 + j, none⟩) hb1).trans hc1
        have hc2' := (hb.cell (p := ⟨b2, o2 + j, none⟩) hb2).trans hc2
        clear hc1 hc2
        have i0 : (0 : Int) ≤ (j : Int) := by omega
        have i1 : (j : Int) < (n : Int) := by omega
        by_cases huv : u = v
        · subst huv
          have hq : (u != u) = false := by simp
          go_wp2
          go_quiet (fail)
          go_wp2
          go_roundw
          case rel => exact ⟨j + 1, by omega, by go_num, by rw [take_succ_some Hu.out, take_succ_some Hv.out, Ht.out], bel_drewN hb _⟩
          case measure => simp [intOf]; omega
        · have hq : (u != v) = true := by simpa using huv
          go_wp2
          go_quiet (fail)
          go_wp2
          go_ret
          refine ⟨ret_bool (decide_eq_false ?_).symm, bel_drewN hb _⟩
          intro h
          have h1 := Hu.out
          rw [h, Hv.out] at h1
          injection h1 with h1
          exact huv h1.symm
      · go_wp2
        go_ret
        refine ⟨ret_bool (decide_eq_true ?_).symm, hb⟩
        have h1 := Ht.out
        rwa [List.take_of_length_le (by have := hA.len; omega), List.take_of_length_le (by have := hB.len; omega)] at h1
  · have hf : ((n : Int) != (m : Int)) = true := by simp; omega
    go_enter Try.func19, Try.ntmps19
    go_wp2
    go_ret
    refine ⟨ret_bool (decide_eq_false ?_).symm, Below.refl _ _⟩
    intro h
    subst h
    exact hne (hA.len.symm.trans hB.len)

end Go.Proofs.Ytinmgkimbdcnhaa
