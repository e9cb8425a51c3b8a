/-
  Contracts of the reference's functions over a list of numbers: whether all can be encoded; the list with U+FFFD in place of those that cannot.
-/
import Derived.Test.YtinmgkimbdcnhaaRunes
import Derived.Test.YtinmgkimbdcnhaaMem
import Derived.Test.YtinmgkimbdcnhaaSameR
namespace Go.Proofs.Ytinmgkimbdcnhaa
open Go.RowKit

set_option maxHeartbeats 800000 in
theorem allEncodable_any (A : Option Addr) (n c : Nat) (us : List Int) (w : World) (hA : Rd .i32 w A n c us) (hn : n ≤ 140737488355328) :
    Calls Try.prog 31 #[.slice A n c] w fun e w' => e = .returned (.bool (us.all U.encB)) ∧ w = w' := by
  go_enter Try.func31, Try.ntmps31
  go_wp2
  go_loop [3] (fun i => ∃ j : Nat, j ≤ n ∧ i = .int .i64 j ∧ (us.take j).all U.encB = true) (fun i => n - (intOf i).toNat)
  case atStart => exact ⟨0, Nat.zero_le _, rfl, rfl⟩
  case round =>
    obtain ⟨j, hj, rfl, ht⟩ := hrel
    have Ht := Lib.hid ht
    clear ht
    by_cases hlt : j < n
    · obtain ⟨b1, o1, u, rfl, hb1, hu, hc1, hw1⟩ := hA.at_ hlt
      have Hu := Lib.hid hu
      clear hu
      cases hq : U.encB u
      · go_wp2_with (go_at_call 53; refine (encodable_any _ _).mono ?_; rintro e w' ⟨rfl, rfl⟩)
        go_ret
        refine ⟨ret_bool ?_, rfl⟩
        symm
        rw [List.all_eq_false]
        exact ⟨u, List.mem_of_getElem? Hu.out, by simp [hq]⟩
      · go_wp2_with (go_at_call 53; refine (encodable_any _ _).mono ?_; rintro e w' ⟨rfl, rfl⟩)
        go_round
        case rel => exact ⟨j + 1, by omega, by go_num, by rw [take_succ_some Hu.out, List.all_append, Ht.out]; simp [hq]⟩
        case measure => simp [intOf]; omega
    · go_wp2
      go_ret
      refine ⟨ret_bool ?_, rfl⟩
      have h1 := Ht.out
      rw [List.take_of_length_le (by have := hA.len; omega)] at h1
      exact h1.symm

theorem info_i32 : (Try.prog.info? 21).map (fun i => (i.zero, i.size, i.bytes)) = some (some (.int .i32 0), 1, 4) := by kernel_rfl

set_option maxHeartbeats 800000 in
theorem replaced_any (A : Option Addr) (n c : Nat) (us : List Int) (w : World) (hA : Rd .i32 w A n c us) (hn : n * 4 ≤ 140737488351232) :
    Calls Try.prog 32 #[.slice A n c] w (Gives .i32 w (us.map U.rep)) := by
  go_enter Try.func32, Try.ntmps32
  go_wp2
  go_loopw [3, 4] (fun v i wr => ∃ j : Nat, j ≤ n ∧ i = .int .i64 j ∧ wr.ownsRow w.heap.size 21 1 v ((us.take j).map U.rep).length (((us.take j).map U.rep).map (Value.int .i32)) ∧ Below w.heap.size w wr) (fun _ i _ => n - (intOf i).toNat)
  case atStart => exact ⟨0, Nat.zero_le _, rfl, World.ownsRow_lit w #[] 0 (Nat.le_refl _) (by unfold maxLen; omega) rfl, (Below.refl _ _).alloc (Nat.le_refl _) _⟩
  case round =>
    obtain ⟨j, hj, rfl, hown, hb⟩ := hrel
    have hle : ((us.take j).map U.rep).length ≤ j := by rw [List.length_map, List.length_take]; omega
    by_cases hlt : j < n
    · obtain ⟨b1, o1, u, rfl, hb1, hu, hc1, hw1⟩ := hA.at_ hlt
      have hc1' := (hb.cell (p := ⟨b1, o1 + j, none⟩) hb1).trans hc1
      have Hu := Lib.hid hu
      clear hu hc1
      have hsz := hb.size
      cases hq : U.encB u
      · go_wp2_with (first | (go_at_call 53; refine (encodable_any _ _).mono ?_; rintro e w' ⟨rfl, rfl⟩) | (at_builtin; (refine wpList_app1 wr rfl _ _ 25 rfl w.heap.size 21 .i32 (.int .i32 0) 4 Try.underlying25 info_i32 rfl _ ((us.take j).map U.rep) 65533 hown rfl rfl (by omega) (by omega) hsz ?_; intro v' w1 hown1 hg1)))
        have e1 : (us.take (j + 1)).map U.rep = (us.take j).map U.rep ++ [65533] := by rw [take_succ_some Hu.out, List.map_append]; simp [U.rep, hq]
        go_roundw
        case rel => exact ⟨j + 1, by omega, by go_num, by rw [e1]; exact hown1, hb.grown hg1 hsz (fun k hk => (hown.lt k hk).1)⟩
        case measure => simp [intOf]; omega
      · go_wp2_with (first | (go_at_call 53; refine (encodable_any _ _).mono ?_; rintro e w' ⟨rfl, rfl⟩) | (at_builtin; (refine wpList_app1 wr rfl _ _ 25 rfl w.heap.size 21 .i32 (.int .i32 0) 4 Try.underlying25 info_i32 rfl _ ((us.take j).map U.rep) u hown rfl rfl (by omega) (by omega) hsz ?_; intro v' w1 hown1 hg1)))
        have e1 : (us.take (j + 1)).map U.rep = (us.take j).map U.rep ++ [u] := by rw [take_succ_some Hu.out, List.map_append]; simp [U.rep, hq]
        go_roundw
        case rel => exact ⟨j + 1, by omega, by go_num, by rw [e1]; exact hown1, hb.grown hg1 hsz (fun k hk => (hown.lt k hk).1)⟩
        case measure => simp [intOf]; omega
    · go_wp2
      go_ret
      have e1 : us.take j = us := List.take_of_length_le (by have := hA.len; omega)
      rw [e1] at hown
      refine Gives.of_own hown (fun u hu => ?_) hb
      obtain ⟨x, hx, rfl⟩ := List.mem_map.1 hu
      unfold U.rep
      split
      · exact hA.wf x hx
      · rfl

end Go.Proofs.Ytinmgkimbdcnhaa
