/-
  The drawing of numbers: border, some, fit, number, raw.
-/
import Derived.Test.YtinmgkimbdcnhaaPick
namespace Go.Proofs.Ytinmgkimbdcnhaa
open Go.RowKit

def bl : List Int := [0, 1, 127, 128, 2047, 2048, 55295, 55296, 55297, 56319, 56320, 56321, 57343, 57344, 65532, 65533, 65534, 65535, 65536, 65537, 66559, 66560, 1048575, 1113088, 1114110, 1114111, 1114112, 2097151, -1, -65536, -2147483648, 2147483647]

theorem bl_at (i : Nat) (h : i < 32) : ∃ y, (bl.map (Value.int .i32)).toArray[i]? = some (.int .i32 y) ∧ (Lit.int .i32 y).wf = true := by
  have hl : i < bl.length := h
  refine ⟨bl[i], ?_, ?_⟩
  · rw [List.getElem?_toArray, List.getElem?_map, List.getElem?_eq_getElem hl]; rfl
  · have h2 : bl.all (fun y => (Lit.int .i32 y).wf) = true := by decide +kernel
    exact List.all_eq_true.1 h2 _ (List.getElem_mem hl)

set_option maxHeartbeats 800000 in
theorem border_any (w0 w : World) (g : Nat) (A : Option Addr) (n c : Nat) (zs : List Int) (p : Nat) (h : RdAt w0 w g A n c zs p) (hp : p ≤ 1000000) (hn : n ≤ 1048576) :
    Calls Try.prog 39 #[.pointer (some ⟨g, 0, none⟩)] w (Drew w0 w g A n c zs p 1 .i32 fun x => (Lit.int .i32 x).wf = true) := by
  go_enter Try.func39, Try.ntmps39
  go_wp2_with fail
  refine (pick_any w0 _ g A n c zs p 32 (h.alloc _) hp hn (by omega) (by omega)).mono ?_
  rintro e w2 ⟨x, p', ⟨hx0, hx1⟩, rfl, h1, h2, hr, hg⟩
  obtain ⟨q, rfl⟩ := Int.eq_ofNat_of_zero_le hx0
  obtain ⟨y, hy, hyw⟩ := bl_at q (by omega)
  have hne : some w.heap.size ≠ some g := by have := h.lt; intro e; injection e with e; omega
  have hcell : w2.cell? ⟨w.heap.size, q, none⟩ = some (.int .i32 y) := by
    have hblk := (hg.block w.heap.size (by simp) hne).trans (heap_alloc_new w _)
    exact (cell_of_row w2 w.heap.size q _ _ _ hblk).trans hy
  have hg0 : w.grownBy w2 (some g) := (World.grownBy_alloc w _ _).trans hg
  clear hg hy
  go_wp2_with fail
  go_ret
  exact ⟨y, p', hyw, rfl, h1, h2, hr, hg0⟩

set_option maxHeartbeats 1600000 in
theorem some_any (w0 w : World) (g : Nat) (A : Option Addr) (n c : Nat) (zs : List Int) (p : Nat) (h : RdAt w0 w g A n c zs p) (hp : p ≤ 900000) (hn : n ≤ 1048576) :
    Calls Try.prog 47 #[.pointer (some ⟨g, 0, none⟩)] w (Drew w0 w g A n c zs p 5 .i32 fun x => (Lit.int .i32 x).wf = true) := by
  go_enter Try.func47, Try.ntmps47
  go_wp2_with fail
  refine (pick_any w0 _ g A n c zs p 256 h (by omega) hn (by omega) (by omega)).mono ?_
  rintro e w1 ⟨x, p1, ⟨hx0, hx1⟩, rfl, hp1, hp1', hr1, hg1⟩
  go_wp2_with fail
  refine (pick_any w0 _ g A n c zs p1 256 hr1 (by omega) hn (by omega) (by omega)).mono ?_
  rintro e w2 ⟨y, p2, ⟨hy0, hy1⟩, rfl, hp2, hp2', hr2, hg2⟩
  go_wp2_with fail
  refine (pick_any w0 _ g A n c zs p2 8 hr2 (by omega) hn (by omega) (by omega)).mono ?_
  rintro e w3 ⟨z, p3, ⟨hz0, hz1⟩, rfl, hp3, hp3', hr3, hg3⟩
  have hg := (hg1.trans hg2).trans hg3
  clear hg1 hg2 hg3 hr1 hr2
  rcases (show z = 0 ∨ z = 1 ∨ z = 2 ∨ z = 3 ∨ z = 4 ∨ z = 5 ∨ z = 6 ∨ z = 7 by omega) with rfl | rfl | rfl | rfl | rfl | rfl | rfl | rfl
  all_goals clear hz0 hz1
  iterate 3
    · go_wp2_with fail
      refine (border_any w0 _ g A n c zs p3 hr3 (by omega) hn).mono ?_
      rintro e w4 ⟨u, p4, hu, rfl, hp4, hp4', hr4, hg4⟩
      go_wp2_with fail
      go_ret
      exact ⟨u, p4, hu, rfl, by omega, by omega, hr4, hg.trans hg4⟩
  · go_wp2_with fail
    go_ret
    refine ⟨x * 256 + y, p3, wf_i32.2 (by omega), rfl, by omega, by omega, hr3, hg⟩
  · go_wp2_with fail
    go_ret
    refine ⟨_, p3, ?_, rfl, by omega, by omega, hr3, hg⟩
    exact wf_i32.2 (by omega)
  · go_wp2_with fail
    refine (pick_any w0 _ g A n c zs p3 256 hr3 (by omega) hn (by omega) (by omega)).mono ?_
    rintro e w4 ⟨s, p4, ⟨hs0, hs1⟩, rfl, hp4, hp4', hr4, hg4⟩
    go_wp2_with fail
    refine (pick_any w0 _ g A n c zs p4 256 hr4 (by omega) hn (by omega) (by omega)).mono ?_
    rintro e w5 ⟨t, p5, ⟨ht0, ht1⟩, rfl, hp5, hp5', hr5, hg5⟩
    go_wp2_with fail
    go_ret
    refine ⟨_, p5, ?_, rfl, by omega, by omega, hr5, (hg.trans hg4).trans hg5⟩
    exact wf_i32.2 (by omega)
  · go_wp2_with fail
    refine (pick_any w0 _ g A n c zs p3 256 hr3 (by omega) hn (by omega) (by omega)).mono ?_
    rintro e w4 ⟨s, p4, ⟨hs0, hs1⟩, rfl, hp4, hp4', hr4, hg4⟩
    go_wp2_with fail
    refine (pick_any w0 _ g A n c zs p4 256 hr4 (by omega) hn (by omega) (by omega)).mono ?_
    rintro e w5 ⟨t, p5, ⟨ht0, ht1⟩, rfl, hp5, hp5', hr5, hg5⟩
    go_wp2_with fail
    go_ret
    refine ⟨_, p5, ?_, rfl, by omega, by omega, hr5, (hg.trans hg4).trans hg5⟩
    exact wrap32_wf _
  · go_wp2_with fail
    go_ret
    refine ⟨_, p3, ?_, rfl, by omega, by omega, hr3, hg⟩
    exact wf_i32.2 (by omega)

set_option maxHeartbeats 800000 in
theorem fit_any (w0 w : World) (g : Nat) (A : Option Addr) (n c : Nat) (zs : List Int) (p : Nat) (h : RdAt w0 w g A n c zs p) (hp : p ≤ 800000) (hn : n ≤ 1048576) :
    Calls Try.prog 41 #[.pointer (some ⟨g, 0, none⟩)] w (Drew w0 w g A n c zs p 20 .i32 fun x => (Lit.int .i32 x).wf = true) := by
  go_enter Try.func41, Try.ntmps41
  go_wp2_with fail
  go_loopw [3] (fun i wr => ∃ j p1 : Nat, j ≤ 4 ∧ i = .int .i64 j ∧ p ≤ p1 ∧ p1 ≤ p + 5 * j ∧ RdAt w0 wr g A n c zs p1 ∧ w.grownBy wr (some g)) (fun i _ => 4 - (intOf i).toNat)
  case atStart => exact ⟨0, p, by omega, rfl, by omega, by omega, h, World.grownBy.refl _ _⟩
  case round =>
    obtain ⟨j, p1, hj, rfl, hp1, hp1', hr, hg⟩ := hrel
    by_cases hlt : j < 4
    · go_wp2_with fail
      refine (some_any w0 _ g A n c zs p1 hr (by omega) hn).mono ?_
      rintro e w2 ⟨x, p2, hx, rfl, hp2, hp2', hr2, hg2⟩
      have Hx := Lib.hid hx
      clear hx
      cases hq : U.encB x
      · go_wp2_with (go_at_call 53; refine (encodable_any _ _).mono ?_; rintro e w' ⟨rfl, rfl⟩)
        go_roundw
        case rel => exact ⟨j + 1, p2, by omega, by go_num, by omega, by omega, hr2, hg.trans hg2⟩
        case measure => simp [intOf]; omega
      · go_wp2_with (go_at_call 53; refine (encodable_any _ _).mono ?_; rintro e w' ⟨rfl, rfl⟩)
        go_ret
        exact ⟨x, p2, Hx.out, rfl, by omega, by omega, hr2, hg.trans hg2⟩
    · go_wp2_with fail
      go_ret
      exact ⟨120, p1, rfl, rfl, by omega, by omega, hr, hg⟩

/-- some number of kind k is handed back; nothing is written -/
def SomeNum (k : IntKind) (w : World) (e : Ending) (w' : World) : Prop := ∃ x : Int, (Lit.int k x).wf = true ∧ e = .returned (.int k x) ∧ w = w'

def SomeBool (w : World) (P : Prop) (e : Ending) (w' : World) : Prop := ∃ b : Bool, (b = true → P) ∧ e = .returned (.bool b) ∧ w = w'

theorem wf_u32 {u : Int} : (Lit.int .u32 u).wf = true ↔ 0 ≤ u ∧ u ≤ 4294967295 := by simp [Lit.wf, IntKind.min, IntKind.max, IntKind.signed, IntKind.bits]

/-- the number with some bytes, the highest one first -/
def num (zs : List Int) : Int := zs.foldl (fun n b => n * 256 % 4294967296 + b) 0

theorem num_snoc (zs : List Int) (b : Int) : num (zs ++ [b]) = num zs * 256 % 4294967296 + b := by simp [num]

set_option maxHeartbeats 800000 in
theorem number_any (w : World) (A : Option Addr) (n c : Nat) (zs : List Int) (h : Rd .u8 w A n c zs) (hn : n ≤ 1048576) :
    Calls Try.prog 37 #[.slice A n c] w fun e w' => e = .returned (.int .u32 (num zs)) ∧ w = w' := by
  go_enter Try.func37, Try.ntmps37
  go_wp2_with fail
  go_loop [3, 4] (fun v i => ∃ (j : Nat), j ≤ n ∧ i = .int .i64 j ∧ v = .int .u32 (num (zs.take j)) ∧ 0 ≤ num (zs.take j) ∧ num (zs.take j) ≤ 4294967295) (fun _ i => n - (intOf i).toNat)
  case atStart => exact ⟨0, by omega, rfl, rfl, by simp [num], by simp [num]⟩
  case round =>
    obtain ⟨j, hj, rfl, rfl, hx0, hx1⟩ := hrel
    by_cases hlt : j < n
    · obtain ⟨b1, o1, u, rfl, hb1, hu, hc1, hw1⟩ := h.at_ hlt
      rw [wf_u8] at hw1
      obtain ⟨hw1a, hw1b⟩ := hw1
      have Hu : Hid (num (zs.take (j + 1)) = num (zs.take j) * 256 % 4294967296 + u) := by
        obtain ⟨hk, rfl⟩ := List.getElem?_eq_some_iff.1 hu
        rw [List.take_succ_eq_append_getElem hk, num_snoc]; rfl
      clear hu
      go_wp2_with fail
      go_round
      case rel => exact ⟨j + 1, by omega, by go_num, by rw [Hu.out], by rw [Hu.out]; omega, by rw [Hu.out]; omega⟩
      case measure => simp [intOf]; omega
    · go_wp2_with fail
      go_ret
      refine ⟨ret_int (by rw [List.take_of_length_le (by have := h.len; omega)]), rfl⟩

set_option maxHeartbeats 800000 in
theorem raw_any (w : World) (A : Option Addr) (n c : Nat) (zs : List Int) (h : Rd .u8 w A n c zs) (hn : n ≤ 1048576) :
    Calls Try.prog 36 #[.slice A n c] w (SomeBool w (0 < n)) := by
  by_cases hz : 0 < n
  · obtain ⟨b1, o1, u, rfl, hb1, hu, hc1, hw1⟩ := h.at_ hz
    rw [wf_u8] at hw1
    obtain ⟨hw1a, hw1b⟩ := hw1
    rw [Nat.add_zero] at hc1
    have hi : (0 : Int) < (n : Int) := by omega
    clear hu
    go_enter Try.func36, Try.ntmps36
    go_wp2_with fail
    go_ret
    exact ⟨_, fun _ => hz, rfl, rfl⟩
  · obtain rfl : n = 0 := by omega
    go_enter Try.func36, Try.ntmps36
    go_wp2_with fail
    go_ret
    exact ⟨false, by simp, rfl, rfl⟩

end Go.Proofs.Ytinmgkimbdcnhaa
