/-
  The drawing of a list of numbers.
-/
import Derived.Test.YtinmgkimbdcnhaaDrawRune
import Derived.Test.YtinmgkimbdcnhaaLists
namespace Go.Proofs.Ytinmgkimbdcnhaa
open Go.RowKit

/-- some list of kind k, of at most m numbers, is handed back; what was there is as it was -/
def SomeList (k : IntKind) (m : Nat) (w : World) (e : Ending) (w' : World) : Prop := ∃ us : List Int, us.length ≤ m ∧ Gives k w us e w'

theorem wf_snoc {k : IntKind} {us : List Int} {u : Int} (h : ∀ x ∈ us, (Lit.int k x).wf = true) (hu : (Lit.int k u).wf = true) : ∀ x ∈ us ++ [u], (Lit.int k x).wf = true := by
  intro x hx
  rcases List.mem_append.1 hx with h1 | h1
  · exact h x h1
  · rw [List.mem_singleton.1 h1]; exact hu

/-- a row of numbers beside rd: the blocks differ by their element types -/
theorem own_ne_rd {w : World} {base g E T : Nat} {v : Value} {n : Nat} {xs : List Value} {cs : Array Value} (h : w.ownsRow base E 1 v n xs) (hg : w.heap[g]? = some (.cells cs T (0, 0))) (hne : E ≠ T) : some g ≠ v.ownBlock := by
  rcases h.2 with ⟨rfl, _⟩ | ⟨g', cap, cur, rfl, _, hh, _⟩
  · simp [Value.ownBlock]
  · intro he
    have : g = g' := by simpa [Value.ownBlock] using he
    subst this
    rw [hh] at hg
    injection hg with hg
    injection hg with _ ht
    exact hne ht

theorem RdAt.new' {w W : World} {A : Option Addr} {n c : Nat} {zs : List Int} (h : Rd .u8 w A n c zs) (hb : Below w.heap.size w W) : RdAt w (W.alloc (.cells #[.slice A n c, .int .i64 0] 51)) W.heap.size A n c zs 0 :=
  ⟨h, hb.alloc hb.size _, hb.size, heap_alloc_new W _⟩

set_option maxHeartbeats 3200000 in
theorem drawEncode_any (w : World) (A : Option Addr) (n c : Nat) (zs : List Int) (h : Rd .u8 w A n c zs) (hn : n ≤ 1048576) :
    Calls Try.prog 30 #[.slice A n c] w (SomeList .i32 1048576 w) := by
  have hc := h.cap
  have h1 := h.alloc (.cells #[] 21)
  go_enter Try.func30, Try.ntmps30
  go_wp2_with fail
  refine (raw_any _ A n c zs h1 hn).mono ?_
  rintro e w' ⟨b, hb, rfl, rfl⟩
  cases b
  · clear hb
    have hnew := RdAt.new' (W := w.alloc (.cells #[] 21)) h ((Below.refl _ _).alloc (Nat.le_refl _) _)
    rw [World.size_alloc] at hnew
    have hown0 : (w.alloc (.cells #[] 21)).ownsRow w.heap.size 21 1 (.slice (some ⟨w.heap.size, 0, none⟩) 0 0) 0 [] := World.ownsRow_lit w #[] 0 (Nat.le_refl _) (by unfold maxLen; omega) rfl
    have hown1 := hown0.alloc (.cells #[.slice A n c, .int .i64 0] 51)
    have hne0 : (Value.slice (some ⟨w.heap.size, 0, none⟩) 0 0).ownBlock = none ∨ (Value.slice (some ⟨w.heap.size, 0, none⟩) 0 0).ownBlock ≠ some (w.heap.size + 1) := by right; simp [Value.ownBlock]
    go_wp2_with fail
    refine (pick_any w _ (w.heap.size + 1) A n c zs 0 2 hnew (by omega) hn (by omega) (by omega)).mono ?_
    rintro e w1 ⟨x, p1, ⟨hx0, hx1⟩, rfl, hp1, hp1', hr1, hg1⟩
    have hown2 := hown1.kept hg1 hne0
    clear hown1 hnew hown0
    go_wp2_with fail
    refine (pick_any w _ (w.heap.size + 1) A n c zs p1 13 hr1 (by omega) hn (by omega) (by omega)).mono ?_
    rintro e w2 ⟨y, p2, ⟨hy0, hy1⟩, rfl, hp2, hp2', hr2, hg2⟩
    have hown := hown2.kept hg2 hne0
    clear hown2 hne0 hg1 hg2 hr1
    obtain ⟨m, rfl⟩ := Int.eq_ofNat_of_zero_le hy0
    rcases (show x = 0 ∨ x = 1 by omega) with rfl | rfl
    all_goals clear hx0 hx1
    all_goals
      go_wp2_with fail
      go_loopw [3, 7] (fun v i wr => ∃ (j q : Nat) (us : List Int), j ≤ 12 ∧ i = .int .i64 j ∧ us.length + j ≤ 12 ∧ q + 30 * j ≤ 400 ∧ (∀ u ∈ us, (Lit.int .i32 u).wf = true) ∧ RdAt w wr (w.heap.size + 1) A n c zs q ∧
          wr.ownsRow w.heap.size 21 1 v us.length (us.map (Value.int .i32))) (fun _ i _ => (intOf i).toNat)
      case atStart => exact ⟨m, p2, [], by omega, rfl, by simp; omega, by omega, by simp, hr2, hown⟩
    case round =>
      obtain ⟨j, q, us, hj, rfl, hl, hq, hw, hr, hown⟩ := hrel
      have Hw := Lib.hid hw
      clear hw
      by_cases hlt : 0 < j
      · have hne := (own_ne_rd hown hr.blk (by decide)).symm
        go_wp2_with fail
        refine (fit_any w _ (w.heap.size + 1) A n c zs q hr (by omega) hn).mono ?_
        rintro e w4 ⟨u, q4, hu, rfl, hq4, hq4', hr4, hg4⟩
        have hown4 := hown.kept hg4 (.inr (hne))
        have hsz4 := hr4.bel.size
        have Hu := Lib.hid (wf_snoc Hw.out hu)
        clear hu
        go_wp2_with (at_builtin; refine wpList_app1 w4 rfl _ _ 25 rfl w.heap.size 21 .i32 (.int .i32 0) 4 Try.underlying25 info_i32 rfl _ us u hown4 rfl rfl (by omega) (by omega) hsz4 ?_; intro v' w5 hown5 hg5)
        have hr5 := hr4.grown hg5 (own_ne_rd hown4 hr4.blk (by decide)) (fun k hk => (hown4.lt k hk).1)
        go_roundw
        case rel => exact ⟨j - 1, q4, us ++ [u], by omega, by go_num, by simp; omega, by omega, Hu.out, hr5, hown5⟩
        case measure => simp [intOf]; omega
      · obtain rfl : j = 0 := by omega
        go_wp2_with fail
        go_ret
        exact ⟨us, by omega, Gives.of_own hown Hw.out hr.bel⟩
    case round =>
      obtain ⟨j, q, us, hj, rfl, hl, hq, hw, hr, hown⟩ := hrel
      have Hw := Lib.hid hw
      clear hw
      by_cases hlt : 0 < j
      · have hne := (own_ne_rd hown hr.blk (by decide)).symm
        go_wp2_with fail
        refine (pick_any w _ (w.heap.size + 1) A n c zs q 3 hr (by omega) hn (by omega) (by omega)).mono ?_
        rintro e w3 ⟨t, q3, ⟨ht0, ht1⟩, rfl, hq3, hq3', hr3, hg3⟩
        have hown3 := hown.kept hg3 (.inr hne)
        have hne3 := (own_ne_rd hown3 hr3.blk (by decide)).symm
        by_cases h0 : t = 0
        · subst h0
          go_wp2_with fail
          refine (some_any w _ (w.heap.size + 1) A n c zs q3 hr3 (by omega) hn).mono ?_
          rintro e w4 ⟨u, q4, hu, rfl, hq4, hq4', hr4, hg4⟩
          have hown4 := hown3.kept hg4 (.inr (hne3))
          have hsz4 := hr4.bel.size
          have Hu := Lib.hid (wf_snoc Hw.out hu)
          clear hu
          go_wp2_with (at_builtin; refine wpList_app1 w4 rfl _ _ 25 rfl w.heap.size 21 .i32 (.int .i32 0) 4 Try.underlying25 info_i32 rfl _ us u hown4 rfl rfl (by omega) (by omega) hsz4 ?_; intro v' w5 hown5 hg5)
          have hr5 := hr4.grown hg5 (own_ne_rd hown4 hr4.blk (by decide)) (fun k hk => (hown4.lt k hk).1)
          go_roundw
          case rel => exact ⟨j - 1, q4, us ++ [u], by omega, by go_num, by simp; omega, by omega, Hu.out, hr5, hown5⟩
          case measure => simp [intOf]; omega
        · have h0' : (t == 0) = false := by simpa using h0
          go_wp2_with fail
          refine (fit_any w _ (w.heap.size + 1) A n c zs q3 hr3 (by omega) hn).mono ?_
          rintro e w4 ⟨u, q4, hu, rfl, hq4, hq4', hr4, hg4⟩
          have hown4 := hown3.kept hg4 (.inr (hne3))
          have hsz4 := hr4.bel.size
          have Hu := Lib.hid (wf_snoc Hw.out hu)
          clear hu
          go_wp2_with (at_builtin; refine wpList_app1 w4 rfl _ _ 25 rfl w.heap.size 21 .i32 (.int .i32 0) 4 Try.underlying25 info_i32 rfl _ us u hown4 rfl rfl (by omega) (by omega) hsz4 ?_; intro v' w5 hown5 hg5)
          have hr5 := hr4.grown hg5 (own_ne_rd hown4 hr4.blk (by decide)) (fun k hk => (hown4.lt k hk).1)
          go_roundw
          case rel => exact ⟨j - 1, q4, us ++ [u], by omega, by go_num, by simp; omega, by omega, Hu.out, hr5, hown5⟩
          case measure => simp [intOf]; omega
      · obtain rfl : j = 0 := by omega
        go_wp2_with fail
        go_ret
        exact ⟨us, by omega, Gives.of_own hown Hw.out hr.bel⟩
  · go_wp2_with fail
    go_loopw [3, 4] (fun v i wr => ∃ (j : Nat) (us : List Int), us.length * 4 ≤ j ∧ j < n + 4 ∧ i = .int .i64 (j + 1) ∧ (∀ u ∈ us, (Lit.int .i32 u).wf = true) ∧ Below w.heap.size w wr ∧
        wr.ownsRow w.heap.size 21 1 v us.length (us.map (Value.int .i32))) (fun _ i _ => 2097152 - (intOf i).toNat)
    case atStart => exact ⟨0, [], by simp, by omega, rfl, by simp, (Below.refl _ _).alloc (Nat.le_refl _) _, World.ownsRow_lit w #[] 0 (Nat.le_refl _) (by unfold maxLen; omega) rfl⟩
    case round =>
      obtain ⟨j, us, hl, hj, rfl, hw, hB, hown⟩ := hrel
      have Hw := Lib.hid hw
      clear hw
      by_cases hlt : j + 4 < n
      · obtain ⟨b1, o1, rfl, hb1⟩ := h.some_ (by omega)
        have r1 := (h.cut (j + 1) (j + 5) (by omega) (by omega)).below hB (Nat.le_refl _)
        rw [show j + 5 - (j + 1) = 4 by omega] at r1
        have hsz := hB.size
        go_wp2_with fail
        refine (number_any _ _ _ _ _ r1 (by omega)).mono ?_
        rintro e w2 ⟨rfl, rfl⟩
        generalize num _ = x
        have Hu := Lib.hid (wf_snoc Hw.out (wrap32_wf x))
        go_wp2_with (at_builtin; refine wpList_app1 wr rfl _ _ 25 rfl w.heap.size 21 .i32 (.int .i32 0) 4 Try.underlying25 info_i32 rfl _ us (wrap32 x) hown rfl rfl (by omega) (by omega) hsz ?_; intro v' w5 hown5 hg5)
        go_roundw
        case rel => exact ⟨j + 4, us ++ [wrap32 x], by simp; omega, by omega, by go_num, Hu.out, hB.grown hg5 hsz (fun k hk => (hown.lt k hk).1), hown5⟩
        case measure => simp [intOf]; omega
      · go_wp2_with fail
        go_ret
        exact ⟨us, by omega, Gives.of_own hown Hw.out hB⟩

end Go.Proofs.Ytinmgkimbdcnhaa
