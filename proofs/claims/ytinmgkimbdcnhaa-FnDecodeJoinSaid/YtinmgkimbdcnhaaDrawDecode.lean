/-
  The drawing of a list of code units.
-/
import Derived.Test.YtinmgkimbdcnhaaDrawRune
import Derived.Test.YtinmgkimbdcnhaaUnits
namespace Go.Proofs.Ytinmgkimbdcnhaa
open Go.RowKit

theorem info_u16d : (Try.prog.info? 29).map (fun i => (i.zero, i.size, i.bytes)) = some (some (.int .u16 0), 1, 2) := by kernel_rfl

/-- some list of code units, of at most m, is handed back; what was there is as it was -/
def SomeUnits (m : Nat) (w : World) (e : Ending) (w' : World) : Prop := ∃ us : List Int, us.length ≤ m ∧ Gives .u16 w us e w'

theorem wf_snoc' {k : IntKind} {us : List Int} {u : Int} (h : ∀ x ∈ us, (Lit.int k x).wf = true) (hu : (Lit.int k u).wf = true) : ∀ x ∈ us ++ [u], (Lit.int k x).wf = true := by
  intro x hx
  rcases List.mem_append.1 hx with h1 | h1
  · exact h x h1
  · rw [List.mem_singleton.1 h1]; exact hu

theorem wf_appd {k : IntKind} {us vs : List Int} (h : ∀ x ∈ us, (Lit.int k x).wf = true) (h' : ∀ x ∈ vs, (Lit.int k x).wf = true) : ∀ x ∈ us ++ vs, (Lit.int k x).wf = true := by
  intro x hx
  rcases List.mem_append.1 hx with h1 | h1
  · exact h x h1
  · exact h' x h1

/-- a row of numbers beside rd: the blocks differ by their element types -/
theorem own_ne_rd' {w : World} {base g E T : Nat} {v : Value} {n : Nat} {xs : List Value} {cs : Array Value} (h : w.ownsRow base E 1 v n xs) (hg : w.heap[g]? = some (.cells cs T (0, 0))) (hne : E ≠ T) : some g ≠ v.ownBlock := by
  rcases h.2 with ⟨rfl, _⟩ | ⟨g', cap, cur, rfl, _, hh, _⟩
  · simp [Value.ownBlock]
  · intro he
    have : g = g' := by simpa [Value.ownBlock] using he
    subst this
    rw [hh] at hg
    injection hg with hg
    injection hg with _ ht
    exact hne ht

theorem RdAt.newd {w W : World} {A : Option Addr} {n c : Nat} {zs : List Int} (h : Rd .u8 w A n c zs) (hb : Below w.heap.size w W) : RdAt w (W.alloc (.cells #[.slice A n c, .int .i64 0] 51)) W.heap.size A n c zs 0 :=
  ⟨h, hb.alloc hb.size _, hb.size, heap_alloc_new W _⟩

theorem RdAt.below {w0 w w' : World} {g : Nat} {A : Option Addr} {n c : Nat} {zs : List Int} {p : Nat} (h : RdAt w0 w g A n c zs p) (hb : Below w.heap.size w w') : RdAt w0 w' g A n c zs p :=
  ⟨h.rd, h.bel.trans (hb.mono h.bel.size), h.gle, (hb.block g h.lt).trans h.blk⟩

set_option maxHeartbeats 3200000 in
theorem drawDecode_any (w : World) (A : Option Addr) (n c : Nat) (zs : List Int) (h : Rd .u8 w A n c zs) (hn : n ≤ 1048576) :
    Calls Try.prog 15 #[.slice A n c] w (SomeUnits 1048576 w) := by
  have hc := h.cap
  have h1 := h.alloc (.cells #[] 29)
  go_enter Try.func15, Try.ntmps15
  go_wp2_with fail
  refine (raw_any _ A n c zs h1 hn).mono ?_
  rintro e w' ⟨b, hb, rfl, rfl⟩
  cases b
  · clear hb
    have hnew := RdAt.newd (W := w.alloc (.cells #[] 29)) h ((Below.refl _ _).alloc (Nat.le_refl _) _)
    rw [World.size_alloc] at hnew
    have hown0 : (w.alloc (.cells #[] 29)).ownsRow w.heap.size 29 1 (.slice (some ⟨w.heap.size, 0, none⟩) 0 0) 0 [] := World.ownsRow_lit w #[] 0 (Nat.le_refl _) (by unfold maxLen; omega) rfl
    have hown1 := hown0.alloc (.cells #[.slice A n c, .int .i64 0] 51)
    have hne0 : (Value.slice (some ⟨w.heap.size, 0, none⟩) 0 0).ownBlock = none ∨ (Value.slice (some ⟨w.heap.size, 0, none⟩) 0 0).ownBlock ≠ some (w.heap.size + 1) := by right; simp [Value.ownBlock]
    go_wp2_with fail
    refine (pick_any w _ (w.heap.size + 1) A n c zs 0 13 hnew (by omega) hn (by omega) (by omega)).mono ?_
    rintro e w2 ⟨y, p2, ⟨hy0, hy1⟩, rfl, hp2, hp2', hr2, hg2⟩
    have hown := hown1.kept hg2 hne0
    clear hown1 hnew hown0 hne0 hg2
    obtain ⟨m, rfl⟩ := Int.eq_ofNat_of_zero_le hy0
    go_wp2_with fail
    go_loopw [3, 6] (fun v i wr => ∃ (j q : Nat) (us : List Int), j ≤ 12 ∧ i = .int .i64 j ∧ us.length + 2 * j ≤ 24 ∧ q + 30 * j ≤ 400 ∧ (∀ u ∈ us, (Lit.int .u16 u).wf = true) ∧ RdAt w wr (w.heap.size + 1) A n c zs q ∧
        wr.ownsRow w.heap.size 29 1 v us.length (us.map (Value.int .u16))) (fun _ i _ => (intOf i).toNat)
    case atStart => exact ⟨m, p2, [], by omega, rfl, by simp; omega, by omega, by simp, hr2, hown⟩
    case round =>
      obtain ⟨j, q, us, hj, rfl, hl, hq, hw, hr, hown⟩ := hrel
      have Hw := Lib.hid hw
      clear hw
      by_cases hlt : 0 < j
      · have hne := (own_ne_rd' hown hr.blk (by decide)).symm
        go_wp2_with fail
        refine (pick_any w _ (w.heap.size + 1) A n c zs q 4 hr (by omega) hn (by omega) (by omega)).mono ?_
        rintro e w3 ⟨t, q3, ⟨ht0, ht1⟩, rfl, hq3, hq3', hr3, hg3⟩
        have hown3 := hown.kept hg3 (.inr hne)
        have hne3 := (own_ne_rd' hown3 hr3.blk (by decide)).symm
        clear hg3 hne
        rcases (show t = 0 ∨ t = 1 ∨ t = 2 ∨ t = 3 by omega) with rfl | rfl | rfl | rfl
        all_goals clear ht0 ht1
        · go_wp2_with fail
          refine (pick_any w _ (w.heap.size + 1) A n c zs q3 8 hr3 (by omega) hn (by omega) (by omega)).mono ?_
          rintro e w4 ⟨x, q4, ⟨hx0, hx1⟩, rfl, hq4, hq4', hr4, hg4⟩
          have hown4 := hown3.kept hg4 (.inr hne3)
          have hne4 := (own_ne_rd' hown4 hr4.blk (by decide)).symm
          go_wp2_with fail
          refine (pick_any w _ (w.heap.size + 1) A n c zs q4 256 hr4 (by omega) hn (by omega) (by omega)).mono ?_
          rintro e w6 ⟨y, q6, ⟨hy0, hy1⟩, rfl, hq6, hq6', hr6, hg6⟩
          have hown6 := hown4.kept hg6 (.inr hne4)
          have hsz := hr6.bel.size
          have Hu := Lib.hid (wf_snoc' (u := 55296 + (x * 256 + y)) Hw.out (wf_u16.2 (by omega)))
          go_wp2_with (at_builtin; refine wpList_app1 w6 rfl _ _ 23 rfl w.heap.size 29 .u16 (.int .u16 0) 2 Try.underlying23 info_u16d rfl _ us (55296 + (x * 256 + y)) hown6 rfl rfl (by omega) (by omega) hsz ?_; intro v' w5 hown5 hg5)
          have hr5 := hr6.grown hg5 (own_ne_rd' hown6 hr6.blk (by decide)) (fun k hk => (World.ownsRow.lt hown6 k hk).1)
          go_roundw
          case rel => exact ⟨j - 1, q6, us ++ [55296 + (x * 256 + y)], by omega, by go_num, by simp; omega, by omega, Hu.out, hr5, hown5⟩
          case measure => simp [intOf]; omega
        · go_wp2_with fail
          refine (border_any w _ (w.heap.size + 1) A n c zs q3 hr3 (by omega) hn).mono ?_
          rintro e w4 ⟨x, q4, hx, rfl, hq4, hq4', hr4, hg4⟩
          have hown4 := hown3.kept hg4 (.inr hne3)
          have hsz := hr4.bel.size
          have Hu := Lib.hid (wf_snoc' (u := x % 65536) Hw.out (wf_u16.2 (by omega)))
          clear hx
          go_wp2_with (at_builtin; refine wpList_app1 w4 rfl _ _ 23 rfl w.heap.size 29 .u16 (.int .u16 0) 2 Try.underlying23 info_u16d rfl _ us (x % 65536) hown4 rfl rfl (by omega) (by omega) hsz ?_; intro v' w5 hown5 hg5)
          have hr5 := hr4.grown hg5 (own_ne_rd' hown4 hr4.blk (by decide)) (fun k hk => (World.ownsRow.lt hown4 k hk).1)
          go_roundw
          case rel => exact ⟨j - 1, q4, us ++ [x % 65536], by omega, by go_num, by simp; omega, by omega, Hu.out, hr5, hown5⟩
          case measure => simp [intOf]; omega
        iterate 2
          · go_wp2_with fail
            refine (fit_any w _ (w.heap.size + 1) A n c zs q3 hr3 (by omega) hn).mono ?_
            rintro e w4 ⟨x, q4, hx, rfl, hq4, hq4', hr4, hg4⟩
            have hown4 := hown3.kept hg4 (.inr hne3)
            clear hx
            go_wp2_with fail
            refine (units_any x _).mono ?_
            rintro e w6 ⟨B, l, d, rfl, hB, hb6⟩
            have hl2 : l ≤ 2 := by have := hB.len; have := U.units_len x; omega
            have hlen := hB.len
            have Hlen := Lib.hid hlen
            clear hlen
            have hr6 := hr4.below hb6
            have ho6 := Own.below (k := .u16) (us := us) hown4 hb6
            have hsz := hr6.bel.size
            have Hu := Lib.hid (wf_appd Hw.out (units_wf x))
            go_wp2_with (at_builtin; refine wpList_appS w6 rfl _ _ 23 rfl w.heap.size 29 .u16 (.int .u16 0) 2 Try.underlying23 info_u16d rfl _ us ho6 _ l d (U.units x) hB rfl rfl (by omega) (by omega) hsz ?_; intro v' w5 hg5)
            have hr5 := hr6.grown hg5.2 (own_ne_rd' ho6 hr6.blk (by decide)) (fun k hk => (World.ownsRow.lt ho6 k hk).1)
            go_roundw
            case rel => exact ⟨j - 1, q4, us ++ U.units x, by omega, by go_num, by rw [List.length_append, Hlen.out]; omega, by omega, Hu.out, hr5, hg5.own⟩
            case measure => simp [intOf]; omega
      · obtain rfl : j = 0 := by omega
        go_wp2_with fail
        go_ret
        exact ⟨us, by omega, Gives.of_own hown Hw.out hr.bel⟩
  · go_wp2_with fail
    go_loopw [3, 4] (fun v i wr => ∃ (j : Nat) (us : List Int), us.length * 2 ≤ j ∧ j < n + 2 ∧ i = .int .i64 (j + 1) ∧ (∀ u ∈ us, (Lit.int .u16 u).wf = true) ∧ Below w.heap.size w wr ∧
        wr.ownsRow w.heap.size 29 1 v us.length (us.map (Value.int .u16))) (fun _ i _ => 2097152 - (intOf i).toNat)
    case atStart => exact ⟨0, [], by simp, by omega, rfl, by simp, (Below.refl _ _).alloc (Nat.le_refl _) _, World.ownsRow_lit w #[] 0 (Nat.le_refl _) (by unfold maxLen; omega) rfl⟩
    case round =>
      obtain ⟨j, us, hl, hj, rfl, hw, hB, hown⟩ := hrel
      have Hw := Lib.hid hw
      clear hw
      by_cases hlt : j + 2 < n
      · obtain ⟨b1, o1, rfl, hb1⟩ := h.some_ (by omega)
        have r1 := (h.cut (j + 1) (j + 3) (by omega) (by omega)).below hB (Nat.le_refl _)
        rw [show j + 3 - (j + 1) = 2 by omega] at r1
        have hsz := hB.size
        go_wp2_with fail
        refine (number_any _ _ _ _ _ r1 (by omega)).mono ?_
        rintro e w2 ⟨rfl, rfl⟩
        generalize num _ = x
        have Hu := Lib.hid (wf_snoc' (u := x % 65536) Hw.out (wf_u16.2 (by omega)))
        go_wp2_with (at_builtin; refine wpList_app1 wr rfl _ _ 23 rfl w.heap.size 29 .u16 (.int .u16 0) 2 Try.underlying23 info_u16d rfl _ us (x % 65536) hown rfl rfl (by omega) (by omega) hsz ?_; intro v' w5 hown5 hg5)
        go_roundw
        case rel => exact ⟨j + 2, us ++ [x % 65536], by simp; omega, by omega, by go_num, Hu.out, hB.grown hg5 hsz (fun k hk => (hown.lt k hk).1), hown5⟩
        case measure => simp [intOf]; omega
      · go_wp2_with fail
        go_ret
        exact ⟨us, by omega, Gives.of_own hown Hw.out hB⟩

end Go.Proofs.Ytinmgkimbdcnhaa
