/-
  The drawing of two numbers.
-/
import Derived.Test.YtinmgkimbdcnhaaDrawRune
namespace Go.Proofs.Ytinmgkimbdcnhaa
open Go.RowKit

theorem quiet_left {P : Program} {f : FuncId} {args : Array Value} {w : World} {n : Nat} {v : Value}
    (h : Calls P f args (w.drewN n) fun e w' => e = .returned v ∧ w.drewN n = w') : Calls P f args (w.drewN n) fun e w'' => e = .returned v ∧ ∃ m, w'' = w.drewN m :=
  h.mono fun _ _ ⟨he, hm⟩ => ⟨he, n, hm.symm⟩

theorem er_wf (r : Int) : (Lit.int .i32 (U.er1 r)).wf = true ∧ (Lit.int .i32 (U.er2 r)).wf = true := by
  rw [wf_i32, wf_i32]
  unfold U.er1 U.er2
  split <;> omega

set_option maxHeartbeats 3200000 in
theorem drawDecodeRune_any (w : World) (A : Option Addr) (n c : Nat) (zs : List Int) (h : Rd .u8 w A n c zs) (hn : n ≤ 1048576) :
    Calls Try.prog 21 #[.slice A n c] w (SomeRunes w) := by
  have hc := h.cap
  by_cases h9 : n = 9
  · subst h9
    obtain ⟨b1, o1, rfl, hb1⟩ := h.some_ (by omega)
    have r1 := h.cut 1 5 (by omega) (by omega)
    have r2 := h.cut 5 9 (by omega) (by omega)
    generalize (List.drop 1 zs).take (5 - 1) = z1 at r1
    generalize (List.drop 5 zs).take (9 - 5) = z2 at r2
    go_enter Try.func21, Try.ntmps21
    go_wp2_with fail
    refine (raw_any _ _ 9 c zs h hn).mono ?_
    rintro e w' ⟨b, hb, rfl, rfl⟩
    cases b
    · clear hb r1 r2
      go_wp2_with fail
      refine (some_any w _ w.heap.size _ _ c zs 0 (RdAt.new h) (by omega) hn).mono ?_
      rintro e w1 ⟨x, p1, hx, rfl, hp1, hp1', hr1, hg1⟩
      have Hx := Lib.hid hx
      clear hx
      go_wp2_with fail
      refine (some_any w _ w.heap.size _ _ c zs p1 hr1 (by omega) hn).mono ?_
      rintro e w2 ⟨y, p2, hy, rfl, hp2, hp2', hr2, hg2⟩
      have Hy := Lib.hid hy
      clear hy
      go_wp2_with fail
      refine (pick_any w _ w.heap.size _ _ c zs p2 4 hr2 (by omega) hn (by omega) (by omega)).mono ?_
      rintro e w3 ⟨z, p3, ⟨hz, hz'⟩, rfl, hp3, hp3', hr3, hg3⟩
      rcases (show z = 0 ∨ z = 1 ∨ z = 2 ∨ z = 3 by omega) with rfl | rfl | rfl | rfl
      all_goals clear hz hz'
      iterate 2
        · go_wp2_with fail
          refine (pick_any w _ w.heap.size _ _ c zs p3 4 hr3 (by omega) hn (by omega) (by omega)).mono ?_
          rintro e w4 ⟨x4, p4, ⟨hx4, hx4'⟩, rfl, hp4, hp4', hr4, hg4⟩
          go_wp2_with fail
          refine (pick_any w _ w.heap.size _ _ c zs p4 256 hr4 (by omega) hn (by omega) (by omega)).mono ?_
          rintro e w5 ⟨x5, p5, ⟨hx5, hx5'⟩, rfl, hp5, hp5', hr5, hg5⟩
          go_wp2_with fail
          refine (pick_any w _ w.heap.size _ _ c zs p5 4 hr5 (by omega) hn (by omega) (by omega)).mono ?_
          rintro e w6 ⟨x6, p6, ⟨hx6, hx6'⟩, rfl, hp6, hp6', hr6, hg6⟩
          go_wp2_with fail
          refine (pick_any w _ w.heap.size _ _ c zs p6 256 hr6 (by omega) hn (by omega) (by omega)).mono ?_
          rintro e w7 ⟨x7, p7, ⟨hx7, hx7'⟩, rfl, hp7, hp7', hr7, hg7⟩
          go_wp2_with fail
          refine (pick_any w _ w.heap.size _ _ c zs p7 8 hr7 (by omega) hn (by omega) (by omega)).mono ?_
          rintro e w8 ⟨t, p8, ⟨ht, ht'⟩, rfl, hp8, hp8', hr8, hg8⟩
          by_cases h0 : t = 0
          · subst h0
            go_wp2_with fail
            go_ret2
            exact ⟨_, _, wf_i32.2 (by omega), wf_i32.2 (by omega), rfl, hr8.bel⟩
          · have h0' : (t == 0) = false := by simpa using h0
            go_wp2_with fail
            go_ret2
            exact ⟨_, _, wf_i32.2 (by omega), wf_i32.2 (by omega), rfl, hr8.bel⟩
      · go_wp2_with fail
        refine (fit_any w _ w.heap.size _ _ c zs p3 hr3 (by omega) hn).mono ?_
        rintro e w4 ⟨f, p4, hf, rfl, hp4, hp4', hr4, hg4⟩
        have Hf := Lib.hid (er_wf f)
        clear hf
        go_wp2_with fail
        refine (sEncodeRune_any f _).mono ?_
        rintro e w5 ⟨rfl, rfl⟩
        go_wp2_with fail
        refine (pick_any w _ w.heap.size _ _ c zs p4 8 hr4 (by omega) hn (by omega) (by omega)).mono ?_
        rintro e w8 ⟨t, p8, ⟨ht, ht'⟩, rfl, hp8, hp8', hr8, hg8⟩
        by_cases h0 : t = 0
        · subst h0
          go_wp2_with fail
          go_ret2
          exact ⟨_, _, Hf.out.2, Hf.out.1, rfl, hr8.bel⟩
        · have h0' : (t == 0) = false := by simpa using h0
          go_wp2_with fail
          go_ret2
          exact ⟨_, _, Hf.out.1, Hf.out.2, rfl, hr8.bel⟩
      · go_wp2_with fail
        refine (pick_any w _ w.heap.size _ _ c zs p3 8 hr3 (by omega) hn (by omega) (by omega)).mono ?_
        rintro e w8 ⟨t, p8, ⟨ht, ht'⟩, rfl, hp8, hp8', hr8, hg8⟩
        by_cases h0 : t = 0
        · subst h0
          go_wp2_with fail
          go_ret2
          exact ⟨_, _, Hy.out, Hx.out, rfl, hr8.bel⟩
        · have h0' : (t == 0) = false := by simpa using h0
          go_wp2_with fail
          go_ret2
          exact ⟨_, _, Hx.out, Hy.out, rfl, hr8.bel⟩
    · clear hb
      go_wp2_with fail
      go_quiet (first | (go_at_call 37; exact quiet_left (number_any _ _ _ _ z1 (r1.drewN _) (by omega))) | (go_at_call 37; exact quiet_left (number_any _ _ _ _ z2 (r2.drewN _) (by omega))))
      go_wp2_with fail
      go_ret2
      exact ⟨_, _, wrap32_wf _, wrap32_wf _, rfl, bel_drewN (Below.refl _ _) _⟩
  · have h9' : ((n : Int) == 9) = false := by simp; omega
    go_enter Try.func21, Try.ntmps21
    go_wp2_with fail
    refine (raw_any _ _ n c zs h hn).mono ?_
    rintro e w' ⟨b, hb, rfl, rfl⟩
    clear hb
    cases b
    all_goals
      go_wp2_with fail
      refine (some_any w _ w.heap.size _ _ c zs 0 (RdAt.new h) (by omega) hn).mono ?_
      rintro e w1 ⟨x, p1, hx, rfl, hp1, hp1', hr1, hg1⟩
      have Hx := Lib.hid hx
      clear hx
      go_wp2_with fail
      refine (some_any w _ w.heap.size _ _ c zs p1 hr1 (by omega) hn).mono ?_
      rintro e w2 ⟨y, p2, hy, rfl, hp2, hp2', hr2, hg2⟩
      have Hy := Lib.hid hy
      clear hy
      go_wp2_with fail
      refine (pick_any w _ w.heap.size _ _ c zs p2 4 hr2 (by omega) hn (by omega) (by omega)).mono ?_
      rintro e w3 ⟨z, p3, ⟨hz, hz'⟩, rfl, hp3, hp3', hr3, hg3⟩
      rcases (show z = 0 ∨ z = 1 ∨ z = 2 ∨ z = 3 by omega) with rfl | rfl | rfl | rfl
      all_goals clear hz hz'
      iterate 2
        · go_wp2_with fail
          refine (pick_any w _ w.heap.size _ _ c zs p3 4 hr3 (by omega) hn (by omega) (by omega)).mono ?_
          rintro e w4 ⟨x4, p4, ⟨hx4, hx4'⟩, rfl, hp4, hp4', hr4, hg4⟩
          go_wp2_with fail
          refine (pick_any w _ w.heap.size _ _ c zs p4 256 hr4 (by omega) hn (by omega) (by omega)).mono ?_
          rintro e w5 ⟨x5, p5, ⟨hx5, hx5'⟩, rfl, hp5, hp5', hr5, hg5⟩
          go_wp2_with fail
          refine (pick_any w _ w.heap.size _ _ c zs p5 4 hr5 (by omega) hn (by omega) (by omega)).mono ?_
          rintro e w6 ⟨x6, p6, ⟨hx6, hx6'⟩, rfl, hp6, hp6', hr6, hg6⟩
          go_wp2_with fail
          refine (pick_any w _ w.heap.size _ _ c zs p6 256 hr6 (by omega) hn (by omega) (by omega)).mono ?_
          rintro e w7 ⟨x7, p7, ⟨hx7, hx7'⟩, rfl, hp7, hp7', hr7, hg7⟩
          go_wp2_with fail
          refine (pick_any w _ w.heap.size _ _ c zs p7 8 hr7 (by omega) hn (by omega) (by omega)).mono ?_
          rintro e w8 ⟨t, p8, ⟨ht, ht'⟩, rfl, hp8, hp8', hr8, hg8⟩
          by_cases h0 : t = 0
          · subst h0
            go_wp2_with fail
            go_ret2
            exact ⟨_, _, wf_i32.2 (by omega), wf_i32.2 (by omega), rfl, hr8.bel⟩
          · have h0' : (t == 0) = false := by simpa using h0
            go_wp2_with fail
            go_ret2
            exact ⟨_, _, wf_i32.2 (by omega), wf_i32.2 (by omega), rfl, hr8.bel⟩
      · go_wp2_with fail
        refine (fit_any w _ w.heap.size _ _ c zs p3 hr3 (by omega) hn).mono ?_
        rintro e w4 ⟨f, p4, hf, rfl, hp4, hp4', hr4, hg4⟩
        have Hf := Lib.hid (er_wf f)
        clear hf
        go_wp2_with fail
        refine (sEncodeRune_any f _).mono ?_
        rintro e w5 ⟨rfl, rfl⟩
        go_wp2_with fail
        refine (pick_any w _ w.heap.size _ _ c zs p4 8 hr4 (by omega) hn (by omega) (by omega)).mono ?_
        rintro e w8 ⟨t, p8, ⟨ht, ht'⟩, rfl, hp8, hp8', hr8, hg8⟩
        by_cases h0 : t = 0
        · subst h0
          go_wp2_with fail
          go_ret2
          exact ⟨_, _, Hf.out.2, Hf.out.1, rfl, hr8.bel⟩
        · have h0' : (t == 0) = false := by simpa using h0
          go_wp2_with fail
          go_ret2
          exact ⟨_, _, Hf.out.1, Hf.out.2, rfl, hr8.bel⟩
      · go_wp2_with fail
        refine (pick_any w _ w.heap.size _ _ c zs p3 8 hr3 (by omega) hn (by omega) (by omega)).mono ?_
        rintro e w8 ⟨t, p8, ⟨ht, ht'⟩, rfl, hp8, hp8', hr8, hg8⟩
        by_cases h0 : t = 0
        · subst h0
          go_wp2_with fail
          go_ret2
          exact ⟨_, _, Hy.out, Hx.out, rfl, hr8.bel⟩
        · have h0' : (t == 0) = false := by simpa using h0
          go_wp2_with fail
          go_ret2
          exact ⟨_, _, Hx.out, Hy.out, rfl, hr8.bel⟩

end Go.Proofs.Ytinmgkimbdcnhaa
