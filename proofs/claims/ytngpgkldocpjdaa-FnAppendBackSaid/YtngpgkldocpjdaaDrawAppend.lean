/-
  The drawing of the arguments of AppendRune.
-/
import Derived.Test.YtngpgkldocpjdaaDrawDecode
import Derived.Deep.RegionLaw
namespace Go.Proofs.Ytngpgkldocpjdaa
open Go.RowKit

/-- some list of code units and some number are handed back; what was there is as it was -/
def SomePair (w : World) (e : Ending) (w' : World) : Prop :=
  ∃ (us : List Int) (x : Int) (A : Option Addr) (n c : Nat), us.length ≤ 1048576 ∧ (Lit.int .i32 x).wf = true ∧ e = .returned (.tuple #[.slice A n c, .int .i32 x]) ∧ Rd .u16 w' A n c us ∧ Below w.heap.size w w'

theorem info_u8 : (Try.prog.info? 5).map (fun i => (i.zero, i.size, i.bytes)) = some (some (.int .u8 0), 1, 1) := by kernel_rfl

theorem Own.rdn {k : IntKind} {E : TypeId} {w : World} {base : Nat} {v : Value} {us : List Int} (h : Own k E w base v us) (hw : ∀ u ∈ us, (Lit.int k u).wf = true) : ∃ A n c, v = .slice A n c ∧ Rd k w A n c us := by
  obtain ⟨A, c, e, hr⟩ := h.rd hw
  exact ⟨A, _, c, e, hr⟩

/-- AT A STEP OF A REGION THAT DRAWS: 'append(out, xs...)' -/
theorem step_appS {P : Program} {w : World} {ops : Array Oper} {o : Oper} {a : Act} {K : Act → World → Prop} {Q : Exit → Act → World → Prop} {F : Prop} (hgd : o.guard = none) (s x : Operand) (t : TypeId)
    (ho : o.op = .call { callee := .builtin .append, args := #[s, x], argTypes := #[t, t] })
    (base : Nat) (E : TypeId) (k : IntKind) (z : Value) (bytes : Nat) (ht : P.underlying t = some (.slice E)) (hi : (P.info? E).map (fun i => (i.zero, i.size, i.bytes)) = some (some z, 1, bytes)) (hzs : z.cells.size = 1)
    (v : Value) (us : List Int) (hown : Own k E w base v us) (A : Option Addr) (m c : Nat) (vs : List Int) (hr : Rd k w A m c vs) (hs : a.eval s = v) (hx : a.eval x = .slice A m c)
    (hbytes : (us.length + m) * bytes ≤ 140737488355328) (hpos : 0 < bytes) (hbase : base ≤ w.heap.size)
    (h : ∀ v' w', Grew k E w base v (us ++ vs) v' w' → K (a.put o.dst v') w') : if Region.wanted o (yielded ops a.tmps) = true then Oper.wp P o a w K Q else F := by
  have hw : Region.wanted o (yielded ops a.tmps) = true := by simp [Region.wanted, hgd]
  rw [if_pos hw]
  obtain ⟨v', w', hrun, h2⟩ := run_appS (P := P) w t o.type E k z bytes base ht hi hzs v us hown A m c vs hr hbytes hpos hbase
  unfold Oper.wp execOp
  simp only [ho, resolve, invoke, builtin, Sem.run_bind, Sem.run_pure, Result.andThen_ok, List.map_toArray, List.map_cons, List.map_nil, hs, hx, hrun]
  exact h v' w' h2

theorem wrapi32_wf (x : Int) : (Lit.int .i32 (IntKind.i32.wrap x)).wf = true := by
  rw [wf_i32, IntKind.wrap_i32]; omega

theorem after_app {E : TypeId} {w w1 : World} {o : Obj} {v v' : Value} {us vs : List Int} {m : Nat} (hg : Grew .u8 E (w.alloc o).drew w.heap.size v (us ++ vs) v' w1) (ho : Own .u8 E (w.alloc o) w.heap.size v us)
    (hz : ∀ u ∈ us ++ vs, (Lit.int .u8 u).wf = true) (hl : us.length + vs.length ≤ m) : ∃ A n c, v' = .slice A n c ∧ Rd .u8 w1 A n c (us ++ vs) ∧ Below w.heap.size w w1 ∧ n ≤ m := by
  obtain ⟨A, n, c, e, hr⟩ := hg.own.rdn hz
  refine ⟨A, n, c, e, hr, hg.bel ((Below.refl w.heap.size w).alloc (Nat.le_refl _) _).drew (xs := us) ho (Nat.le_refl _), ?_⟩
  have := hr.len
  rw [List.length_append] at this
  omega

set_option maxHeartbeats 3200000 in
theorem drawAppendRune_any (w : World) (A : Option Addr) (n c : Nat) (zs : List Int) (h : Rd .u8 w A n c zs) (hn : n ≤ 1048576) :
    Calls Try.prog 22 #[.slice A n c] w (SomePair w) := by
  have hc := h.cap
  by_cases h5 : 5 ≤ n
  · obtain ⟨b1, o1, rfl, hb1⟩ := h.some_ (by omega)
    have h5' : (5 : Int) ≤ (n : Int) := by omega
    go_enter Try.func22, Try.ntmps22
    go_wp2_with fail
    refine (raw_any _ _ n c zs h hn).mono ?_
    rintro e w' ⟨b, hb, rfl, rfl⟩
    clear hb
    cases b
    · go_wp2_with fail
      refine (some_any w _ w.heap.size _ n c zs 0 (RdAt.new h) (by omega) hn).mono ?_
      rintro e w2 ⟨x, p2, hx, rfl, hp2, hp2', hr2, hg2⟩
      have Hx := Lib.hid hx
      clear hx
      have r1 := (h.cut 1 n (by omega) (by omega)).below hr2.bel (Nat.le_refl _)
      go_wp2_with fail
      refine (drawDecode_any _ _ _ _ _ r1 (by omega)).mono ?_
      rintro e w3 ⟨us, hl, B, m, d, rfl, hB, hb3⟩
      go_wp2_with fail
      go_ret2
      exact ⟨us, x, B, m, d, hl, Hx.out, rfl, hB, bel_then hr2.bel hb3⟩
    · have r1 := h.cut 1 5 (by omega) (by omega)
      have ho := World.ownsRow_lit (base := w.heap.size) (e := 5) (size := 1) w #[.int .u8 0] 1 (Nat.le_refl _) (by unfold maxLen; omega) rfl
      have ho' : Own .u8 5 (w.alloc (.cells #[.int .u8 0] 5)) w.heap.size (.slice (some ⟨w.heap.size, 0, none⟩) 1 1) [0] := ho
      clear ho
      have i1 : (5 : Int) ≤ (c : Int) := by omega
      have i2 : (n : Int) ≤ (c : Int) := by omega
      have i3 : (1 : Int) ≤ (n : Int) := by omega
      rw [show 5 - 1 = 4 from rfl] at r1
      have hc1 : ¬ c = 1 := by omega
      by_cases hc5 : c = 5
      · subst hc5
        obtain rfl : n = 5 := by omega
        have hB0 : Rd .u8 (w.alloc (.cells #[.int .u8 0] 5)) (some ⟨w.heap.size, 0, none⟩) 1 1 [0] := rd_new w [0] (by intro u hu; rw [List.mem_singleton.1 hu]; rfl)
        have hb1 : Below w.heap.size w (w.alloc (.cells #[.int .u8 0] 5)).drew := ((Below.refl w.heap.size w).alloc (Nat.le_refl _) _).drew
        clear ho'
        go_wp2_with fail
        go_region_law (first | (go_simp; go_at_call 18; refine (drawDecode_any _ _ _ _ _ (by exact hB0) (by omega)).mono ?_; rintro e w3 ⟨us, hus, C, m, f, rfl, hC, hb3⟩) | (go_simp; go_at_call 37; refine (number_any _ _ _ _ _ (r1.below (bel_then hb1 hb3) (Nat.le_refl _)) (by omega)).mono ?_; rintro e w4 ⟨rfl, rfl⟩))
        go_simp
        go_wp2_with fail
        go_ret2
        exact ⟨us, _, C, m, f, hus, wrapi32_wf _, rfl, hC, bel_then hb1 hb3⟩
      · have r5 := (h.cut 5 n (by omega) (by omega)).alloc (.cells #[.int .u8 0] 5)
        have i4 : (5 : Int) < (c : Int) := by omega
        have hz : ∀ u ∈ [0] ++ (List.drop 5 zs).take (n - 5), (Lit.int .u8 u).wf = true := by
          intro u hu
          rcases List.mem_append.1 hu with h1 | h1
          · rw [List.mem_singleton.1 h1]; rfl
          · exact r5.wf u h1
        generalize (List.drop 5 zs).take (n - 5) = z5 at r5 hz
        have Hz := Lib.hid hz
        clear hz
        have hlz : [(0 : Int)].length + z5.length ≤ 1048576 := by have := r5.len; simp; omega
        go_wp2_with fail
        go_region_law (first | (refine step_appS rfl (.tmp 13) (.tmp 15) 22 rfl w.heap.size 5 .u8 (.int .u8 0) 1 Try.underlying22 info_u8 rfl (.slice (some ⟨w.heap.size, 0, none⟩) 1 1) [0] (by exact ho') _ (n - 5) (c - 5) z5 (by exact r5) (by rfl) (by rfl) (by simp; omega) (by omega) (by simp) ?_; intro v' w1 hg1; obtain ⟨B, l, d, rfl, hB, hb1, hlb⟩ := after_app (m := 1048576) hg1 ho' Hz.out hlz) | (go_simp; go_at_call 18; refine (drawDecode_any _ _ _ _ _ hB hlb).mono ?_; rintro e w3 ⟨us, hus, C, m, f, rfl, hC, hb3⟩) | (go_simp; go_at_call 37; refine (number_any _ _ _ _ _ (r1.below (bel_then hb1 hb3) (Nat.le_refl _)) (by omega)).mono ?_; rintro e w4 ⟨rfl, rfl⟩))
        go_simp
        go_wp2_with fail
        go_ret2
        exact ⟨us, _, C, m, f, hus, wrapi32_wf _, rfl, hC, bel_then hb1 hb3⟩
  · by_cases h2 : n < 2
    · go_enter Try.func22, Try.ntmps22
      go_wp2_with fail
      refine (raw_any _ _ n c zs h hn).mono ?_
      rintro e w' ⟨b, hb, rfl, rfl⟩
      clear hb
      cases b
      all_goals
        go_wp2_with fail
        refine (some_any w _ w.heap.size _ n c zs 0 (RdAt.new h) (by omega) hn).mono ?_
        rintro e w2 ⟨x, p2, hx, rfl, hp2, hp2', hr2, hg2⟩
        have Hx := Lib.hid hx
        clear hx
        go_wp2_with fail
        go_ret2
        exact ⟨[], x, _, 0, 0, by simp, Hx.out, rfl, Rd.nil, hr2.bel.alloc hr2.bel.size _⟩
    · obtain ⟨b1, o1, rfl, hb1⟩ := h.some_ (by omega)
      go_enter Try.func22, Try.ntmps22
      go_wp2_with fail
      refine (raw_any _ _ n c zs h hn).mono ?_
      rintro e w' ⟨b, hb, rfl, rfl⟩
      clear hb
      cases b
      all_goals
        go_wp2_with fail
        refine (some_any w _ w.heap.size _ n c zs 0 (RdAt.new h) (by omega) hn).mono ?_
        rintro e w2 ⟨x, p2, hx, rfl, hp2, hp2', hr2, hg2⟩
        have Hx := Lib.hid hx
        clear hx
        have r1 := (h.cut 1 n (by omega) (by omega)).below hr2.bel (Nat.le_refl _)
        go_wp2_with fail
        refine (drawDecode_any _ _ _ _ _ r1 (by omega)).mono ?_
        rintro e w3 ⟨us, hl, B, m, d, rfl, hB, hb3⟩
        go_wp2_with fail
        go_ret2
        exact ⟨us, x, B, m, d, hl, Hx.out, rfl, hB, bel_then hr2.bel hb3⟩

end Go.Proofs.Ytngpgkldocpjdaa
