/-
  The drawing of numbers: what the methods and functions on *rd leave: a number within its bounds; only rd's own block, and what is new, has turned.
-/
import Derived.Test.YtinmgkimbdcnhaaRunes
import Derived.Test.YtinmgkimbdcnhaaMem
import Derived.Deep.QuietTactic
import Derived.BigQuiet
import Derived.Laws.BitsAllLaws
import Derived.Laws.BitsLemmas
namespace Go.Proofs.Ytinmgkimbdcnhaa
open Go.RowKit

theorem ofInt_i64 (a : Nat) (ha : a < 9223372036854775808) : (BitVec.ofInt 64 (a : Int)).toNat = a := by
  rw [BitVec.ofInt_natCast, BitVec.toNat_ofNat]; exact Nat.mod_eq_of_lt (by omega)

theorem xor_fits (a b : Int) (h1 : 0 ≤ a) (h2 : a < 4611686018427387904) (h3 : 0 ≤ b) (h4 : b < 4611686018427387904) : 0 ≤ bits .xor .i64 a b ∧ bits .xor .i64 a b < 4611686018427387904 := by
  obtain ⟨n, rfl⟩ := Int.eq_ofNat_of_zero_le h1
  obtain ⟨m, rfl⟩ := Int.eq_ofNat_of_zero_le h3
  have hx : n ^^^ m < 2 ^ 62 := Nat.xor_lt_two_pow (by omega) (by omega)
  have e : bits .xor .i64 (n : Int) (m : Int) = ((n ^^^ m : Nat) : Int) := by
    show IntKind.i64.wrap ((BitVec.ofInt 64 (n : Int) ^^^ BitVec.ofInt 64 (m : Int)).toNat : Int) = _
    rw [BitVec.toNat_xor, ofInt_i64 n (by omega), ofInt_i64 m (by omega), IntKind.wrap_i64]
    omega
  rw [e]
  omega

/-- rd lies in block g, after p picks; the bytes zs that it draws from lie in older memory. -/
structure RdAt (w0 w : World) (g : Nat) (A : Option Addr) (n c : Nat) (zs : List Int) (p : Nat) : Prop where
  rd : Rd .u8 w0 A n c zs
  bel : Below w0.heap.size w0 w
  gle : w0.heap.size ≤ g
  blk : w.heap[g]? = some (.cells #[.slice A n c, .int .i64 (p : Int)] 51 (0, 0))

/-- a number drawn: x with P x is handed back, at most d picks later. -/
def Drew (w0 w : World) (g : Nat) (A : Option Addr) (n c : Nat) (zs : List Int) (p d : Nat) (k : IntKind) (P : Int → Prop) (e : Ending) (w' : World) : Prop :=
  ∃ (x : Int) (p' : Nat), P x ∧ e = .returned (.int k x) ∧ p ≤ p' ∧ p' ≤ p + d ∧ RdAt w0 w' g A n c zs p' ∧ w.grownBy w' (some g)

theorem RdAt.cell0 {w0 w : World} {g : Nat} {A : Option Addr} {n c : Nat} {zs : List Int} {p : Nat} (h : RdAt w0 w g A n c zs p) : w.cell? ⟨g, 0, none⟩ = some (.slice A n c) := cell_of_row w g 0 _ _ _ h.blk

theorem RdAt.cell1 {w0 w : World} {g : Nat} {A : Option Addr} {n c : Nat} {zs : List Int} {p : Nat} (h : RdAt w0 w g A n c zs p) : w.cell? ⟨g, 1, none⟩ = some (.int .i64 (p : Int)) := cell_of_row w g 1 _ _ _ h.blk

theorem RdAt.free {w0 w : World} {g : Nat} {A : Option Addr} {n c : Nat} {zs : List Int} {p : Nat} (h : RdAt w0 w g A n c zs p) (i : Nat) : w.frozen? ⟨g, i, none⟩ = false := by
  have := h.blk
  simp [World.frozen?, this]

theorem RdAt.lt {w0 w : World} {g : Nat} {A : Option Addr} {n c : Nat} {zs : List Int} {p : Nat} (h : RdAt w0 w g A n c zs p) : g < w.heap.size := lt_of_block h.blk

theorem grown_drewN {a w : World} {row : Option Nat} (h : a.grownBy w row) (n : Nat) : a.grownBy (w.drewN n) row := ⟨h.os, h.tape, h.output, h.size, h.block⟩

theorem grown_setCell {w : World} {g i : Nat} (u : Value) : w.grownBy (w.setCell ⟨g, i, none⟩ u) (some g) :=
  ⟨rfl, rfl, rfl, by simp [World.setCell], fun k _ hne => Below.heap_setCell w _ u k (fun e => hne (by rw [e]))⟩

/-- the world behind a pick -/
theorem RdAt.picked {w0 w : World} {g : Nat} {A : Option Addr} {n c : Nat} {zs : List Int} {p : Nat} (h : RdAt w0 w g A n c zs p) (m : Nat) :
    RdAt w0 ((w.setCell ⟨g, 1, none⟩ (.int .i64 ((p : Int) + 1))).drewN m) g A n c zs (p + 1) ∧ w.grownBy ((w.setCell ⟨g, 1, none⟩ (.int .i64 ((p : Int) + 1))).drewN m) (some g) := by
  refine ⟨⟨h.rd, bel_drewN (h.bel.setCell (p := ⟨g, 1, none⟩) h.gle _) m, h.gle, ?_⟩, grown_drewN (grown_setCell _) m⟩
  have hb := h.blk
  show (w.setCell ⟨g, 1, none⟩ (.int .i64 ((p : Int) + 1))).heap[g]? = _
  simp [World.setCell, Array.getElem?_modify, hb]

set_option maxHeartbeats 800000 in
theorem pick_any (w0 w : World) (g : Nat) (A : Option Addr) (n c : Nat) (zs : List Int) (p : Nat) (m : Int) (h : RdAt w0 w g A n c zs p) (hp : p ≤ 1000000) (hn : n ≤ 1048576) (hm : 1 ≤ m) (hm2 : m ≤ 1000) :
    Calls Try.prog 38 #[.pointer (some ⟨g, 0, none⟩), .int .i64 m] w (Drew w0 w g A n c zs p 1 .i64 fun x => 0 ≤ x ∧ x < m) := by
  have hm0 : decide (m < 1) = false := by simpa using hm
  have c0 := h.cell0
  have c1 := h.cell1
  have f1 := h.free 1
  have hpk := fun k => h.picked k
  have Hpk := Lib.hid hpk
  clear hpk
  by_cases hz : n = 0
  · subst hz
    go_enter Try.func38, Try.ntmps38
    go_wp2
    go_ret
    exact ⟨0, p + 1, ⟨by omega, by omega⟩, rfl, by omega, by omega, Hpk.out 0⟩
  · have hnz : ((n : Int) == 0) = false := by simp; omega
    by_cases hlt : p < n
    · obtain ⟨b1, o1, u, rfl, hb1, hu, hc1, hw1⟩ := h.rd.at_ hlt
      rw [wf_u8] at hw1
      obtain ⟨hw1a, hw1b⟩ := hw1
      have hne : b1 ≠ g := by have := h.gle; omega
      have cc : (w.setCell ⟨g, 1, none⟩ (.int .i64 ((p : Int) + 1))).cell? ⟨b1, o1 + p, none⟩ = some (.int .u8 u) := by
        rw [World.cell?_setCell_other _ _ _ _ (by intro e; injection e with e; exact hne e.symm)]
        exact (h.bel.cell (p := ⟨b1, o1 + p, none⟩) hb1).trans hc1
      go_enter Try.func38, Try.ntmps38
      go_wp2
      go_ret
      exact ⟨u % m, p + 1, ⟨Int.emod_nonneg _ (by omega), Int.emod_lt_of_pos _ (by omega)⟩, rfl, by omega, by omega, Hpk.out 0⟩
    · have hlt' : n ≤ p := by omega
      obtain ⟨q1, hq1⟩ : ∃ q, q = p % n := ⟨_, rfl⟩
      obtain ⟨q2, hq2⟩ : ∃ q, q = (p * 7 + 3) % n := ⟨_, rfl⟩
      obtain ⟨d, hd⟩ : ∃ q, q = p / n := ⟨_, rfl⟩
      have l1 : q1 < n := by rw [hq1]; exact Nat.mod_lt _ (by omega)
      have l2 : q2 < n := by rw [hq2]; exact Nat.mod_lt _ (by omega)
      have l3 : d ≤ p := by rw [hd]; exact Nat.div_le_self _ _
      have e1 : Int.tmod (p : Int) (n : Int) = (q1 : Int) := by rw [hq1]; rfl
      have e1' : (p : Int) % (n : Int) = (q1 : Int) := by rw [hq1]; rfl
      have e2 : Int.tmod ((p : Int) * 7 + 3) (n : Int) = (q2 : Int) := by rw [hq2]; rfl
      have e2' : ((p : Int) * 7 + 3) % (n : Int) = (q2 : Int) := by rw [hq2]; rfl
      have e3 : Int.tdiv (p : Int) (n : Int) = (d : Int) := by rw [hd]; rfl
      have e3' : (p : Int) / (n : Int) = (d : Int) := by rw [hd]; rfl
      obtain ⟨b1, o1, u, rfl, hb1, hu, hc1, hw1⟩ := h.rd.at_ l1
      obtain ⟨b2, o2, v, e4, hb2, hv, hc2, hw2⟩ := h.rd.at_ l2
      obtain ⟨rfl, rfl⟩ : b2 = b1 ∧ o2 = o1 := by injection e4 with e4; injection e4 with e5 e6; exact ⟨e5.symm, e6.symm⟩
      clear e4 hq1 hq2 hd
      rw [wf_u8] at hw1 hw2
      obtain ⟨hw1a, hw1b⟩ := hw1
      obtain ⟨hw2a, hw2b⟩ := hw2
      have hne : b2 ≠ g := by have := h.gle; omega
      have cc : ∀ i y, w0.cell? ⟨b2, i, none⟩ = some y → (w.setCell ⟨g, 1, none⟩ (.int .i64 ((p : Int) + 1))).cell? ⟨b2, i, none⟩ = some y := by
        intro i y hy
        rw [World.cell?_setCell_other _ _ _ _ (by intro e; injection e with e; exact hne e.symm)]
        exact (h.bel.cell (p := ⟨b2, i, none⟩) hb1).trans hy
      have cc1 := cc _ _ hc1
      have cc2 := cc _ _ hc2
      clear cc hu hv hc1 hc2
      have i0 : (0 : Int) ≤ (q1 : Int) := by omega
      have i1 : (q1 : Int) < (n : Int) := by omega
      have i2 : (0 : Int) ≤ (q2 : Int) := by omega
      have i3 : (q2 : Int) < (n : Int) := by omega
      go_enter Try.func38, Try.ntmps38
      go_wp2
      go_quiet (fail)
      go_wp2
      go_ret
      have hx := xor_fits (u * 131 + v * 1117 + (p : Int) * 29 + (d : Int) * 53) ((u * 131 + v * 1117 + (p : Int) * 29 + (d : Int) * 53) / 64) (by omega) (by omega) (by omega) (by omega)
      exact ⟨_, p + 1, ⟨Int.tmod_nonneg _ hx.1, Int.tmod_lt_of_pos _ (by omega)⟩, rfl, by omega, by omega, Hpk.out nq⟩

theorem Drew.more {w0 w : World} {g : Nat} {A : Option Addr} {n c : Nat} {zs : List Int} {p : Nat} {k : IntKind} {P : Int → Prop} {x : Int} {w1 : World} {p1 d : Nat} (hx : P x) (h1 : p ≤ p1) (h2 : p1 ≤ p + d) (hr : RdAt w0 w1 g A n c zs p1)
    (hg : w.grownBy w1 (some g)) : Drew w0 w g A n c zs p d k P (.returned (.int k x)) w1 := ⟨x, p1, hx, rfl, h1, h2, hr, hg⟩

theorem RdAt.alloc {w0 w : World} {g : Nat} {A : Option Addr} {n c : Nat} {zs : List Int} {p : Nat} (h : RdAt w0 w g A n c zs p) (o : Obj) : RdAt w0 (w.alloc o) g A n c zs p :=
  ⟨h.rd, h.bel.alloc h.bel.size o, h.gle, (Below.heap_alloc w o g h.lt).trans h.blk⟩

theorem RdAt.grown {w0 w w' : World} {g : Nat} {A : Option Addr} {n c : Nat} {zs : List Int} {p : Nat} {row : Option Nat} (h : RdAt w0 w g A n c zs p) (hg : w.grownBy w' row) (hne : some g ≠ row) (hr : ∀ k, row = some k → w0.heap.size ≤ k) : RdAt w0 w' g A n c zs p :=
  ⟨h.rd, h.bel.grown hg h.bel.size hr, h.gle, (hg.block g h.lt hne).trans h.blk⟩

theorem RdAt.new {w : World} {A : Option Addr} {n c : Nat} {zs : List Int} (h : Rd .u8 w A n c zs) : RdAt w (w.alloc (.cells #[.slice A n c, .int .i64 0] 51)) w.heap.size A n c zs 0 :=
  ⟨h, (Below.refl _ _).alloc (Nat.le_refl _) _, Nat.le_refl _, heap_alloc_new w _⟩

end Go.Proofs.Ytinmgkimbdcnhaa
