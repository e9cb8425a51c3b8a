/-
  Words for memory: a slice of integers that reads as a list; one number, or a whole slice, appended to a row of the call's own.
-/
import Derived.WalkKit
import Derived.WalkSpells
import Derived.Maps.AppendAt
import Derived.Deep.AppendLies
import Derived.Deep.Draws
import Derived.Lib.Hide
namespace Go.Proofs.Ytinmgkimbdcnhaa
open Go.RowKit

/-- The slice value '.slice A n c' reads as the numbers us, in memory that is there. -/
def Rd (k : IntKind) (w : World) (A : Option Addr) (n c : Nat) (us : List Int) : Prop :=
  us.length = n ∧ n ≤ c ∧ (0 < n → ∃ b off, A = some ⟨b, off, none⟩ ∧ b < w.heap.size ∧ ∀ j u, us[j]? = some u → w.cell? ⟨b, off + j, none⟩ = some (.int k u)) ∧ ∀ u ∈ us, (Lit.int k u).wf = true

theorem bel_drewN {B : Nat} {a w : World} (h : Below B a w) (n : Nat) : Below B a (w.drewN n) := ⟨h.os, h.tape, h.output, h.size, h.block⟩

theorem bel_then {w w1 w2 : World} (h : Below w.heap.size w w1) (k : Below w1.heap.size w1 w2) : Below w.heap.size w w2 := h.trans (k.mono h.size)

theorem wf_i32 {u : Int} : (Lit.int .i32 u).wf = true ↔ -2147483648 ≤ u ∧ u ≤ 2147483647 := by simp [Lit.wf, IntKind.min, IntKind.max, IntKind.signed, IntKind.bits]

theorem wf_u16 {u : Int} : (Lit.int .u16 u).wf = true ↔ 0 ≤ u ∧ u ≤ 65535 := by simp [Lit.wf, IntKind.min, IntKind.max, IntKind.signed, IntKind.bits]

theorem wf_u8 {u : Int} : (Lit.int .u8 u).wf = true ↔ 0 ≤ u ∧ u ≤ 255 := by simp [Lit.wf, IntKind.min, IntKind.max, IntKind.signed, IntKind.bits]

section
variable {k : IntKind} {w w' : World} {A : Option Addr} {n c : Nat} {us : List Int}
theorem Rd.len (h : Rd k w A n c us) : us.length = n := h.1

theorem Rd.cap (h : Rd k w A n c us) : n ≤ c := h.2.1

theorem Rd.wf (h : Rd k w A n c us) : ∀ u ∈ us, (Lit.int k u).wf = true := h.2.2.2

theorem Rd.at_ {j : Nat} (h : Rd k w A n c us) (hj : j < n) : ∃ b off u, A = some ⟨b, off, none⟩ ∧ b < w.heap.size ∧ us[j]? = some u ∧ w.cell? ⟨b, off + j, none⟩ = some (.int k u) ∧ (Lit.int k u).wf = true := by
  obtain ⟨h1, _, h3, h4⟩ := h
  obtain ⟨b, off, e, hb, hc⟩ := h3 (by omega)
  have hl : j < us.length := by omega
  have hu : us[j]? = some us[j] := List.getElem?_eq_getElem hl
  exact ⟨b, off, us[j], e, hb, hu, hc j _ hu, h4 _ (List.getElem_mem hl)⟩

theorem Rd.keep (h : Rd k w A n c us) (hs : w.heap.size ≤ w'.heap.size) (hk : ∀ p : Addr, p.block < w.heap.size → w'.cell? p = w.cell? p) : Rd k w' A n c us := by
  obtain ⟨h1, h2, h3, h4⟩ := h
  refine ⟨h1, h2, fun hn => ?_, h4⟩
  obtain ⟨b, off, e, hb, hc⟩ := h3 hn
  exact ⟨b, off, e, by omega, fun j u hu => (hk _ hb).trans (hc j u hu)⟩

theorem Rd.below {B : Nat} (h : Rd k w A n c us) (hb : Below B w w') (hB : w.heap.size ≤ B) : Rd k w' A n c us := h.keep hb.size fun _ hp => hb.cell (by omega)

theorem Rd.drew (h : Rd k w A n c us) : Rd k w.drew A n c us := h

theorem Rd.drewN (h : Rd k w A n c us) (m : Nat) : Rd k (w.drewN m) A n c us := h

theorem Rd.alloc (h : Rd k w A n c us) (o : Obj) : Rd k (w.alloc o) A n c us := h.keep (by simp) fun p hp => World.cell?_alloc_lt w o p hp

theorem Rd.nil {c : Nat} : Rd k w A 0 c [] := ⟨rfl, by omega, fun h => absurd h (by omega), by simp⟩

theorem Rd.take {m : Nat} (h : Rd k w A n c us) (hm : m ≤ n) : Rd k w A m c (us.take m) := by
  obtain ⟨h1, h2, h3, h4⟩ := h
  refine ⟨by rw [List.length_take]; omega, by omega, fun hn => ?_, fun u hu => h4 u (List.mem_of_mem_take hu)⟩
  obtain ⟨b, off, e, hb, hc⟩ := h3 (by omega)
  refine ⟨b, off, e, hb, fun j u hu => hc j u ?_⟩
  rw [List.getElem?_take] at hu
  split at hu
  · exact hu
  · cases hu

theorem Rd.drop {m : Nat} (h : Rd k w A n c us) (hm : m ≤ n) : Rd k w (if c = m then A else A.map (·.add m)) (n - m) (c - m) (us.drop m) := by
  obtain ⟨h1, h2, h3, h4⟩ := h
  refine ⟨by rw [List.length_drop]; omega, by omega, fun hn => ?_, fun u hu => h4 u (List.mem_of_mem_drop hu)⟩
  obtain ⟨b, off, rfl, hb, hc⟩ := h3 (by omega)
  rw [if_neg (by omega)]
  by_cases hz : m = 0
  · subst hz
    exact ⟨b, off, by simp [Addr.add], hb, fun j u hu => hc j u (by simpa using hu)⟩
  · refine ⟨b, off + m, by simp [Addr.add, hz], hb, fun j u hu => ?_⟩
    rw [List.getElem?_drop] at hu
    have := hc (m + j) u hu
    rwa [← Nat.add_assoc] at this

theorem Rd.cut {b off : Nat} (h : Rd k w (some ⟨b, off, none⟩) n c us) (lo hi : Nat) (h1 : lo ≤ hi) (h2 : hi ≤ n) : Rd k w (some ⟨b, off + lo, none⟩) (hi - lo) (c - lo) ((us.drop lo).take (hi - lo)) := by
  obtain ⟨g1, g2, g3, g4⟩ := h
  refine ⟨by rw [List.length_take, List.length_drop]; omega, by omega, fun hn => ?_, fun u hu => g4 u (List.mem_of_mem_drop (List.mem_of_mem_take hu))⟩
  obtain ⟨b', off', e, hb, hc⟩ := g3 (by omega)
  injection e with e
  injection e with e1 e2
  subst e1 e2
  refine ⟨b, off + lo, rfl, hb, fun j u hu => ?_⟩
  rw [List.getElem?_take] at hu
  split at hu
  · rw [List.getElem?_drop] at hu
    have := hc (lo + j) u hu
    rwa [← Nat.add_assoc] at this
  · cases hu

theorem Rd.some_ (h : Rd k w A n c us) (hn : 0 < n) : ∃ b off, A = some ⟨b, off, none⟩ ∧ b < w.heap.size := by
  obtain ⟨b, off, e, hb, _⟩ := h.2.2.1 hn
  exact ⟨b, off, e, hb⟩

theorem Rd.of_own {base : Nat} {E : TypeId} {v : Value} (h : w.ownsRow base E 1 v n (us.map (Value.int k))) (hw : ∀ u ∈ us, (Lit.int k u).wf = true) :
    ∃ A c, v = .slice A n c ∧ Rd k w A n c us := by
  have hl : us.length = n := by simpa using h.1
  rcases h.2 with ⟨rfl, h0⟩ | ⟨g, cap, cur, rfl, _, hg, hc, _, _, _⟩
  · subst h0
    have : us = [] := List.eq_nil_of_length_eq_zero hl
    subst this
    exact ⟨none, 0, rfl, Rd.nil⟩
  · refine ⟨_, cap, rfl, hl, hc, fun _ => ⟨g, 0, rfl, lt_of_block hg, fun j u hu => ?_⟩, hw⟩
    have := h.cells (g := g) rfl j (.int k u) (by rw [List.getElem?_map, hu]; rfl)
    rw [show (⟨g, 0 + j, none⟩ : Addr) = (⟨g, 0, none⟩ : Addr).add j by unfold Addr.add; split <;> simp_all]
    exact this

end

/-- What a function that hands back a slice of integers leaves: the slice reads as us; what was there is as it was. -/
def Gives (k : IntKind) (w : World) (us : List Int) (e : Ending) (w' : World) : Prop :=
  ∃ A n c, e = .returned (.slice A n c) ∧ Rd k w' A n c us ∧ Below w.heap.size w w'

theorem Gives.of_own {k : IntKind} {w w' : World} {base : Nat} {E : TypeId} {v : Value} {us : List Int} (h : w'.ownsRow base E 1 v us.length (us.map (Value.int k))) (hw : ∀ u ∈ us, (Lit.int k u).wf = true)
    (hb : Below w.heap.size w w') : Gives k w us (.returned v) w' := by
  obtain ⟨A, c, rfl, hr⟩ := Rd.of_own h hw
  exact ⟨A, _, c, rfl, hr, hb⟩

/-- One number appended to a row of the call's own (the number lies in a new block of one cell). -/
theorem wpList_app1 {P : Program} (w : World) {ops : Array Oper} {rest : List Oper} {o : Oper} {a : Act} {Q : Exit → Act → World → Prop} (hgd : o.guard = none) (s x : Operand) (t : TypeId)
    (ho : o.op = .call { callee := .builtin .append, args := #[s, x], argTypes := #[t, t] })
    (base : Nat) (E : TypeId) (k : IntKind) (z : Value) (bytes : Nat) (ht : P.underlying t = some (.slice E)) (hi : (P.info? E).map (fun i => (i.zero, i.size, i.bytes)) = some (some z, 1, bytes)) (hzs : z.cells.size = 1)
    (v : Value) (us : List Int) (u : Int) (hown : w.ownsRow base E 1 v us.length (us.map (Value.int k))) (hs : a.eval s = v) (hx : a.eval x = .slice (some ⟨w.heap.size, 0, none⟩) 1 1)
    (hbytes : (us.length + 1) * bytes ≤ 140737488355328) (hpos : 0 < bytes) (hbase : base ≤ w.heap.size)
    (h : ∀ v' w', w'.ownsRow base E 1 v' (us ++ [u]).length ((us ++ [u]).map (Value.int k)) → w.grownBy w' v.ownBlock → wpList P ops Q rest (a.put o.dst v') w') :
    wpList P ops Q (o :: rest) a (w.alloc (.cells #[.int k u] E)) := by
  obtain ⟨i, hi0, hz0, hz1, hz2⟩ := info_parts hi
  have hle : us.length + 1 ≤ 140737488355328 := Nat.le_trans (Nat.le_mul_of_pos_right _ hpos) hbytes
  refine wpList_append_own _ hgd s x t ho base E i z 1 bytes ht hi0 hz0 hz1 hz2 hzs (by omega) v us.length (us.map (Value.int k)) hs (hown.alloc _) ⟨w.heap.size, 0, none⟩ 1 1 [.int k u] hx rfl (cell_one_new _ _ _) (by simp; rfl) (by unfold maxLen; omega) hbytes (by simp; omega) ?_
  intro v' w' h1 h2 _
  refine h v' w' ?_ ((World.grownBy_alloc w _ _).trans h2)
  simpa using h1

end Go.Proofs.Ytinmgkimbdcnhaa
