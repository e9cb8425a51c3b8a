/-
  Words for memory: some numbers (out of a new block), or a whole slice that reads as a list, appended to a row of the call's own.
-/
import Derived.Test.YtinmgkimbdcnhaaMem
namespace Go.Proofs.Ytinmgkimbdcnhaa
open Go.RowKit

/-- the row v of the call's own holds the numbers us -/
def Own (k : IntKind) (E : TypeId) (w : World) (base : Nat) (v : Value) (us : List Int) : Prop := w.ownsRow base E 1 v us.length (us.map (Value.int k))

theorem Own.empty {k : IntKind} {E : TypeId} (w : World) {base : Nat} (hb : base ≤ w.heap.size) : Own k E (w.alloc (.cells #[] E)) base (.slice (some ⟨w.heap.size, 0, none⟩) 0 0) [] :=
  World.ownsRow_lit w #[] 0 hb (by unfold maxLen; omega) rfl

theorem Own.gives {k : IntKind} {E : TypeId} {w w' : World} {base : Nat} {v : Value} {us : List Int} (h : Own k E w' base v us) (hw : ∀ u ∈ us, (Lit.int k u).wf = true) (hb : Below w.heap.size w w') : Gives k w us (.returned v) w' :=
  Gives.of_own h hw hb

theorem run_app_none {P : Program} {w : World} (base : Nat) (t ty e : TypeId) (i : TypeInfo) (size c : Nat) (ht : P.underlying t = some (.slice e)) (hi : P.info? e = some i)
    (v : Value) (n : Nat) (xs : List Value) (hown : w.ownsRow base e size v n xs) : (Builtin.append_ #[t, t] ty #[v, .slice none 0 c]).run P w = .ok v w := by
  rcases hown.2 with ⟨rfl, rfl⟩ | ⟨g, cap, cur, rfl, _, _, hnc, _⟩
  · simp [Builtin.append_, run_underlying ht, sizeOf, typeInfo, hi, Builtin.lenOf, Builtin.firstCells]
  · simp [Builtin.append_, run_underlying ht, sizeOf, typeInfo, hi, Builtin.lenOf, Builtin.firstCells, hnc, storeCells]

/-- what an append of the numbers vs leaves -/
def Grew (k : IntKind) (E : TypeId) (w : World) (base : Nat) (v : Value) (us : List Int) (v' : Value) (w' : World) : Prop :=
  Own k E w' base v' us ∧ w.grownBy w' v.ownBlock

theorem run_appS {P : Program} (w : World) (t ty E : TypeId) (k : IntKind) (z : Value) (bytes base : Nat) (ht : P.underlying t = some (.slice E)) (hi : (P.info? E).map (fun i => (i.zero, i.size, i.bytes)) = some (some z, 1, bytes)) (hzs : z.cells.size = 1)
    (v : Value) (us : List Int) (hown : Own k E w base v us) (A : Option Addr) (m c : Nat) (vs : List Int) (hr : Rd k w A m c vs)
    (hbytes : (us.length + m) * bytes ≤ 140737488355328) (hpos : 0 < bytes) (hbase : base ≤ w.heap.size) :
    ∃ v' w', (Builtin.append_ #[t, t] ty #[v, .slice A m c]).run P w = .ok v' w' ∧ Grew k E w base v (us ++ vs) v' w' := by
  obtain ⟨i, hi0, hz0, hz1, hz2⟩ := info_parts hi
  have hle : us.length + m ≤ 140737488355328 := Nat.le_trans (Nat.le_mul_of_pos_right _ hpos) hbytes
  rcases A with _ | ad
  · have hm : m = 0 := by
      rcases Nat.eq_zero_or_pos m with h0 | h0
      · exact h0
      · obtain ⟨b, off, h, _⟩ := hr.some_ h0
        cases h
    subst hm
    have hv : vs = [] := List.eq_nil_of_length_eq_zero hr.len
    subst hv
    exact ⟨v, w, run_app_none base t ty E i 1 c ht hi0 v _ _ hown, by simpa using hown, World.grownBy.refl w _⟩
  · have hcells : ∀ j u, (vs.map (Value.int k))[j]? = some u → w.cell? (ad.add j) = some u := by
      intro j u hu
      rw [List.getElem?_map] at hu
      rcases hq : vs[j]? with _ | q
      · rw [hq] at hu; cases hu
      · rw [hq] at hu
        have hj : j < m := by have := (List.getElem?_eq_some_iff.1 hq).1; have := hr.len; omega
        obtain ⟨b, off, q', e, _, h2, h3, _⟩ := hr.at_ hj
        rw [hq] at h2
        injection h2 with h2
        injection hu with hu
        injection e with e
        subst e h2
        rw [show ((⟨b, off, none⟩ : Addr).add j) = ⟨b, off + j, none⟩ by unfold Addr.add; split <;> simp_all, h3, ← hu]
    obtain ⟨v', w', hrun, h2, h3, _, _⟩ := run_append_own_at (P := P) w base t ty E i z 1 bytes ht hi0 hz0 hz1 hz2 hzs (by omega) v us.length (us.map (Value.int k)) hown ad m c (vs.map (Value.int k)) (by have := hr.len; simp; omega) hcells (ints_oneCell k vs) (by unfold maxLen; omega) hbytes hbase
    refine ⟨v', w', hrun, ?_, h3⟩
    have hl := hr.len
    unfold Own
    rw [List.length_append, List.map_append, hl]
    exact h2

/-- AT THE OPERATION: 'append(out, xs...)', xs whatever slice reads as vs -/
theorem wpList_appS {P : Program} (w : World) {ops : Array Oper} {rest : List Oper} {o : Oper} {a : Act} {Q : Exit → Act → World → Prop} (hgd : o.guard = none) (s x : Operand) (t : TypeId)
    (ho : o.op = .call { callee := .builtin .append, args := #[s, x], argTypes := #[t, t] })
    (base : Nat) (E : TypeId) (k : IntKind) (z : Value) (bytes : Nat) (ht : P.underlying t = some (.slice E)) (hi : (P.info? E).map (fun i => (i.zero, i.size, i.bytes)) = some (some z, 1, bytes)) (hzs : z.cells.size = 1)
    (v : Value) (us : List Int) (hown : Own k E w base v us) (A : Option Addr) (m c : Nat) (vs : List Int) (hr : Rd k w A m c vs) (hs : a.eval s = v) (hx : a.eval x = .slice A m c)
    (hbytes : (us.length + m) * bytes ≤ 140737488355328) (hpos : 0 < bytes) (hbase : base ≤ w.heap.size)
    (h : ∀ v' w', Grew k E w base v (us ++ vs) v' w' → wpList P ops Q rest (a.put o.dst v') w') : wpList P ops Q (o :: rest) a w := by
  refine wpList_plain hgd fun K hK => ?_
  obtain ⟨v', w', hrun, h2⟩ := run_appS (P := P) w t o.type E k z bytes base ht hi hzs v us hown A m c vs hr hbytes hpos hbase
  unfold Oper.wp execOp
  simp only [ho, resolve, invoke, builtin, Sem.run_bind, Sem.run_pure, Result.andThen_ok, List.map_toArray, List.map_cons, List.map_nil, hs, hx, hrun]
  exact hK _ _ (h v' w' h2)

/-- numbers that were just laid in a block of their own -/
theorem rd_new {k : IntKind} {E : TypeId} (w : World) (us : List Int) (hw : ∀ u ∈ us, (Lit.int k u).wf = true) : Rd k (w.alloc (.cells (us.map (Value.int k)).toArray E)) (some ⟨w.heap.size, 0, none⟩) us.length us.length us := by
  refine ⟨rfl, Nat.le_refl _, fun _ => ⟨w.heap.size, 0, rfl, by simp, fun j u hu => ?_⟩, hw⟩
  rw [Nat.zero_add, cell_of_row _ w.heap.size j _ _ _ (heap_alloc_new w _), List.getElem?_toArray, List.getElem?_map, hu]
  rfl

theorem Own.alloc {k : IntKind} {E : TypeId} {w : World} {base : Nat} {v : Value} {us : List Int} (h : Own k E w base v us) (o : Obj) : Own k E (w.alloc o) base v us := World.ownsRow.alloc h o

theorem Own.kept {k : IntKind} {E : TypeId} {w w' : World} {base : Nat} {v : Value} {us : List Int} {row : Option Nat} (h : Own k E w base v us) (hg : w.grownBy w' row) (hne : v.ownBlock = none ∨ v.ownBlock ≠ row) : Own k E w' base v us := World.ownsRow.kept h hg hne

/-- what is owned from a block on that is still to come stays as it is where only older memory has been left alone -/
theorem Own.below {k : IntKind} {E : TypeId} {w w' : World} {base : Nat} {v : Value} {us : List Int} (h : Own k E w base v us) (hb : Below w.heap.size w w') : Own k E w' base v us :=
  World.ownsRow.kept h (row := none) ⟨hb.os, hb.tape, hb.output, hb.size, fun i hi _ => hb.block i hi⟩ (by cases v.ownBlock <;> simp)

theorem Own.rd {k : IntKind} {E : TypeId} {w : World} {base : Nat} {v : Value} {us : List Int} (h : Own k E w base v us) (hw : ∀ u ∈ us, (Lit.int k u).wf = true) : ∃ A c, v = .slice A us.length c ∧ Rd k w A us.length c us := Rd.of_own h hw

theorem Grew.own {k : IntKind} {E : TypeId} {w w' : World} {base : Nat} {v v' : Value} {us : List Int} (h : Grew k E w base v us v' w') : Own k E w' base v' us := h.1

theorem Grew.bel {k : IntKind} {E : TypeId} {w0 w w' : World} {base : Nat} {v v' : Value} {us xs : List Int} (h : Grew k E w base v us v' w') (hb : Below w0.heap.size w0 w) (ho : Own k E w base v xs) (hB : w0.heap.size ≤ base) : Below w0.heap.size w0 w' :=
  hb.grown h.2 hb.size (fun k hk => Nat.le_trans hB (World.ownsRow.lt ho k hk).1)

end Go.Proofs.Ytinmgkimbdcnhaa
