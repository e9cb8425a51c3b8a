/-
  Contracts of the reference's WellFormed and Decode.
-/
import Derived.Test.YtinmgkimbdcnhaaPairAt
import Derived.Deep.RegionLaw
namespace Go.Proofs.Ytinmgkimbdcnhaa
open Go.RowKit

theorem info_i32s : (Try.prog.info? 21).map (fun i => (i.zero, i.size, i.bytes)) = some (some (.int .i32 0), 1, 4) := by kernel_rfl

theorem isU_ofs {us : List Int} (h : ∀ u ∈ us, (Lit.int .u16 u).wf = true) : U.isU us := fun u hu => wf_u16.1 (h u hu)

/-- AT A STEP OF A REGION THAT DRAWS: one number appended -/
theorem step_app1 {P : Program} {w W : World} {ops : Array Oper} {o : Oper} {a : Act} {K : Act → World → Prop} {Q : Exit → Act → World → Prop} {F : Prop} (hgd : o.guard = none) (s x : Operand) (t : TypeId)
    (ho : o.op = .call { callee := .builtin .append, args := #[s, x], argTypes := #[t, t] })
    (base : Nat) (E : TypeId) (k : IntKind) (z : Value) (bytes : Nat) (ht : P.underlying t = some (.slice E)) (hi : (P.info? E).map (fun i => (i.zero, i.size, i.bytes)) = some (some z, 1, bytes)) (hzs : z.cells.size = 1)
    (v : Value) (us : List Int) (u : Int) (hown : w.ownsRow base E 1 v us.length (us.map (Value.int k))) (hW : W = (w.alloc (.cells #[.int k u] E)).drew) (hs : a.eval s = v) (hx : a.eval x = .slice (some ⟨w.heap.size, 0, none⟩) 1 1)
    (hbytes : (us.length + 1) * bytes ≤ 140737488355328) (hpos : 0 < bytes) (hbase : base ≤ w.heap.size)
    (h : ∀ v' w', w'.ownsRow base E 1 v' (us ++ [u]).length ((us ++ [u]).map (Value.int k)) → w.grownBy w' v.ownBlock → K (a.put o.dst v') w') : if Region.wanted o (yielded ops a.tmps) = true then Oper.wp P o a W K Q else F := by
  subst hW
  have hw : Region.wanted o (yielded ops a.tmps) = true := by simp [Region.wanted, hgd]
  rw [if_pos hw]
  obtain ⟨i, hi0, hz0, hz1, hz2⟩ := info_parts hi
  have hle : us.length + 1 ≤ 140737488355328 := Nat.le_trans (Nat.le_mul_of_pos_right _ hpos) hbytes
  obtain ⟨v', w', hrun, h2, h3, _, _⟩ := run_append_own_at (P := P) (w.alloc (.cells #[.int k u] E)).drew base t o.type E i z 1 bytes ht hi0 hz0 hz1 hz2 hzs (by omega) v us.length (us.map (Value.int k)) (hown.alloc _) ⟨w.heap.size, 0, none⟩ 1 1 [.int k u] rfl (cell_one_new w _ _) (by simp; rfl) (by unfold maxLen; omega) hbytes (by show base ≤ (w.alloc _).heap.size; simp; omega)
  unfold Oper.wp execOp
  simp only [ho, resolve, invoke, builtin, Sem.run_bind, Sem.run_pure, Result.andThen_ok, List.map_toArray, List.map_cons, List.map_nil, hs, hx, hrun]
  refine h v' w' (by simpa using h2) ?_
  have hg : w.grownBy (w.alloc (.cells #[.int k u] E)).drew v.ownBlock := ⟨rfl, rfl, rfl, by show w.heap.size ≤ (w.alloc _).heap.size; simp, fun i hi hne => (World.grownBy_alloc w _ v.ownBlock).block i hi hne⟩
  exact hg.trans h3

set_option maxHeartbeats 3200000 in
theorem sDecode_any (A : Option Addr) (n c : Nat) (us : List Int) (w : World) (hA : Rd .u16 w A n c us) (hn : n * 4 ≤ 140737488351232) :
    Calls Try.prog 20 #[.slice A n c] w (Gives .i32 w (U.dec us)) := by
  go_enter Try.func20, Try.ntmps20
  go_wp2_with fail
  go_loopw [3, 4] (fun v i wr => ∃ (j : Nat) (out : List Int), j ≤ n ∧ i = .int .i64 j ∧ out.length ≤ j ∧ out ++ U.dec (us.drop j) = U.dec us ∧ Below w.heap.size w wr ∧ wr.ownsRow w.heap.size 21 1 v out.length (out.map (Value.int .i32))) (fun _ i _ => n - (intOf i).toNat)
  case atStart => exact ⟨0, [], by omega, rfl, by simp, rfl, (Below.refl _ _).alloc (Nat.le_refl _) _, World.ownsRow_lit w #[] 0 (Nat.le_refl _) (by unfold maxLen; omega) rfl⟩
  case round =>
    obtain ⟨j, out, hj, rfl, hl, hd, hb, hown⟩ := hrel
    have Hlen := Lib.hid hA.len
    by_cases hlt : j < n
    · obtain ⟨b1, o1, u, rfl, hb1, hu, hc1, hw1⟩ := hA.at_ hlt
      have cc1 := (hb.cell (p := ⟨b1, o1 + j, none⟩) hb1).trans hc1
      rw [wf_u16] at hw1
      obtain ⟨hwa, hwb⟩ := hw1
      clear hc1
      cases hp : U.pairAt us j
      · rw [U.dec_drop hu hp] at hd
        have Hd := Lib.hid hd
        clear hd hu
        cases hs : U.surB u
        · rw [U.one_nosur hs] at Hd
          go_wp2_with (first | (go_at_call 17; refine (pairAt_any _ _ _ us j _ (hA.below hb (Nat.le_refl _)) hlt (by omega)).mono ?_; rintro e w' ⟨rfl, rfl⟩) | (go_at_call 29; refine (sIsSurrogate_any _ _).mono ?_; rintro e w' ⟨rfl, rfl⟩) | (at_builtin; refine wpList_app1 wr rfl _ _ 25 rfl w.heap.size 21 .i32 (.int .i32 0) 4 Try.underlying25 info_i32s rfl _ out (u) hown rfl rfl (by omega) (by omega) hb.size ?_; intro v' w1 hown1 hg1))
          go_roundw
          case rel => exact ⟨j + 1, out ++ [u], by omega, by go_num, by simp; omega, by rw [List.append_assoc]; exact Hd.out, hb.grown hg1 hb.size (fun k hk => (hown.lt k hk).1), hown1⟩
          case measure => simp [intOf]; omega
        · rw [U.one_sur hs] at Hd
          go_wp2_with (first | (go_at_call 17; refine (pairAt_any _ _ _ us j _ (hA.below hb (Nat.le_refl _)) hlt (by omega)).mono ?_; rintro e w' ⟨rfl, rfl⟩) | (go_at_call 29; refine (sIsSurrogate_any _ _).mono ?_; rintro e w' ⟨rfl, rfl⟩) | (at_builtin; refine wpList_app1 wr rfl _ _ 25 rfl w.heap.size 21 .i32 (.int .i32 0) 4 Try.underlying25 info_i32s rfl _ out (65533) hown rfl rfl (by omega) (by omega) hb.size ?_; intro v' w1 hown1 hg1))
          go_roundw
          case rel => exact ⟨j + 1, out ++ [65533], by omega, by go_num, by simp; omega, by rw [List.append_assoc]; exact Hd.out, hb.grown hg1 hb.size (fun k hk => (hown.lt k hk).1), hown1⟩
          case measure => simp [intOf]; omega
      · obtain ⟨u', v, hu', hv, q1, q2⟩ := U.pairAt_true hp
        obtain rfl : u = u' := by rw [hu] at hu'; injection hu'
        clear hu'
        rw [U.dec_drop2 hu hv hp] at hd
        have Hd := Lib.hid hd
        clear hd hu q1 q2
        have hlt2 : j + 1 < n := by have := (List.getElem?_eq_some_iff.1 hv).1; have := Hlen.out; omega
        obtain ⟨b2, o2, v', e2, hb2, hv', hc2, hw2⟩ := hA.at_ hlt2
        obtain rfl : v = v' := by rw [hv] at hv'; injection hv'
        obtain ⟨rfl, rfl⟩ : b2 = b1 ∧ o2 = o1 := by injection e2 with e2; injection e2 with e3 e4; exact ⟨e3.symm, e4.symm⟩
        have cc2 := (hb.cell (p := ⟨b2, o2 + (j + 1), none⟩) hb2).trans hc2
        rw [wf_u16] at hw2
        obtain ⟨hwc, hwd⟩ := hw2
        clear e2 hv hv' hc2
        have i0 : (0 : Int) ≤ (j : Int) := by omega
        have i1 : (j : Int) < (n : Int) := by omega
        have i2 : (0 : Int) ≤ (j : Int) + 1 := by omega
        have i3 : (j : Int) + 1 < (n : Int) := by omega
        go_wp2_with (go_at_call 17; refine (pairAt_any _ _ _ us j _ (hA.below hb (Nat.le_refl _)) hlt (by omega)).mono ?_; rintro e w' ⟨rfl, rfl⟩)
        have hbyt : (out.length + 1) * 4 ≤ 140737488355328 := by omega
        have k1 : IntKind.i64.wrap ((j : Int) + 1) = (j : Int) + 1 := by rw [IntKind.wrap_i64]; omega
        have k2 : ((j : Int) + 1).toNat = j + 1 := by omega
        have k3 : IntKind.i32.wrap u = u := by rw [IntKind.wrap_i32]; omega
        have k4 : IntKind.i32.wrap v = v := by rw [IntKind.wrap_i32]; omega
        go_region_law (first | (refine step_app1 (w := wr) rfl (.tmp 15) (.tmp 28) 25 rfl w.heap.size 21 .i32 (.int .i32 0) 4 Try.underlying25 info_i32s rfl _ out (U.dr u v) hown (by rfl) (by rfl) (by rfl) hbyt (by decide) hb.size ?_; intro v' w1 hown1 hg1) | (go_simp; go_at_call 46; refine (sDecodeRune_any _ _ _).mono ?_; rintro e w' ⟨rfl, rfl⟩))
        all_goals clear k1 k2 k3 k4
        all_goals
          go_simp
          go_wp2_with fail
          go_roundw
          case rel => exact ⟨j + 2, out ++ [U.dr u v], by omega, by go_num, by simp; omega, by rw [List.append_assoc]; exact Hd.out, hb.grown hg1 hb.size (fun k hk => (hown.lt k hk).1), hown1⟩
          case measure => simp [intOf]; omega
    · go_wp2_with fail
      go_ret
      rw [List.drop_eq_nil_of_le (by have := Hlen.out; omega)] at hd
      have e2 : out = U.dec us := by simpa [U.dec] using hd
      rw [e2] at hown
      exact Gives.of_own hown (fun x hx => wf_i32.2 (by have := U.dec_wf us (isU_ofs hA.wf) x hx; omega)) hb

end Go.Proofs.Ytinmgkimbdcnhaa
