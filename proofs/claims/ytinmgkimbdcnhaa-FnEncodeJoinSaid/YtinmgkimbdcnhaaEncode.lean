/-
  Contracts of unicode/utf16's Encode, and of the thin package's.
-/
import Derived.Test.YtinmgkimbdcnhaaRunes
import Derived.Test.YtinmgkimbdcnhaaMem
import Derived.Test.YtinmgkimbdcnhaaPlainL
namespace Go.Proofs.Ytinmgkimbdcnhaa
open Go.RowKit

theorem info_u16 : (Try.prog.info? 29).map (fun i => (i.zero, i.size, i.bytes)) = some (some (.int .u16 0), 1, 2) := by kernel_rfl

/-- the first cells of a row hold the code units so far -/
def Holds1 (cells : List Value) (out : List Int) : Prop := cells.take out.length = out.map (Value.int .u16)

theorem Holds1.push {cells : List Value} {out : List Int} {u : Int} (h : Holds1 cells out) (hl : out.length < cells.length) : Holds1 (cells.set out.length (.int .u16 u)) (out ++ [u]) := by
  unfold Holds1 at *
  rw [List.length_append, List.length_singleton, List.map_append, ← h]
  apply List.ext_getElem?
  intro i
  rw [List.getElem?_take]
  by_cases h1 : i < out.length
  · rw [if_pos (by omega), List.getElem?_append_left (by rw [List.length_take]; omega), List.getElem?_take, if_pos h1, List.getElem?_set_ne (by omega)]
  · by_cases h2 : i = out.length
    · subst h2
      rw [if_pos (by omega), List.getElem?_append_right (by rw [List.length_take]; omega), List.length_take, List.getElem?_set_self hl, Nat.min_eq_left (by omega), Nat.sub_self]
      rfl
    · rw [if_neg (by omega), List.getElem?_eq_none (by rw [List.length_append, List.length_take]; simp; omega)]

theorem rd_of_holds {w : World} {base g N : Nat} {E : TypeId} {cells : List Value} {out : List Int} (h : w.ownsRow base E 1 (.slice (some ⟨g, 0, none⟩) N N) N cells) (ho : Holds1 cells out) (hl : out.length ≤ N) (hw : U.isU out) :
    Rd .u16 w (some ⟨g, 0, none⟩) out.length N out := by
  have hlt := h.lt g rfl
  refine ⟨rfl, hl, fun hn => ⟨g, 0, rfl, hlt.2, fun j u hu => ?_⟩, fun u hu => wf_u16.2 (hw u hu)⟩
  have hj : j < out.length := (List.getElem?_eq_some_iff.1 hu).1
  rw [Nat.zero_add, h.cellAt j (by omega)]
  have h1 : (cells.take out.length)[j]? = some (.int .u16 u) := by
    have ho' : cells.take out.length = out.map (Value.int .u16) := ho
    rw [ho', List.getElem?_map, hu]; rfl
  rwa [List.getElem?_take, if_pos hj] at h1

set_option maxHeartbeats 3200000 in
theorem uEncode_any (A : Option Addr) (n c : Nat) (us : List Int) (w : World) (hA : Rd .i32 w A n c us) (hn : n * 4 ≤ 140737488351232) :
    Calls Try.prog 55 #[.slice A n c] w (Gives .u16 w (U.enc us)) := by
  obtain ⟨i0, hi, hz0, hz1, hz2⟩ := info_parts info_u16
  go_enter Try.func55, Try.ntmps55
  go_wp2_with fail
  go_loop [3, 15] (fun k i => ∃ j : Nat, j ≤ n ∧ i = .int .i64 j ∧ k = .int .i64 ((n + U.big (us.take j) : Nat) : Int)) (fun _ i => n - (intOf i).toNat)
  case atStart => exact ⟨0, Nat.zero_le _, rfl, rfl⟩
  case round =>
    obtain ⟨j, hj, rfl, rfl⟩ := hrel
    have hbig := U.big_le (us.take j)
    have hbl : (us.take j).length ≤ j := List.length_take_le _ _
    by_cases hlt : j < n
    · obtain ⟨b1, o1, u, rfl, hb1, hu, hc1, hw1⟩ := hA.at_ hlt
      have Hs : Hid (U.big (us.take (j + 1)) = U.big (us.take j) + if 65536 ≤ u then 1 else 0) := by
        obtain ⟨hk, rfl⟩ := List.getElem?_eq_some_iff.1 hu
        rw [List.take_succ_eq_append_getElem hk, U.big_snoc]; rfl
      clear hu
      by_cases hb : 65536 ≤ u
      · go_wp2_with fail
        go_round
        case rel => exact ⟨j + 1, by omega, by go_num, by rw [Hs.out, if_pos hb]; go_num⟩
        case measure => simp [intOf]; omega
      · have hb' : u < 65536 := by omega
        go_wp2_with fail
        go_round
        case rel => exact ⟨j + 1, by omega, by go_num, by rw [Hs.out, if_neg hb]; rfl⟩
        case measure => simp [intOf]; omega
    · have hlen := hA.len
      have e1 : us.take j = us := List.take_of_length_le (by omega)
      rw [e1] at hbig ⊢
      clear e1 hbl
      obtain ⟨N, hN⟩ : ∃ N, N = n + U.big us := ⟨_, rfl⟩
      rw [← hN]
      have hNle : N ≤ 2 * n := by omega
      have Hlen := Lib.hid hlen
      have HN := Lib.hid hN
      clear hN hlen hbig
      go_wp2_with (at_make; refine wpList_make_full w rfl _ _ 23 rfl w.heap.size 29 i0 (.int .u16 0) 1 Try.underlying23 hi hz0 hz1 .i64 .i64 _ _ N rfl rfl rfl rfl (by rw [hz2]; omega) (by unfold maxLen; omega) (Nat.le_refl _) ?_; intro w1 hown hg)
      have hb1 : Below w.heap.size w w1 := (Below.refl _ _).grown hg (Nat.le_refl _) (by simp)
      clear hg hi hz0 hz1 hz2
      go_loopw [3, 28] (fun k i wr => ∃ (j : Nat) (out : List Int) (cells : List Value), j ≤ n ∧ i = .int .i64 j ∧ k = .int .i64 (out.length : Int) ∧ out = U.enc (us.take j) ∧ wr.ownsRow w.heap.size 29 1 (.slice (some ⟨w.heap.size, 0, none⟩) N N) N cells ∧ Holds1 cells out ∧ Below w.heap.size w wr) (fun _ i _ => n - (intOf i).toNat)
      case atStart => exact ⟨0, [], _, Nat.zero_le _, rfl, rfl, rfl, hown, rfl, hb1⟩
      case round =>
        obtain ⟨j, out, cells, hj, rfl, rfl, hout, hown, hho, hB⟩ := hrel
        have Hout := Lib.hid hout
        have Hho := Lib.hid hho
        clear hout hho
        obtain ⟨k, hk⟩ : ∃ k, k = out.length := ⟨_, rfl⟩
        rw [← hk]
        have Hk := Lib.hid hk
        clear hk
        by_cases hlt : j < n
        · obtain ⟨b1, o1, u, rfl, hb1, hu, hc1, hw1⟩ := hA.at_ hlt
          have cc1 := (hB.cell (p := ⟨b1, o1 + j, none⟩) hb1).trans hc1
          rw [wf_i32] at hw1
          obtain ⟨hwa, hwb⟩ := hw1
          have hlen2 : k + (U.units u).length ≤ N := by
            have := U.enc_len_take us j u hu
            rw [← Hout.out, ← Hk.out, Hlen.out] at this
            have := HN.out
            omega
          have Hs := Lib.hid (U.enc_take_succ us j u hu)
          clear hu hc1
          have hkN := U.units_len u
          have hcl : cells.length = N := by simpa using hown.1
          obtain ⟨cv, hcv⟩ : ∃ cv, cells[k]? = some cv := ⟨_, List.getElem?_eq_getElem (by omega)⟩
          have ck : wr.cell? ⟨w.heap.size, k, none⟩ = some cv := (hown.cellAt k (by omega)).trans hcv
          have fk := hown.frozenAt k
          have Hcl := Lib.hid hcl
          clear hcl hcv
          rcases U.units_cases u with ⟨e0, e1, e2, _, e4⟩ | ⟨e0, e1, e2, e3, e4, e5⟩ | ⟨e0, e4⟩
          · have r1 : U.rlen u = 1 := by rcases U.len_cases u with ⟨_, _, h⟩ | ⟨_, h, _⟩ | ⟨h, _⟩; exact h; omega; rw [e0] at h; cases h
            have E4 := Lib.hid e4
            clear e4 e0
            go_wp2_with (first | (go_at_call 51; refine (uRuneLen_any _ _).mono ?_; rintro e w' ⟨rfl, rfl⟩) | (go_at_call 50; refine (uEncodeRune_any _ _).mono ?_; rintro e w' ⟨rfl, rfl⟩))
            have hst := hown.stored k (.int .u16 u)
            go_roundw
            case rel => exact ⟨j + 1, out ++ [u], _, by omega, by go_num, by rw [List.length_append, ← Hk.out]; go_num, by rw [Hs.out, E4.out, Hout.out], hst.1, by rw [Hk.out]; exact Hho.out.push (by rw [Hcl.out, ← Hk.out]; omega), hB.grown hst.2 hB.size (by intro k hk; injection hk with hk; omega)⟩
            case measure => simp [intOf]; omega
          · have r1 : U.rlen u = 2 := U.rlen_two ⟨e1, e2⟩
            have E5 := Lib.hid e5
            rw [e5] at hlen2
            simp only [List.length_cons, List.length_nil] at hlen2
            simp only [U.hiB, U.loB, decide_eq_true_eq] at e3 e4
            obtain ⟨e3a, e3b⟩ := e3
            obtain ⟨e4a, e4b⟩ := e4
            clear e5 e0 hkN
            obtain ⟨cv2, hcv2⟩ : ∃ cv, cells[k + 1]? = some cv := ⟨_, List.getElem?_eq_getElem (by have := Hcl.out; omega)⟩
            have ck2 : wr.cell? ⟨w.heap.size, k + 1, none⟩ = some cv2 := (hown.cellAt (k + 1) (by omega)).trans hcv2
            have fk2 := hown.frozenAt (k + 1)
            clear hcv2
            go_wp2_with (first | (go_at_call 51; refine (uRuneLen_any _ _).mono ?_; rintro e w' ⟨rfl, rfl⟩) | (go_at_call 50; refine (uEncodeRune_any _ _).mono ?_; rintro e w' ⟨rfl, rfl⟩))
            have hst := hown.stored k (.int .u16 (U.er1 u))
            have hst2 := hst.1.stored (k + 1) (.int .u16 (U.er2 u))
            have hp1 := Hho.out.push (u := U.er1 u) (by rw [Hcl.out, ← Hk.out]; omega)
            have hp2 := hp1.push (u := U.er2 u) (by rw [List.length_set, Hcl.out, List.length_append, ← Hk.out]; simp; omega)
            go_roundw
            case rel => exact ⟨j + 1, (out ++ [U.er1 u]) ++ [U.er2 u], _, by omega, by go_num, by rw [List.length_append, List.length_append, ← Hk.out]; go_num, by rw [Hs.out, E5.out, Hout.out]; simp, hst2.1, by rw [List.length_append, ← Hk.out] at hp2; exact hp2, (hB.grown hst.2 hB.size (by intro k hk; injection hk with hk; omega)).grown hst2.2 (Nat.le_trans hB.size hst.2.size) (by intro k hk; injection hk with hk; omega)⟩
            case measure => simp [intOf]; omega
          · have r1 : U.rlen u = -1 := by rcases U.len_cases u with ⟨h, _⟩ | ⟨h, _⟩ | ⟨_, h⟩; (rw [e0] at h; cases h); (rw [e0] at h; cases h); exact h
            have E4 := Lib.hid e4
            clear e4 e0
            go_wp2_with (first | (go_at_call 51; refine (uRuneLen_any _ _).mono ?_; rintro e w' ⟨rfl, rfl⟩) | (go_at_call 50; refine (uEncodeRune_any _ _).mono ?_; rintro e w' ⟨rfl, rfl⟩))
            have hst := hown.stored k (.int .u16 65533)
            go_roundw
            case rel => exact ⟨j + 1, out ++ [65533], _, by omega, by go_num, by rw [List.length_append, ← Hk.out]; go_num, by rw [Hs.out, E4.out, Hout.out], hst.1, by rw [Hk.out]; exact Hho.out.push (by rw [Hcl.out, ← Hk.out]; omega), hB.grown hst.2 hB.size (by intro k hk; injection hk with hk; omega)⟩
            case measure => simp [intOf]; omega
        · have e1 : out = U.enc us := by rw [Hout.out, List.take_of_length_le (by have := Hlen.out; omega)]
          have hkN : k ≤ N := by
            have := U.enc_len_big us
            rw [← e1, ← Hk.out, Hlen.out] at this
            have := HN.out
            omega
          have E1 := Lib.hid e1
          clear e1
          go_wp2_with fail
          go_ret
          have hr := rd_of_holds hown Hho.out (by rw [← Hk.out]; exact hkN) (by rw [E1.out]; exact U.enc_isU us)
          rw [← Hk.out] at hr
          rw [← E1.out]
          exact ⟨_, _, _, rfl, hr, hB⟩

theorem iEncode_any (A : Option Addr) (n c : Nat) (us : List Int) (w : World) (hA : Rd .i32 w A n c us) (hn : n * 4 ≤ 140737488351232) :
    Calls Try.prog 34 #[.slice A n c] w (Gives .u16 w (U.enc us)) := by
  go_enter Try.func34, Try.ntmps34
  go_wp2_with fail
  refine (uEncode_any A n c us _ hA hn).mono ?_
  rintro e w2 ⟨B, m, d, rfl, hB, hb2⟩
  go_wp2_with fail
  go_ret
  exact ⟨B, m, d, rfl, hB, hb2⟩

end Go.Proofs.Ytinmgkimbdcnhaa
