/-
  Contracts of TextRunes: of the thin package (the conversions of the language) and of the reference.
-/
import Derived.Test.YtmakhfaikpgfnaaLists
import Derived.Test.YtmakhfaikpgfnaaText
namespace Go.Proofs.Ytmakhfaikpgfnaa
open Go.RowKit

theorem run_to_string {P : Program} {w : World} {A : Option Addr} {n c : Nat} {us : List Int} (h : Rd .i32 w A n c us) (src dst e : TypeId)
    (hs : P.underlying src = some (.slice e)) (he : P.underlying e = some (.int .i32)) (hd : P.underlying dst = some .string) :
    (convert src dst (.slice A n c)).run P w = .ok (.string (runesBytes us)) w := by
  obtain ⟨h1, h2, h3, _⟩ := h
  rcases Nat.eq_zero_or_pos n with h0 | h0
  · subst h0
    have : us = [] := List.eq_nil_of_length_eq_zero h1
    subst this
    rcases A with _ | ad
    · exact run_convert_runes_nil w src dst e 0 c hs he hd
    · exact run_convert_runes w src dst e ad 0 c [] (by simp) hs he hd (by simp)
  · obtain ⟨b, off, rfl, _, hc⟩ := h3 h0
    have := run_convert_runes w src dst e ⟨b, off, none⟩ n c us (by omega) hs he hd (fun j hj => by
      have := hc j us[j] (List.getElem?_eq_getElem hj)
      rw [show ((⟨b, off, none⟩ : Addr).add j) = ⟨b, off + j, none⟩ by unfold Addr.add; split <;> simp_all, this]
      simp [List.getD, List.getElem?_eq_getElem hj])
    rwa [List.take_of_length_le (by omega)] at this

theorem run_to_runes {P : Program} (w : World) (us : List Int) (src dst e : TypeId) (hs : P.underlying src = some .string) (hd : P.underlying dst = some (.slice e)) (he : P.underlying e = some (.int .i32)) (hl : us.length ≤ 70368744177664) :
    ∃ (cap : Nat) (cs : Array Value), us.length ≤ cap ∧ (∀ (j : Nat) (u : Int), (us.map U.rep)[j]? = some u → cs[j]? = some (.int .i32 u)) ∧
      (convert src dst (.string (runesBytes us))).run P w = .ok (.slice (some ⟨w.heap.size, 0, none⟩) us.length cap) (w.drew.alloc (.cells cs e)) := by
  have h := run_runes_of_string (P := P) w src dst e (runesBytes us) hs hd he (by rw [U.runesFrom_runesBytes]; simpa using hl)
  rw [U.runesFrom_runesBytes] at h
  have e1 : (us.map fun n => Value.int .i32 (U.rep n)).toArray.size = us.length := by simp
  rw [e1] at h
  refine ⟨_, _, grownCap_ge _ _ _ _, fun j u hu => ?_, h⟩
  rw [List.getElem?_map] at hu
  have hj : j < us.length := by
    rcases Nat.lt_or_ge j us.length with h | h
    · exact h
    · rw [List.getElem?_eq_none h] at hu; cases hu
  rw [Array.getElem?_append_left (by simpa using hj)]
  rw [List.getElem?_eq_getElem hj] at hu
  rw [List.getElem?_toArray, List.getElem?_map, List.getElem?_eq_getElem hj]
  simp at hu ⊢
  exact hu

set_option maxHeartbeats 400000 in
theorem iTextRunes_any (A : Option Addr) (n c : Nat) (us : List Int) (w : World) (hA : Rd .i32 w A n c us) (hn : n * 4 ≤ 140737488351232) :
    Calls Try.prog 35 #[.slice A n c] w (Gives .i32 w (us.map U.rep)) := by
  have k1 := run_to_string (P := Try.prog) hA 28 9 21 Try.underlying28 Try.underlying21 Try.underlying9
  obtain ⟨cap, cs, hcap, hcs, k2⟩ := run_to_runes (P := Try.prog) w us 9 28 21 Try.underlying9 Try.underlying28 Try.underlying21 (by have := hA.len; omega)
  have Hcs := Lib.hid hcs
  clear hcs
  go_enter Try.func35, Try.ntmps35
  go_wp2
  go_ret
  refine ⟨_, _, cap, rfl, ⟨by simp, hcap, fun _ => ⟨w.heap.size, 0, rfl, by simp, fun j u hu => ?_⟩, fun u hu => ?_⟩, ?_⟩
  · have := Hcs.out j u hu
    simpa using this
  · obtain ⟨x, hx, rfl⟩ := List.mem_map.1 hu
    unfold U.rep
    split
    · exact hA.wf x hx
    · rfl
  · exact ((Below.refl _ _).alloc (Nat.le_refl _) _).drew

theorem sTextRunes_any (A : Option Addr) (n c : Nat) (us : List Int) (w : World) (hA : Rd .i32 w A n c us) (hn : n * 4 ≤ 140737488351232) :
    Calls Try.prog 36 #[.slice A n c] w (Gives .i32 w (us.map U.rep)) := by
  go_enter Try.func36, Try.ntmps36
  go_wp2_with fail
  refine (replaced_any A n c us _ hA hn).mono ?_
  rintro e w' ⟨B, m, d, rfl, hB, hb⟩
  go_wp2_with fail
  go_ret
  exact ⟨B, m, d, rfl, hB, hb⟩

end Go.Proofs.Ytmakhfaikpgfnaa
