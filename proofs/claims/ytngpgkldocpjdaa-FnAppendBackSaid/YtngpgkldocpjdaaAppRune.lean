/-
  Contracts of AppendRune: unicode/utf16's (onto a row of the caller's own), the thin package's.
-/
import Derived.Test.YtngpgkldocpjdaaRunes
import Derived.Test.YtngpgkldocpjdaaApp
import Derived.Test.YtngpgkldocpjdaaPlainL
namespace Go.Proofs.Ytngpgkldocpjdaa
open Go.RowKit

theorem info_u16' : (Try.prog.info? 41).map (fun i => (i.zero, i.size, i.bytes)) = some (some (.int .u16 0), 1, 2) := by kernel_rfl

theorem units_wf' (r : Int) : ∀ u ∈ U.units r, (Lit.int .u16 u).wf = true := fun u hu => wf_u16.2 (U.units_isU r u hu)

/-- the row v with the numbers us became the row that is handed back, which has vs -/
def Turned (k : IntKind) (E : TypeId) (w : World) (base : Nat) (v : Value) (vs : List Int) (e : Ending) (w' : World) : Prop :=
  ∃ v', e = .returned v' ∧ Grew k E w base v vs v' w'

theorem Grew.new {k : IntKind} {E : TypeId} {w w' : World} {base : Nat} {v v' : Value} {us : List Int} {o : Obj} (h : Grew k E (w.alloc o) base v us v' w') : Grew k E w base v us v' w' :=
  ⟨h.1, (World.grownBy_alloc w o _).trans h.2⟩

set_option maxHeartbeats 1600000 in
theorem uAppendRune_any (v : Value) (us : List Int) (r : Int) (base : Nat) (w : World) (hown : Own .u16 41 w base v us) (hb : base ≤ w.heap.size) (hn : (us.length + 2) * 2 ≤ 140737488355328) :
    Calls Try.prog 48 #[v, .int .i32 r] w (Turned .u16 41 w base v (us ++ U.units r)) := by
  have hw := units_wf' r
  rcases U.units_cases r with ⟨e0, e1, e2, e3, e4⟩ | ⟨e0, e1, e2, e3, e4, e5⟩ | ⟨e0, e4⟩
  · rw [e4] at hw ⊢
    have hr := rd_new (E := 41) w [r] hw
    simp only [U.surB, decide_eq_false_iff_not] at e3
    clear hw e4 e0
    rcases (show r < 55296 ∨ 57344 ≤ r by omega) with h | h
    all_goals
      clear e3
      go_enter Try.func48, Try.ntmps48
      go_wp2_with (at_builtin; refine wpList_appS (w.alloc (.cells #[.int .u16 r] 41)) rfl _ _ 25 rfl base 41 .u16 (.int .u16 0) 2 Try.underlying25 info_u16' rfl _ us (hown.alloc _) _ 1 1 [r] hr rfl rfl (by omega) (by omega) (by simp; omega) ?_; intro v' w1 hg1)
      go_ret
      exact ⟨v', rfl, hg1.new⟩
  · rw [e5] at hw ⊢
    have hr := rd_new (E := 41) w [U.er1 r, U.er2 r] hw
    simp only [U.hiB, U.loB, decide_eq_true_eq] at e3 e4
    obtain ⟨e3a, e3b⟩ := e3
    obtain ⟨e4a, e4b⟩ := e4
    clear hw e5 e0
    go_enter Try.func48, Try.ntmps48
    go_wp2_with (first | (go_at_call 51; refine (uEncodeRune_any _ _).mono ?_; rintro e w' ⟨rfl, rfl⟩) | (at_builtin; refine wpList_appS (w.alloc (.cells #[.int .u16 (U.er1 r), .int .u16 (U.er2 r)] 41)) rfl _ _ 25 rfl base 41 .u16 (.int .u16 0) 2 Try.underlying25 info_u16' rfl _ us (hown.alloc _) _ 2 2 [U.er1 r, U.er2 r] hr rfl rfl (by omega) (by omega) (by simp; omega) ?_; intro v' w1 hg1))
    go_ret
    exact ⟨v', rfl, hg1.new⟩
  · rw [e4] at hw ⊢
    have hr := rd_new (E := 41) w [65533] hw
    simp only [U.encB, decide_eq_false_iff_not] at e0
    clear hw e4
    rcases (show r < 0 ∨ (55296 ≤ r ∧ r < 57344) ∨ 1114111 < r by omega) with h | ⟨h, h'⟩ | h
    all_goals
      clear e0
      go_enter Try.func48, Try.ntmps48
      go_wp2_with (at_builtin; refine wpList_appS (w.alloc (.cells #[.int .u16 65533] 41)) rfl _ _ 25 rfl base 41 .u16 (.int .u16 0) 2 Try.underlying25 info_u16' rfl _ us (hown.alloc _) _ 1 1 [65533] hr rfl rfl (by omega) (by omega) (by simp; omega) ?_; intro v' w1 hg1)
      go_ret
      exact ⟨v', rfl, hg1.new⟩

theorem wf_app {k : IntKind} {us vs : List Int} (h : ∀ x ∈ us, (Lit.int k x).wf = true) (h' : ∀ x ∈ vs, (Lit.int k x).wf = true) : ∀ x ∈ us ++ vs, (Lit.int k x).wf = true := by
  intro x hx
  rcases List.mem_append.1 hx with h1 | h1
  · exact h x h1
  · exact h' x h1

set_option maxHeartbeats 1600000 in
theorem iAppendRune_any (A : Option Addr) (n c : Nat) (us : List Int) (r : Int) (w : World) (hA : Rd .u16 w A n c us) (hn : n * 2 ≤ 140737488351232) :
    Calls Try.prog 24 #[.slice A n c, .int .i32 r] w (Gives .u16 w (us ++ U.units r)) := by
  have hl := hA.len
  have Hl := Lib.hid hl
  clear hl
  have ho := Own.empty (k := .u16) (E := 41) w (Nat.le_refl w.heap.size)
  have hr := hA.alloc (.cells #[] 41)
  go_enter Try.func24, Try.ntmps24
  go_wp2_with (at_builtin; refine wpList_appS (w.alloc (.cells #[] 41)) rfl _ _ 25 rfl w.heap.size 41 .u16 (.int .u16 0) 2 Try.underlying25 info_u16' rfl _ [] ho _ n c us hr rfl rfl (by simp; omega) (by omega) (by simp) ?_; intro v1 w1 hg1)
  have hb1 := hg1.bel ((Below.refl w.heap.size w).alloc (Nat.le_refl _) _) ho (Nat.le_refl _)
  refine (uAppendRune_any v1 us r w.heap.size _ hg1.own hb1.size (by rw [Hl.out]; omega)).mono ?_
  rintro e w2 ⟨v2, rfl, hg2⟩
  go_wp2_with fail
  go_ret
  exact hg2.own.gives (wf_app hA.wf (units_wf' r)) (hg2.bel hb1 hg1.own (Nat.le_refl _))

end Go.Proofs.Ytngpgkldocpjdaa
