/-
  Contracts of the reference's AppendRune, Encode, AppendAll.
-/
import Derived.Test.YtmbhlicgljjmlaaUnits
namespace Go.Proofs.Ytmbhlicgljjmlaa
open Go.RowKit

theorem info_u16s : (Try.prog.info? 40).map (fun i => (i.zero, i.size, i.bytes)) = some (some (.int .u16 0), 1, 2) := by kernel_rfl

theorem wf_apps {k : IntKind} {us vs : List Int} (h : ∀ x ∈ us, (Lit.int k x).wf = true) (h' : ∀ x ∈ vs, (Lit.int k x).wf = true) : ∀ x ∈ us ++ vs, (Lit.int k x).wf = true := by
  intro x hx
  rcases List.mem_append.1 hx with h1 | h1
  · exact h x h1
  · exact h' x h1

set_option maxHeartbeats 1600000 in
theorem sAppendRune_any (A : Option Addr) (n c : Nat) (us : List Int) (r : Int) (w : World) (hA : Rd .u16 w A n c us) (hn : n * 2 ≤ 140737488351232) :
    Calls Try.prog 20 #[.slice A n c, .int .i32 r] w (Gives .u16 w (us ++ U.units r)) := by
  have hl := hA.len
  have Hl := Lib.hid hl
  clear hl
  have ho := Own.empty (k := .u16) (E := 40) w (Nat.le_refl w.heap.size)
  have hr := hA.alloc (.cells #[] 40)
  go_enter Try.func20, Try.ntmps20
  go_wp2_with (at_builtin; refine wpList_appS (w.alloc (.cells #[] 40)) rfl _ _ 23 rfl w.heap.size 40 .u16 (.int .u16 0) 2 Try.underlying23 info_u16s rfl _ [] ho _ n c us hr rfl rfl (by simp; omega) (by omega) (by simp) ?_; intro v1 w1 hg1)
  have hb1 := hg1.bel ((Below.refl w.heap.size w).alloc (Nat.le_refl _) _) ho (Nat.le_refl _)
  have ho1 := hg1.own
  rw [List.nil_append] at ho1
  refine (units_any r _).mono ?_
  rintro e w2 ⟨B, m, d, rfl, hB, hb2⟩
  have hm : m ≤ 2 := by have := hB.len; have := U.units_len r; omega
  have ho2 := ho1.below hb2
  have hb12 := bel_then hb1 hb2
  have hn2 : (us.length + m) * 2 ≤ 140737488355328 := by rw [Hl.out]; omega
  go_wp2_with (at_builtin; refine wpList_appS w2 rfl _ _ 23 rfl w.heap.size 40 .u16 (.int .u16 0) 2 Try.underlying23 info_u16s rfl _ us ho2 _ m d (U.units r) hB rfl rfl hn2 (by omega) hb12.size ?_; intro v3 w3 hg3)
  go_ret
  exact hg3.own.gives (wf_apps hA.wf (units_wf r)) (hg3.bel hb12 ho2 (Nat.le_refl _))

theorem enc_wf (us : List Int) : ∀ u ∈ U.enc us, (Lit.int .u16 u).wf = true := fun u hu => wf_u16.2 (U.enc_isU us u hu)

end Go.Proofs.Ytmbhlicgljjmlaa
