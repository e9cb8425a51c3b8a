/-
  What the rows' frames share: how an argument that is a slice of integers is opened.
-/
import Derived.Test.YtinmgkimbdcnhaaRows
import Derived.Test.YtinmgkimbdcnhaaMem
import Derived.ProofKit
import Derived.OpenShut
import Derived.ShutString
import Derived.ChangeOld
import Derived.SizedLaws
namespace Go.Proofs.Ytinmgkimbdcnhaa
open Go.ChangeShapes Go.WideShapes Go.ChangeAt Go.RowKit

theorem own : ownKnob Try.prog.godebug = none := by kernel_rfl

theorem laidOut : laidOutB Try.prog = true := by kernel_rfl

theorem rd_of_reading {H : Type} {enc : TypeId × Value → H} {P : Program} {W : World} {T E : TypeId} {k : IntKind} {a : Option Addr} {n c : Nat} {d : DataW H} {p : List MemPlace}
    (ht : P.underlying T = some (.slice E)) (he : P.underlying E = some (.int k)) (hc : P.cellsOf E = 1) (h : DataW.Trod enc P W 0 (fun _ => true) true T (.slice a n c) d p) :
    ∃ us, Rd k W a n c us ∧ ((d = .nil ∧ c = 0) ∨ ∃ el sp, d = .slice el sp ∧ el.length + sp.length = c) := by
  obtain ⟨fuel, hf⟩ := h
  rcases open_ints ht he hc hf with ⟨hcs, hx⟩ | ⟨x, l, cc, zs, hcs, _, hl, hm, hz, hx, hcell, hwz⟩
  · simp [Value.cells] at hcs
    obtain ⟨rfl, rfl, rfl⟩ := hcs
    simp only [Prod.mk.injEq] at hx
    exact ⟨[], Rd.nil, .inl ⟨hx.1, rfl⟩⟩
  · simp [Value.cells] at hcs
    obtain ⟨rfl, rfl, rfl⟩ := hcs
    simp only [Prod.mk.injEq] at hx
    simp only [if_true] at hz
    refine ⟨zs.take n, ⟨by rw [List.length_take]; omega, hl, fun hn => ?_, fun u hu => hwz u (List.mem_of_mem_take hu)⟩, .inr ⟨_, _, hx.1, by simp [lits]; omega⟩⟩
    obtain ⟨b, off, spot⟩ := x
    have h0 := hcell 0 (by omega)
    have hspot : spot = none := by simpa [Addr.add] using World.cell?_spot h0
    subst hspot
    refine ⟨b, off, rfl, by simpa [Addr.add] using World.block_lt_of_cell? W _ h0, fun j u hu => ?_⟩
    rw [List.getElem?_take] at hu
    split at hu
    · have hj : j < zs.length := by omega
      have := hcell j hj
      rw [show ((⟨b, off, none⟩ : Addr).add j) = ⟨b, off + j, none⟩ by unfold Addr.add; split <;> simp_all] at this
      rw [this]
      rw [List.getElem?_eq_getElem hj] at hu
      injection hu with hu
      simp [List.getD, List.getElem?_eq_getElem hj, hu]
    · cases hu

end Go.Proofs.Ytinmgkimbdcnhaa
