/-
  What the bound of an 'Upto' statement gives: a slice has no more places than its bulk.
-/
import Derived.Test.YtmbhlicgljjmlaaRows
namespace Go.Proofs.Ytmbhlicgljjmlaa

theorem bulk_one {H : Type} (d : DataW H) : 1 ≤ Rows.uptoBulk d := by
  cases d with
  | lit l => cases l <;> simp [Rows.uptoBulk]
  | nil => simp [Rows.uptoBulk]
  | ptr d => simp [Rows.uptoBulk]
  | slice elems spare => simp [Rows.uptoBulk]
  | agg parts => simp [Rows.uptoBulk]
  | iface t d => simp [Rows.uptoBulk]
  | map entries => simp [Rows.uptoBulk]
  | held h => simp [Rows.uptoBulk]

theorem bulk_len {H : Type} (l : List (DataW H)) : l.length ≤ Rows.uptoBulkAll l := by
  induction l with
  | nil => simp [Rows.uptoBulkAll]
  | cons x r ih => have := bulk_one x; simp only [Rows.uptoBulkAll, List.length_cons]; omega

theorem bulk_slice {H : Type} {el sp : List (DataW H)} (hk : Rows.uptoSmall H ([.slice el sp] ++ []) = true) : el.length + sp.length ≤ 1048576 := by
  have h := of_decide_eq_true hk
  have h1 := bulk_len el
  have h2 := bulk_len sp
  simp only [List.append_nil, Rows.uptoBulkAll, Rows.uptoBulk] at h
  omega

end Go.Proofs.Ytmbhlicgljjmlaa
