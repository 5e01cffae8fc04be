/- A plain graph as a directed one: Nodes, From. -/
import Derived.Test.YtinlaaeoiocfoaaIu
namespace Go.Proofs.Ytinlaaeoiocfoaa
open Go.MapKept Go.RowKit

abbrev dirV (p0 : Nat) : Value := .agg #[.pointer (some ⟨p0, 0, none⟩)]

/-- the nodes to which arcs lead from a node -/
def outs (ids : List Int) (M : Mat) (x : Int) : List Int := (arcsOf ids.length (M (ix ids x))).map fun p => ids.getD p.1 0

theorem PlnR.row {w : World} {p0 : Nat} {ids : List Int} {M : Mat} (h : PlnR w p0 ids M) {i : Nat} (hi : i < ids.length) : ∃ Ro vr, w.cell? ⟨p0, 1, none⟩ = some (.slice (some ⟨Ro, 0, none⟩) ids.length ids.length) ∧ w.cell? ⟨Ro, i, none⟩ = some vr ∧ ArcsR w vr (arcsOf ids.length (M i)) ∧ Ro < w.heap.size := by
  obtain ⟨B, Ro, Ri, vids, V, A⟩ := h
  refine ⟨Ro, V i, cell_at A.blk, A.ro.cell hi, ?_, A.ro.lt⟩
  have := ArcsR.of_own (A.own i (by omega))
  have e : rowsOf ids.length M i = M i := by unfold rowsOf; rw [if_pos hi]
  rw [e] at this
  exact this

theorem ItPost.weak {l : List Int} {w w0 : World} {e : Ending} {w' : World} (h : ItPost l w e w') (hg : w0.grownBy w none) : ItPost l w0 e w' := by
  obtain ⟨q, vs, h1, h2, h3, h4, h5⟩ := h
  exact ⟨q, vs, h1, h2, own_mono h3 hg.size, Nat.le_trans hg.size h4, grown_tr hg h5⟩



end Go.Proofs.Ytinlaaeoiocfoaa
