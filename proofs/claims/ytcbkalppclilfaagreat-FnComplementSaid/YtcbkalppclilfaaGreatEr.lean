/- Rows of edges of the call's own. -/
import Derived.Test.YtcbkalppclilfaaGreatNo
namespace Go.Proofs.YtcbkalppclilfaaGreat
open Go.MapKept Go.RowKit

abbrev edgT : TypeId := 37
abbrev grT : TypeId := 25
abbrev ntT : TypeId := 3
theorem elE : ElT Tryz.prog 23 edgT 3 24 (.agg #[.int .i64 0, .int .i64 0, .int .i64 0]) := ⟨Tryz.underlying23, by kernel_rfl, by kernel_rfl, by decide⟩

def edgeCells (l : List E3) : List Value := l.flatMap fun e => [.int .i64 e.1, .int .i64 e.2.1, .int .i64 e.2.2]
theorem edgeCells_cons (e : E3) (l : List E3) : edgeCells (e :: l) = .int .i64 e.1 :: .int .i64 e.2.1 :: .int .i64 e.2.2 :: edgeCells l := rfl
theorem edgeCells_append (l m : List E3) : edgeCells (l ++ m) = edgeCells l ++ edgeCells m := by simp [edgeCells]
theorem edgeCells_length (l : List E3) : (edgeCells l).length = l.length * 3 := by
  induction l with
  | nil => rfl
  | cons e l ih => rw [edgeCells_cons]; simp [ih]; omega
theorem edgeCells_get : ∀ (l : List E3) (j : Nat) (h : j < l.length), (edgeCells l)[j * 3]? = some (.int .i64 l[j].1) ∧ (edgeCells l)[j * 3 + 1]? = some (.int .i64 l[j].2.1) ∧ (edgeCells l)[j * 3 + 2]? = some (.int .i64 l[j].2.2)
  | e :: l, 0, _ => ⟨rfl, rfl, rfl⟩
  | e :: l, j + 1, h => by
    have := edgeCells_get l j (by simpa using h)
    rw [edgeCells_cons, show (j + 1) * 3 = j * 3 + 1 + 1 + 1 by omega, show j * 3 + 1 + 1 + 1 + 1 = (j * 3 + 1) + 1 + 1 + 1 by omega, show j * 3 + 1 + 1 + 1 + 2 = (j * 3 + 2) + 1 + 1 + 1 by omega]
    simpa using this

theorem EdgesR.of_own {w : World} {base : Nat} {e : TypeId} {v : Value} {l : List E3} (h : w.ownsRow base e 3 v l.length (edgeCells l)) : EdgesR w v l := by
  obtain ⟨a, c, rfl⟩ := own_slice h
  refine ⟨a, c, rfl, fun hl => ?_⟩
  obtain ⟨g, cap, e1, _, hg, _⟩ := own_row h hl
  simp only [Value.slice.injEq] at e1
  obtain ⟨rfl, _, rfl⟩ := e1
  refine ⟨g, 0, rfl, hg, fun i hi => ?_⟩
  obtain ⟨h1, h2, h3⟩ := edgeCells_get l i hi
  have k1 := h.cells (g := g) rfl (i * 3) _ h1
  have k2 := h.cells (g := g) rfl (i * 3 + 1) _ h2
  have k3 := h.cells (g := g) rfl (i * 3 + 2) _ h3
  rw [addr_add] at k1 k2 k3
  exact ⟨k1, k2, k3⟩

/-- an edge more -/
theorem own_edge {w : World} {base g cap n : Nat} {l : List E3} {a b z : Int} (h : w.ownsRow base edgT 3 (.slice (some ⟨g, 0, none⟩) (n + 1) cap) (n + 1) (edgeCells l ++ [.int .i64 a, .int .i64 b, .int .i64 z])) (hn : n = l.length) :
    w.ownsRow base edgT 3 (.slice (some ⟨g, 0, none⟩) (n + 1) cap) (l ++ [(a, b, z)]).length (edgeCells (l ++ [(a, b, z)])) := by
  rw [edgeCells_append, List.length_append]
  subst hn
  exact h

theorem row_ne_cells {w : World} {B s n b : Nat} {e T : TypeId} {v : Value} {xs : List Value} {c : Array Value} {f : Nat × Nat} (h : w.ownsRow B e s v n xs) (hb : w.heap[b]? = some (.cells c T f)) (he : e ≠ T) : some b ≠ v.ownBlock := by
  intro h1
  rcases h.2 with ⟨rfl, -⟩ | ⟨g, cap, cur, rfl, -, hh, -⟩
  · cases h1
  · have e1 : some b = some g := h1
    cases e1
    rw [hb] at hh
    simp only [Option.some.injEq, Obj.cells.injEq] at hh
    exact he hh.2.1.symm

/-- a graph in a box, with rows of the call's own -/
structure GBox (w : World) (B g : Nat) (d : Bool) (vn ve : Value) (ids : List Int) (E : List E3) : Prop where
  blk : w.heap[g]? = some (.cells #[.bool d, vn, ve] grT (0, 0))
  nod : w.ownsRow B ntT 1 vn ids.length (ids.map (Value.int .i64))
  edg : w.ownsRow B edgT 3 ve E.length (edgeCells E)
theorem GBox.grown {w w' : World} {B g : Nat} {d : Bool} {vn ve : Value} {ids : List Int} {E : List E3} (h : GBox w B g d vn ve ids E) (hg : w.grownBy w' none) : GBox w' B g d vn ve ids E :=
  ⟨grown_block hg h.blk (by simp), own_new h.nod hg, own_new h.edg hg⟩
theorem GBox.cells {w : World} {B g : Nat} {d : Bool} {vn ve : Value} {ids : List Int} {E : List E3} (h : GBox w B g d vn ve ids E) : w.cell? ⟨g, 0, none⟩ = some (.bool d) ∧ w.cell? ⟨g, 1, none⟩ = some vn ∧ w.cell? ⟨g, 2, none⟩ = some ve :=
  ⟨cell_at h.blk, cell_at h.blk, cell_at h.blk⟩
/-- its edges grow -/
theorem GBox.append {w w' : World} {B g : Nat} {d : Bool} {vn ve v' : Value} {ids : List Int} {E E' : List E3} (h : GBox w B g d vn ve ids E) (hg : w.grownBy w' ve.ownBlock) (ho : w'.ownsRow B edgT 3 v' E'.length (edgeCells E')) :
    GBox (w'.setCell ⟨g, 2, none⟩ v') B g d vn v' ids E' ∧ w'.frozen? ⟨g, 2, none⟩ = false ∧ (∃ u, w'.cell? ⟨g, 2, none⟩ = some u) := by
  have hb := grown_block hg h.blk (row_ne_cells h.edg h.blk (by decide))
  have hn := h.nod.kept hg (row_ne_row h.nod h.edg (by decide))
  have h1 : vn.ownBlock = none ∨ vn.ownBlock ≠ some g := .inr (row_ne_cells hn hb (by decide)).symm
  have h2 : v'.ownBlock = none ∨ v'.ownBlock ≠ some g := .inr (row_ne_cells ho hb (by decide)).symm
  exact ⟨⟨block_set hb 2 v', hn.kept (grown_setCell w' g 2 v') h1, ho.kept (grown_setCell w' g 2 v') h2⟩, free_at hb, ⟨_, cell_at hb⟩⟩
end Go.Proofs.YtcbkalppclilfaaGreat
