/- A walk breadth first: the steps of its memory. -/
import Derived.Test.YtdllkoiddlcnmabBv
namespace Go.Proofs.Ytdllkoiddlcnmab
open Go.MapKept Go.RowKit

theorem own_ne_cells {w : World} {B b s n : Nat} {e T : TypeId} {v : Value} {xs : List Value} {c : Array Value} {f : Nat × Nat} (ho : w.ownsRow B e s v n xs) (hb : w.heap[b]? = some (.cells c T f)) (hT : T ≠ e) : some b ≠ v.ownBlock := by
  intro h
  rcases ho.2 with ⟨h3, -⟩ | ⟨g', cap', cur, rfl, -, h4, -⟩
  · rw [h3] at h; cases h
  · have e' : some b = some g' := h
    cases e'
    rw [hb] at h4
    simp only [Option.some.injEq, Obj.cells.injEq] at h4
    exact hT h4.2.1
theorem K2_own {b B s n : Nat} {row : Option Nat} {w w' : World} {e : TypeId} {v : Value} {xs : List Value} (k : K2 b row w w') (h : w.ownsRow B e s v n xs) (h1 : some b ≠ v.ownBlock) (h2 : v.ownBlock = none ∨ v.ownBlock ≠ row) : w'.ownsRow B e s v n xs := by
  refine ⟨h.1, ?_⟩
  rcases h.2 with h3 | ⟨g, cap, cur, rfl, ha, hb, hc⟩
  · exact .inl h3
  · refine .inr ⟨g, cap, cur, rfl, ha, ?_, hc⟩
    have hne : some g ≠ row := by
      rcases h2 with h2 | h2
      · cases h2
      · exact h2
    have hgb : g ≠ b := fun e => h1 (by rw [e]; rfl)
    exact (k.blk g (block_lt hb) hgb hne).trans hb
theorem SetMap.same {w : World} {m : Nat} {l l' : List Int} (h : SetMap w m l) (he : ∀ x, x ∈ l ↔ x ∈ l') : SetMap w m l' := by
  obtain ⟨e, h1, h2, h3⟩ := h
  exact ⟨e, h1, fun x => (h2 x).trans (he x), h3⟩

/-- the iterator over the neighbours, over a row of its own -/
structure OwnIt (w : World) (B q : Nat) (vs : Value) (l : List Int) (i : Int) : Prop where
  blk : w.heap[q]? = some (.cells #[.int .i64 i, vs] onT (0, 0))
  own : w.ownsRow B nodT 1 vs l.length (l.map nodeV)
  ge : B ≤ q
theorem OwnIt.on {w : World} {B q : Nat} {vs : Value} {l : List Int} {i : Int} (h : OwnIt w B q vs l i) : OnR w q vs l i := ⟨h.blk, .of_own h.own⟩
theorem OwnIt.grown {w w' : World} {B q : Nat} {vs : Value} {l : List Int} {i : Int} (h : OwnIt w B q vs l i) (hg : w.grownBy w' none) : OwnIt w' B q vs l i := ⟨grown_block hg h.blk (by simp), own_new h.own hg, h.ge⟩
theorem OwnIt.moved {w w' : World} {B q : Nat} {vs : Value} {l : List Int} {i i' : Int} (h : OwnIt w B q vs l i) (hg : w.grownBy w' (some q)) (hb : w'.heap[q]? = some (.cells #[.int .i64 i', vs] onT (0, 0))) : OwnIt w' B q vs l i' :=
  ⟨hb, h.own.kept hg (.inr (own_ne_cells h.own h.blk (by decide)).symm), h.ge⟩
theorem OwnIt.set {w w' : World} {B q m : Nat} {vs : Value} {l V : List Int} {i : Int} (h : OwnIt w B q vs l i) (hs : SetMap w m V) (hg : w.grownBy w' (some m)) : OwnIt w' B q vs l i :=
  ⟨grown_block hg h.blk (by have := hs.ne h.blk; simp; omega), h.own.kept hg (.inr (by have := hs.row h.own; exact this.symm)), h.ge⟩
theorem OwnIt.k2 {w w' : World} {B q b : Nat} {row : Option Nat} {vs : Value} {l : List Int} {i : Int} {c : Array Value} (h : OwnIt w B q vs l i) (hb : w.heap[b]? = some (.cells c bfT (0, 0))) (k : K2 b row w w') (hq : some q ≠ row) (hr : vs.ownBlock = none ∨ vs.ownBlock ≠ row) : OwnIt w' B q vs l i := by
  have hqb : q ≠ b := by
    rintro rfl
    have h1 := h.blk
    rw [hb] at h1
    simp only [Option.some.injEq, Obj.cells.injEq] at h1
    exact absurd h1.2.1 (by decide)
  exact ⟨(k.blk q (block_lt h.blk) hqb hq).trans h.blk, K2_own k h.own (own_ne_cells h.own hb (by decide)) hr, h.ge⟩

theorem BwR.ne {w : World} {B b m h : Nat} {x0 x1 v : Value} {V Q : List Int} (r : BwR w B b m x0 x1 h v V Q) : some m ≠ some b ∧ some m ≠ v.ownBlock ∧ some b ≠ v.ownBlock :=
  ⟨by have := r.s.ne r.q.blk; simpa using this, r.s.row r.q.row, r.q.ne⟩
theorem BwR.next {w w' : World} {B b m h q : Nat} {x0 x1 v vs : Value} {V Q l : List Int} {i : Int} (r : BwR w B b m x0 x1 h v V Q) (o : OwnIt w B q vs l i) (hg : w.grownBy w' (some q)) : BwR w' B b m x0 x1 h v V Q := by
  have h1 : some b ≠ some q := by
    intro e
    cases e
    have h1 := o.blk
    rw [r.q.blk] at h1
    simp only [Option.some.injEq, Obj.cells.injEq] at h1
    exact absurd h1.2.1 (by decide)
  exact ⟨r.q.grown hg h1 (.inr (own_ne_cells r.q.row o.blk (by decide)).symm), r.s.grown hg (by have := r.s.ne o.blk; simpa using this), r.hq, r.hl⟩
theorem BwR.add {w w' : World} {B b m h : Nat} {x0 x1 v : Value} {V Q : List Int} {x : Int} (r : BwR w B b m x0 x1 h v V Q) (hs : SetMap w' m (x :: V)) (hg : w.grownBy w' (some m)) : BwR w' B b m x0 x1 h v (V ++ [x]) Q := by
  obtain ⟨h1, h2, h3⟩ := r.ne
  exact ⟨r.q.grown hg h1.symm (.inr h2.symm), hs.same (fun y => by simp [or_comm]), r.hq, by have := r.hl; simp; omega⟩
theorem BwR.deq {w w' : World} {B b m h : Nat} {x0 x1 v : Value} {V Q : List Int} {x : Int} {e : Ending} (r : BwR w B b m x0 x1 h v V (x :: Q)) (d : DeqPost B b h x0 x1 (.map (some m)) v x Q w e w') : e = .returned (nodeV x) ∧ (∃ h' v', BwR w' B b m x0 x1 h' v' V Q) ∧ K2 b v.ownBlock w w' := by
  obtain ⟨rfl, h', v', q', hq, hh, hv, k⟩ := d
  obtain ⟨h1, h2, h3⟩ := r.ne
  exact ⟨rfl, ⟨h', v', q', k.set r.s (by simpa using h1) h2, hq, by have := r.hl; simp at this; omega⟩, k⟩
theorem BwR.enq {w w' : World} {B b m h : Nat} {x0 x1 v : Value} {V Q : List Int} {x : Int} {e : Ending} (r : BwR w B b m x0 x1 h v V Q) (hl : h + Q.length + 1 ≤ V.length) (d : EnqPost B b h x0 x1 (.map (some m)) v x Q w e w') : e = .returned (.tuple #[]) ∧ (∃ h' v', BwR w' B b m x0 x1 h' v' V (Q ++ [x]) ∧ ∀ j, v'.ownBlock = some j → v.ownBlock = some j ∨ w.heap.size ≤ j) ∧ K2 b v.ownBlock w w' := by
  obtain ⟨rfl, h', v', q', hh, hv, k⟩ := d
  obtain ⟨h1, h2, h3⟩ := r.ne
  exact ⟨rfl, ⟨h', v', ⟨q', k.set r.s (by simpa using h1) h2, .inr (by simp), by simp; omega⟩, hv⟩, k⟩
theorem BwR.base {w : World} {B b m h : Nat} {x0 x1 v : Value} {V Q : List Int} (r : BwR w B b m x0 x1 h v V Q) : ∀ j, v.ownBlock = some j → B ≤ j := fun j hj => (r.q.row.lt j hj).1
end Go.Proofs.Ytdllkoiddlcnmab
