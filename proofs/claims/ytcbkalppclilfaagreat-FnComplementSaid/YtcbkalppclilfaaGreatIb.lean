/- impl.iterated over the two kinds of iterators, from their start. -/
import Derived.Test.YtcbkalppclilfaaGreatNg
namespace Go.Proofs.YtcbkalppclilfaaGreat
open Go.MapKept Go.RowKit

/-- nodes that are read below the block B -/
def NodesB (B : Nat) (w : World) (v : Value) (l : List Int) : Prop :=
  ∃ a c, v = .slice a l.length c ∧ (0 < l.length → ∃ b o, a = some ⟨b, o, none⟩ ∧ b < B ∧ ∀ i, (h : i < l.length) → w.cell? ⟨b, o + i, none⟩ = some (nodeV l[i]))
theorem NodesR.b {w : World} {v : Value} {l : List Int} (h : NodesR w v l) : NodesB w.heap.size w v l := h
theorem NodesB.r {B : Nat} {w : World} {v : Value} {l : List Int} (h : NodesB B w v l) (hB : B ≤ w.heap.size) : NodesR w v l := by
  obtain ⟨a, c, rfl, h2⟩ := h
  exact ⟨a, c, rfl, fun hl => by obtain ⟨b, o, e, hb, hc⟩ := h2 hl; exact ⟨b, o, e, Nat.lt_of_lt_of_le hb hB, hc⟩⟩
theorem NodesB.kept {B : Nat} {w w' : World} {row : Option Nat} {v : Value} {l : List Int} (h : NodesB B w v l) (hg : w.grownBy w' row) (hB : B ≤ w.heap.size) (hr : ∀ b, row = some b → B ≤ b) : NodesB B w' v l := by
  obtain ⟨a, c, rfl, h2⟩ := h
  refine ⟨a, c, rfl, fun hl => ?_⟩
  obtain ⟨b, o, rfl, hb, hc⟩ := h2 hl
  have hne : some b ≠ row := fun e => by have := hr b e.symm; omega
  exact ⟨b, o, rfl, hb, fun i hi => by rw [grown_cell hg (Nat.lt_of_lt_of_le hb hB) hne]; exact hc i hi⟩
theorem NodesB.moved {B : Nat} {w w' : World} {row : Option Nat} {v : Value} {l : List Int} (h : NodesB B w v l) (hg : w.grownBy w' row) (hB : B ≤ w.heap.size) (hr : ∀ r, row = some r → ∀ j x, w.cell? ⟨r, j, none⟩ ≠ some (nodeV x)) : NodesB B w' v l := by
  obtain ⟨a, c, rfl, h2⟩ := h
  refine ⟨a, c, rfl, fun hl => ?_⟩
  obtain ⟨b, o, rfl, hb, hc⟩ := h2 hl
  have hne : some b ≠ row := fun e => hr b e.symm _ _ (hc 0 hl)
  exact ⟨b, o, rfl, hb, fun i hi => by rw [grown_cell hg (Nat.lt_of_lt_of_le hb hB) hne]; exact hc i hi⟩

/-- what iterated does with an iterator, from the world w on -/
def ItdOk (B : Nat) (l : List Int) (it : Value) (w : World) : Prop := ∃ q, B ≤ q ∧ ∀ W, w.grownBy W none → Calls Tryz.prog 43 #[it] W (ItdPost l q W)
theorem ItdOk.mono {B B' : Nat} {l : List Int} {it : Value} {w : World} (h : ItdOk B l it w) (hB : B' ≤ B) : ItdOk B' l it w := by
  obtain ⟨q, h1, h2⟩ := h
  exact ⟨q, Nat.le_trans hB h1, h2⟩

theorem on_ok {q B : Nat} {vs : Value} {l : List Int} {w : World} (h : OnR w q vs l (-1)) (hB : B ≤ q) (hl : l.length ≤ 1000000) : ItdOk B l (.iface onpT (.pointer (some ⟨q, 0, none⟩))) w := by
  refine ⟨q, hB, fun W hW => ?_⟩
  have hq : q < W.heap.size := Nat.lt_of_lt_of_le (block_lt h.1) hW.size
  obtain ⟨a, c, rfl⟩ := h.2.slice
  refine iterated_on (I := fun X k => X.heap[q]? = some (.cells #[.int .i64 ((k : Int) - 1), .slice a l.length c] onT (0, 0)) ∧ NodesB W.heap.size X (.slice a l.length c) l ∧ W.heap.size ≤ X.heap.size) ?_ ?_ ?_ ?_ ?_ hq hl
  · have := h.kept hW (by simp) (by simp)
    exact ⟨this.1, this.2.b, Nat.le_refl _⟩
  · rintro X k ⟨h1, h2, h3⟩ hk
    refine (on_next h1 hk hl).mono ?_
    rintro e X' ⟨rfl, h4, h5⟩
    have e1 : ((k + 1 : Nat) : Int) - 1 = k := by omega
    refine ⟨rfl, ⟨by rw [e1]; exact h4, h2.moved h5 h3 (fun r hr => by cases hr; exact on_cells h1), Nat.le_trans h3 h5.size⟩, h5⟩
  · rintro X ⟨h1, h2, h3⟩
    refine (on_next_end h1 hl).mono ?_
    rintro e X' ⟨rfl, h4, h5⟩
    exact ⟨rfl, h5⟩
  · rintro X k hk ⟨h1, h2, h3⟩
    have e1 : ((k + 1 : Nat) : Int) - 1 = k := by omega
    rw [e1] at h1
    exact on_node ⟨h1, h2.r h3⟩ hk hl
  · rintro X X' row k ⟨h1, h2, h3⟩ hg hr
    exact ⟨grown_block hg h1 (fun e => by have := hr q e.symm; omega), h2.kept hg h3 hr, Nat.le_trans h3 hg.size⟩

theorem nf_ok {p q m B : Nat} {vs : Value} {ids S : List Int} {w : World} (h1 : OnR w q vs ids (-1)) (h2 : NfR w p q m S) (hB : B ≤ q) (hl : ids.length ≤ 1000000) : ItdOk B (ids.filter (keepB S)) (.iface nfpT (.pointer (some ⟨p, 0, none⟩))) w := by
  refine ⟨q, hB, fun W hW => ?_⟩
  have hq : q < W.heap.size := Nat.lt_of_lt_of_le (block_lt h1.1) hW.size
  have hp : p < W.heap.size := Nat.lt_of_lt_of_le (block_lt h2.1) hW.size
  have hm : m < W.heap.size := Nat.lt_of_lt_of_le h2.2.lt hW.size
  have hll : (ids.filter (keepB S)).length ≤ 1000000 := Nat.le_trans (List.length_filter_le _ _) hl
  have hO : ∀ {X : World} {j : Nat} {k : Nat}, NfAt X p q m vs ids S k j → ∀ j x, X.cell? ⟨q, j, none⟩ ≠ some (nodeV x) := fun h => h.2.2.1.cells
  refine iterated_nf (I := fun X k => NfOn X p q m vs ids S k ∧ NodesB W.heap.size X vs ids ∧ W.heap.size ≤ X.heap.size) ?_ ?_ ?_ ?_ ?_ hq hll
  · have k1 := h1.kept hW (by simp) (by simp)
    exact ⟨⟨0, ⟨Nat.zero_le _, rfl, k1, h2.kept hW (by simp) (by simp)⟩, fun h => absurd h (by omega)⟩, k1.2.b, Nat.le_refl _⟩
  · rintro X k ⟨g1, g2, g3⟩ hk
    refine (nf_next g1 hl).mono ?_
    rintro e X' ⟨rfl, g4, g5⟩
    obtain ⟨j, g6, -⟩ := g1
    exact ⟨by rw [decide_eq_true hk], ⟨g4 hk, g2.moved g5 g3 (fun r hr => by cases hr; exact hO g6), Nat.le_trans g3 g5.size⟩, g5⟩
  · rintro X ⟨g1, g2, g3⟩
    refine (nf_next g1 hl).mono ?_
    rintro e X' ⟨rfl, g4, g5⟩
    exact ⟨by rw [decide_eq_false (by omega)], g5⟩
  · rintro X k hk ⟨g1, g2, g3⟩
    exact nf_node g1 hk hl
  · rintro X X' row k ⟨⟨j, g1, g0⟩, g2, g3⟩ hg hr
    have g4 := g2.kept hg g3 hr
    refine ⟨⟨j, ⟨g1.1, g1.2.1, ⟨grown_block hg g1.2.2.1.1 (fun e => by have := hr q e.symm; omega), g4.r (Nat.le_trans g3 hg.size)⟩, g1.2.2.2.kept hg (fun e => by have := hr p e.symm; omega) (fun e => by have := hr m e.symm; omega)⟩, g0⟩, g4, Nat.le_trans g3 hg.size⟩
end Go.Proofs.YtcbkalppclilfaaGreat
