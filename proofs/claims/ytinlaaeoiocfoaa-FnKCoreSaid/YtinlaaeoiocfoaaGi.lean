/- A graph that is handed in, as its words are read. -/
import Derived.Test.YtinlaaeoiocfoaaLd
import Derived.ProofKit
import Derived.OpenShut
import Derived.ChangeSlices
import Derived.Deep.Slices
import Derived.Deep.Strs
namespace Go.Proofs.Ytinlaaeoiocfoaa
open Go.ChangeShapes Go.WideShapes Go.ChangeAt Go.RowKit

section
variable {H : Type} {enc : TypeId × Value → H} {w : World} {base : Nat} {spare : Nat → Bool} {held : Bool}

theorem spot_none {W : World} {a : Addr} {v : Value} (h : W.cell? (a.add 0) = some v) : ∃ b o, a = ⟨b, o, none⟩ ∧ b < W.heap.size := by
  obtain ⟨b, o, spot⟩ := a
  have hspot : spot = none := by
    have := World.cell?_spot h
    simpa [Addr.add] using this
  subst hspot
  refine ⟨b, o, rfl, ?_⟩
  have := World.block_lt_of_cell? W _ h
  simpa [addr_add] using this

theorem ints_in {fuel : Nat} {cs : List Value} {x : DataW H × List MemPlace} (h : DataW.trod enc Try.prog w base spare held fuel 22 cs = some x) : ∃ v l, cs = [v] ∧ IntsR w v l := by
  rcases open_ints Try.underlying22 Try.underlying3 (by kernel_rfl) h with ⟨rfl, _⟩ | ⟨a, len, cap, zs, rfl, _, hl, _, hz, _, hc, _⟩
  · exact ⟨_, [], rfl, _, _, rfl, fun h => by simp at h⟩
  · have hlz : len ≤ zs.length := by rw [hz]; split <;> omega
    have hlen : (zs.take len).length = len := by rw [List.length_take]; omega
    refine ⟨_, zs.take len, rfl, some a, cap, by rw [hlen], fun hp => ?_⟩
    rw [hlen] at hp
    obtain ⟨b, o, rfl, hb⟩ := spot_none (hc 0 (by omega))
    refine ⟨b, o, rfl, hb, fun i hi => ?_⟩
    rw [hlen] at hi
    have := hc i (by omega)
    rw [addr_add] at this
    rw [this, List.getElem_take]
    simp [List.getD_eq_getElem?_getD, List.getElem?_eq_getElem (show i < zs.length by omega)]

set_option maxRecDepth 100000 in
theorem edges_in {fuel : Nat} {cs : List Value} {x : DataW H × List MemPlace} (h : DataW.trod enc Try.prog w base spare held fuel 23 cs = some x) : ∃ v l, cs = [v] ∧ EdgesR w v l := by
  have hce : (Try.prog).cellsOf 54 = 3 := by kernel_rfl
  have hci : (Try.prog).cellsOf 3 = 1 := by kernel_rfl
  rcases Deep.open_slice Try.underlying23 h with ⟨rfl, _⟩ | ⟨a, len, cap, m, n, D, Pl, rfl, _, hl, _, hm, _, hc⟩
  · exact ⟨_, [], rfl, _, _, rfl, fun h => by simp at h⟩
  · have hlm : len ≤ m := by rw [hm]; split <;> omega
    have each : ∀ i, i < len → ∃ e : E3, w.cell? (a.add (i * 3)) = some (.int .i64 e.1) ∧ w.cell? (a.add (i * 3 + 1)) = some (.int .i64 e.2.1) ∧ w.cell? (a.add (i * 3 + 2)) = some (.int .i64 e.2.2) := by
      intro i hi
      obtain ⟨cs', h1, h2⟩ := hc i (by omega)
      rw [hce] at h1
      obtain ⟨_, hlen, hcell⟩ := World.cells?_some h1
      obtain ⟨y0, y1, y2, k, _, _, g0, g1, g2⟩ := Deep.trod_struct3 Try.underlying54 h2
      match cs', hlen with
      | [v0, v1, v2], _ =>
        simp only [hci] at g0 g1 g2
        obtain ⟨z0, e0, _⟩ := DataW.trod_int Try.underlying3 (show DataW.trod enc Try.prog w base spare held k 3 [v0] = some y0 from g0)
        obtain ⟨z1, e1, _⟩ := DataW.trod_int Try.underlying3 (show DataW.trod enc Try.prog w base spare held k 3 [v1] = some y1 from g1)
        obtain ⟨z2, e2, _⟩ := DataW.trod_int Try.underlying3 (show DataW.trod enc Try.prog w base spare held k 3 [v2] = some y2 from g2)
        cases e0; cases e1; cases e2
        have c0 := hcell 0 (by omega)
        have c1 := hcell 1 (by omega)
        have c2 := hcell 2 (by omega)
        rw [Deep.add_add] at c0 c1 c2
        exact ⟨(z0, z1, z2), by simpa using c0, by simpa using c1, by simpa using c2⟩
    have each' : ∀ i, ∃ e : E3, i < len → w.cell? (a.add (i * 3)) = some (.int .i64 e.1) ∧ w.cell? (a.add (i * 3 + 1)) = some (.int .i64 e.2.1) ∧ w.cell? (a.add (i * 3 + 2)) = some (.int .i64 e.2.2) := fun i => by
      by_cases hi : i < len
      · obtain ⟨e, he⟩ := each i hi
        exact ⟨e, fun _ => he⟩
      · exact ⟨(0, 0, 0), fun h => absurd h hi⟩
    obtain ⟨E, hE⟩ := Classical.axiomOfChoice each'
    have hlen : ((List.range len).map E).length = len := by simp
    refine ⟨_, (List.range len).map E, rfl, some a, cap, by rw [hlen], fun hp => ?_⟩
    rw [hlen] at hp
    obtain ⟨b, o, rfl, hb⟩ := spot_none (v := .int .i64 (E 0).1) (by simpa using (hE 0 hp).1)
    refine ⟨b, o, rfl, hb, fun i hi => ?_⟩
    rw [hlen] at hi
    obtain ⟨c0, c1, c2⟩ := hE i hi
    rw [addr_add] at c0 c1 c2
    rw [List.getElem_map, List.getElem_range]
    exact ⟨c0, c1, c2⟩

set_option maxRecDepth 100000 in
theorem graph_in {fuel : Nat} {cs : List Value} {x : DataW H × List MemPlace} (h : DataW.trod enc Try.prog w base spare held fuel 25 cs = some x) : ∃ G : Gr, GrR w (.agg cs.toArray) G := by
  obtain ⟨y0, y1, y2, n, _, hl, h0, h1, h2⟩ := Deep.trod_struct3 Try.underlying25 h
  have hcg : (Try.prog).cellsOf 25 = 3 := by kernel_rfl
  have hcb : (Try.prog).cellsOf 4 = 1 := by kernel_rfl
  have hci : (Try.prog).cellsOf 22 = 1 := by kernel_rfl
  have hce : (Try.prog).cellsOf 23 = 1 := by kernel_rfl
  rw [hcg] at hl
  match cs, hl with
  | [v0, v1, v2], _ =>
    simp only [hcb, hci, hce] at h0 h1 h2
    obtain ⟨d, e0, _⟩ := DataW.trod_bool Try.underlying4 (show DataW.trod enc Try.prog w base spare held n 4 [v0] = some y0 from h0)
    obtain ⟨u1, l1, e1, k1⟩ := ints_in (show DataW.trod enc Try.prog w base spare held n 22 [v1] = some y1 from h1)
    obtain ⟨u2, l2, e2, k2⟩ := edges_in (show DataW.trod enc Try.prog w base spare held n 23 [v2] = some y2 from h2)
    cases e0; cases e1; cases e2
    exact ⟨⟨d, l1, l2⟩, v1, v2, rfl, k1, k2⟩
end
end Go.Proofs.Ytinlaaeoiocfoaa
