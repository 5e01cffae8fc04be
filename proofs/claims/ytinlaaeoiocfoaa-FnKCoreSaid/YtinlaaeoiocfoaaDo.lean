/- Steps of the buckets in memory: the last is taken out, one is swapped out. -/
import Derived.Test.YtinlaaeoiocfoaaDn
namespace Go.Proofs.Ytinlaaeoiocfoaa
open Go.MapKept Go.RowKit

theorem own_set {w : World} {B g n cap p : Nat} {L : List Int} {z : Int} (h : w.ownsRow B nodT 1 (.slice (some ⟨g, 0, none⟩) n cap) n (L.map nodeV)) (hp : p < L.length) :
    (w.setCell ⟨g, p, none⟩ (nodeV z)).ownsRow B nodT 1 (.slice (some ⟨g, 0, none⟩) n cap) n ((L.set p z).map nodeV) := by
  obtain ⟨h0, h | ⟨g', cap', cur, e1, hb, hh, hc, hm, hs, ht⟩⟩ := h
  · simp at h
  · simp only [Value.slice.injEq, Option.some.injEq, Addr.mk.injEq, and_true, true_and] at e1
    obtain ⟨rfl, rfl⟩ := e1
    have hL : L.length = n := by simpa using h0
    refine ⟨by simpa using h0, .inr ⟨g, cap, _, rfl, hb, block_set hh p _, hc, hm, by simp [hs], ?_⟩⟩
    rw [List.map_set, ← ht]
    apply List.ext_getElem?
    intro j
    rw [Nat.mul_one]
    by_cases hj : j < n
    · rw [List.getElem?_take_of_lt hj, Array.getElem?_toList, Array.getElem?_setIfInBounds, List.getElem?_set, List.getElem?_take_of_lt hj, Array.getElem?_toList]
      by_cases e : p = j
      · subst e
        have h1 : p < cur.size := by rw [hs]; omega
        simp [h1]
        omega
      · simp [e]
    · rw [List.getElem?_take_eq_none (by omega), List.getElem?_eq_none]
      rw [List.length_set, List.length_take]
      omega

section
variable {w w1 : World} {B bd m : Nat} {V : Nat → Value} {D : Nat → List Int}
/-- the last of bucket i is taken out -/
theorem RowsD.pop (h : RowsD w B bd m V D) {i g cap : Nat} {L : List Int} {v : Int} (hi : i < m) (hD : D i = L ++ [v]) (hV : V i = .slice (some ⟨g, 0, none⟩) (L.length + 1) cap) :
    RowsD (w.setCell ⟨bd, i, none⟩ (.slice (some ⟨g, 0, none⟩) L.length cap)) B bd m (updN V i (.slice (some ⟨g, 0, none⟩) L.length cap)) (updN D i L) := by
  have ho := h.own i hi
  rw [hD, hV] at ho
  refine h.put hi (grown_any (grown_refl w) _) (own_cut (x := v) (n := L.length + 1) (by simpa using ho) rfl) (.inl ?_)
  rw [hV]
  rfl
/-- the last of bucket i comes to place p, and the bucket is one shorter -/
theorem RowsD.swap (h : RowsD w B bd m V D) {i g n cap p : Nat} (hi : i < m) (hp : p < (D i).length) (hn : (D i).length = n + 1) (hV : V i = .slice (some ⟨g, 0, none⟩) (n + 1) cap) :
    RowsD ((w.setCell ⟨g, p, none⟩ (nodeV ((D i).getLastD 0))).setCell ⟨bd, i, none⟩ (.slice (some ⟨g, 0, none⟩) n cap)) B bd m (updN V i (.slice (some ⟨g, 0, none⟩) n cap)) (updN D i (swp (D i) p)) := by
  have ho := h.own i hi
  rw [hn, hV] at ho
  have h1 := own_set (z := (D i).getLastD 0) ho hp
  have hl : (swp (D i) p).length = n := by have := swp_length hp; omega
  have hne : (D i).set p ((D i).getLastD 0) ≠ [] := by
    intro e
    have := congrArg List.length e
    simp at this
    rw [this] at hp
    simp at hp
  have e : (D i).set p ((D i).getLastD 0) = swp (D i) p ++ [((D i).set p ((D i).getLastD 0)).getLast hne] := by
    unfold swp
    exact (List.dropLast_concat_getLast hne).symm
  rw [e] at h1
  have h2 := own_cut h1 (by rw [hl])
  rw [hl] at h2
  refine h.put hi ?_ (by rw [hl]; exact h2) (.inl ?_)
  · rw [hV]
    exact grown_setCell w g p _
  · rw [hV]
    rfl
end
end Go.Proofs.Ytinlaaeoiocfoaa
