/- Edges between two numbers, plainly: as the reference asks for them. -/
import Derived.Test.YtcbkalppclilfaaGreatRe
namespace Go.Proofs.YtcbkalppclilfaaGreat

/-- an edge that joins u to v -/
def joinB (d : Bool) (u v : Int) (e : E3) : Bool := (e.1 == u && e.2.1 == v) || (!d && (e.1 == v && e.2.1 == u))
def Gr.joins (G : Gr) (u v : Int) : Bool := G.edges.any (joinB G.dir u v)

theorem any_take_succ {es : List E3} {p : E3 → Bool} {k : Nat} (hk : k < es.length) : (es.take (k + 1)).any p = ((es.take k).any p || p es[k]) := by
  rw [List.take_succ_eq_append_getElem hk, List.any_append]
  simp

theorem joins_iff {G : Gr} (hG : G.Well) {u v : Int} : G.joins u v = true ↔ edgeOf G.ids G.mat u v := by
  unfold Gr.joins
  rw [List.any_eq_true]
  constructor
  · rintro ⟨e, he, h⟩
    obtain ⟨h1, h2⟩ := hG.in_ids he
    simp only [joinB, Bool.or_eq_true, Bool.and_eq_true, beq_iff_eq, Bool.not_eq_true'] at h
    rcases h with ⟨rfl, rfl⟩ | ⟨hd, rfl, rfl⟩
    · exact ⟨h1, h2, mat_some.2 ⟨e, he, .inl ⟨rfl, rfl⟩⟩⟩
    · exact ⟨h2, h1, mat_some.2 ⟨e, he, .inr ⟨hd, rfl, rfl⟩⟩⟩
  · rintro ⟨hu, hv, hm⟩
    obtain ⟨e, he, h⟩ := mat_some.1 hm
    obtain ⟨h1, h2⟩ := hG.in_ids he
    refine ⟨e, he, ?_⟩
    simp only [joinB, Bool.or_eq_true, Bool.and_eq_true, beq_iff_eq, Bool.not_eq_true']
    rcases h with ⟨e1, e2⟩ | ⟨hd, e1, e2⟩
    · exact .inl ⟨(ix_inj hu h1 e1).symm, (ix_inj hv h2 e2).symm⟩
    · exact .inr ⟨hd, (ix_inj hv h1 e2).symm, (ix_inj hu h2 e1).symm⟩

/-- a number laid in behind all that are not greater -/
theorem srt_put {l S : List Int} {x : Int} {k : Nat} (hS : S = srt l) (h1 : ∀ j, (h : j < S.length) → k ≤ j → x < S[j]) (h2 : k = 0 ∨ ∃ h : k - 1 < S.length, S[k - 1] ≤ x) : S.take k ++ x :: S.drop k = srt (l ++ [x]) := by
  have hp : S.Pairwise (· ≤ ·) := by rw [hS]; exact srt_le l
  apply srt_eq
  · rw [List.pairwise_append]
    refine ⟨hp.sublist (List.take_sublist k S), List.pairwise_cons.2 ⟨fun y hy => ?_, hp.sublist (List.drop_sublist k S)⟩, fun a ha b hb => ?_⟩
    · obtain ⟨j, hj, rfl⟩ := List.getElem_of_mem hy
      rw [List.length_drop] at hj
      rw [List.getElem_drop]
      have := h1 (k + j) (by omega) (by omega)
      omega
    · have hax : a ≤ x := by
        obtain ⟨i, hi, rfl⟩ := List.getElem_of_mem ha
        rw [List.length_take] at hi
        rw [List.getElem_take]
        rcases h2 with h2 | ⟨h3, h4⟩
        · omega
        · by_cases hik : i = k - 1
          · subst hik; exact h4
          · have := List.pairwise_iff_getElem.1 hp i (k - 1) (by omega) h3 (by omega)
            omega
      rcases List.mem_cons.1 hb with rfl | hb
      · exact hax
      · obtain ⟨j, hj, rfl⟩ := List.getElem_of_mem hb
        rw [List.length_drop] at hj
        rw [List.getElem_drop]
        have := h1 (k + j) (by omega) (by omega)
        omega
  · refine List.perm_middle.trans ?_
    rw [List.take_append_drop, hS]
    exact ((srt_perm l).cons x).trans (List.perm_append_singleton x l).symm
end Go.Proofs.YtcbkalppclilfaaGreat
