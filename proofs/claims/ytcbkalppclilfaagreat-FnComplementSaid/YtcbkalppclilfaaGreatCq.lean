/- The edges of a complement, plainly. -/
import Derived.Test.YtcbkalppclilfaaGreatSc
import Derived.Test.YtcbkalppclilfaaGreatCo
namespace Go.Proofs.YtcbkalppclilfaaGreat

theorem map_range (l : List Int) : l = (List.range l.length).map (fun i => l.getD i 0) := by
  apply List.ext_getElem
  · simp
  · intro i h1 h2
    simp [List.getD, h1]
theorem flatMap_range {β : Type} (l : List Int) (F : Int → List β) : l.flatMap F = (List.range l.length).flatMap (fun u => F (l.getD u 0)) := by
  conv => lhs; rw [map_range l]
  rw [List.flatMap_map]
theorem filter_range (l : List Int) (p : Int → Bool) : l.filter p = ((List.range l.length).filter (fun i => p (l.getD i 0))).map (fun i => l.getD i 0) := by
  conv => lhs; rw [map_range l]
  rw [List.filter_map]
  rfl

def wantB (d : Bool) (M : Mat) (u v : Nat) : Bool := (!(u == v) && !(M u v).isSome) && (d || decide (u < v))
def wantRow (d : Bool) (ids : List Int) (M : Mat) (u : Nat) (l : List Nat) : List E3 := (l.filter (wantB d M u)).map (fun v => (ids.getD u 0, ids.getD v 0, 0))
def wantE (d : Bool) (ids : List Int) (M : Mat) (l : List Nat) : List E3 := l.flatMap (fun u => wantRow d ids M u (List.range ids.length))

theorem flatMap_same {β : Type} {l : List Nat} {F G : Nat → List β} (h : ∀ u ∈ l, F u = G u) : l.flatMap F = l.flatMap G := by
  induction l with
  | nil => rfl
  | cons a l ih => rw [List.flatMap_cons, List.flatMap_cons, h a (by simp), ih (fun u hu => h u (by simp [hu]))]

theorem cmE_want {ids : List Int} {M : Mat} {d : Bool} (ha : ids.Pairwise (· < ·)) : seenE d (cmOuts ids M) ids = wantE d ids M (List.range ids.length) := by
  unfold seenE wantE
  rw [flatMap_range]
  apply flatMap_same
  intro u hu
  have hu' : u < ids.length := by simpa using hu
  have e1 : ids.getD u 0 = ids[u] := by simp [List.getD, hu']
  have hs : srt (cmOuts ids M ids[u]) = cmOuts ids M ids[u] := (srt_eq ((ha.imp (fun h => Int.le_of_lt h)).filter _) (.refl _)).symm
  rw [e1, hs]
  unfold seenRow cmOuts wantRow
  rw [List.filter_filter, filter_range, List.map_map, e1]
  have hf : (List.range ids.length).filter (fun i => seenB d ids[u] (ids.getD i 0) && keepB (ids[u] :: outs ids M ids[u]) (ids.getD i 0)) = (List.range ids.length).filter (wantB d M u) := by
    apply List.filter_congr
    intro v hv
    have hv' : v < ids.length := by simpa using hv
    have e2 : ids.getD v 0 = ids[v] := by simp [List.getD, hv']
    rw [e2]
    have hlt : ids[v] < ids[u] ↔ v < u := by
      have hp := List.pairwise_iff_getElem.1 ha
      constructor
      · intro h
        rcases Nat.lt_trichotomy v u with k | k | k
        · exact k
        · subst k; omega
        · have := hp u v hu' hv' k; omega
      · intro k; exact hp v u hv' hu' k
    have heq : ids[v] = ids[u] ↔ v = u := by
      have hp := List.pairwise_iff_getElem.1 ha
      constructor
      · intro h
        rcases Nat.lt_trichotomy v u with k | k | k
        · have := hp v u hv' hu' k; omega
        · exact k
        · have := hp u v hu' hv' k; omega
      · rintro rfl; rfl
    have hout : ids[v] ∈ outs ids M ids[u] ↔ (M u v).isSome = true := by
      rw [outs_iff ha (List.getElem_mem hu')]
      unfold edgeOf
      rw [get_ix ha hu', get_ix ha hv']
      exact ⟨fun h => h.2.2, fun h => ⟨List.getElem_mem hu', List.getElem_mem hv', h⟩⟩
    rw [Bool.eq_iff_iff]
    simp only [seenB, keepB, wantB, Bool.and_eq_true, Bool.or_eq_true, Bool.not_eq_true', decide_eq_false_iff_not, decide_eq_true_eq, List.mem_cons, heq, hout, hlt, beq_eq_false_iff_ne, ne_eq]
    constructor
    · rintro ⟨h1, h2⟩
      refine ⟨⟨fun h => h2 (.inl h.symm), ?_⟩, ?_⟩
      · cases hm : (M u v).isSome
        · rfl
        · exact absurd (.inr hm) h2
      · rcases h1 with h1 | h1
        · exact .inl h1
        · exact .inr (by have : ¬ v = u := fun h => h2 (.inl h); omega)
    · rintro ⟨⟨h1, h2⟩, h3⟩
      refine ⟨?_, ?_⟩
      · rcases h3 with h3 | h3
        · exact .inl h3
        · exact .inr (by omega)
      · rintro (h | h)
        · exact h1 h.symm
        · rw [h2] at h; cases h
  rw [hf]
  apply List.map_congr_left
  intro v hv
  rfl

theorem shp_want (d : Bool) (f : Int → List Int) (ids : List Int) (sh : E3 → E3) (h : ∀ a b, sh (a, b, 0) = (a, b, 0)) : (seenE d f ids).map sh = seenE d f ids := by
  conv => rhs; rw [← List.map_id (seenE d f ids)]
  apply List.map_congr_left
  intro e he
  unfold seenE seenRow at he
  obtain ⟨u, _, he⟩ := List.mem_flatMap.1 he
  obtain ⟨v, _, rfl⟩ := List.mem_map.1 he
  exact h u v

theorem wantRow_take {d : Bool} {ids : List Int} {M : Mat} {u k : Nat} (_hk : k < ids.length) : wantRow d ids M u (List.range (k + 1)) = wantRow d ids M u (List.range k) ++ if wantB d M u k then [(ids.getD u 0, ids.getD k 0, 0)] else [] := by
  unfold wantRow
  rw [List.range_succ, List.filter_append, List.map_append, List.filter_cons, List.filter_nil]
  split <;> rfl
theorem wantE_snoc (d : Bool) (ids : List Int) (M : Mat) (k : Nat) : wantE d ids M (List.range (k + 1)) = wantE d ids M (List.range k) ++ wantRow d ids M k (List.range ids.length) := by
  unfold wantE
  rw [List.range_succ, List.flatMap_append]
  simp
theorem wantRow_len (d : Bool) (ids : List Int) (M : Mat) (u : Nat) (l : List Nat) : (wantRow d ids M u l).length ≤ l.length := by
  unfold wantRow
  rw [List.length_map]
  exact List.length_filter_le _ _
theorem wantE_len (d : Bool) (ids : List Int) (M : Mat) : ∀ (l : List Nat), (wantE d ids M l).length ≤ l.length * ids.length
  | [] => Nat.zero_le _
  | u :: l => by
    have h1 := wantE_len d ids M l
    have h2 := wantRow_len d ids M u (List.range ids.length)
    rw [List.length_range] at h2
    have e : wantE d ids M (u :: l) = wantRow d ids M u (List.range ids.length) ++ wantE d ids M l := by simp [wantE]
    rw [e, List.length_append, List.length_cons, Nat.succ_mul]
    omega

/-- the graph that the laws build -/
def g87 : Gr := ⟨false, [8, 7], []⟩
theorem g87_well : g87.Well := ⟨by simp [g87], by simp [g87]⟩
theorem g87_ids : g87.ids = [7, 8] := (srt_eq (ns := [7, 8]) (by simp) (List.Perm.swap 8 7 [])).symm
theorem g87_E : cmE g87 = [(7, 8, 0)] := by
  unfold cmE
  rw [cmE_want g87_well.ids, g87_ids]
  have e : g87.mat = Mat.none := by unfold Gr.mat matOf; rfl
  rw [e]
  decide
end Go.Proofs.YtcbkalppclilfaaGreat
