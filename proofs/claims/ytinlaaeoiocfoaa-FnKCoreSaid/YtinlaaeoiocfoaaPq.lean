/- Peeling over places, plainly. -/
import Derived.Test.YtinlaaeoiocfoaaDu
namespace Go.Proofs.Ytinlaaeoiocfoaa

theorem count_arcs (ids : List Int) (f : Nat → Option Int) (C : Int → Bool) : ∀ l : List Nat, (((l.filterMap (fun v => (f v).map (fun z => (v, z)))).map (fun p : Nat × Int => ids.getD p.1 0)).filter C).length = l.countP (fun v => (f v).isSome && C (ids.getD v 0))
  | [] => rfl
  | v :: l => by
    have ih := count_arcs ids f C l
    rw [List.filterMap_cons, List.countP_cons]
    cases h : f v with
    | none =>
      simp only [Option.map_none, Option.isSome_none, Bool.false_and]
      simpa using ih
    | some z =>
      simp only [Option.map_some, Option.isSome_some, Bool.true_and, List.map_cons]
      cases hc : C (ids.getD v 0) with
      | true => rw [List.filter_cons_of_pos (by simpa using hc), List.length_cons, ih]; simp
      | false => rw [List.filter_cons_of_neg (by simpa using hc), ih]; simp

section
variable {ids : List Int} {M : Mat} {k : Nat} {g g' : Nat → Bool}
/-- gone by places, as gone of nodes -/
def goneF (ids : List Int) (g : Nat → Bool) : Int → Bool := fun x => g (ix ids x)
/-- how many of the first places are neighbours that are left -/
def dCnt (M : Mat) (g : Nat → Bool) (u v : Nat) : Nat := (List.range v).countP (fun j => (M u j).isSome && !g j)
theorem dCnt_zero (u : Nat) : dCnt M g u 0 = 0 := rfl
theorem dCnt_succ (u v : Nat) : dCnt M g u (v + 1) = dCnt M g u v + (if (M u v).isSome && !g v then 1 else 0) := by
  unfold dCnt
  rw [List.range_succ, List.countP_append]
  simp [List.countP_cons]
theorem dCnt_le (u v : Nat) : dCnt M g u v ≤ v := by
  unfold dCnt
  refine Nat.le_trans List.countP_le_length ?_
  rw [List.length_range]
  exact Nat.le_refl _
theorem dCnt_deg (ha : ids.Pairwise (· < ·)) {u : Nat} (hu : u < ids.length) : dCnt M g u ids.length = degIn (outs ids M) (stay ids (goneF ids g)) ids[u] := by
  unfold dCnt degIn outs arcsOf
  rw [get_ix ha hu, count_arcs]
  apply List.countP_congr
  intro v hv
  have hv' : v < ids.length := by simpa using hv
  have e : ids.getD v 0 = ids[v] := by simp [List.getD, hv']
  rw [e]
  have e2 : stay ids (goneF ids g) ids[v] = !g v := by
    rw [Bool.eq_iff_iff, stay_iff]
    unfold goneF
    rw [get_ix ha hv']
    simp
  rw [e2]
theorem goneF_set (ha : ids.Pairwise (· < ·)) {u : Nat} (hu : u < ids.length) : goneF ids (updN g u true) = fun x => goneF ids g x || decide (x = ids[u]) := by
  funext x
  unfold goneF updN
  by_cases e : x = ids[u]
  · subst e
    rw [get_ix ha hu]
    simp
  · have : ix ids x ≠ u := by
      rintro rfl
      exact e (ix_get (List.idxOf_lt_length_iff.1 hu)).symm
    rw [if_neg this]
    simp [e]

/-- within a round of peeling: g0 is what was gone at its start -/
structure Peel (ids : List Int) (M : Mat) (k : Nat) (g0 : Nat → Bool) (u : Nat) (ag : Bool) (g : Nat → Bool) : Prop where
  ok : PeelOk (outs ids M) ids k (goneF ids g)
  no : ag = false → g = g0 ∧ ∀ j, j < u → g j = false → k ≤ dCnt M g j ids.length
  yes : ag = true → ∃ j, j < ids.length ∧ g0 j = false ∧ g j = true
  mono : ∀ j, g0 j = true → g j = true
theorem Peel.start (h : PeelOk (outs ids M) ids k (goneF ids g)) : Peel ids M k g 0 false g := ⟨h, fun _ => ⟨rfl, by omega⟩, by simp, fun _ h => h⟩
theorem Peel.keep {g0 : Nat → Bool} {u : Nat} {ag : Bool} (h : Peel ids M k g0 u ag g) (hu : g u = true ∨ k ≤ dCnt M g u ids.length) : Peel ids M k g0 (u + 1) ag g := by
  refine ⟨h.ok, fun e => ⟨(h.no e).1, fun j hj hg => ?_⟩, h.yes, h.mono⟩
  rcases Nat.lt_or_ge j u with h1 | h1
  · exact (h.no e).2 j h1 hg
  · obtain rfl : j = u := by omega
    rcases hu with h2 | h2
    · rw [h2] at hg
      cases hg
    · exact h2
theorem Peel.take {g0 : Nat → Bool} {u : Nat} {ag : Bool} (h : Peel ids M k g0 u ag g) (ha : ids.Pairwise (· < ·)) (hu : u < ids.length) (hg : g u = false) (hd : dCnt M g u ids.length < k) : Peel ids M k g0 (u + 1) true (updN g u true) := by
  refine ⟨?_, by simp, fun _ => ⟨u, hu, ?_, updN_self _ _ _⟩, fun j hj => ?_⟩
  · rw [goneF_set ha hu]
    rw [dCnt_deg ha hu] at hd
    exact h.ok.more _ _ hd
  · cases e : g0 u with
    | false => rfl
    | true =>
      have := h.mono u e
      rw [hg] at this
      cases this
  · by_cases e : j = u
    · subst e
      exact updN_self _ _ _
    · rw [updN_ne _ _ e]
      exact h.mono j hj
/-- a round without a change: the core is left -/
theorem Peel.core {g0 : Nat → Bool} (h : Peel ids M k g0 ids.length false g) (ha : ids.Pairwise (· < ·)) : Core (outs ids M) ids k (stay ids (goneF ids g)) := by
  refine h.ok.core _ _ (fun x hx hg => ?_)
  have h1 := (h.no rfl).2 (ix ids x) (ix_lt hx) hg
  rw [dCnt_deg ha (ix_lt hx), ix_get hx] at h1
  exact h1
/-- how many are left -/
def openN (n : Nat) (g : Nat → Bool) : Nat := ((List.range n).filter (fun i => !g i)).length
theorem openN_lt {n : Nat} (hm : ∀ j, g j = true → g' j = true) (hj : ∃ j, j < n ∧ g j = false ∧ g' j = true) : openN n g' < openN n g := by
  unfold openN
  rw [← List.countP_eq_length_filter, ← List.countP_eq_length_filter]
  obtain ⟨j, hj, h0, h1⟩ := hj
  have key : ∀ n, j < n → (List.range n).countP (fun i => !g' i) < (List.range n).countP (fun i => !g i) := by
    intro n
    induction n with
    | zero => intro h; omega
    | succ n ih =>
      intro hn
      rw [List.range_succ, List.countP_append, List.countP_append]
      have hle : (List.range n).countP (fun i => !g' i) ≤ (List.range n).countP (fun i => !g i) := List.countP_mono_left (fun y _ hy => by
        cases e : g y with
        | false => rfl
        | true =>
          have := hm y e
          rw [this] at hy
          cases hy)
      have hle1 : [n].countP (fun i => !g' i) ≤ [n].countP (fun i => !g i) := List.countP_mono_left (fun y _ hy => by
        cases e : g y with
        | false => rfl
        | true =>
          have := hm y e
          rw [this] at hy
          cases hy)
      rcases Nat.lt_or_ge j n with h2 | h2
      · have := ih h2
        omega
      · obtain rfl : j = n := by omega
        have : [j].countP (fun i => !g' i) < [j].countP (fun i => !g i) := by simp [List.countP_cons, h0, h1]
        omega
  exact key n hj
end
end Go.Proofs.Ytinlaaeoiocfoaa
