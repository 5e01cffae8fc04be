/- Buckets of nodes by degree, plainly: one is taken out, one goes a bucket down. -/
import Derived.Test.YtinlaaeoiocfoaaDg
namespace Go.Proofs.Ytinlaaeoiocfoaa

/-- the last one comes to place p, and the row is one shorter -/
def swp (L : List Int) (p : Nat) : List Int := (L.set p (L.getLastD 0)).dropLast
theorem swp_perm {L : List Int} {p : Nat} (hp : p < L.length) : (L[p] :: swp L p).Perm L := by
  have e : L = L.take p ++ L[p] :: L.drop (p + 1) := by rw [List.getElem_cons_drop, List.take_append_drop]
  have hl : (L.take p).length = p := by rw [List.length_take]; omega
  obtain ⟨A, hA⟩ : ∃ A, A = L.take p := ⟨_, rfl⟩
  obtain ⟨w, hw⟩ : ∃ w, w = L[p] := ⟨_, rfl⟩
  obtain ⟨C, hC⟩ : ∃ C, C = L.drop (p + 1) := ⟨_, rfl⟩
  rw [← hA] at hl
  rw [← hA, ← hw, ← hC] at e
  rw [← hw]
  clear hA hw hC
  subst e
  unfold swp
  rw [List.set_append_right _ _ (by omega), hl, Nat.sub_self, List.set_cons_zero]
  rcases List.eq_nil_or_concat C with rfl | ⟨C', z, rfl⟩
  · have e2 : (A ++ [w]).getLastD 0 = w := by simp [List.getLastD_eq_getLast?]
    rw [e2, List.dropLast_concat]
    exact (List.perm_append_comm (l₁ := [w]) (l₂ := A))
  · rw [List.concat_eq_append]
    have e2 : (A ++ w :: (C' ++ [z])).getLastD 0 = z := by
      rw [show A ++ w :: (C' ++ [z]) = (A ++ w :: C') ++ [z] by simp, List.getLastD_eq_getLast?, List.getLast?_concat]
      rfl
    rw [e2, show A ++ z :: (C' ++ [z]) = (A ++ z :: C') ++ [z] by simp, List.dropLast_concat]
    have h1 : (A ++ w :: (C' ++ [z])).Perm (w :: (A ++ (C' ++ [z]))) := List.perm_middle
    have h2 : (A ++ z :: C').Perm (A ++ (C' ++ [z])) := List.Perm.append_left A (List.perm_append_comm (l₁ := [z]) (l₂ := C'))
    exact (List.Perm.cons w h2).trans h1.symm
theorem swp_length {L : List Int} {p : Nat} (hp : p < L.length) : (swp L p).length + 1 = L.length := by
  have := (swp_perm hp).length_eq
  simpa using this

/-- each node of the set lies in the bucket of its number -/
structure Buck (R : Int → Bool) (c : Int → Nat) (m : Nat) (D : Nat → List Int) : Prop where
  mem : ∀ i x, x ∈ D i ↔ R x = true ∧ c x = i
  nd : ∀ i, (D i).Nodup
  lt : ∀ i, m ≤ i → D i = []

theorem Buck.start {ids : List Int} (hn : ids.Nodup) {c : Int → Nat} {m : Nat} (hm : ∀ x ∈ ids, c x < m) : Buck (fun x => decide (x ∈ ids)) c m (fun i => ids.filter (fun x => decide (c x = i))) :=
  ⟨fun i x => by simp [List.mem_filter], fun i => hn.filter _, fun i hi => by
    rw [List.filter_eq_nil_iff]
    intro x hx
    have := hm x hx
    simp
    omega⟩

/-- the last of a bucket is taken out -/
theorem Buck.out {R : Int → Bool} {c : Int → Nat} {m : Nat} {D : Nat → List Int} (h : Buck R c m D) {i : Nat} {v : Int} {L : List Int} (hi : D i = L ++ [v]) :
    Buck (fun x => R x && !decide (x = v)) c m (fun j => if j = i then L else D j) := by
  have hv : R v = true ∧ c v = i := (h.mem i v).1 (by rw [hi]; simp)
  have hnd := h.nd i
  rw [hi] at hnd
  have hvL : v ∉ L := fun hx => (List.nodup_append.1 hnd).2.2 v hx v (by simp) rfl
  refine ⟨fun j x => ?_, fun j => ?_, fun j hj => ?_⟩
  · by_cases hj : j = i
    · subst hj
      simp only [if_true]
      have h1 := h.mem j x
      rw [hi] at h1
      constructor
      · intro hx
        have h2 := h1.1 (by simp [hx])
        exact ⟨by simp [h2.1]; rintro rfl; exact hvL hx, h2.2⟩
      · rintro ⟨h2, h3⟩
        simp at h2
        have h4 := h1.2 ⟨h2.1, h3⟩
        rcases List.mem_append.1 h4 with h5 | h5
        · exact h5
        · exact absurd (by simpa using h5) h2.2
    · simp only [if_neg hj]
      rw [h.mem j x]
      constructor
      · rintro ⟨h1, h2⟩
        refine ⟨?_, h2⟩
        simp [h1]
        rintro rfl
        exact hj (by rw [← h2, hv.2])
      · rintro ⟨h1, h2⟩
        simp at h1
        exact ⟨h1.1, h2⟩
  · split
    · exact (List.nodup_append.1 hnd).1
    · exact h.nd j
  · split
    · rename_i hji
      have := h.lt i (by omega)
      rw [hi] at this
      simp at this
    · exact h.lt j hj

/-- one goes a bucket down -/
theorem Buck.down {R : Int → Bool} {c : Int → Nat} {m : Nat} {D : Nat → List Int} (h : Buck R c m D) {d p : Nat} (hp : p < (D (d + 1)).length) :
    Buck R (fun x => if x = (D (d + 1))[p] then d else c x) m (fun j => if j = d + 1 then swp (D (d + 1)) p else if j = d then D d ++ [(D (d + 1))[p]] else D j) := by
  obtain ⟨w, hw⟩ : ∃ w, w = (D (d + 1))[p] := ⟨_, rfl⟩
  have hwm : R w = true ∧ c w = d + 1 := (h.mem (d + 1) w).1 (by rw [hw]; exact List.getElem_mem hp)
  have hpm := swp_perm hp
  have hnd : (w :: swp (D (d + 1)) p).Nodup := by rw [hw]; exact hpm.nodup_iff.2 (h.nd _)
  rw [← hw] at hpm ⊢
  rw [List.nodup_cons] at hnd
  have hmem : ∀ x, x ∈ swp (D (d + 1)) p ↔ x ∈ D (d + 1) ∧ x ≠ w := fun x => by
    constructor
    · intro hx
      exact ⟨hpm.mem_iff.1 (List.mem_cons_of_mem _ hx), fun e => hnd.1 (e ▸ hx)⟩
    · rintro ⟨h1, h2⟩
      rcases List.mem_cons.1 (hpm.mem_iff.2 h1) with h3 | h3
      · exact absurd h3 h2
      · exact h3
  refine ⟨fun j x => ?_, fun j => ?_, fun j hj => ?_⟩
  · by_cases hxw : x = w
    · subst hxw
      simp only [if_true]
      by_cases hj : j = d + 1
      · subst hj
        simp only [if_true]
        rw [hmem]
        constructor
        · rintro ⟨_, h2⟩; exact absurd rfl h2
        · rintro ⟨_, h2⟩; omega
      · simp only [if_neg hj]
        by_cases hj2 : j = d
        · subst hj2
          simp [hwm.1]
        · simp only [if_neg hj2]
          rw [h.mem j x]
          constructor
          · rintro ⟨_, h2⟩; omega
          · rintro ⟨_, h2⟩; omega
    · simp only [if_neg hxw]
      by_cases hj : j = d + 1
      · subst hj
        simp only [if_true]
        rw [hmem, h.mem]
        exact ⟨fun ⟨h1, _⟩ => h1, fun h1 => ⟨h1, hxw⟩⟩
      · simp only [if_neg hj]
        by_cases hj2 : j = d
        · subst hj2
          simp only [if_true]
          rw [List.mem_append, h.mem]
          exact ⟨fun h1 => h1.elim id (fun h2 => absurd (by simpa using h2) hxw), fun h1 => .inl h1⟩
        · simp only [if_neg hj2]
          exact h.mem j x
  · split
    · exact hnd.2
    · split
      · rw [List.nodup_append]
        refine ⟨h.nd d, by simp, fun a ha b hb hab => ?_⟩
        subst hab
        obtain rfl : a = w := by simpa using hb
        have := ((h.mem d a).1 ha).2
        omega
      · exact h.nd j
  · have h1 : ¬ m ≤ d + 1 := fun h2 => by
      have := h.lt (d + 1) h2
      rw [this] at hp
      simp at hp
    rw [if_neg (by omega), if_neg (by omega)]
    exact h.lt j hj
end Go.Proofs.Ytinlaaeoiocfoaa
