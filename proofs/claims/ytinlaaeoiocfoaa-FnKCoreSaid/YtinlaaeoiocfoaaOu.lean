/- Who is led to from whom, plainly. -/
import Derived.Test.YtinlaaeoiocfoaaDi
import Derived.Test.YtinlaaeoiocfoaaRe
namespace Go.Proofs.Ytinlaaeoiocfoaa
/-- successors are the edges -/
theorem outs_iff {ids : List Int} {M : Mat} (ha : ids.Pairwise (· < ·)) {x y : Int} (hx : x ∈ ids) : y ∈ outs ids M x ↔ edgeOf ids M x y := by
  unfold outs edgeOf
  rw [List.mem_map]
  constructor
  · rintro ⟨p, hp, rfl⟩
    obtain ⟨h1, h2⟩ := arcsOf_mem.1 hp
    have e : ids.getD p.1 0 = ids[p.1] := by simp [List.getD, h1]
    rw [e]
    refine ⟨hx, List.getElem_mem h1, ?_⟩
    rw [get_ix ha, h2]
    rfl
  · rintro ⟨_, hy, hs⟩
    obtain ⟨z, hz⟩ := Option.isSome_iff_exists.1 hs
    refine ⟨(ix ids y, z), arcsOf_mem.2 ⟨ix_lt hy, hz⟩, ?_⟩
    have : ids.getD (ix ids y) 0 = ids[ix ids y]'(ix_lt hy) := by simp [List.getD, ix_lt hy]
    show ids.getD (ix ids y) 0 = y
    rw [this, ix_get hy]
theorem outs_in {ids : List Int} {M : Mat} {x y : Int} (h : y ∈ outs ids M x) : y ∈ ids := by
  unfold outs at h
  obtain ⟨p, hp, rfl⟩ := List.mem_map.1 h
  have h1 := (arcsOf_mem.1 hp).1
  have e : ids.getD p.1 0 = ids[p.1] := by simp [List.getD, h1]
  rw [e]
  exact List.getElem_mem h1
theorem rch_outs {ids : List Int} {M : Mat} (ha : ids.Pairwise (· < ·)) {u v : Int} (hu : u ∈ ids) : Rch (fun x y => y ∈ outs ids M x) u v ↔ Rch (edgeOf ids M) u v := by
  constructor
  · intro h
    have : Rch (edgeOf ids M) u v ∧ v ∈ ids := by
      induction h with
      | refl => exact ⟨.refl _, hu⟩
      | tail _ r ih => exact ⟨.tail ih.1 ((outs_iff ha ih.2).1 r), outs_in r⟩
    exact this.1
  · intro h
    exact h.mono (fun a b r => (outs_iff ha r.1).2 r)
theorem length_outs (ids : List Int) (M : Mat) (x : Int) : (outs ids M x).length ≤ ids.length := by
  unfold outs
  rw [List.length_map]
  exact length_arcsOf _ _
end Go.Proofs.Ytinlaaeoiocfoaa
