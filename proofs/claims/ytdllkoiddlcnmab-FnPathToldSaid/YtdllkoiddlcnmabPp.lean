/- Paths as lists, plainly. -/
import Derived.Test.YtdllkoiddlcnmabRe
namespace Go.Proofs.Ytdllkoiddlcnmab

/-- a list is a path -/
def PathP (ids : List Int) (M : Mat) (l : List Int) : Prop := (∀ h : l.length = 1, l[0] ∈ ids) ∧ ∀ j (h : j + 1 < l.length), edgeOf ids M l[j] l[j + 1]
theorem PathP.nil (ids : List Int) (M : Mat) : PathP ids M [] := ⟨fun h => by simp at h, fun j h => by simp at h⟩
theorem PathP.mem {ids : List Int} {M : Mat} {l : List Int} (h : PathP ids M l) {i : Nat} (hi : i < l.length) : l[i] ∈ ids := by
  by_cases h1 : l.length = 1
  · obtain rfl : i = 0 := by omega
    exact h.1 h1
  · by_cases h2 : i + 1 < l.length
    · exact (h.2 i h2).1
    · obtain ⟨j, rfl⟩ : ∃ j, i = j + 1 := ⟨i - 1, by omega⟩
      exact (h.2 j hi).2.1
theorem PathP.reach {ids : List Int} {M : Mat} {l : List Int} (h : PathP ids M l) {i : Nat} : ∀ (d : Nat) (hk : i + d < l.length), Rch (edgeOf ids M) l[i] l[i + d]
  | 0, _ => .refl _
  | d + 1, hk => .tail (PathP.reach h d (by omega)) (h.2 (i + d) hk)
theorem PathP.reach_le {ids : List Int} {M : Mat} {l : List Int} (h : PathP ids M l) {i k : Nat} (hik : i ≤ k) (hk : k < l.length) : Rch (edgeOf ids M) l[i] l[k] := by
  obtain ⟨d, rfl⟩ : ∃ d, k = i + d := ⟨k - i, by omega⟩
  exact h.reach d hk
end Go.Proofs.Ytdllkoiddlcnmab
