/- slices.Equal over numbers: the same list. -/
import Derived.Test.YtinlaaeoiocfoaaLc
import Derived.Handy
namespace Go.Proofs.Ytinlaaeoiocfoaa
open Go.MapKept Go.RowKit Go.Shelf

theorem equal_same {l : List Int} {v1 v2 : Value} {w : World} (h1 : IntsR w v1 l) (h2 : IntsR w v2 l) (hl : l.length ≤ 1000000) :
    Calls Try.prog 8 #[v1, v2] w (fun e w' => e = .returned (.bool true) ∧ w.grownBy w' none) := by
  obtain ⟨a1, c1, rfl, h1⟩ := h1
  obtain ⟨a2, c2, rfl, h2⟩ := h2
  by_cases h0 : l.length = 0
  · rw [h0]
    refine (Any.slices_Equal_int_empty Try.lays111 a1 a2 c1 0 c2 w (by omega)).mono ?_
    rintro e w' ⟨rfl, rfl⟩
    exact ⟨rfl, grown_refl _⟩
  · obtain ⟨b1, o1, rfl, _, k1⟩ := h1 (by omega)
    obtain ⟨b2, o2, rfl, _, k2⟩ := h2 (by omega)
    refine (Any.slices_Equal_int Try.lays111 b1 o1 l.length c1 b2 o2 l.length c2 l l w (Nat.le_refl _) (Nat.le_refl _) (by omega) (by omega) (fun j hj => ?_) (fun j hj => ?_)).mono ?_
    · rw [getD_int hj]; exact k1 j hj
    · rw [getD_int hj]; exact k2 j hj
    · rintro e w' ⟨rfl, q, rfl⟩
      exact ⟨by simp, grown_drewN _ _⟩

end Go.Proofs.Ytinlaaeoiocfoaa
