/- slices.Equal over numbers; the laws' own: parts, where it holds. -/
import Derived.Test.YtdllkoiddlcnmaaGreatTo
import Derived.Test.YtdllkoiddlcnmaaGreatHr
import Derived.Handy
namespace Go.Proofs.YtdllkoiddlcnmaaGreat
open Go.MapKept Go.RowKit Go.Shelf

theorem equal_same {l : List Int} {v1 v2 : Value} {w : World} (h1 : IntsR w v1 l) (h2 : IntsR w v2 l) (hl : l.length ≤ 1000000) :
    Calls Tryz.prog 16 #[v1, v2] w (fun e w' => e = .returned (.bool true) ∧ w.grownBy w' none) := by
  obtain ⟨a1, c1, rfl, h1⟩ := h1
  obtain ⟨a2, c2, rfl, h2⟩ := h2
  by_cases h0 : l.length = 0
  · rw [h0]
    refine (Any.slices_Equal_int_empty Tryz.lays111 a1 a2 c1 0 c2 w (by omega)).mono ?_
    rintro e w' ⟨rfl, rfl⟩
    exact ⟨rfl, grown_refl _⟩
  · obtain ⟨b1, o1, rfl, _, k1⟩ := h1 (by omega)
    obtain ⟨b2, o2, rfl, _, k2⟩ := h2 (by omega)
    refine (Any.slices_Equal_int Tryz.lays111 b1 o1 l.length c1 b2 o2 l.length c2 l l w (Nat.le_refl _) (Nat.le_refl _) (by omega) (by omega) (fun j hj => ?_) (fun j hj => ?_)).mono ?_
    · rw [getD_int hj]; exact k1 j hj
    · rw [getD_int hj]; exact k2 j hj
    · rintro e w' ⟨rfl, q, rfl⟩
      exact ⟨by simp, grown_drewN _ _⟩

theorem elInt : ElT Tryz.prog 22 3 1 8 (.int .i64 0) := ⟨Tryz.underlying22, by kernel_rfl, rfl, by decide⟩

def PaRel (L : List (List Int)) (w : World) (v i : Value) (wr : World) : Prop := ∃ k : Nat, k ≤ L.length ∧ i = .int .i64 k ∧ wr.ownsRow w.heap.size 3 1 v (L.take k).flatten.length ((L.take k).flatten.map (Value.int .i64)) ∧ w.grownBy wr none

theorem flatten_le (L : List (List Int)) (k : Nat) : (L.take k).flatten.length ≤ L.flatten.length := by
  conv => rhs; rw [← List.take_append_drop k L]
  rw [List.flatten_append, List.length_append]
  omega

end Go.Proofs.YtdllkoiddlcnmaaGreat
