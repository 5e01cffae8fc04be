/- The laws' own: together. -/
import Derived.Test.YtdllkoiddlcnmaaGreatLe
namespace Go.Proofs.YtdllkoiddlcnmaaGreat
open Go.MapKept Go.RowKit

/-- v reads as lists of numbers -/
def RowsR (w : World) (v : Value) (L : List (List Int)) : Prop :=
  ∃ (a : Option Addr) (c : Nat) (vals : Nat → Value), v = .slice a L.length c ∧ (0 < L.length → ∃ b o, a = some ⟨b, o, none⟩ ∧ b < w.heap.size ∧ ∀ i, i < L.length → w.cell? ⟨b, o + i, none⟩ = some (vals i)) ∧ ∀ i, (h : i < L.length) → IntsR w (vals i) L[i]
theorem RowsR.grown {w w' : World} {v : Value} {L : List (List Int)} (h : RowsR w v L) (hg : w.grownBy w' none) : RowsR w' v L := by
  obtain ⟨a, c, vals, rfl, h1, h2⟩ := h
  refine ⟨a, c, vals, rfl, fun hl => ?_, fun i hi => (h2 i hi).grown hg⟩
  obtain ⟨b, o, rfl, hb, hc⟩ := h1 hl
  exact ⟨b, o, rfl, Nat.lt_of_lt_of_le hb hg.size, fun i hi => by rw [grown_cell hg hb (by simp)]; exact hc i hi⟩

/-- two numbers stand in one of the lists -/
def Tog (L : List (List Int)) (u v : Int) : Prop := ∃ c ∈ L, u ∈ c ∧ v ∈ c
instance (L : List (List Int)) (u v : Int) : Decidable (Tog L u v) := inferInstanceAs (Decidable (∃ c ∈ L, u ∈ c ∧ v ∈ c))

end Go.Proofs.YtdllkoiddlcnmaaGreat
