/- Paths over numbers and over places. -/
import Derived.Test.YtinlaaeoiocfoaaGr
import Derived.Test.YtinlaaeoiocfoaaBf
namespace Go.Proofs.Ytinlaaeoiocfoaa

/-- an edge between two numbers -/
def edgeOf (ids : List Int) (T : Mat) (x y : Int) : Prop := x ∈ ids ∧ y ∈ ids ∧ (T (ix ids x) (ix ids y)).isSome = true
def Gr.E (G : Gr) : Int → Int → Prop := edgeOf G.ids G.mat
def Gr.R (G : Gr) (i j : Nat) : Prop := (G.mat i j).isSome = true

theorem rch_in {ids : List Int} {T : Mat} {u x : Int} (hu : u ∈ ids) (h : Rch (edgeOf ids T) u x) : x ∈ ids := by
  induction h with
  | refl => exact hu
  | tail _ r _ => exact r.2.1

theorem rch_places {ids : List Int} {T : Mat} {u v : Int} (h : Rch (edgeOf ids T) u v) : Rch (fun i j => (T i j).isSome = true) (ix ids u) (ix ids v) := by
  induction h with
  | refl => exact .refl _
  | tail _ r ih => exact .tail ih r.2.2

theorem rch_numbers {ids : List Int} {T : Mat} (hs : ids.Pairwise (· < ·)) (hT : ∀ a b, (T a b).isSome = true → a < ids.length ∧ b < ids.length) {i j : Nat} (hi : i < ids.length) (h : Rch (fun i j => (T i j).isSome = true) i j) :
    ∃ hj : j < ids.length, Rch (edgeOf ids T) ids[i] ids[j] := by
  induction h with
  | refl => exact ⟨hi, .refl _⟩
  | tail _ r ih =>
    obtain ⟨hj, ih⟩ := ih
    have hx := (hT _ _ r).2
    refine ⟨hx, .tail ih ⟨List.getElem_mem hj, List.getElem_mem hx, ?_⟩⟩
    rw [get_ix hs, get_ix hs]
    exact r

theorem rch_iff {ids : List Int} {T : Mat} (hs : ids.Pairwise (· < ·)) (hT : ∀ a b, (T a b).isSome = true → a < ids.length ∧ b < ids.length) {u v : Int} (hu : u ∈ ids) (hv : v ∈ ids) :
    Rch (edgeOf ids T) u v ↔ Rch (fun i j => (T i j).isSome = true) (ix ids u) (ix ids v) := by
  constructor
  · exact rch_places
  · intro h
    obtain ⟨hj, h1⟩ := rch_numbers hs hT (ix_lt hu) h
    rwa [ix_get hu, ix_get hv] at h1
end Go.Proofs.Ytinlaaeoiocfoaa
