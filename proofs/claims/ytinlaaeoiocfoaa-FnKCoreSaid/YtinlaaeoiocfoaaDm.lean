/- Buckets in memory: a row of rows of nodes, each in a block of its own. -/
import Derived.Test.YtinlaaeoiocfoaaLy
import Derived.Test.YtinlaaeoiocfoaaNo
import Derived.Test.YtinlaaeoiocfoaaDk
namespace Go.Proofs.Ytinlaaeoiocfoaa
open Go.MapKept Go.RowKit

abbrev bkT : TypeId := 46
structure RowsD (w : World) (B bd m : Nat) (V : Nat → Value) (D : Nat → List Int) : Prop where
  ro : w.rowIs bd bkT m V
  own : ∀ i, i < m → w.ownsRow B nodT 1 (V i) (D i).length ((D i).map nodeV)
  sep : ∀ i j, i < m → j < m → i ≠ j → (V i).ownBlock = none ∨ (V i).ownBlock ≠ (V j).ownBlock
  ge : B ≤ bd

section
variable {w w1 : World} {B bd m : Nat} {V : Nat → Value} {D : Nat → List Int}
theorem RowsD.ne (h : RowsD w B bd m V D) {i : Nat} (hi : i < m) : some bd ≠ (V i).ownBlock := by
  obtain ⟨c, k, _⟩ := h.ro
  exact own_ne_type (h.own i hi) k (by decide)
theorem RowsD.other (h : RowsD w B bd m V D) {row : Option Nat} (hg : w.grownBy w1 row) (h1 : some bd ≠ row) (h2 : ∀ i, i < m → (V i).ownBlock = none ∨ (V i).ownBlock ≠ row) : RowsD w1 B bd m V D :=
  ⟨rowIs_grown h.ro hg h1, fun i hi => (h.own i hi).kept hg (h2 i hi), h.sep, h.ge⟩
theorem RowsD.grown (h : RowsD w B bd m V D) (hg : w.grownBy w1 none) : RowsD w1 B bd m V D :=
  ⟨rowIs_grown h.ro hg (by simp), fun i hi => own_new (h.own i hi) hg, h.sep, h.ge⟩
/-- bucket i is another row now, in its block or in a new one -/
theorem RowsD.put (h : RowsD w B bd m V D) {i : Nat} (hi : i < m) {v' : Value} {L : List Int} (hg : w.grownBy w1 (V i).ownBlock) (ho : w1.ownsRow B nodT 1 v' L.length (L.map nodeV)) (hf : Fresh w (V i) v') :
    RowsD (w1.setCell ⟨bd, i, none⟩ v') B bd m (updN V i v') (updN D i L) := by
  have hne := h.ne hi
  have hro := rowIs_grown h.ro hg hne
  obtain ⟨c, k, _⟩ := id hro
  refine ⟨(hro.set i v').congr (fun j _ => by unfold updN; by_cases e : j = i <;> simp [e]), fun j hj => ?_, fun a b ha hb hab => ?_, h.ge⟩
  · by_cases e : j = i
    · subst e
      rw [updN_self, updN_self]
      exact ho.kept (grown_setCell w1 bd j v') (.inr (own_ne_type ho k (by decide)).symm)
    · rw [updN_ne _ _ e, updN_ne _ _ e]
      have h3 := (h.own j hj).kept hg (h.sep j i hj hi e)
      exact h3.kept (grown_setCell w1 bd i v') (.inr (own_ne_type h3 k (by decide)).symm)
  · have hlt : ∀ s, s < m → ∀ k, (V s).ownBlock = some k → k < w.heap.size := fun s hs k hk => ((h.own s hs).lt k hk).2
    by_cases h1 : a = i
    · subst h1
      rw [updN_self, updN_ne _ _ (Ne.symm hab)]
      exact hf.own_ne (h.sep a b ha hb hab) (hlt b hb)
    · by_cases h2 : b = i
      · subst h2
        rw [updN_self, updN_ne _ _ hab]
        rcases hf.own_ne (h.sep b a hb ha (Ne.symm hab)) (hlt a ha) with h | h
        · rw [h]
          cases (V a).ownBlock with
          | none => exact .inl rfl
          | some k => exact .inr (by simp)
        · exact .inr (Ne.symm h)
      · rw [updN_ne _ _ h1, updN_ne _ _ h2]
        exact h.sep a b ha hb hab
end

/-- a row cut short is a row still -/
theorem own_cut {w : World} {B g n cap : Nat} {L : List Int} {x : Int} (h : w.ownsRow B nodT 1 (.slice (some ⟨g, 0, none⟩) n cap) n ((L ++ [x]).map nodeV)) (hn : n = L.length + 1) : w.ownsRow B nodT 1 (.slice (some ⟨g, 0, none⟩) L.length cap) L.length (L.map nodeV) := by
  subst hn
  obtain ⟨-, h | ⟨g', cap', cur, e1, hb, hh, hc, hm, hs, ht⟩⟩ := h
  · simp at h
  · simp only [Value.slice.injEq, Option.some.injEq, Addr.mk.injEq, and_true, true_and] at e1
    obtain ⟨rfl, rfl⟩ := e1
    refine ⟨by simp, .inr ⟨g, cap, cur, rfl, hb, hh, by omega, hm, hs, ?_⟩⟩
    have h2 := congrArg (List.take (L.length * 1)) ht
    rw [List.take_take, Nat.min_eq_left (by omega)] at h2
    rw [h2, List.map_append, List.take_append_of_le_length (by simp), List.take_of_length_le (by simp)]
end Go.Proofs.Ytinlaaeoiocfoaa
