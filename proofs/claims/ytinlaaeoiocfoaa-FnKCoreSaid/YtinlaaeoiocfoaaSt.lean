/- Sets of numbers: the map behind them, Has, Add, Remove. -/
import Derived.Test.YtinlaaeoiocfoaaNo
namespace Go.Proofs.Ytinlaaeoiocfoaa
open Go.MapKept Go.RowKit

def SetMap (w : World) (m : Nat) (l : List Int) : Prop := ∃ e, MapIs w m e ∧ (∀ x, (lkp e x).isSome = true ↔ x ∈ l) ∧ ∀ x, (lkp e x).getD (.agg #[]) = .agg #[]

theorem SetMap.grown {w w' : World} {row : Option Nat} {m : Nat} {l : List Int} (h : SetMap w m l) (hg : w.grownBy w' row) (hne : some m ≠ row) : SetMap w' m l := by
  obtain ⟨e, h1, h2⟩ := h
  exact ⟨e, h1.grown hg hne, h2⟩

theorem upd_look {m : Ents} {k : Int} {v : Value} (x : Int) : lkp (upd m k v) x = if x = k then some v else lkp m x := by
  unfold upd
  by_cases ha : (m.any (fun p => p.1 == k)) = true
  · rw [if_pos ha]
    have hg : ∀ p : Int × Value, (if (p.1 == k) = true then (k, v) else p).1 = p.1 := fun p => by
      by_cases e : p.1 = k
      · simp [e]
      · simp [e]
    unfold lkp
    rw [List.find?_map]
    have hp : ((fun p : Int × Value => p.1 == x) ∘ fun p => if (p.1 == k) = true then (k, v) else p) = fun p => p.1 == x := by
      funext p
      simp only [Function.comp_apply, hg]
    rw [hp]
    cases hf : m.find? (fun p => p.1 == x) with
    | none =>
      by_cases e : x = k
      · subst e
        rw [List.find?_eq_none] at hf
        obtain ⟨q, hq, h2⟩ := List.any_eq_true.1 ha
        exact absurd h2 (hf q hq)
      · simp [e]
    | some q =>
      have h2 : q.1 = x := by simpa using List.find?_some hf
      by_cases e : x = k
      · simp [e, h2]
      · simp [e, h2]
  · rw [if_neg ha]
    unfold lkp
    rw [List.find?_append]
    by_cases e : x = k
    · subst e
      have : m.find? (fun p => p.1 == x) = none := by
        rw [List.find?_eq_none]
        intro q hq hh
        exact ha (List.any_eq_true.2 ⟨q, hq, hh⟩)
      simp [this]
    · have : ([(k, v)] : Ents).find? (fun p => p.1 == x) = none := by simp [Ne.symm e]
      rw [this, Option.or_none, if_neg e]

theorem del_look {m : Ents} {k : Int} (x : Int) : lkp (del m k) x = if x = k then none else lkp m x := by
  unfold del lkp
  by_cases e : x = k
  · subst e
    rw [if_pos rfl, List.find?_eq_none.2]
    · rfl
    · intro q hq hh
      rw [List.mem_filter] at hq
      simp only [beq_iff_eq] at hh
      simp [hh] at hq
  · rw [if_neg e, List.find?_filter]
    congr 2
    funext p
    by_cases h2 : p.1 = x
    · simp [h2, e]
    · simp [h2]

theorem MapIs.upd_set {w' : World} {m : Nat} {e : Ents} {l : List Int} {x : Int} (h : ∀ y, (lkp e y).isSome = true ↔ y ∈ l) (h3 : ∀ y, (lkp e y).getD (.agg #[]) = .agg #[]) (h1 : MapIs w' m (upd e x (.agg #[]))) : SetMap w' m (x :: l) := by
  refine ⟨_, h1, fun y => ?_, fun y => by
    rw [upd_look]
    split
    · rfl
    · exact h3 y⟩
  rw [upd_look]
  by_cases hy : y = x
  · simp [hy]
  · simp only [hy, if_false, h y, List.mem_cons, false_or]
theorem MapIs.del_set {w' : World} {m : Nat} {e : Ents} {l : List Int} {x : Int} (h : ∀ y, (lkp e y).isSome = true ↔ y ∈ x :: l) (h3 : ∀ y, (lkp e y).getD (.agg #[]) = .agg #[]) (hx : x ∉ l) (h1 : MapIs w' m (del e x)) : SetMap w' m l := by
  refine ⟨_, h1, fun y => ?_, fun y => by
    rw [del_look]
    split
    · rfl
    · exact h3 y⟩
  rw [del_look]
  by_cases hy : y = x
  · subst hy; simp [hx]
  · simp only [hy, if_false, h y, List.mem_cons, false_or]


theorem undK : Try.prog.underlying 2 = some (.int .i64) := Try.underlying2




end Go.Proofs.Ytinlaaeoiocfoaa
