/- coloring.Sets: the groups of a map's keys by its elements. -/
import Derived.Test.YtamjgkoegkgodaaRows
import Derived.Test.YtamjgkoegkgodaaHq
import Derived.WalkKit
import Derived.Lib.Hide
import Derived.Carry
namespace Go.Proofs.Ytamjgkoegkgodaa
open Go.RowKit

theorem elT41 : ElT Try.prog 41 2 1 8 (.int .i64 0) := ⟨Try.underlying41, by kernel_rfl, rfl, by decide⟩

/-- the values of 'ents' are slices of the call's own; that at key c owns the numbers 'ids c' -/
structure Grp (w : World) (base : Nat) (ents : Ents) (ids : Int → List Int) : Prop where
  keys : ∀ c, c ∈ ents.map (·.1) ↔ ids c ≠ []
  own : ∀ p ∈ ents, w.ownsRow base 2 1 p.2 (ids p.1).length ((ids p.1).map (Value.int .i64))
  apart : ∀ p ∈ ents, ∀ q ∈ ents, p.1 ≠ q.1 → p.2.ownBlock ≠ q.2.ownBlock

theorem Grp.nil (w : World) (base : Nat) : Grp w base [] (fun _ => []) := ⟨by simp, by simp, by simp⟩

theorem ownBlock_some {w : World} {base : Nat} {e : TypeId} {v : Value} {n : Nat} {xs : List Value} (h : w.ownsRow base e 1 v n xs) (hx : xs ≠ []) : ∃ g, v.ownBlock = some g ∧ base ≤ g ∧ g < w.heap.size := by
  rcases h.2 with ⟨rfl, h0⟩ | ⟨g, cap, cur, rfl, hb, hg, _⟩
  · have := h.1
    rw [h0] at this
    exact absurd (List.eq_nil_of_length_eq_zero (by simpa using this)) hx
  · exact ⟨g, rfl, hb, (Array.getElem?_eq_some_iff.1 hg).1⟩

theorem Grp.blk {w : World} {base : Nat} {ents : Ents} {ids : Int → List Int} (h : Grp w base ents ids) {p : Int × Value} (hp : p ∈ ents) : ∃ g, p.2.ownBlock = some g ∧ base ≤ g ∧ g < w.heap.size := by
  refine ownBlock_some (h.own p hp) ?_
  have := (h.keys p.1).1 (List.mem_map.2 ⟨p, hp, rfl⟩)
  simpa using this

/-- whatever leaves all rows alone leaves the groups alone -/
theorem Grp.kept {w w' : World} {base : Nat} {ents : Ents} {ids : Int → List Int} (h : Grp w base ents ids) {row : Option Nat} (hg : w.grownBy w' row) (hr : ∀ k, row = some k → k < base) : Grp w' base ents ids := by
  refine ⟨h.keys, fun p hp => ?_, h.apart⟩
  refine (h.own p hp).kept hg (.inr ?_)
  obtain ⟨g, e, hb, _⟩ := h.blk hp
  rw [e]
  intro hh
  have := hr g hh.symm
  omega

theorem Grp.kept' {w w' : World} {base : Nat} {ents : Ents} {ids : Int → List Int} (h : Grp w base ents ids) {row : Option Nat} (hg : w.grownBy w' row) (hr : ∀ p ∈ ents, p.2.ownBlock ≠ row) : Grp w' base ents ids :=
  ⟨h.keys, fun p hp => (h.own p hp).kept hg (.inr (hr p hp)), h.apart⟩

theorem ownBlock_cells {w : World} {base : Nat} {e : TypeId} {size : Nat} {v : Value} {n : Nat} {xs : List Value} (h : w.ownsRow base e size v n xs) {g : Nat} (hg : v.ownBlock = Option.some g) : ∃ cur, w.heap[g]? = Option.some (.cells cur e (0, 0)) := by
  rcases h.2 with ⟨rfl, h0⟩ | ⟨g', cap, cur, rfl, hb, hgg, _⟩
  · cases hg
  · simp [Value.ownBlock] at hg
    subst hg
    exact ⟨cur, hgg⟩

theorem row_ne_iter' {w : World} {base : Nat} {e : TypeId} {size : Nat} {v : Value} {n : Nat} {xs : List Value} (h : w.ownsRow base e size v n xs) {r b : Nat} {m left : Ents} (hr : RangeIs w r b m left) : v.ownBlock ≠ Option.some r := by
  intro hg
  obtain ⟨cur, hc⟩ := ownBlock_cells h hg
  obtain ⟨es, clock, since, seen, c0, hrr, _⟩ := hr
  rw [hc] at hrr
  cases hrr

theorem row_ne_map {w : World} {base : Nat} {e : TypeId} {size : Nat} {v : Value} {n : Nat} {xs : List Value} (h : w.ownsRow base e size v n xs) {b : Nat} {m : Ents} (hr : MapIs w b m) : v.ownBlock ≠ Option.some b := by
  intro hg
  obtain ⟨cur, hc⟩ := ownBlock_cells h hg
  obtain ⟨es, clock, hrr, _⟩ := hr
  rw [hc] at hrr
  cases hrr

theorem upd_mem {m : Ents} {k : Int} {v : Value} {p : Int × Value} (h : p ∈ upd m k v) : p = (k, v) ∨ (p ∈ m ∧ p.1 ≠ k) := by
  unfold upd at h
  split at h
  · obtain ⟨q, hq, e⟩ := List.mem_map.1 h
    by_cases hk : q.1 = k
    · rw [if_pos (by simpa using hk)] at e; exact .inl e.symm
    · rw [if_neg (by simpa using hk)] at e; exact .inr ⟨e ▸ hq, e ▸ hk⟩
  · rename_i hno
    rcases List.mem_append.1 h with h | h
    · refine .inr ⟨h, fun e => hno (any_key.2 (List.mem_map.2 ⟨p, h, e⟩))⟩
    · exact .inl (by simpa using h)

theorem upd_keys {m : Ents} {k : Int} {v : Value} (c : Int) : c ∈ (upd m k v).map (·.1) ↔ c = k ∨ c ∈ m.map (·.1) := by
  unfold upd
  split
  · rename_i h
    have hk := any_key.1 h
    have e : (m.map (fun p => if (p.1 == k) = true then (k, v) else p)).map (·.1) = m.map (·.1) := by
      rw [List.map_map]
      apply List.map_congr_left
      intro p _
      simp only [Function.comp]
      split
      · rename_i hp; exact (by simpa using hp : p.1 = k).symm
      · rfl
    rw [e]
    exact ⟨.inr, fun h => h.elim (fun e => e ▸ hk) id⟩
  · simp [or_comm]

def idsAdd (ids : Int → List Int) (c x : Int) : Int → List Int := fun d => if d = c then ids c ++ [x] else ids d

/-- the step of a round: the slice at key c is appended to, and stored back -/
theorem Grp.step {w w1 w2 w3 : World} {base S : Nat} {ents : Ents} {ids : Int → List Int} (h : Grp w base ents ids) (c x : Int) {v' : Value}
    (h0 : w.grownBy w1 none) (hown : w2.ownsRow base 2 1 v' ((ids c).length + 1) ((ids c).map (Value.int .i64) ++ [.int .i64 x]))
    (hg : w1.grownBy w2 ((lkp ents c).getD (.slice none 0 0)).ownBlock) (hat : v'.ownBlock = ((lkp ents c).getD (.slice none 0 0)).ownBlock ∨ v'.ownBlock = some w1.heap.size)
    (h3 : w2.grownBy w3 (some S)) (hS : S < base) : Grp w3 base (upd ents c v') (idsAdd ids c x) := by
  have hk1 : ∀ p ∈ ents, p.1 ≠ c → ∃ g, p.2.ownBlock = some g ∧ base ≤ g ∧ g < w.heap.size ∧ some g ≠ ((lkp ents c).getD (.slice none 0 0)).ownBlock := by
    intro p hp hpc
    obtain ⟨g, e, hb, hl⟩ := h.blk hp
    refine ⟨g, e, hb, hl, ?_⟩
    cases hlk : lkp ents c with
    | none => simp [Value.ownBlock]
    | some u =>
      have hu := mem_of_lkp hlk
      have := h.apart p hp _ hu hpc
      rw [e] at this
      exact this
  have hv1 : v'.ownBlock ≠ some S := by
    obtain ⟨g, e, hb, _⟩ := ownBlock_some hown (by simp)
    rw [e]
    intro hh
    simp at hh
    omega
  refine ⟨fun d => ?_, fun p hp => ?_, fun p hp q hq hpq => ?_⟩
  · rw [upd_keys, h.keys]
    unfold idsAdd
    by_cases hd : d = c
    · subst hd; simp
    · simp [hd]
  · rcases upd_mem hp with rfl | ⟨hp, hpc⟩
    · have := hown.kept h3 (.inr hv1)
      simpa [idsAdd] using this
    · obtain ⟨g, e, hb, hl, hne⟩ := hk1 p hp hpc
      have e1 : idsAdd ids c x p.1 = ids p.1 := if_neg hpc
      rw [e1]
      refine (((h.own p hp).kept h0 (.inr (by rw [e]; simp))).kept hg (.inr (by rw [e]; exact hne))).kept h3 (.inr ?_)
      rw [e]; intro hh; simp at hh; omega
  · have key : ∀ p ∈ ents, p.1 ≠ c → p.2.ownBlock ≠ v'.ownBlock := by
      intro p hp hpc
      obtain ⟨g, e, hb, hl, hne⟩ := hk1 p hp hpc
      rw [e]
      rcases hat with h | h
      · rw [h]; exact hne
      · rw [h]
        intro hh
        simp at hh
        have := h0.size
        omega
    rcases upd_mem hp with rfl | ⟨hp, hpc⟩
    · rcases upd_mem hq with rfl | ⟨hq, hqc⟩
      · exact absurd rfl hpq
      · exact (key q hq hqc).symm
    · rcases upd_mem hq with rfl | ⟨hq, hqc⟩
      · exact key p hp hpc
      · exact h.apart p hp q hq hpq

theorem Grp.at {w : World} {base : Nat} {ents : Ents} {ids : Int → List Int} (h : Grp w base ents ids) (c : Int) :
    w.ownsRow base 2 1 ((lkp ents c).getD (.slice none 0 0)) (ids c).length ((ids c).map (Value.int .i64)) := by
  cases hl : lkp ents c with
  | none =>
    have : ids c = [] := by
      have h1 : ¬ c ∈ ents.map (·.1) := fun hh => by have := lkp_isSome.2 hh; rw [hl] at this; cases this
      rw [h.keys] at h1
      simpa using h1
    rw [this]
    exact World.ownsRow_nil _ _ _ _
  | some u => exact h.own _ (mem_of_lkp hl)

/-- one of the rows is written anew -/
theorem Grp.turn {w w' : World} {base : Nat} {ents : Ents} {ids ids' : Int → List Int} (h : Grp w base ents ids) (hn : (ents.map (·.1)).Nodup) {x : Int} {v : Value} (hx : (x, v) ∈ ents)
    (hown : w'.ownsRow base 2 1 v (ids' x).length ((ids' x).map (Value.int .i64))) (hg : w.grownBy w' v.ownBlock) (h1 : ids' x ≠ []) (h2 : ∀ c, c ≠ x → ids' c = ids c) : Grp w' base ents ids' := by
  refine ⟨fun c => ?_, fun p hp => ?_, h.apart⟩
  · by_cases hc : c = x
    · subst hc; exact ⟨fun _ => h1, fun _ => List.mem_map.2 ⟨_, hx, rfl⟩⟩
    · rw [h2 c hc]; exact h.keys c
  · by_cases hc : p.1 = x
    · have : p = (x, v) := by
        have e1 := lkp_mem hn hx
        have e2 := lkp_mem hn (show (x, p.2) ∈ ents by rw [← hc]; exact hp)
        rw [e1] at e2
        exact Prod.ext hc (by simpa using e2.symm)
      subst this
      exact hown
    · rw [h2 _ hc]
      exact (h.own p hp).kept hg (.inr (h.apart p hp _ hx hc))

/-- what has been grouped so far of a list of pairs (node, colour) -/
def idsOf (vis : List (Int × Int)) : Int → List Int := fun c => (vis.filter (fun p => p.2 == c)).map (·.1)

theorem idsOf_snoc (vis : List (Int × Int)) (x c : Int) : idsOf (vis ++ [(x, c)]) = idsAdd (idsOf vis) c x := by
  funext d
  unfold idsOf idsAdd
  by_cases hd : d = c
  · subst hd; simp [List.filter_append]
  · have : (c == d) = false := by simpa using fun e => hd e.symm
    simp [List.filter_append, this, hd]
end Go.Proofs.Ytamjgkoegkgodaa
