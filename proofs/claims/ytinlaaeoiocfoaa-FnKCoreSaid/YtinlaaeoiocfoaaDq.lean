/- The memory of degeneracyOrdering's main loop: its rows and maps, and how each step turns them. -/
import Derived.Test.YtinlaaeoiocfoaaDo
import Derived.Test.YtinlaaeoiocfoaaDz
namespace Go.Proofs.Ytinlaaeoiocfoaa
open Go.MapKept Go.RowKit

abbrev inT : TypeId := 3
structure DMem (N : Int → List Int) (ids : List Int) (w2 : World) (H mv mn m : Nat) (nbv : Int → Value) (f : Int → Option Value) (lv : Value) (l : List Int) (sv : Value) (s : List Nat) (V : Nat → Value) (D : Nat → List Int) (w : World) : Prop where
  rows : RowsD w H H m V D
  dv : VMap w mv f
  nb : VMap w mn (fun x => if x ∈ ids then some (nbv x) else none)
  nbr : ∀ x ∈ ids, w.ownsRow w2.heap.size nodT 1 (nbv x) (N x).length ((N x).map nodeV)
  lo : w.ownsRow H nodT 1 lv l.length (l.map nodeV)
  so : w.ownsRow H inT 1 sv s.length (s.map (fun n => Value.int .i64 (n : Nat)))
  sep : ∀ i, i < m → (V i).ownBlock = none ∨ (V i).ownBlock ≠ lv.ownBlock
  gr : w2.grownBy w none
  low : ∀ x ∈ ids, ∀ g, (nbv x).ownBlock = some g → g < H
  mne : mv ≠ mn
  mge : w2.heap.size ≤ mv
  hge : w2.heap.size ≤ H

section
variable {N : Int → List Int} {ids : List Int} {w2 : World} {H mv mn m : Nat} {nbv : Int → Value} {f : Int → Option Value} {lv : Value} {l : List Int} {sv : Value} {s : List Nat} {V : Nat → Value} {D : Nat → List Int} {w w1 : World}
theorem DMem.grown (h : DMem N ids w2 H mv mn m nbv f lv l sv s V D w) (hg : w.grownBy w1 none) : DMem N ids w2 H mv mn m nbv f lv l sv s V D w1 :=
  ⟨h.rows.grown hg, h.dv.grown hg (by simp), h.nb.grown hg (by simp), fun x hx => own_new (h.nbr x hx) hg, own_new h.lo hg, own_new h.so hg, h.sep, grown_tr h.gr hg, h.low, h.mne, h.mge, h.hge⟩
/-- a block above the mark is no neighbours' row -/
theorem DMem.high (h : DMem N ids w2 H mv mn m nbv f lv l sv s V D w) {x : Int} (hx : x ∈ ids) {r : Option Nat} (hr : ∀ k, r = some k → H ≤ k) : (nbv x).ownBlock = none ∨ (nbv x).ownBlock ≠ r := by
  cases e : (nbv x).ownBlock with
  | none => exact .inl rfl
  | some k =>
    refine .inr (fun e2 => ?_)
    have h1 := h.low x hx k e
    have h2 := hr k e2.symm
    omega
theorem DMem.new (h : DMem N ids w2 H mv mn m nbv f lv l sv s V D w) {r : Option Nat} (hg : w.grownBy w1 r) (hr : ∀ k, r = some k → H ≤ k) : w2.grownBy w1 none :=
  grown_new h.gr hg (fun k hk => Nat.le_trans h.hge (hr k hk))
theorem flip_or {a b : Option Nat} (h : a = none ∨ a ≠ b) : b = none ∨ b ≠ a := by
  rcases h with h | h
  · subst h
    cases b with
    | none => exact .inl rfl
    | some k => exact .inr (by simp)
  · exact .inr (Ne.symm h)

/-- bucket i is another row now -/
theorem DMem.setD (h : DMem N ids w2 H mv mn m nbv f lv l sv s V D w) {i : Nat} (hi : i < m) {v' : Value} {L : List Int} (hg : w.grownBy w1 (V i).ownBlock) (ho : w1.ownsRow H nodT 1 v' L.length (L.map nodeV)) (hf : Fresh w (V i) v') :
    DMem N ids w2 H mv mn m nbv f lv l sv s (updN V i v') (updN D i L) (w1.setCell ⟨H, i, none⟩ v') := by
  have hoi := h.rows.own i hi
  have hhi : ∀ k, (V i).ownBlock = some k → H ≤ k := fun k hk => (hoi.lt k hk).1
  obtain ⟨c, hc, _⟩ := id (rowIs_grown h.rows.ro hg (h.rows.ne hi))
  have hs := grown_setCell w1 H i v'
  have d1 := h.dv.grown hg (h.dv.row hoi)
  have n1 := h.nb.grown hg (h.nb.row hoi)
  have l1 := h.lo.kept hg (flip_or (h.sep i hi))
  have s1 := h.so.kept hg (row_ne_row h.so hoi (by decide))
  refine ⟨h.rows.put hi hg ho hf, d1.grown hs (fun e => d1.ne hc (by simpa using e)), n1.grown hs (fun e => n1.ne hc (by simpa using e)), fun x hx => ?_, l1.kept hs (.inr (own_ne_type l1 hc (by decide)).symm), s1.kept hs (.inr (own_ne_type s1 hc (by decide)).symm), fun j hj => ?_, ?_, h.low, h.mne, h.mge, h.hge⟩
  · have x1 := (h.nbr x hx).kept hg (h.high hx hhi)
    exact x1.kept hs (.inr (own_ne_type x1 hc (by decide)).symm)
  · by_cases e : j = i
    · subst e
      rw [updN_self]
      exact hf.own_ne (h.sep j hi) (fun k hk => (h.lo.lt k hk).2)
    · rw [updN_ne _ _ e]
      exact h.sep j hj
  · exact grown_new (h.new hg hhi) hs (fun k hk => by cases hk; exact h.hge)
/-- l is another row now -/
theorem DMem.setL (h : DMem N ids w2 H mv mn m nbv f lv l sv s V D w) {v' : Value} {l' : List Int} (hg : w.grownBy w1 lv.ownBlock) (ho : w1.ownsRow H nodT 1 v' l'.length (l'.map nodeV)) (hf : Fresh w lv v') :
    DMem N ids w2 H mv mn m nbv f v' l' sv s V D w1 := by
  have hhi : ∀ k, lv.ownBlock = some k → H ≤ k := fun k hk => (h.lo.lt k hk).1
  obtain ⟨c, hc, _⟩ := id h.rows.ro
  refine ⟨h.rows.other hg (own_ne_type h.lo hc (by decide)) h.sep, h.dv.grown hg (h.dv.row h.lo), h.nb.grown hg (h.nb.row h.lo), fun x hx => (h.nbr x hx).kept hg (h.high hx hhi), ho, h.so.kept hg (row_ne_row h.so h.lo (by decide)), fun j hj => ?_, h.new hg hhi, h.low, h.mne, h.mge, h.hge⟩
  exact flip_or (hf.own_ne (flip_or (h.sep j hj)) (fun k hk => ((h.rows.own j hj).lt k hk).2))
/-- s is another row now -/
theorem DMem.setS (h : DMem N ids w2 H mv mn m nbv f lv l sv s V D w) {v' : Value} {s' : List Nat} (hg : w.grownBy w1 sv.ownBlock) (ho : w1.ownsRow H inT 1 v' s'.length (s'.map (fun n => Value.int .i64 (n : Nat)))) :
    DMem N ids w2 H mv mn m nbv f lv l v' s' V D w1 := by
  have hhi : ∀ k, sv.ownBlock = some k → H ≤ k := fun k hk => (h.so.lt k hk).1
  obtain ⟨c, hc, _⟩ := id h.rows.ro
  exact ⟨h.rows.other hg (own_ne_type h.so hc (by decide)) (fun i hi => row_ne_row (h.rows.own i hi) h.so (by decide)), h.dv.grown hg (h.dv.row h.so), h.nb.grown hg (h.nb.row h.so), fun x hx => (h.nbr x hx).kept hg (h.high hx hhi), h.lo.kept hg (row_ne_row h.lo h.so (by decide)), ho, h.sep, h.new hg hhi, h.low, h.mne, h.mge, h.hge⟩
/-- dv is turned -/
theorem DMem.setV (h : DMem N ids w2 H mv mn m nbv f lv l sv s V D w) {f' : Int → Option Value} (hg : w.grownBy w1 (some mv)) (hv : VMap w1 mv f') :
    DMem N ids w2 H mv mn m nbv f' lv l sv s V D w1 := by
  obtain ⟨c, hc, _⟩ := id h.rows.ro
  exact ⟨h.rows.other hg (fun e => h.dv.ne hc (by simpa using e.symm)) (fun i hi => .inr (h.dv.row (h.rows.own i hi)).symm), hv, h.nb.grown hg (fun e => h.mne (by simpa using e.symm)), fun x hx => (h.nbr x hx).kept hg (.inr (h.dv.row (h.nbr x hx)).symm), h.lo.kept hg (.inr (h.dv.row h.lo).symm), h.so.kept hg (.inr (h.dv.row h.so).symm), h.sep, grown_new h.gr hg (fun k hk => by cases hk; exact h.mge), h.low, h.mne, h.mge, h.hge⟩

/-- a place of a row of numbers is written -/
theorem own_setI {w : World} {B g n cap p : Nat} {L : List Nat} (z : Nat) (h : w.ownsRow B inT 1 (.slice (some ⟨g, 0, none⟩) n cap) n (L.map (fun n => Value.int .i64 (n : Nat)))) (hp : p < L.length) :
    (w.setCell ⟨g, p, none⟩ (.int .i64 (z : Nat))).ownsRow B inT 1 (.slice (some ⟨g, 0, none⟩) n cap) n ((L.set p z).map (fun n => Value.int .i64 (n : Nat))) := by
  obtain ⟨h0, h | ⟨g', cap', cur, e1, hb, hh, hc, hm, hs, ht⟩⟩ := h
  · simp at h
  · simp only [Value.slice.injEq, Option.some.injEq, Addr.mk.injEq, and_true, true_and] at e1
    obtain ⟨rfl, rfl⟩ := e1
    have hL : L.length = n := by simpa using h0
    refine ⟨by simpa using h0, .inr ⟨g, cap, _, rfl, hb, block_set hh p _, hc, hm, by simp [hs], ?_⟩⟩
    rw [List.map_set, ← ht]
    apply List.ext_getElem?
    intro j
    rw [Nat.mul_one]
    by_cases hj : j < n
    · rw [List.getElem?_take_of_lt hj, Array.getElem?_toList, Array.getElem?_setIfInBounds, List.getElem?_set, List.getElem?_take_of_lt hj, Array.getElem?_toList]
      by_cases e : p = j
      · subst e
        have h1 : p < cur.size := by rw [hs]; omega
        simp [h1]
        omega
      · simp [e]
    · rw [List.getElem?_take_eq_none (by omega), List.getElem?_eq_none]
      rw [List.length_set, List.length_take]
      omega
end
end Go.Proofs.Ytinlaaeoiocfoaa
