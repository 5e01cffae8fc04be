/- degeneracyOrdering's main loop, plainly: what its map tells, its invariants. -/
import Derived.Test.YtinlaaeoiocfoaaDq
namespace Go.Proofs.Ytinlaaeoiocfoaa
open Go.MapKept Go.RowKit

theorem VMap.congr {w : World} {m : Nat} {f g : Int → Option Value} (h : VMap w m f) (e : ∀ x, f x = g x) : VMap w m g := by
  obtain ⟨es, h1, h2⟩ := h
  exact ⟨es, h1, fun x => (h2 x).trans (e x)⟩

theorem getD_le_sum : ∀ (s : List Nat) (k : Nat), s.getD k 0 ≤ s.sum
  | [], k => by simp
  | a :: s, 0 => by simp
  | a :: s, k + 1 => by
    have := getD_le_sum s k
    simp at this ⊢
    omega
theorem nodup_at {L : List Int} (hn : L.Nodup) {i j : Nat} (hi : i < L.length) (hj : j < L.length) (e : L[i] = L[j]) : i = j := by
  have h := List.pairwise_iff_getElem.1 hn
  rcases Nat.lt_trichotomy i j with h1 | h1 | h1
  · exact absurd e (h i j hi hj h1)
  · exact h1
  · exact absurd e.symm (h j i hj hi h1)
theorem last_at {L : List Int} {n : Nat} (h : L.length = n + 1) (hn : n < L.length) : L.getLastD 0 = L[n] := by
  rw [List.getLastD_eq_getLast?, List.getLast?_eq_getElem?]
  have e : L.length - 1 = n := by omega
  rw [e, List.getElem?_eq_getElem hn]
  rfl
theorem nodup_take {L : List Int} (hn : L.Nodup) {j : Nat} (hj : j < L.length) : L[j] ∉ L.take j := by
  intro h
  obtain ⟨i, hi, e⟩ := List.getElem_of_mem h
  rw [List.length_take] at hi
  rw [List.getElem_take] at e
  have := nodup_at hn (by omega) hj e
  omega
theorem nodup_len : ∀ {l ids : List Int}, l.Nodup → (∀ x ∈ l, x ∈ ids) → l.length ≤ ids.length
  | [], _, _, _ => Nat.zero_le _
  | x :: l, ids, hn, hs => by
    rw [List.nodup_cons] at hn
    have h1 := nodup_len (l := l) (ids := ids.erase x) hn.2 (fun y hy => (List.mem_erase_of_ne (fun e : y = x => hn.1 (by rw [← e]; exact hy))).2 (hs y (by simp [hy])))
    rw [List.length_erase_of_mem (hs x (by simp))] at h1
    have h2 : 0 < ids.length := List.length_pos_of_mem (hs x (by simp))
    rw [List.length_cons]
    omega

section
variable {N : Int → List Int} {ids l : List Int} {v w : Int} {done : List Int}
def dv0 (N : Int → List Int) (ids l : List Int) : Int → Option Value := fun x => if left ids l x = true then some (.int .i64 (degIn N (left ids l) x)) else none
def dvOf (N : Int → List Int) (ids l : List Int) (v : Int) (done : List Int) : Int → Option Value := fun x => if left ids (l ++ [v]) x = true then some (.int .i64 ((degIn N (left ids l) x - (if x ∈ done then 1 else 0) : Nat) : Int)) else none
theorem dvOf_start (hv : left ids l v = true) (x : Int) : updO (dv0 N ids l) v none x = dvOf N ids l v [] x := by
  unfold updO dvOf dv0
  rw [left_snoc]
  by_cases e : x = v
  · subst e
    simp
  · simp [e]
theorem dvOf_skip (hw : left ids (l ++ [v]) w = false) (x : Int) : dvOf N ids l v done x = dvOf N ids l v (done ++ [w]) x := by
  unfold dvOf
  by_cases h : left ids (l ++ [v]) x = true
  · rw [if_pos h, if_pos h]
    have : (x ∈ done ++ [w]) ↔ x ∈ done := by
      rw [List.mem_append]
      exact ⟨fun h1 => h1.elim id (fun e => by
        have e2 : x = w := by simpa using e
        subst e2
        rw [hw] at h
        cases h), .inl⟩
    simp only [this]
  · rw [if_neg h, if_neg h]
theorem dvOf_step {d : Nat} (hw : left ids (l ++ [v]) w = true) (hd : degIn N (left ids l) w = d + 1) (x : Int) : updO (dvOf N ids l v done) w (some (.int .i64 (d : Nat))) x = dvOf N ids l v (done ++ [w]) x := by
  unfold updO dvOf
  by_cases e : x = w
  · subst e
    rw [if_pos rfl, if_pos hw, hd, if_pos (by simp), Nat.add_sub_cancel]
  · rw [if_neg e]
    have : (x ∈ done ++ [w]) ↔ x ∈ done := by
      rw [List.mem_append]
      exact ⟨fun h1 => h1.elim id (fun e2 => absurd (by simpa using e2) e), .inl⟩
    simp only [this]
theorem dvOf_end (hs : Sym N ids) (hv : left ids l v = true) (x : Int) : dvOf N ids l v (N v) x = dv0 N ids (l ++ [v]) x := by
  unfold dvOf dv0
  by_cases h : left ids (l ++ [v]) x = true
  · rw [if_pos h, if_pos h]
    have h4 := deg_more hs hv x
    have h5 := hs.sym v ((left_iff ids).1 hv).1 x ((left_iff ids).1 h).1
    have h6 : (if x ∈ N v then 1 else 0) = (if v ∈ N x then 1 else 0) := by
      by_cases h7 : x ∈ N v
      · rw [if_pos h7, if_pos (h5.1 h7)]
      · rw [if_neg h7, if_neg (fun h8 => h7 (h5.2 h8))]
    rw [h6, ← h4, Nat.add_sub_cancel]
  · rw [if_neg h, if_neg h]

/-- the main loop's state, plainly -/
structure DgPl (N : Int → List Int) (ids : List Int) (m : Nat) (l : List Int) (s : List Nat) (k : Nat) (D : Nat → List Int) : Prop where
  ok : DgOk N ids l k s
  bk : Buck (left ids l) (degIn N (left ids l)) m D
  nd : l.Nodup
  sub : ∀ x ∈ l, x ∈ ids
  km : k < m
/-- something is left: a bucket is not empty -/
theorem DgPl.some {m : Nat} {s : List Nat} {k : Nat} {D : Nat → List Int} (h : DgPl N ids m l s k D) (hn : ids.Nodup) (hl : l.length < ids.length) : ∃ i, i < m ∧ D i ≠ [] := by
  have : ∃ x ∈ ids, x ∉ l := by
    apply Classical.byContradiction
    intro hc
    have h1 : ∀ x ∈ ids, x ∈ l := fun x hx => Classical.byContradiction fun h2 => hc ⟨x, hx, h2⟩
    have := nodup_len hn h1
    omega
  obtain ⟨x, hx, hxl⟩ := this
  have hd := (h.bk.mem _ x).2 ⟨(left_iff ids).2 ⟨hx, hxl⟩, rfl⟩
  refine ⟨_, ?_, List.ne_nil_of_mem hd⟩
  apply Classical.byContradiction
  intro hc
  rw [h.bk.lt _ (Nat.le_of_not_lt hc)] at hd
  cases hd
theorem DgPl.all {m : Nat} {s : List Nat} {k : Nat} {D : Nat → List Int} (h : DgPl N ids m l s k D) (hl : ids.length ≤ l.length) : ∀ x ∈ ids, x ∈ l := by
  intro x hx
  apply Classical.byContradiction
  intro hc
  have := nodup_len (l := x :: l) (ids := ids) (List.nodup_cons.2 ⟨hc, h.nd⟩) (fun y hy => (List.mem_cons.1 hy).elim (fun e => e ▸ hx) (h.sub y))
  rw [List.length_cons] at this
  omega
end

/-- the main loop: what holds at its head -/
def Dg3 (N : Int → List Int) (ids : List Int) (w2 : World) (H mv mn m : Nat) (nbv : Int → Value) (a2 a3 a16 i : Value) (wr : World) : Prop :=
  ∃ (l : List Int) (s : List Nat) (k : Nat) (V : Nat → Value) (D : Nat → List Int), i = .int .i64 l.length ∧ a16 = .int .i64 k ∧ l.length ≤ ids.length ∧ DMem N ids w2 H mv mn m nbv (dv0 N ids l) a2 l a3 s V D wr ∧ DgPl N ids m l s k D
/-- k has grown to the least degree -/
def Dg4 (N : Int → List Int) (ids l : List Int) (w2 : World) (H mv mn m i : Nat) (nbv : Int → Value) (lv : Value) (V : Nat → Value) (D : Nat → List Int) (a3 a16 : Value) (wr : World) : Prop :=
  ∃ (s : List Nat) (k : Nat), a16 = .int .i64 k ∧ DMem N ids w2 H mv mn m nbv (dv0 N ids l) lv l a3 s V D wr ∧ DgOk N ids l k s ∧ i ≤ k ∧ k < m
/-- the walk over the neighbours of v -/
def Dg5 (N : Int → List Int) (ids l : List Int) (v : Int) (w2 : World) (H mv mn m : Nat) (nbv : Int → Value) (lv sv : Value) (s : List Nat) (i : Value) (wr : World) : Prop :=
  ∃ (j : Nat) (V : Nat → Value) (D : Nat → List Int), j ≤ (N v).length ∧ i = .int .i64 j ∧ DMem N ids w2 H mv mn m nbv (dvOf N ids l v ((N v).take j)) lv (l ++ [v]) sv s V D wr ∧ NbOk N ids l v m ((N v).take j) D

section
variable {N : Int → List Int} {ids : List Int} {w2 : World} {H mv mn m : Nat} {nbv : Int → Value} {f : Int → Option Value} {lv : Value} {l : List Int} {sv : Value} {s : List Nat} {V : Nat → Value} {D : Nat → List Int} {w w1 : World}
/-- a node of bucket i -/
theorem DMem.node (h : DMem N ids w2 H mv mn m nbv f lv l sv s V D w) {i : Nat} (hi : i < m) {g n cap : Nat} (hV : V i = .slice (some ⟨g, 0, none⟩) n cap) {p : Nat} (hp : p < (D i).length) : w.cell? ⟨g, p, none⟩ = some (nodeV (D i)[p]) := by
  have h1 := h.rows.own i hi
  rw [hV] at h1
  have hn : (D i).length = n := by
    rcases h1.2 with ⟨h2, _⟩ | ⟨g', c', cur, e1, _⟩
    · simp at h2
    · simp only [Value.slice.injEq] at e1
      exact e1.2.1.symm
  rw [hn] at h1
  have h8 := h1.cells (g := g) rfl p (nodeV (D i)[p]) (by simp [hp])
  rwa [addr_add, Nat.zero_add] at h8
theorem DMem.last (h : DMem N ids w2 H mv mn m nbv f lv l sv s V D w) {i : Nat} (hi : i < m) {g n cap : Nat} {L : List Int} {v : Int} (hD : D i = L ++ [v]) (hV : V i = .slice (some ⟨g, 0, none⟩) n cap) : w.cell? ⟨g, L.length, none⟩ = some (nodeV v) := by
  have hp : L.length < (D i).length := by rw [hD]; simp
  have h1 := h.node hi hV hp
  rw [h1]
  simp [hD]
theorem DMem.lay (h : DMem N ids w2 H mv mn m nbv f lv l sv s V D w) {i : Nat} (hi : i < m) : w.cell? ⟨H, i, none⟩ = some (V i) ∧ w.frozen? ⟨H, i, none⟩ = false := by
  obtain ⟨c, k9, _⟩ := id h.rows.ro
  exact ⟨h.rows.ro.cell hi, free_at k9⟩
/-- a place of s -/
theorem DMem.sAt {g n cap p : Nat} (h : DMem N ids w2 H mv mn m nbv f lv l (.slice (some ⟨g, 0, none⟩) n cap) s V D w) (hp : p < s.length) : w.cell? ⟨g, p, none⟩ = some (.int .i64 ((s.getD p 0 : Nat) : Int)) ∧ w.frozen? ⟨g, p, none⟩ = false := by
  have h1 := h.so
  obtain ⟨cur, hc⟩ := ownBlock_cells h1 (g := g) rfl
  refine ⟨?_, free_at hc⟩
  have hn : s.length = n := by
    rcases h1.2 with ⟨h2, _⟩ | ⟨g', c', cur, e1, _⟩
    · simp at h2
    · simp only [Value.slice.injEq] at e1
      exact e1.2.1.symm
  rw [hn] at h1
  have h8 := h1.cells (g := g) rfl p (.int .i64 ((s.getD p 0 : Nat) : Int)) (by simp [hp])
  rwa [addr_add, Nat.zero_add] at h8
/-- the last of bucket i is taken out -/
theorem DMem.pop (h : DMem N ids w2 H mv mn m nbv f lv l sv s V D w) {i g cap : Nat} {L : List Int} {v : Int} (hi : i < m) (hD : D i = L ++ [v]) (hV : V i = .slice (some ⟨g, 0, none⟩) (L.length + 1) cap) :
    DMem N ids w2 H mv mn m nbv f lv l sv s (updN V i (.slice (some ⟨g, 0, none⟩) L.length cap)) (updN D i L) (w.setCell ⟨H, i, none⟩ (.slice (some ⟨g, 0, none⟩) L.length cap)) := by
  have ho := h.rows.own i hi
  rw [hD, hV] at ho
  refine h.setD hi (grown_any (grown_refl w) _) (own_cut (x := v) (n := L.length + 1) (by simpa using ho) rfl) (.inl ?_)
  rw [hV]
  rfl
/-- the last of bucket i comes to place p, and the bucket is one shorter -/
theorem DMem.swap (h : DMem N ids w2 H mv mn m nbv f lv l sv s V D w) {i g n cap p : Nat} (hi : i < m) (hp : p < (D i).length) (hn : (D i).length = n + 1) (hV : V i = .slice (some ⟨g, 0, none⟩) (n + 1) cap) :
    DMem N ids w2 H mv mn m nbv f lv l sv s (updN V i (.slice (some ⟨g, 0, none⟩) n cap)) (updN D i (swp (D i) p)) ((w.setCell ⟨g, p, none⟩ (nodeV ((D i).getLastD 0))).setCell ⟨H, i, none⟩ (.slice (some ⟨g, 0, none⟩) n cap)) := by
  have ho := h.rows.own i hi
  rw [hn, hV] at ho
  have h1 := own_set (z := (D i).getLastD 0) ho hp
  have hl : (swp (D i) p).length = n := by have := swp_length hp; omega
  have hne : (D i).set p ((D i).getLastD 0) ≠ [] := by
    intro e
    have := congrArg List.length e
    simp at this
    rw [this] at hp
    simp at hp
  have e : (D i).set p ((D i).getLastD 0) = swp (D i) p ++ [((D i).set p ((D i).getLastD 0)).getLast hne] := by
    unfold swp
    exact (List.dropLast_concat_getLast hne).symm
  rw [e] at h1
  have h2 := own_cut h1 (by rw [hl])
  rw [hl] at h2
  refine h.setD hi ?_ (by rw [hl]; exact h2) (.inl ?_)
  · rw [hV]
    exact grown_setCell w g p _
  · rw [hV]
    rfl
/-- a neighbour -/
theorem DMem.nbAt (h : DMem N ids w2 H mv mn m nbv f lv l sv s V D w) {x : Int} (hx : x ∈ ids) {a : Option Addr} {n c : Nat} (hv : nbv x = .slice a n c) {i : Nat} (hi : i < (N x).length) : ∃ g, a = some ⟨g, 0, none⟩ ∧ w.cell? ⟨g, i, none⟩ = some (nodeV (N x)[i]) := by
  have h1 := h.nbr x hx
  obtain ⟨g, cap, e1, _⟩ := own_row h1 (by omega)
  rw [hv] at e1 h1
  simp only [Value.slice.injEq] at e1
  obtain ⟨rfl, rfl, rfl⟩ := e1
  refine ⟨g, rfl, ?_⟩
  have h8 := h1.cells (g := g) rfl i (nodeV (N x)[i]) (by simp [hi])
  rwa [addr_add, Nat.zero_add] at h8
theorem DMem.Hle (h : DMem N ids w2 H mv mn m nbv f lv l sv s V D w) : H ≤ w.heap.size := by
  obtain ⟨c, k9, _⟩ := id h.rows.ro
  have := (Array.getElem?_eq_some_iff.1 k9).1
  omega
/-- l is one longer -/
theorem DMem.push (h : DMem N ids w2 H mv mn m nbv f lv l sv s V D w) {v : Int} {g cap : Nat} {w0 : World} (h0 : w.grownBy w0 none) (hg : w0.grownBy w1 lv.ownBlock) (ho : w1.ownsRow H nodT 1 (.slice (some ⟨g, 0, none⟩) (l.length + 1) cap) (l.length + 1) (l.map nodeV ++ [nodeV v])) (hf : lv.ownBlock = some g ∨ g = w0.heap.size) :
    DMem N ids w2 H mv mn m nbv f (.slice (some ⟨g, 0, none⟩) (l.length + 1) cap) (l ++ [v]) sv s V D w1 :=
  (h.grown h0).setL hg (by rw [List.length_append, List.map_append]; exact ho) (Fresh.of hf)
/-- a bucket is one longer -/
theorem DMem.pushD (h : DMem N ids w2 H mv mn m nbv f lv l sv s V D w) {i : Nat} (hi : i < m) {x : Int} {a : Option Addr} {n c g cap : Nat} {w0 : World} (hV : V i = .slice a n c) (hn : (D i).length = n) (h0 : w.grownBy w0 none) (hg : w0.grownBy w1 (Value.slice a n c).ownBlock) (ho : w1.ownsRow H nodT 1 (.slice (some ⟨g, 0, none⟩) (n + 1) cap) (n + 1) ((D i).map nodeV ++ [nodeV x])) (hf : (Value.slice a n c).ownBlock = some g ∨ g = w0.heap.size) :
    DMem N ids w2 H mv mn m nbv f lv l sv s (updN V i (.slice (some ⟨g, 0, none⟩) (n + 1) cap)) (updN D i (D i ++ [x])) (w1.setCell ⟨H, i, none⟩ (.slice (some ⟨g, 0, none⟩) (n + 1) cap)) := by
  refine (h.grown h0).setD hi (by rw [hV]; exact hg) (by rw [List.length_append, List.map_append, hn]; exact ho) ?_
  rw [hV]
  exact Fresh.of hf
/-- one more of the class k -/
theorem DMem.count {g n cap k : Nat} (h : DMem N ids w2 H mv mn m nbv f lv l (.slice (some ⟨g, 0, none⟩) n cap) s V D w) (hk : k < s.length) (z : Nat) : DMem N ids w2 H mv mn m nbv f lv l (.slice (some ⟨g, 0, none⟩) n cap) (s.set k z) V D (w.setCell ⟨g, k, none⟩ (.int .i64 (z : Nat))) := by
  have h1 := h.so
  have hn : s.length = n := by
    rcases h1.2 with ⟨h2, _⟩ | ⟨g', c', cur, e1, _⟩
    · simp at h2
    · simp only [Value.slice.injEq] at e1
      exact e1.2.1.symm
  rw [hn] at h1
  refine h.setS (grown_setCell w g k _) ?_
  rw [List.length_set, hn]
  exact own_setI z h1 hk
theorem DMem.congr (h : DMem N ids w2 H mv mn m nbv f lv l sv s V D w) {g : Int → Option Value} (e : ∀ x, f x = g x) : DMem N ids w2 H mv mn m nbv g lv l sv s V D w :=
  ⟨h.rows, h.dv.congr e, h.nb, h.nbr, h.lo, h.so, h.sep, h.gr, h.low, h.mne, h.mge, h.hge⟩
theorem DMem.block_ne (h : DMem N ids w2 H mv mn m nbv f lv l sv s V D w) {i : Nat} (hi : i < m) {g n cap p : Nat} (hV : V i = .slice (some ⟨g, 0, none⟩) n cap) : H ≠ g ∧ w.frozen? ⟨g, p, none⟩ = false := by
  have h1 := h.rows.own i hi
  rw [hV] at h1
  obtain ⟨c, k9, _⟩ := id h.rows.ro
  obtain ⟨c8, k8⟩ := ownBlock_cells h1 (g := g) rfl
  exact ⟨fun e => own_ne_type h1 k9 (by decide) (by rw [e]; rfl), free_at k8⟩
theorem down_eq {D : Nat → List Int} {d p : Nat} {x : Int} : updN (updN D (d + 1) (swp (D (d + 1)) p)) d (updN D (d + 1) (swp (D (d + 1)) p) d ++ [x]) = fun j => if j = d + 1 then swp (D (d + 1)) p else if j = d then D d ++ [x] else D j := by
  funext j
  unfold updN
  by_cases h1 : j = d
  · subst h1
    simp
  · simp [h1]
end
theorem Dg5.mk {N : Int → List Int} {ids l : List Int} {v : Int} {w2 : World} {H mv mn m : Nat} {nbv : Int → Value} {lv sv : Value} {s : List Nat} {wr : World} {j : Nat} {V : Nat → Value} {D : Nat → List Int} (hj : j < (N v).length) (h : DMem N ids w2 H mv mn m nbv (dvOf N ids l v ((N v).take (j + 1))) lv (l ++ [v]) sv s V D wr) (hn : NbOk N ids l v m ((N v).take (j + 1)) D) :
    Dg5 N ids l v w2 H mv mn m nbv lv sv s (.int .i64 ((j : Int) + 1)) wr := ⟨j + 1, V, D, hj, rfl, h, hn⟩
/-- what degeneracyOrdering answers -/
def DegPost (N : Int → List Int) (ids : List Int) (w : World) (e : Ending) (w' : World) : Prop :=
  ∃ lv sv l s k, e = .returned (.tuple #[lv, sv]) ∧ w'.ownsRow w.heap.size nodT 1 lv l.length (l.map nodeV) ∧ w'.ownsRow w.heap.size inT 1 sv s.length (s.map (fun n => Value.int .i64 (n : Nat))) ∧ w.grownBy w' none ∧ DgOk N ids l k s ∧ l.Nodup ∧ (∀ x ∈ l, x ∈ ids) ∧ (∀ x ∈ ids, x ∈ l) ∧ k ≤ 1000
end Go.Proofs.Ytinlaaeoiocfoaa
