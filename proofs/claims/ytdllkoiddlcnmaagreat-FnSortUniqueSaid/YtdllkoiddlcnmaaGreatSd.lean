/- topo.sortedFrom. -/
import Derived.Test.YtdllkoiddlcnmaaGreatTn
namespace Go.Proofs.YtdllkoiddlcnmaaGreat
open Go.MapKept Go.RowKit

abbrev unoT : TypeId := 112
/-- a component's place in the order: its node, if it has one alone -/
def slotO (c : List Int) : Option Int := if c.length = 1 then c.head? else none
def encO : Option Int → Value
  | none => .nilIface
  | some x => nodeV x
theorem encO_one (o : Option Int) : (encO o).oneCell' = true := by cases o <;> rfl

/-- two rows of nodes that have no node in common lie in different blocks -/
theorem own_apart {w : World} {b1 b2 : Nat} {v1 v2 : Value} {c1 c2 : List Int} (h1 : w.ownsRow b1 nodT 1 v1 c1.length (c1.map nodeV)) (h2 : w.ownsRow b2 nodT 1 v2 c2.length (c2.map nodeV)) (n1 : c1 ≠ []) (n2 : c2 ≠ []) (hd : ∀ x ∈ c1, x ∉ c2) : v1.ownBlock = none ∨ v1.ownBlock ≠ v2.ownBlock := by
  cases hv : v1.ownBlock with
  | none => exact .inl rfl
  | some g =>
    right
    intro e
    have k1 := h1.cells (g := g) hv
    have k2 := h2.cells (g := g) e.symm
    cases c1 with
    | nil => exact absurd rfl n1
    | cons x c1 =>
      cases c2 with
      | nil => exact absurd rfl n2
      | cons y c2 =>
        have a1 := k1 0 (nodeV x) (by simp)
        have a2 := k2 0 (nodeV y) (by simp)
        rw [a1] at a2
        simp only [Option.some.injEq, Value.iface.injEq, Value.int.injEq, true_and] at a2
        exact hd x (by simp) (by rw [a2]; simp)

/-- components: none is empty, none has a node of another one -/
structure CompOk (L : List (List Int)) : Prop where
  ne : ∀ c ∈ L, c ≠ []
  dis : ∀ i j, (hi : i < L.length) → (hj : j < L.length) → i ≠ j → ∀ x ∈ L[i], x ∉ L[j]
  len : L.length ≤ 1000
  each : ∀ c ∈ L, c.length ≤ 1000

/-- the memory of sortedFrom: kc components are past, k6 stand in the order, k7 are looked at for the other list -/
structure SdR (w0 : World) (H : Nat) (L : List (List Int)) (vo : Value) (vals : List Value) (kc k6 k7 : Nat) (a6 a7 : Value) (wr : World) : Prop where
  out : wr.ownsRow w0.heap.size nodsT 1 vo L.length vals
  vl : vals.length = L.length
  cmp : ∀ (i : Nat) (v : Value) (c : List Int), vals[i]? = some v → L[i]? = some c → ∃ c' : List Int, c'.length = c.length ∧ (∀ x ∈ c', x ∈ c) ∧ wr.ownsRow w0.heap.size nodT 1 v c'.length (c'.map nodeV) ∧ (kc ≤ i → c' = c)
  low : ∀ (i : Nat) (v : Value), vals[i]? = some v → ∀ g, v.ownBlock = some g → g < H
  vlow : ∀ g, vo.ownBlock = some g → g < H
  s6 : wr.ownsRow H nodT 1 a6 k6 ((L.take k6).map (fun c => encO (slotO c)))
  s7 : ∃ cv : List Value, wr.ownsRow H nodsT 1 a7 cv.length cv ∧ cv.length ≤ k7 ∧ (∀ v ∈ cv, v ∈ vals) ∧ (cv = [] ↔ ∀ c ∈ L.take k7, c.length = 1) ∧ (cv = [] → a7 = .slice none 0 0)
  gr : w0.grownBy wr none
  hh : w0.heap.size ≤ H ∧ H ≤ wr.heap.size

theorem slot_one {c : List Int} {x : Int} (h : c = [x]) : slotO c = some x := by subst h; rfl
theorem slot_more {c : List Int} (h : c.length ≠ 1) : slotO c = none := by unfold slotO; rw [if_neg h]

section
variable {w0 wr w' : World} {H kc k6 k7 : Nat} {L : List (List Int)} {vo : Value} {vals : List Value} {a6 a7 : Value}
theorem SdR.far (_r : SdR w0 H L vo vals kc k6 k7 a6 a7 wr) {v v2 : Value} (h1 : ∀ g, v.ownBlock = some g → g < H) (h2 : ∀ g, v2.ownBlock = some g → H ≤ g) : v.ownBlock = none ∨ v.ownBlock ≠ v2.ownBlock := by
  cases e : v.ownBlock with
  | none => exact .inl rfl
  | some g =>
    right
    intro e2
    have := h1 g e
    have := h2 g e2.symm
    omega
theorem SdR.grown (r : SdR w0 H L vo vals kc k6 k7 a6 a7 wr) (hg : wr.grownBy w' none) : SdR w0 H L vo vals kc k6 k7 a6 a7 w' :=
  ⟨own_new r.out hg, r.vl, fun i v c hv hc => by
    obtain ⟨c', h1, h2, h3, h4⟩ := r.cmp i v c hv hc
    exact ⟨c', h1, h2, own_new h3 hg, h4⟩, r.low, r.vlow, own_new r.s6 hg, by
    obtain ⟨cv, h1, h2⟩ := r.s7
    exact ⟨cv, own_new h1 hg, h2⟩, grown_tr r.gr hg, r.hh.1, Nat.le_trans r.hh.2 hg.size⟩
theorem SdR.past (r : SdR w0 H L vo vals kc k6 k7 a6 a7 wr) : SdR w0 H L vo vals (kc + 1) k6 k7 a6 a7 wr :=
  ⟨r.out, r.vl, fun i v c hv hc => by
    obtain ⟨c', h1, h2, h3, h4⟩ := r.cmp i v c hv hc
    exact ⟨c', h1, h2, h3, fun h => h4 (by omega)⟩, r.low, r.vlow, r.s6, r.s7, r.gr, r.hh⟩
theorem SdR.lone (r : SdR w0 H L vo vals kc k6 k7 a6 a7 wr) (hk : k7 < L.length) (h1 : L[k7].length = 1) : SdR w0 H L vo vals kc k6 (k7 + 1) a6 a7 wr :=
  ⟨r.out, r.vl, r.cmp, r.low, r.vlow, r.s6, by
    obtain ⟨cv, h2, h3, h4, h5, h6⟩ := r.s7
    refine ⟨cv, h2, by omega, h4, ?_, h6⟩
    rw [h5, List.take_succ_eq_append_getElem hk]
    constructor
    · intro h c hc
      rcases List.mem_append.1 hc with h5 | h5
      · exact h c h5
      · obtain rfl : c = L[k7] := by simpa using h5
        exact h1
    · exact fun h c hc => h c (List.mem_append.2 (.inl hc)), r.gr, r.hh⟩
/-- one place more in the order -/
theorem SdR.app6 (r : SdR w0 H L vo vals kc k6 k7 a6 a7 wr) (hk : k6 < L.length) {g cap : Nat} {y : Value} (hy : y = encO (slotO L[k6]))
    (ho : w'.ownsRow H nodT 1 (.slice (some ⟨g, 0, none⟩) (k6 + 1) cap) (k6 + 1) ((L.take k6).map (fun c => encO (slotO c)) ++ [y])) (hg : wr.grownBy w' a6.ownBlock) :
    SdR w0 H L vo vals kc (k6 + 1) k7 (.slice (some ⟨g, 0, none⟩) (k6 + 1) cap) a7 w' := by
  have hgr : ∀ j, a6.ownBlock = some j → H ≤ j := fun j hj => (r.s6.lt j hj).1
  refine ⟨r.out.kept hg (row_ne_row r.out r.s6 (by decide)), r.vl, fun i v c hv hc => ?_, r.low, r.vlow, ?_, ?_, grown_new r.gr hg (fun j hj => Nat.le_trans r.hh.1 (hgr j hj)), r.hh.1, Nat.le_trans r.hh.2 hg.size⟩
  · obtain ⟨c', h1, h2, h3, h4⟩ := r.cmp i v c hv hc
    exact ⟨c', h1, h2, h3.kept hg (r.far (r.low i v hv) hgr), h4⟩
  · rw [List.take_succ_eq_append_getElem hk, List.map_append, List.map_cons, List.map_nil, ← hy]
    exact ho
  · obtain ⟨cv, h1, h2⟩ := r.s7
    exact ⟨cv, h1.kept hg (row_ne_row h1 r.s6 (by decide)), h2⟩
/-- one component more in the other list -/
theorem SdR.app7 (r : SdR w0 H L vo vals kc k6 k7 a6 a7 wr) (hk : k7 < L.length) (h1 : L[k7].length ≠ 1) {g cap : Nat} {v : Value} {cv : List Value} (hv : v ∈ vals) (hcv : cv.length ≤ k7) (hin : ∀ v ∈ cv, v ∈ vals)
    (hh7 : ∀ j, a7.ownBlock = some j → H ≤ j) (h76 : a6.ownBlock = none ∨ a6.ownBlock ≠ a7.ownBlock) (h7o : ∀ (i : Nat) (v : Value), vals[i]? = some v → v.ownBlock = none ∨ v.ownBlock ≠ a7.ownBlock) (h7v : vo.ownBlock = none ∨ vo.ownBlock ≠ a7.ownBlock)
    (ho : w'.ownsRow H nodsT 1 (.slice (some ⟨g, 0, none⟩) (cv.length + 1) cap) (cv.length + 1) (cv ++ [v])) (hg : wr.grownBy w' a7.ownBlock) :
    SdR w0 H L vo vals kc k6 (k7 + 1) a6 (.slice (some ⟨g, 0, none⟩) (cv.length + 1) cap) w' := by
  refine ⟨r.out.kept hg h7v, r.vl, fun i v c hv hc => ?_, r.low, r.vlow, r.s6.kept hg h76, ⟨cv ++ [v], ?_, by rw [List.length_append]; exact Nat.succ_le_succ hcv, ?_, ?_, fun h => absurd h (by simp)⟩, grown_new r.gr hg (fun j hj => Nat.le_trans r.hh.1 (hh7 j hj)), r.hh.1, Nat.le_trans r.hh.2 hg.size⟩
  · obtain ⟨c', k1, k2, k3, k4⟩ := r.cmp i v c hv hc
    exact ⟨c', k1, k2, k3.kept hg (h7o i v hv), k4⟩
  · rw [List.length_append]
    exact ho
  · intro u hu
    rcases List.mem_append.1 hu with h | h
    · exact hin u h
    · obtain rfl : u = v := by simpa using h
      exact hv
  · constructor
    · intro h
      simp at h
    · intro h
      exact absurd (h L[k7] (by rw [List.take_succ_eq_append_getElem hk]; exact List.mem_append.2 (.inr (List.mem_singleton.2 rfl)))) h1
/-- a component is put in order -/
theorem SdR.sort (r : SdR w0 H L vo vals kc k6 k7 a6 a7 wr) (ok : CompOk L) (hk : kc < L.length) {v : Value} (hv : vals[kc]? = some v) {c : List Int} (hp : c.Perm L[kc])
    (ho : w'.ownsRow w0.heap.size nodT 1 v L[kc].length (c.map nodeV)) (hg : wr.grownBy w' v.ownBlock) : SdR w0 H L vo vals (kc + 1) k6 k7 a6 a7 w' := by
  have hLk : L[kc]? = some L[kc] := List.getElem?_eq_getElem hk
  obtain ⟨c0, -, -, o0, e0⟩ := r.cmp kc v _ hv hLk
  obtain rfl := e0 (Nat.le_refl _)
  have hlow := r.low kc v hv
  refine ⟨r.out.kept hg (row_ne_row r.out o0 (by decide)), r.vl, fun i u d hu hd => ?_, r.low, r.vlow, r.s6.kept hg ?_, ?_, grown_new r.gr hg (fun j hj => (o0.lt j hj).1), r.hh.1, Nat.le_trans r.hh.2 hg.size⟩
  · by_cases hi : i = kc
    · subst hi
      rw [hv] at hu
      rw [hLk] at hd
      cases hu
      cases hd
      exact ⟨c, hp.length_eq, fun x hx => hp.mem_iff.1 hx, by rw [hp.length_eq]; exact ho, fun h => by omega⟩
    · obtain ⟨c', k1, k2, k3, k4⟩ := r.cmp i u d hu hd
      obtain ⟨hil, rfl⟩ := List.getElem?_eq_some_iff.1 hd
      refine ⟨c', k1, k2, k3.kept hg (own_apart k3 o0 ?_ (ok.ne _ (List.getElem_mem hk)) (fun x hx hx2 => ok.dis i kc hil hk hi x (k2 x hx) hx2)), fun h => k4 (by omega)⟩
      intro e
      rw [e] at k1
      exact ok.ne _ (List.getElem_mem hil) (List.eq_nil_of_length_eq_zero k1.symm)
  · cases e : a6.ownBlock with
    | none => exact .inl rfl
    | some g =>
      right
      intro e2
      have h1 := (r.s6.lt g e).1
      have h2 := hlow g e2.symm
      omega
  · obtain ⟨cv, h1, h2⟩ := r.s7
    refine ⟨cv, h1.kept hg ?_, h2⟩
    cases e : a7.ownBlock with
    | none => exact .inl rfl
    | some g =>
      right
      intro e2
      have h1 := (h1.lt g e).1
      have h2 := hlow g e2.symm
      omega
end
end Go.Proofs.YtdllkoiddlcnmaaGreat
