/- Rows of one length in blocks of the call's own, of any capacity. -/
import Derived.Test.YtdllkoiddlcnmaaGd
import Derived.Test.YtdllkoiddlcnmaaSo
namespace Go.Proofs.Ytdllkoiddlcnmaa
open Go.MapKept Go.RowKit

/-- block b is a row of c cells, the first n of which are told -/
def RowB (w : World) (b : Nat) (t : TypeId) (n c : Nat) (f : Nat → Value) : Prop := ∃ g, w.rowIs b t c g ∧ n ≤ c ∧ ∀ i, i < n → g i = f i

theorem RowB.of_own {w : World} {B g n cap : Nat} {t : TypeId} {f : Nat → Value} (h : w.ownsRow B t 1 (.slice (some ⟨g, 0, none⟩) n cap) n ((List.range n).map f)) : RowB w g t n cap f := by
  obtain ⟨-, h | ⟨g', cap', cur, e1, hb, hh, hc, hm, hs, ht⟩⟩ := h
  · simp at h
  · simp only [Value.slice.injEq, Option.some.injEq, Addr.mk.injEq, and_true, true_and] at e1
    obtain ⟨rfl, rfl⟩ := e1
    rw [Nat.mul_one] at hs ht
    refine ⟨fun i => cur.toList.getD i (.bool false), ⟨cur, hh, hs, fun i hi => ?_⟩, hc, fun i hi => ?_⟩
    · have h1 : i < cur.toList.length := by rw [Array.length_toList]; omega
      show cur[i]? = some (cur.toList.getD i (.bool false))
      rw [List.getD_eq_getElem?_getD, List.getElem?_eq_getElem h1, Option.getD_some, ← Array.getElem?_toList, List.getElem?_eq_getElem h1]
    · have h2 : (cur.toList.take n)[i]? = some (f i) := by rw [ht]; simp [hi]
      rw [List.getElem?_take, if_pos hi] at h2
      simp [List.getD_eq_getElem?_getD, h2]
theorem RowB.cell {w : World} {b n c : Nat} {t : TypeId} {f : Nat → Value} (h : RowB w b t n c f) {i : Nat} (hi : i < n) : w.cell? ⟨b, i, none⟩ = some (f i) := by
  obtain ⟨g, h1, h2, h3⟩ := h
  rw [h1.cell (by omega), h3 i hi]
theorem RowB.frozen {w : World} {b n c : Nat} {t : TypeId} {f : Nat → Value} (h : RowB w b t n c f) (i : Nat) : w.frozen? ⟨b, i, none⟩ = false := by
  obtain ⟨g, h1, h2, h3⟩ := h
  exact h1.frozen i
theorem RowB.lt {w : World} {b n c : Nat} {t : TypeId} {f : Nat → Value} (h : RowB w b t n c f) : b < w.heap.size := by
  obtain ⟨g, h1, h2, h3⟩ := h
  exact h1.lt
theorem RowB.of_block {w w' : World} {b n c : Nat} {t : TypeId} {f : Nat → Value} (h : RowB w b t n c f) (e : w'.heap[b]? = w.heap[b]?) : RowB w' b t n c f := by
  obtain ⟨g, h1, h2, h3⟩ := h
  exact ⟨g, h1.of_block e, h2, h3⟩
theorem RowB.grown {w w' : World} {b n c : Nat} {t : TypeId} {f : Nat → Value} {row : Option Nat} (h : RowB w b t n c f) (hg : w.grownBy w' row) (hne : some b ≠ row) : RowB w' b t n c f := h.of_block (hg.block b h.lt hne)
theorem RowB.congr {w : World} {b n c : Nat} {t : TypeId} {f f' : Nat → Value} (h : RowB w b t n c f) (e : ∀ i, i < n → f i = f' i) : RowB w b t n c f' := by
  obtain ⟨g, h1, h2, h3⟩ := h
  exact ⟨g, h1, h2, fun i hi => by rw [h3 i hi, e i hi]⟩
theorem RowB.set {w : World} {b n c : Nat} {t : TypeId} {f : Nat → Value} (h : RowB w b t n c f) (i : Nat) (v : Value) : RowB (w.setCell ⟨b, i, none⟩ v) b t n c (fun j => if j = i then v else f j) := by
  obtain ⟨g, h1, h2, h3⟩ := h
  refine ⟨_, h1.set i v, h2, fun j hj => ?_⟩
  by_cases e : j = i <;> simp [e, h3 j hj]
theorem RowB.ne_own {w : World} {b n c : Nat} {t : TypeId} {f : Nat → Value} (h : RowB w b t n c f) {b1 : Nat} {e1 : TypeId} {s1 : Nat} {v1 : Value} {n1 : Nat} {x1 : List Value} (h1 : w.ownsRow b1 e1 s1 v1 n1 x1) (hne : t ≠ e1) : some b ≠ v1.ownBlock := by
  obtain ⟨g, h2, _⟩ := h
  exact rowIs_ne_own h2 h1 hne

def rowC (n : Nat) (R C : Nat → Nat) (r : Nat) : Value := .slice (some ⟨R r, 0, none⟩) n (C r)

structure RowsB (w : World) (B : Nat) (t : TypeId) (n k : Nat) (R C : Nat → Nat) (f : Nat → Nat → Value) : Prop where
  row : ∀ r, r < k → RowB w (R r) t n (C r) (f r)
  sep : ∀ r s, r < k → s < k → r ≠ s → R r ≠ R s
  base : ∀ r, r < k → B ≤ R r

theorem RowsB.zero (w : World) (B : Nat) (t : TypeId) (n : Nat) (R C : Nat → Nat) (f : Nat → Nat → Value) : RowsB w B t n 0 R C f := ⟨fun _ h => absurd h (by omega), fun _ _ h => absurd h (by omega), fun _ h => absurd h (by omega)⟩
theorem RowsB.grown {w w' : World} {B n k : Nat} {t : TypeId} {R C : Nat → Nat} {f : Nat → Nat → Value} {row : Option Nat} (h : RowsB w B t n k R C f) (hg : w.grownBy w' row) (hne : ∀ r, r < k → some (R r) ≠ row) : RowsB w' B t n k R C f :=
  ⟨fun r hr => (h.row r hr).grown hg (hne r hr), h.sep, h.base⟩
theorem RowsB.lt {w : World} {B n k : Nat} {t : TypeId} {R C : Nat → Nat} {f : Nat → Nat → Value} (h : RowsB w B t n k R C f) {r : Nat} (hr : r < k) : R r < w.heap.size := (h.row r hr).lt
theorem RowsB.congr {w : World} {B n k : Nat} {t : TypeId} {R C : Nat → Nat} {f g : Nat → Nat → Value} (h : RowsB w B t n k R C f) (e : ∀ r i, r < k → i < n → f r i = g r i) : RowsB w B t n k R C g :=
  ⟨fun r hr => (h.row r hr).congr (fun i hi => e r i hr hi), h.sep, h.base⟩
theorem RowsB.snoc {w w' : World} {B n k H c : Nat} {t : TypeId} {R C : Nat → Nat} {f : Nat → Nat → Value} {row : Option Nat} (h : RowsB w B t n k R C f) (hg : w.grownBy w' row) (hne : ∀ r, r < k → some (R r) ≠ row)
    (hnew : RowB w' H t n c (f k)) (hH : w.heap.size ≤ H) (hB : B ≤ H) : RowsB w' B t n (k + 1) (fun r => if r = k then H else R r) (fun r => if r = k then c else C r) f := by
  refine ⟨fun r hr => ?_, fun r s hr hs hrs => ?_, fun r hr => ?_⟩
  · by_cases e : r = k
    · subst e; rw [if_pos rfl, if_pos rfl]; exact hnew
    · rw [if_neg e, if_neg e]; exact (h.row r (by omega)).grown hg (hne r (by omega))
  · by_cases e : r = k
    · subst e
      rw [if_pos rfl, if_neg (by omega)]
      have := h.lt (r := s) (by omega)
      omega
    · rw [if_neg e]
      by_cases e2 : s = k
      · subst e2
        rw [if_pos rfl]
        have := h.lt (r := r) (by omega)
        omega
      · rw [if_neg e2]; exact h.sep r s (by omega) (by omega) hrs
  · by_cases e : r = k
    · subst e; rw [if_pos rfl]; exact hB
    · rw [if_neg e]; exact h.base r (by omega)
theorem rowC_snoc (n : Nat) (R C : Nat → Nat) (k H c : Nat) : (List.range (k + 1)).map (rowC n (fun r => if r = k then H else R r) (fun r => if r = k then c else C r)) = (List.range k).map (rowC n R C) ++ [.slice (some ⟨H, 0, none⟩) n c] := by
  rw [List.range_succ, List.map_append]
  congr 1
  · refine List.map_congr_left (fun r hr => ?_)
    have : r < k := by simpa using hr
    simp [rowC, show ¬ r = k by omega]
  · simp [rowC]
theorem RowsB.stored {w : World} {B n k : Nat} {t : TypeId} {R C : Nat → Nat} {f : Nat → Nat → Value} (h : RowsB w B t n k R C f) {r : Nat} (hr : r < k) (i : Nat) (v : Value) :
    RowsB (w.setCell ⟨R r, i, none⟩ v) B t n k R C (fun s j => if s = r ∧ j = i then v else f s j) := by
  refine ⟨fun s hs => ?_, h.sep, h.base⟩
  by_cases e : s = r
  · subst e
    refine ((h.row s hs).set i v).congr (fun j _ => ?_)
    by_cases e2 : j = i <;> simp [e2]
  · refine ((h.row s hs).grown (grown_setCell w (R r) i v) (fun e2 => h.sep s r hs hr e (Option.some.inj e2))).congr (fun j _ => ?_)
    simp [e]

/-! ### as it is read -/
def GridC (w : World) (v : Value) (n k : Nat) (f : Nat → Nat → Value) : Prop :=
  ∃ (a : Option Addr) (c : Nat) (R C : Nat → Nat), v = .slice a k c ∧ (0 < k → ∃ b o, a = some ⟨b, o, none⟩ ∧ b < w.heap.size ∧ ∀ r, r < k → w.cell? ⟨b, o + r, none⟩ = some (rowC n R C r)) ∧
    ∀ r, r < k → R r < w.heap.size ∧ ∀ i, i < n → w.cell? ⟨R r, i, none⟩ = some (f r i)
theorem GridC.grown {w w' : World} {v : Value} {n k : Nat} {f : Nat → Nat → Value} (h : GridC w v n k f) (hg : w.grownBy w' none) : GridC w' v n k f := by
  obtain ⟨a, c, R, C, rfl, h1, h2⟩ := h
  refine ⟨a, c, R, C, rfl, fun hk => ?_, fun r hr => ?_⟩
  · obtain ⟨b, o, rfl, hb, hc⟩ := h1 hk
    exact ⟨b, o, rfl, Nat.lt_of_lt_of_le hb hg.size, fun r hr => by rw [grown_cell hg hb (by simp)]; exact hc r hr⟩
  · obtain ⟨h3, h4⟩ := h2 r hr
    exact ⟨Nat.lt_of_lt_of_le h3 hg.size, fun i hi => by rw [grown_cell hg h3 (by simp)]; exact h4 i hi⟩
theorem GridC.of {w : World} {B B' : Nat} {e t : TypeId} {v : Value} {n k : Nat} {R C : Nat → Nat} {f : Nat → Nat → Value} (ho : w.ownsRow B' e 1 v k ((List.range k).map (rowC n R C))) (h : RowsB w B t n k R C f) : GridC w v n k f := by
  obtain ⟨a, c, rfl⟩ := own_slice ho
  refine ⟨a, c, R, C, rfl, fun hk => ?_, fun r hr => ⟨h.lt hr, fun i hi => (h.row r hr).cell hi⟩⟩
  obtain ⟨g, cap, e1, _, hg, _⟩ := own_row ho hk
  simp only [Value.slice.injEq] at e1
  obtain ⟨rfl, _, rfl⟩ := e1
  refine ⟨g, 0, rfl, hg, fun i hi => ?_⟩
  have := ho.cells (g := g) rfl i (rowC n R C i) (by simp [hi])
  rw [addr_add] at this
  exact this

/-- slices.Clone at []bool -/
theorem elB : ElT Try.prog 44 4 1 1 (.bool false) := ⟨Try.underlying44, by kernel_rfl, rfl, by decide⟩
def CloneB (n : Nat) (f : Nat → Bool) (w : World) (e : Ending) (w' : World) : Prop := ∃ v', e = .returned v' ∧ w'.ownsRow w.heap.size 4 1 v' n ((List.range n).map (fun i => Value.bool (f i))) ∧ w.grownBy w' none
theorem clone_bool {g n cap : Nat} {f : Nat → Bool} {w : World} (hc : ∀ i, i < n → w.cell? ⟨g, i, none⟩ = some (.bool (f i))) (hn : n ≤ 1000000) :
    Calls Try.prog 25 #[.slice (some ⟨g, 0, none⟩) n cap] w (CloneB n f w) := by
  obtain ⟨i0, h1i, h2, h3, h4⟩ := info_parts elB.hi
  refine (AnyE.slices_Clone Try.cloneBool i0 _ 1 1 h1i h2 h3 h4 rfl (by decide) (fun w => by kernel_rfl) g 0 n cap ((List.range n).map (fun i => Value.bool (f i))) w (by simp) (by unfold maxLen; omega) (by omega) (fun j u hj => ?_) (fun u hu => ?_)).mono ?_
  · rw [List.getElem?_map] at hj
    by_cases hjn : j < n
    · rw [List.getElem?_range hjn] at hj
      simp at hj
      subst hj
      rw [Nat.zero_add]
      exact hc j hjn
    · rw [List.getElem?_eq_none (by simp; omega)] at hj
      cases hj
  · obtain ⟨i, _, rfl⟩ := List.mem_map.1 hu
    rfl
  · rintro e w' ⟨v', rfl, h1, _, h2⟩
    exact ⟨_, rfl, h1, Below.asGrown h2⟩
end Go.Proofs.Ytdllkoiddlcnmaa
