/- Rows of one size in blocks of the call's own. -/
import Derived.Test.YtinlaaeoiocfoaaHr
namespace Go.Proofs.Ytinlaaeoiocfoaa
open Go.MapKept Go.RowKit

def rowV (n : Nat) (R : Nat → Nat) (r : Nat) : Value := .slice (some ⟨R r, 0, none⟩) n n

/-- k rows of n cells of type t, in blocks from B on -/
structure GridB (w : World) (B : Nat) (t : TypeId) (n k : Nat) (R : Nat → Nat) (f : Nat → Nat → Value) : Prop where
  row : ∀ r, r < k → w.rowIs (R r) t n (f r)
  sep : ∀ r s, r < k → s < k → r ≠ s → R r ≠ R s
  base : ∀ r, r < k → B ≤ R r

theorem GridB.zero (w : World) (B : Nat) (t : TypeId) (n : Nat) (R : Nat → Nat) (f : Nat → Nat → Value) : GridB w B t n 0 R f := ⟨fun _ h => absurd h (by omega), fun _ _ h => absurd h (by omega), fun _ h => absurd h (by omega)⟩

theorem rowIs_grown {w w' : World} {b n : Nat} {t : TypeId} {f : Nat → Value} {row : Option Nat} (h : w.rowIs b t n f) (hg : w.grownBy w' row) (hne : some b ≠ row) : w'.rowIs b t n f :=
  h.of_block (hg.block b h.lt hne)

theorem GridB.grown {w w' : World} {B n k : Nat} {t : TypeId} {R : Nat → Nat} {f : Nat → Nat → Value} {row : Option Nat} (h : GridB w B t n k R f) (hg : w.grownBy w' row) (hne : ∀ r, r < k → some (R r) ≠ row) : GridB w' B t n k R f :=
  ⟨fun r hr => rowIs_grown (h.row r hr) hg (hne r hr), h.sep, h.base⟩

theorem GridB.lt {w : World} {B n k : Nat} {t : TypeId} {R : Nat → Nat} {f : Nat → Nat → Value} (h : GridB w B t n k R f) {r : Nat} (hr : r < k) : R r < w.heap.size := (h.row r hr).lt

/-- a block of another type is no row -/
theorem rowIs_ne {w : World} {b n : Nat} {t : TypeId} {f : Nat → Value} (h : w.rowIs b t n f) {S : Nat} {c : Array Value} {t' : TypeId} {fr : Nat × Nat} (hS : w.heap[S]? = some (.cells c t' fr)) (hne : t ≠ t') : b ≠ S := by
  obtain ⟨c1, h1, _⟩ := h
  rintro rfl
  rw [hS] at h1
  simp at h1
  exact hne h1.2.1.symm
theorem rowIs_ne_own {w : World} {b n : Nat} {t : TypeId} {f : Nat → Value} (h : w.rowIs b t n f) {b1 : Nat} {e1 : TypeId} {s1 : Nat} {v1 : Value} {n1 : Nat} {x1 : List Value} (h1 : w.ownsRow b1 e1 s1 v1 n1 x1) (hne : t ≠ e1) : some b ≠ v1.ownBlock := by
  intro e
  obtain ⟨c, hc⟩ := ownBlock_cells h1 e.symm
  exact rowIs_ne h hc hne rfl
theorem rowIs_ne_row {w : World} {b n : Nat} {t : TypeId} {f : Nat → Value} (h : w.rowIs b t n f) {b' n' : Nat} {t' : TypeId} {f' : Nat → Value} (h' : w.rowIs b' t' n' f') (hne : t ≠ t') : b ≠ b' := by
  obtain ⟨c, hc, _⟩ := h'
  exact rowIs_ne h hc hne

theorem GridB.snoc {w w' : World} {B n k H : Nat} {t : TypeId} {R : Nat → Nat} {f f' : Nat → Nat → Value} {row : Option Nat} (h : GridB w B t n k R f) (hg : w.grownBy w' row) (hne : ∀ r, r < k → some (R r) ≠ row)
    (hnew : w'.rowIs H t n (f' k)) (hH : w.heap.size ≤ H) (hB : B ≤ H) (hf : ∀ r, r < k → f' r = f r) : GridB w' B t n (k + 1) (fun r => if r = k then H else R r) f' := by
  refine ⟨fun r hr => ?_, fun r s hr hs hrs => ?_, fun r hr => ?_⟩
  · by_cases e : r = k
    · subst e; rw [if_pos rfl]; exact hnew
    · rw [if_neg e, hf r (by omega)]; exact rowIs_grown (h.row r (by omega)) hg (hne r (by omega))
  · by_cases e : r = k
    · subst e
      rw [if_pos rfl, if_neg (by omega)]
      have := h.lt (r := s) (by omega)
      omega
    · rw [if_neg e]
      by_cases e2 : s = k
      · subst e2
        rw [if_pos rfl]
        have := h.lt (r := r) (by omega)
        omega
      · rw [if_neg e2]; exact h.sep r s (by omega) (by omega) hrs
  · by_cases e : r = k
    · subst e; rw [if_pos rfl]; exact hB
    · rw [if_neg e]; exact h.base r (by omega)

theorem rows_snoc (n : Nat) (R : Nat → Nat) (k H : Nat) : (List.range (k + 1)).map (rowV n (fun r => if r = k then H else R r)) = (List.range k).map (rowV n R) ++ [.slice (some ⟨H, 0, none⟩) n n] := by
  rw [List.range_succ, List.map_append]
  congr 1
  · refine List.map_congr_left (fun r hr => ?_)
    have : r < k := by simpa using hr
    simp [rowV, show ¬ r = k by omega]
  · simp [rowV]

/-- a store into row r -/
theorem GridB.stored {w : World} {B n k : Nat} {t : TypeId} {R : Nat → Nat} {f : Nat → Nat → Value} (h : GridB w B t n k R f) {r : Nat} (hr : r < k) (i : Nat) (v : Value) :
    GridB (w.setCell ⟨R r, i, none⟩ v) B t n k R (fun s j => if s = r ∧ j = i then v else f s j) := by
  refine ⟨fun s hs => ?_, h.sep, h.base⟩
  by_cases e : s = r
  · subst e
    refine ((h.row s hs).set i v).congr (fun j _ => ?_)
    by_cases e2 : j = i <;> simp [e2]
  · refine ((h.row s hs).setOther (a := ⟨R r, i, none⟩) (h.sep s r hs hr e) v).congr (fun j _ => ?_)
    simp [e]

theorem GridB.elsewhere {w : World} {B n k : Nat} {t : TypeId} {R : Nat → Nat} {f : Nat → Nat → Value} (h : GridB w B t n k R f) {S : Nat} (hS : ∀ r, r < k → R r ≠ S) (i : Nat) (v : Value) : GridB (w.setCell ⟨S, i, none⟩ v) B t n k R f :=
  ⟨fun r hr => (h.row r hr).setOther (a := ⟨S, i, none⟩) (hS r hr) v, h.sep, h.base⟩

theorem GridB.congr {w : World} {B n k : Nat} {t : TypeId} {R : Nat → Nat} {f g : Nat → Nat → Value} (h : GridB w B t n k R f) (e : ∀ r i, r < k → i < n → f r i = g r i) : GridB w B t n k R g :=
  ⟨fun r hr => (h.row r hr).congr (fun i hi => e r i hr hi), h.sep, h.base⟩

/-! ### as it is read -/
/-- v reads as k rows of n cells -/
def GridR (w : World) (v : Value) (n k : Nat) (f : Nat → Nat → Value) : Prop :=
  ∃ (a : Option Addr) (c : Nat) (R : Nat → Nat), v = .slice a k c ∧ (0 < k → ∃ b o, a = some ⟨b, o, none⟩ ∧ b < w.heap.size ∧ ∀ r, r < k → w.cell? ⟨b, o + r, none⟩ = some (rowV n R r)) ∧
    ∀ r, r < k → R r < w.heap.size ∧ ∀ i, i < n → w.cell? ⟨R r, i, none⟩ = some (f r i)

theorem GridR.grown {w w' : World} {v : Value} {n k : Nat} {f : Nat → Nat → Value} (h : GridR w v n k f) (hg : w.grownBy w' none) : GridR w' v n k f := by
  obtain ⟨a, c, R, rfl, h1, h2⟩ := h
  refine ⟨a, c, R, rfl, fun hk => ?_, fun r hr => ?_⟩
  · obtain ⟨b, o, rfl, hb, hc⟩ := h1 hk
    exact ⟨b, o, rfl, Nat.lt_of_lt_of_le hb hg.size, fun r hr => by rw [grown_cell hg hb (by simp)]; exact hc r hr⟩
  · obtain ⟨h3, h4⟩ := h2 r hr
    exact ⟨Nat.lt_of_lt_of_le h3 hg.size, fun i hi => by rw [grown_cell hg h3 (by simp)]; exact h4 i hi⟩

theorem GridR.of {w : World} {B B' : Nat} {e t : TypeId} {v : Value} {n k : Nat} {R : Nat → Nat} {f : Nat → Nat → Value} (ho : w.ownsRow B' e 1 v k ((List.range k).map (rowV n R))) (h : GridB w B t n k R f) : GridR w v n k f := by
  obtain ⟨a, c, rfl⟩ := own_slice ho
  refine ⟨a, c, R, rfl, fun hk => ?_, fun r hr => ⟨h.lt hr, fun i hi => (h.row r hr).cell hi⟩⟩
  obtain ⟨g, cap, e1, _, hg, _⟩ := own_row ho hk
  simp only [Value.slice.injEq] at e1
  obtain ⟨rfl, _, rfl⟩ := e1
  refine ⟨g, 0, rfl, hg, fun i hi => ?_⟩
  have := ho.cells (g := g) rfl i (rowV n R i) (by simp [hi])
  rw [addr_add] at this
  exact this

theorem own_heap {w w' : World} {base : Nat} {e : TypeId} {size : Nat} {v : Value} {n : Nat} {xs : List Value} (h : w.ownsRow base e size v n xs) (e1 : w'.heap = w.heap) : w'.ownsRow base e size v n xs := by
  unfold World.ownsRow at h ⊢
  rw [e1]
  exact h
theorem heap_alloc2 (w : World) (A B : Obj) : ((w.alloc A).alloc B).heap[w.heap.size + 1]? = some B := by
  have := heap_alloc_new (w.alloc A) B
  simpa using this
theorem heap_lt2 {w : World} (A B : Obj) {b : Nat} {o : Obj} (h : w.heap[b]? = some o) : ((w.alloc A).alloc B).heap[b]? = some o := by
  rw [Below.heap_alloc _ _ _ (by have := block_lt h; simp; omega), Below.heap_alloc _ _ _ (block_lt h)]
  exact h
end Go.Proofs.Ytinlaaeoiocfoaa
