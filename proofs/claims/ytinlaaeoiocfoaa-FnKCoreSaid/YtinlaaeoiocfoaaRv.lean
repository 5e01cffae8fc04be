/- Rows of one cell an element, turned round: the library's contract in the words of rows that are owned. -/
import Derived.Test.YtinlaaeoiocfoaaShelf
import Derived.Test.YtinlaaeoiocfoaaBi
import Derived.Sort.OwnSortedInts
namespace Go.Proofs.Ytinlaaeoiocfoaa
open Go.RowKit Go.Sort Go.Shelf Go.MapKept

section
variable {α : Type} [Inhabited α] (enc : α → Value)
theorem holds_of_blockE {w : World} {g : Nat} {cur : Array Value} {e : TypeId} {ss : List α} (hb : w.heap[g]? = some (.cells cur e (0, 0))) (ht : cur.toList.take ss.length = ss.map enc) : Holds enc w g 0 ss.toArray := by
  intro j hj
  have hj' : j < ss.length := by simpa using hj
  refine ⟨?_, by simp [World.frozen?, hb]⟩
  have h1 : (cur.toList.take ss.length)[j]? = (ss.map enc)[j]? := by rw [ht]
  rw [List.getElem?_take_of_lt hj'] at h1
  simp only [World.cell?, hb, Nat.zero_add]
  simp only [Option.isSome_none, Bool.false_eq_true, if_false]
  rw [← Array.getElem?_toList, h1]
  simp [hj']
theorem heap_sortedE {w : World} {g n : Nat} {os : Array Obj} {cur : Array Value} {e : TypeId} {fr : Nat × Nat} (d : Array α) (hb : w.heap[g]? = some (.cells cur e fr)) :
    (grow (putRow enc (Sort.ahead w n) g 0 d) os).heap[g]? = some (.cells (putCells enc 0 d cur) e fr) := by
  have hg : g < w.heap.size := (Array.getElem?_eq_some_iff.1 hb).1
  rw [heap_grow_old _ _ (by simpa using hg)]
  simp [putRow, mapBlock, Sort.ahead, Array.getElem?_modify, hb, onCells]
theorem grownBy_sortedE {w : World} {g n : Nat} {os : Array Obj} (d : Array α) : w.grownBy (grow (putRow enc (Sort.ahead w n) g 0 d) os) (some g) := by
  refine ⟨rfl, rfl, rfl, by simp, fun k hk hne => ?_⟩
  rw [heap_grow_old _ _ (by simpa using hk)]
  have : g ≠ k := fun e => hne (by rw [e])
  simp [putRow, mapBlock, Sort.ahead, Array.getElem?_modify, this]
theorem take_putCellsE (cur : Array Value) (ts : List α) (h : ts.length ≤ cur.size) : (putCells enc 0 ts.toArray cur).toList.take ts.length = ts.map enc := by
  apply List.ext_getElem?
  intro j
  by_cases hj : j < ts.length
  · rw [List.getElem?_take_of_lt hj, Array.getElem?_toList]
    simp [putCells, hj, show j < cur.size by omega]
  · rw [List.getElem?_take_eq_none (by omega), List.getElem?_eq_none (by simp; omega)]
theorem ownsRow_sortedE {w : World} {base g cap n : Nat} {e : TypeId} {os : Array Obj} {cur : Array Value} {ss ts : List α} (hl : ts.length = ss.length) (hbase : base ≤ g) (hb : w.heap[g]? = some (.cells cur e (0, 0)))
    (h1 : ss.length ≤ cap) (h2 : cap ≤ maxLen) (h3 : cur.size = cap * 1) :
    (grow (putRow enc (Sort.ahead w n) g 0 ts.toArray) os).ownsRow base e 1 (.slice (some ⟨g, 0, none⟩) ss.length cap) ss.length (ts.map enc) :=
  ⟨by simp [hl], .inr ⟨g, cap, _, rfl, hbase, heap_sortedE enc _ hb, h1, h2, by simp [putCells, h3], by rw [Nat.mul_one, ← hl]; exact take_putCellsE enc cur ts (by omega)⟩⟩
end

theorem rev_nodes {α : Type} [Inhabited α] (enc : α → Value) (h1 : OneCell enc) {l : List α} {base : Nat} {e : TypeId} {v : Value} {w : World} (hown : w.ownsRow base e 1 v l.length (l.map enc)) (hl : l.length ≤ 1000000) :
    Calls Try.prog 21 #[v] w (fun en w' => en = .returned (.tuple #[]) ∧ w'.ownsRow base e 1 v l.length (l.reverse.map enc) ∧ w.grownBy w' v.ownBlock) := by
  by_cases h0 : l.length = 0
  · obtain rfl := List.eq_nil_of_length_eq_zero h0
    obtain ⟨a, c, rfl⟩ := own_slice hown
    refine (AnyE.slices_Reverse_empty Try.revNode a c w).mono ?_
    rintro en w' ⟨rfl, rfl⟩
    exact ⟨rfl, hown, grown_any (grown_refl _) _⟩
  · obtain ⟨-, h | ⟨b, cap, cur, rfl, hbase, hb, hc1, hc2, hc3, ht⟩⟩ := hown
    · omega
    · have hH := holds_of_blockE enc hb (by simpa using ht)
      refine (AnyE.slices_Reverse Try.revNode enc h1 b 0 cap l w hH (by omega)).mono ?_
      rintro en w' ⟨rfl, n, rfl⟩
      have hg := grow_empty (putRow enc (Sort.ahead w n) b 0 l.reverse.toArray)
      refine ⟨rfl, ?_, ?_⟩
      · rw [← hg]; exact ownsRow_sortedE enc (by simp) hbase hb hc1 hc2 (by simpa using hc3)
      · rw [← hg]; exact grownBy_sortedE enc _
end Go.Proofs.Ytinlaaeoiocfoaa
