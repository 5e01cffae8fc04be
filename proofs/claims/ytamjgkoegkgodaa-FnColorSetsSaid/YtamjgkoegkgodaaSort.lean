/- The library's sorts, in the words of rows that are owned. -/
import Derived.Test.YtamjgkoegkgodaaRows
import Derived.Test.YtamjgkoegkgodaaShelf
import Derived.Test.YtamjgkoegkgodaaSets
import Derived.Sort.OwnSortedInts
namespace Go.Proofs.Ytamjgkoegkgodaa
open Go.RowKit Go.Sort Go.Shelf

theorem flat_get {α : Type} (enc : α → List Value) (k : Nat) (hk : 0 < k) (h : ∀ x, (enc x).length = k) : ∀ (l : List α) (t : Nat), (l.flatMap enc)[t]? = (l[t / k]?).bind (fun x => (enc x)[t % k]?)
  | [], t => by simp
  | x :: l, t => by
    rw [List.flatMap_cons]
    by_cases ht : t < k
    · rw [List.getElem?_append_left (by rw [h]; exact ht), Nat.div_eq_of_lt ht, Nat.mod_eq_of_lt ht]
      rfl
    · have e1 : t / k = (t - k) / k + 1 := by rw [← Nat.add_div_right _ hk]; congr 1; omega
      have e2 : t % k = (t - k) % k := by rw [← Nat.mod_eq_sub_mod (by omega)]
      rw [List.getElem?_append_right (by rw [h]; omega), h, flat_get enc k hk h l (t - k), e1, e2]
      simp

theorem length_flat {α : Type} (enc : α → List Value) (k : Nat) (h : ∀ x, (enc x).length = k) (l : List α) : (l.flatMap enc).length = l.length * k := by
  induction l with
  | nil => simp
  | cons x l ih => rw [List.flatMap_cons, List.length_append, ih, h, List.length_cons, Nat.succ_mul, Nat.add_comm]

theorem toList_flatK {α : Type} [Inhabited α] (enc : α → List Value) (k : Nat) (hk : 0 < k) (h : ∀ x, (enc x).length = k) (d : Array α) : (flatK enc k d).toList = d.toList.flatMap enc := by
  apply List.ext_getElem?
  intro t
  rw [flat_get enc k hk h]
  by_cases ht : t < d.size * k
  · have h1 : t / k < d.size := by rw [Nat.div_lt_iff_lt_mul hk]; exact ht
    have h2 : t % k < (enc d[t / k]).length := by rw [h]; exact Nat.mod_lt _ hk
    simp [flatK, ht, h1, h2]
  · have h1 : ¬ t / k < d.size := by rw [Nat.div_lt_iff_lt_mul hk]; exact ht
    simp [flatK, ht, h1]

theorem holdsK_of_row {α : Type} [Inhabited α] (enc : α → List Value) (k : Nat) (hk : 0 < k) (h : ∀ x, (enc x).length = k) {w : World} {g : Nat} {cur : Array Value} {e : TypeId} {l : List α} (hb : w.heap[g]? = some (.cells cur e (0, 0)))
    (ht : cur.toList.take (l.length * k) = l.flatMap enc) : HoldsK enc k w g 0 l.toArray := by
  intro j hj
  have hj' : j < l.length * k := by simpa using hj
  refine ⟨?_, by simp [World.frozen?, hb]⟩
  have h1 : (cur.toList.take (l.length * k))[j]? = (l.flatMap enc)[j]? := by rw [ht]
  rw [List.getElem?_take_of_lt hj'] at h1
  have h2 := congrArg (fun z => z[j]?) (toList_flatK enc k hk h l.toArray)
  simp only [] at h2
  simp only [World.cell?, hb, Nat.zero_add, Option.isSome_none, Bool.false_eq_true, if_false]
  rw [← Array.getElem?_toList, h1, ← h2]
  have h3 : j < (flatK enc k l.toArray).size := by simpa using hj'
  rw [Array.getElem?_toList, getElem!_pos _ j h3, Array.getElem?_eq_getElem h3]; rfl

theorem heap_sortedK {α : Type} [Inhabited α] (enc : α → List Value) (k : Nat) {w : World} {g n : Nat} {os : Array Obj} {cur : Array Value} {e : TypeId} {fr : Nat × Nat} (d : Array α) (hb : w.heap[g]? = some (.cells cur e fr)) :
    (sortWorldK enc k w g 0 n d os).heap[g]? = some (.cells (putCells id 0 (flatK enc k d) cur) e fr) := by
  have hg : g < w.heap.size := (Array.getElem?_eq_some_iff.1 hb).1
  unfold sortWorldK putRowK
  rw [heap_grow_old _ _ (by simpa using hg)]
  simp [putRow, mapBlock, Sort.ahead, Array.getElem?_modify, hb, onCells]

theorem grownBy_sortedK {α : Type} [Inhabited α] (enc : α → List Value) (k : Nat) {w : World} {g n : Nat} {os : Array Obj} (d : Array α) : w.grownBy (sortWorldK enc k w g 0 n d os) (some g) := by
  refine ⟨rfl, rfl, rfl, by simp [sortWorldK, putRowK], fun i hi hne => ?_⟩
  unfold sortWorldK putRowK
  rw [heap_grow_old _ _ (by simpa using hi)]
  have : g ≠ i := fun e => hne (by rw [e])
  simp [putRow, mapBlock, Sort.ahead, Array.getElem?_modify, this]

theorem take_putK (F cur : Array Value) (h : F.size ≤ cur.size) : (putCells id 0 F cur).toList.take F.size = F.toList := by
  apply List.ext_getElem?
  intro j
  by_cases hj : j < F.size
  · rw [List.getElem?_take_of_lt hj, Array.getElem?_toList]
    simp [putCells, hj, show j < cur.size by omega]
  · rw [List.getElem?_take_eq_none (by omega), List.getElem?_eq_none (by simp; omega)]

theorem ownsRow_sortedK {α : Type} [Inhabited α] (enc : α → List Value) (k : Nat) (hk : 0 < k) (h : ∀ x, (enc x).length = k) {w : World} {base g cap n : Nat} {e : TypeId} {os : Array Obj} {cur : Array Value} {l : List α} {d : Array α} (hl : d.size = l.length) (hbase : base ≤ g)
    (hb : w.heap[g]? = some (.cells cur e (0, 0))) (h1 : l.length ≤ cap) (h2 : cap ≤ maxLen) (h3 : cur.size = cap * k) :
    (sortWorldK enc k w g 0 n d os).ownsRow base e k (.slice (some ⟨g, 0, none⟩) l.length cap) l.length (d.toList.flatMap enc) := by
  refine ⟨by rw [length_flat enc k h]; simp [hl], .inr ⟨g, cap, _, rfl, hbase, heap_sortedK enc k d hb, h1, h2, by simp [putCells, h3], ?_⟩⟩
  have e1 : l.length * k = (flatK enc k d).size := by simp [hl]
  rw [e1, take_putK _ _ (by rw [← e1, h3]; exact Nat.mul_le_mul_right _ h1), toList_flatK enc k hk h]

/-- slices.Sort at []int64 -/
theorem sortI : SortI := by
  intro w base v xs hown hx hl
  obtain ⟨h1, h2⟩ := hown
  rcases h2 with ⟨_, h0⟩ | ⟨g, cap, cur, rfl, hbase, hb, hc1, hc2, hc3, ht⟩
  · exact absurd (List.eq_nil_of_length_eq_zero h0) hx
  · have hH := holds_of_blockI hb (by simpa using ht)
    have hcon := AnyM.slices_Sort_int Try.sortI64 g 0 cap xs w hH (Array.getElem?_eq_some_iff.1 hb).1 (by omega)
    refine hcon.mono ?_
    rintro e w' ⟨rfl, n, os, rfl⟩
    exact ⟨rfl, ownsRow_sortedI (by simp) hbase hb hc1 hc2 hc3, grownBy_sortedI _⟩

end Go.Proofs.Ytamjgkoegkgodaa
