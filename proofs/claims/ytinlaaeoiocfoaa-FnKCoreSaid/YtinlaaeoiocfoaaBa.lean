/- Small laws of worlds: what stays, what is owned, what can be read. -/
import Derived.Test.YtinlaaeoiocfoaaHq
import Derived.WalkKit
import Derived.Lib.Hide
import Derived.Carry
import Derived.BigQuiet
import Derived.Deep.QuietTactic
namespace Go.Proofs.Ytinlaaeoiocfoaa
open Go.RowKit

theorem addr_add (g o j : Nat) : (⟨g, o, none⟩ : Addr).add j = ⟨g, o + j, none⟩ := by unfold Addr.add; split <;> simp_all
theorem Below.asGrown {w w' : World} (h : Below w.heap.size w w') : w.grownBy w' none := ⟨h.os, h.tape, h.output, h.size, fun k hk _ => h.block k hk⟩
theorem grown_below {w w' : World} (h : w.grownBy w' none) : Below w.heap.size w w' := ⟨h.os, h.tape, h.output, h.size, fun k hk => h.block k hk (by simp)⟩
theorem grown_refl (w : World) : w.grownBy w none := ⟨rfl, rfl, rfl, Nat.le_refl _, fun _ _ _ => rfl⟩
theorem grown_drewN (w : World) (q : Nat) : w.grownBy (w.drewN q) none := ⟨rfl, rfl, rfl, Nat.le_refl _, fun _ _ _ => rfl⟩
theorem grown_drew (w : World) : w.grownBy w.drew none := ⟨rfl, rfl, rfl, Nat.le_refl _, fun _ _ _ => rfl⟩
theorem grown_alloc (w : World) (o : Obj) : w.grownBy (w.alloc o) none := World.grownBy_alloc w o none
theorem grown_setCell (w : World) (S j : Nat) (v : Value) : w.grownBy (w.setCell ⟨S, j, none⟩ v) (some S) :=
  ⟨rfl, rfl, rfl, by simp [World.setCell], fun i _ hne => Below.heap_setCell _ _ _ _ (fun e => hne (by rw [e]))⟩
/-- new blocks, and writes to blocks from the heap's old size on -/
theorem grown_new {a b c : World} (h : a.grownBy b none) {row : Option Nat} (hg : b.grownBy c row) (hr : ∀ k, row = some k → a.heap.size ≤ k) : a.grownBy c none :=
  ⟨hg.os.trans h.os, hg.tape.trans h.tape, hg.output.trans h.output, Nat.le_trans h.size hg.size, fun k hk _ => (hg.block k (Nat.lt_of_lt_of_le hk h.size) (fun e => by have := hr k e.symm; omega)).trans (h.block k hk (by simp))⟩
theorem grown_tr {a b c : World} (h : a.grownBy b none) (hg : b.grownBy c none) : a.grownBy c none := grown_new h hg (by simp)
/-- block S alone is written, and new blocks are made -/
theorem grown_row {a b c : World} {S : Nat} (h : a.grownBy b (some S)) {row : Option Nat} (hg : b.grownBy c row) (hr : ∀ k, row = some k → k = S ∨ a.heap.size ≤ k) : a.grownBy c (some S) :=
  ⟨hg.os.trans h.os, hg.tape.trans h.tape, hg.output.trans h.output, Nat.le_trans h.size hg.size, fun k hk hne => (hg.block k (Nat.lt_of_lt_of_le hk h.size) (fun e => by
    rcases hr k e.symm with h1 | h1
    · exact hne (by rw [h1])
    · omega)).trans (h.block k hk hne)⟩
theorem grown_any {a b : World} (h : a.grownBy b none) (row : Option Nat) : a.grownBy b row := ⟨h.os, h.tape, h.output, h.size, fun k hk _ => h.block k hk (by simp)⟩

theorem own_new {w w' : World} {base : Nat} {e : TypeId} {size : Nat} {v : Value} {n : Nat} {xs : List Value} (h : w.ownsRow base e size v n xs) (hg : w.grownBy w' none) : w'.ownsRow base e size v n xs :=
  h.kept hg (by cases v.ownBlock <;> simp)
theorem own_mono {w : World} {base base' : Nat} {e : TypeId} {size : Nat} {v : Value} {n : Nat} {xs : List Value} (h : w.ownsRow base e size v n xs) (hb : base' ≤ base) : w.ownsRow base' e size v n xs := by
  refine ⟨h.1, ?_⟩
  rcases h.2 with h2 | ⟨g, cap, cur, h3, h4, h5⟩
  · exact .inl h2
  · exact .inr ⟨g, cap, cur, h3, Nat.le_trans hb h4, h5⟩
theorem own_slice {w : World} {base : Nat} {e : TypeId} {size : Nat} {v : Value} {n : Nat} {xs : List Value} (h : w.ownsRow base e size v n xs) : ∃ a c, v = .slice a n c := by
  rcases h.2 with ⟨h, h0⟩ | ⟨g, cap, cur, h, _⟩
  · exact ⟨_, _, by rw [h, h0]⟩
  · exact ⟨_, _, h⟩
/-- not empty: the row's block -/
theorem own_row {w : World} {base : Nat} {e : TypeId} {size : Nat} {v : Value} {n : Nat} {xs : List Value} (h : w.ownsRow base e size v n xs) (hn : 0 < n) :
    ∃ g cap, v = .slice (some ⟨g, 0, none⟩) n cap ∧ base ≤ g ∧ g < w.heap.size ∧ n ≤ cap := by
  rcases h.2 with ⟨h, h0⟩ | ⟨g, cap, cur, h, hb, hg, hc, _⟩
  · omega
  · exact ⟨g, cap, h, hb, (Array.getElem?_eq_some_iff.1 hg).1, hc⟩
theorem ownBlock_cells {w : World} {base : Nat} {e : TypeId} {size : Nat} {v : Value} {n : Nat} {xs : List Value} (h : w.ownsRow base e size v n xs) {g : Nat} (hg : v.ownBlock = Option.some g) : ∃ cur, w.heap[g]? = Option.some (.cells cur e (0, 0)) := by
  rcases h.2 with ⟨rfl, h0⟩ | ⟨g', cap, cur, rfl, hb, hgg, _⟩
  · cases hg
  · simp [Value.ownBlock] at hg
    subst hg
    exact ⟨cur, hgg⟩
theorem row_ne_iter {w : World} {base : Nat} {e : TypeId} {size : Nat} {v : Value} {n : Nat} {xs : List Value} (h : w.ownsRow base e size v n xs) {r b : Nat} {m left : Ents} (hr : RangeIs w r b m left) : v.ownBlock ≠ Option.some r := by
  intro hg
  obtain ⟨cur, hc⟩ := ownBlock_cells h hg
  obtain ⟨es, clock, since, seen, c0, hrr, _⟩ := hr
  rw [hc] at hrr
  cases hrr
theorem row_ne_map {w : World} {base : Nat} {e : TypeId} {size : Nat} {v : Value} {n : Nat} {xs : List Value} (h : w.ownsRow base e size v n xs) {b : Nat} {m : Ents} (hr : MapIs w b m) : v.ownBlock ≠ Option.some b := by
  intro hg
  obtain ⟨cur, hc⟩ := ownBlock_cells h hg
  obtain ⟨es, clock, hrr, _⟩ := hr
  rw [hc] at hrr
  cases hrr
theorem row_ne_row {w : World} {b1 b2 : Nat} {e1 e2 : TypeId} {s1 s2 : Nat} {v1 v2 : Value} {n1 n2 : Nat} {x1 x2 : List Value} (h1 : w.ownsRow b1 e1 s1 v1 n1 x1) (h2 : w.ownsRow b2 e2 s2 v2 n2 x2) (he : e1 ≠ e2) : v1.ownBlock = none ∨ v1.ownBlock ≠ v2.ownBlock := by
  cases hv : v1.ownBlock with
  | none => exact .inl rfl
  | some g =>
    right
    intro e
    obtain ⟨c1, hc1⟩ := ownBlock_cells h1 hv
    obtain ⟨c2, hc2⟩ := ownBlock_cells h2 e.symm
    rw [hc1] at hc2
    simp at hc2
    exact he hc2.2
theorem row_ne_block {w : World} {b1 : Nat} {e1 : TypeId} {s1 : Nat} {v1 : Value} {n1 : Nat} {x1 : List Value} (h1 : w.ownsRow b1 e1 s1 v1 n1 x1) {S : Nat} {c : Array Value} {e : TypeId} {f : Nat × Nat} (hS : w.heap[S]? = some (.cells c e f)) (he : e1 ≠ e) : v1.ownBlock ≠ some S := by
  intro h
  obtain ⟨c1, hc1⟩ := ownBlock_cells h1 h
  rw [hS] at hc1
  simp at hc1
  exact he hc1.2.1.symm

theorem cell_at {w : World} {S j : Nat} {c : Array Value} {T : TypeId} {f : Nat × Nat} (h : w.heap[S]? = some (.cells c T f)) : w.cell? ⟨S, j, none⟩ = c[j]? := by simp [World.cell?, h]
theorem free_at {w : World} {S j : Nat} {c : Array Value} {T : TypeId} (h : w.heap[S]? = some (.cells c T (0, 0))) : w.frozen? ⟨S, j, none⟩ = false := by simp [World.frozen?, h]
theorem grown_cell {w w' : World} {row : Option Nat} (h : w.grownBy w' row) {g j : Nat} (hg : g < w.heap.size) (hr : some g ≠ row) : w'.cell? ⟨g, j, none⟩ = w.cell? ⟨g, j, none⟩ := World.cell?_of_block (w := w) (h.block g hg hr)
theorem block_lt {w : World} {S : Nat} {o : Obj} (h : w.heap[S]? = some o) : S < w.heap.size := (Array.getElem?_eq_some_iff.1 h).1
theorem grown_block {w w' : World} {row : Option Nat} (h : w.grownBy w' row) {S : Nat} {o : Obj} (hS : w.heap[S]? = some o) (hr : some S ≠ row) : w'.heap[S]? = some o := (h.block S (block_lt hS) hr).trans hS
theorem block_set {w : World} {S : Nat} {c : Array Value} {T : TypeId} {f : Nat × Nat} (h : w.heap[S]? = some (.cells c T f)) (j : Nat) (v : Value) :
    (w.setCell ⟨S, j, none⟩ v).heap[S]? = some (.cells (c.setIfInBounds j v) T f) := by
  simp [World.setCell, Array.getElem?_modify, h]

/-! ### what can be read -/
/-- v is a slice that reads as the numbers l -/
def IntsR (w : World) (v : Value) (l : List Int) : Prop :=
  ∃ a c, v = .slice a l.length c ∧ (0 < l.length → ∃ b o, a = some ⟨b, o, none⟩ ∧ b < w.heap.size ∧ ∀ i, (h : i < l.length) → w.cell? ⟨b, o + i, none⟩ = some (.int .i64 l[i]))

theorem IntsR.grown {w w' : World} {v : Value} {l : List Int} (h : IntsR w v l) (hg : w.grownBy w' none) : IntsR w' v l := by
  obtain ⟨a, c, rfl, h⟩ := h
  refine ⟨a, c, rfl, fun hl => ?_⟩
  obtain ⟨b, o, rfl, hb, hc⟩ := h hl
  exact ⟨b, o, rfl, Nat.lt_of_lt_of_le hb hg.size, fun i hi => by rw [grown_cell hg hb (by simp)]; exact hc i hi⟩

theorem IntsR.of_own {w : World} {base : Nat} {e : TypeId} {v : Value} {l : List Int} (h : w.ownsRow base e 1 v l.length (l.map (Value.int .i64))) : IntsR w v l := by
  obtain ⟨a, c, rfl⟩ := own_slice h
  refine ⟨a, c, rfl, fun hl => ?_⟩
  obtain ⟨g, cap, e1, _, hg, _⟩ := own_row h hl
  simp only [Value.slice.injEq] at e1
  obtain ⟨rfl, _, rfl⟩ := e1
  refine ⟨g, 0, rfl, hg, fun i hi => ?_⟩
  have := h.cells (g := g) rfl i (.int .i64 l[i]) (by simp [hi])
  rw [addr_add] at this
  exact this

/-- .. as bools -/
def BoolsR (w : World) (v : Value) (l : List Bool) : Prop :=
  ∃ a c, v = .slice a l.length c ∧ (0 < l.length → ∃ b o, a = some ⟨b, o, none⟩ ∧ b < w.heap.size ∧ ∀ i, (h : i < l.length) → w.cell? ⟨b, o + i, none⟩ = some (.bool l[i]))

/-- .. as values of one cell -/
def ValsR (w : World) (v : Value) (l : List Value) : Prop :=
  ∃ a c, v = .slice a l.length c ∧ (0 < l.length → ∃ b o, a = some ⟨b, o, none⟩ ∧ b < w.heap.size ∧ ∀ i, (h : i < l.length) → w.cell? ⟨b, o + i, none⟩ = some l[i])

theorem ValsR.grown {w w' : World} {v : Value} {l : List Value} (h : ValsR w v l) (hg : w.grownBy w' none) : ValsR w' v l := by
  obtain ⟨a, c, rfl, h⟩ := h
  refine ⟨a, c, rfl, fun hl => ?_⟩
  obtain ⟨b, o, rfl, hb, hc⟩ := h hl
  exact ⟨b, o, rfl, Nat.lt_of_lt_of_le hb hg.size, fun i hi => by rw [grown_cell hg hb (by simp)]; exact hc i hi⟩

theorem ValsR.of_own {w : World} {base : Nat} {e : TypeId} {v : Value} {l : List Value} (h : w.ownsRow base e 1 v l.length l) : ValsR w v l := by
  obtain ⟨a, c, rfl⟩ := own_slice h
  refine ⟨a, c, rfl, fun hl => ?_⟩
  obtain ⟨g, cap, e1, _, hg, _⟩ := own_row h hl
  simp only [Value.slice.injEq] at e1
  obtain ⟨rfl, _, rfl⟩ := e1
  refine ⟨g, 0, rfl, hg, fun i hi => ?_⟩
  have := h.cells (g := g) rfl i l[i] (by simp [hi])
  rw [addr_add] at this
  exact this

abbrev E3 := Int × Int × Int
/-- .. as edges: three numbers each -/
def EdgesR (w : World) (v : Value) (l : List E3) : Prop :=
  ∃ a c, v = .slice a l.length c ∧ (0 < l.length → ∃ b o, a = some ⟨b, o, none⟩ ∧ b < w.heap.size ∧ ∀ i, (h : i < l.length) →
    w.cell? ⟨b, o + i * 3, none⟩ = some (.int .i64 l[i].1) ∧ w.cell? ⟨b, o + i * 3 + 1, none⟩ = some (.int .i64 l[i].2.1) ∧ w.cell? ⟨b, o + i * 3 + 2, none⟩ = some (.int .i64 l[i].2.2))

theorem EdgesR.grown {w w' : World} {v : Value} {l : List E3} (h : EdgesR w v l) (hg : w.grownBy w' none) : EdgesR w' v l := by
  obtain ⟨a, c, rfl, h⟩ := h
  refine ⟨a, c, rfl, fun hl => ?_⟩
  obtain ⟨b, o, rfl, hb, hc⟩ := h hl
  refine ⟨b, o, rfl, Nat.lt_of_lt_of_le hb hg.size, fun i hi => ?_⟩
  rw [grown_cell hg hb (by simp), grown_cell hg hb (by simp), grown_cell hg hb (by simp)]
  exact hc i hi

theorem own_of_list {w : World} {base : Nat} {e : TypeId} {v : Value} {n : Nat} {xs : List Value} (h : w.ownsRow base e 1 v n xs) : xs.length = n := by rw [h.1, Nat.mul_one]

theorem ints_one (xs : List Int) : ∀ u ∈ xs.map (Value.int .i64), u.oneCell' = true := by
  intro u hu
  obtain ⟨y, _, rfl⟩ := List.mem_map.1 hu
  rfl

theorem snocInd {α : Type} {p : List α → Prop} (h0 : p []) (h1 : ∀ l x, p l → p (l ++ [x])) (l : List α) : p l := by
  have : ∀ l : List α, p l.reverse := by
    intro l
    induction l with
    | nil => exact h0
    | cons x l ih => rw [List.reverse_cons]; exact h1 _ _ ih
  have h := this l.reverse
  rwa [List.reverse_reverse] at h

theorem srt_le (xs : List Int) : (xs.mergeSort (fun x y => decide (x ≤ y))).Pairwise (· ≤ ·) := by
  have := List.pairwise_mergeSort (le := fun x y : Int => decide (x ≤ y)) (by intro a b c; simp; omega) (by intro a b; simp; omega) xs
  exact this.imp (by intro a b h; simpa using h)
/-- the numbers, ascending -/
def srt (xs : List Int) : List Int := xs.mergeSort (fun x y => decide (x ≤ y))
theorem srt_perm (xs : List Int) : (srt xs).Perm xs := List.mergeSort_perm xs _
theorem srt_eq {ns xs : List Int} (h1 : ns.Pairwise (· ≤ ·)) (h2 : ns.Perm xs) : ns = srt xs :=
  List.Perm.eq_of_pairwise (fun _ _ _ _ hab hba => Int.le_antisymm hab hba) h1 (srt_le xs) (h2.trans (srt_perm xs).symm)
theorem srt_nodup {xs : List Int} (h : xs.Nodup) : (srt xs).Pairwise (· < ·) := by
  have h1 := srt_le xs
  have h2 : (srt xs).Nodup := (srt_perm xs).nodup_iff.2 h
  rw [List.Nodup] at h2
  exact (h1.and h2).imp (fun ⟨a, b⟩ => by omega)
theorem mem_srt {xs : List Int} {x : Int} : x ∈ srt xs ↔ x ∈ xs := (srt_perm xs).mem_iff
@[simp] theorem length_srt (xs : List Int) : (srt xs).length = xs.length := (srt_perm xs).length_eq
/-- .. the edges, as they are read -/
theorem edge_cells {w wr : World} {a : Option Addr} {c : Nat} {l : List E3} (h : EdgesR w (.slice a l.length c) l) (hg : w.grownBy wr none) {k : Nat} (hk : k < l.length) :
    ∃ b o, a = some ⟨b, o, none⟩ ∧ wr.cell? ⟨b, o + k * 3, none⟩ = some (.int .i64 l[k].1) ∧ wr.cell? ⟨b, o + k * 3 + 1, none⟩ = some (.int .i64 l[k].2.1) ∧ wr.cell? ⟨b, o + k * 3 + 2, none⟩ = some (.int .i64 l[k].2.2) := by
  obtain ⟨a', c', e, h⟩ := h.grown hg
  simp only [Value.slice.injEq, true_and] at e
  obtain ⟨rfl, rfl⟩ := e
  obtain ⟨b, o, rfl, hb, hc⟩ := h (by omega)
  exact ⟨b, o, rfl, hc k hk⟩

end Go.Proofs.Ytinlaaeoiocfoaa
