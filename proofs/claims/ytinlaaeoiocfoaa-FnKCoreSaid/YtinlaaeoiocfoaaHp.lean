/- Laws of the heap, block by block: maps keyed by 64-bit integers as lists of pairs; their operations in the walk. -/
import Derived.Maps.RangeRun
import Derived.MapKept
import Derived.OwnWalk
import Derived.Below
import Derived.Deep.Draws
import Derived.Maps.RangeWalk
import Derived.Maps.OwnOps
import Derived.Maps.OwnSet
namespace Go.Proofs.Ytinlaaeoiocfoaa
open Go.ChangeMaps (setBlock heap_setBlock_same heap_setBlock_other)
open Go.MapKept Go.RowKit

/-! ### lists of pairs -/
abbrev Ents := List (Int × Value)
def lkp (m : Ents) (k : Int) : Option Value := (m.find? (fun p => p.1 == k)).map (·.2)
def upd (m : Ents) (k : Int) (v : Value) : Ents := if (m.any (fun p => p.1 == k)) then m.map (fun p => if p.1 == k then (k, v) else p) else m ++ [(k, v)]
def del (m : Ents) (k : Int) : Ents := m.filter (fun p => !(p.1 == k))
def ik (k : Int) : Value := .int .i64 k
def ent (e : MapEntry) : Value × Value := (e.key, e.val)
def enp (p : Int × Value) : Value × Value := (ik p.1, p.2)

theorem ik_inj {a b : Int} (h : ik a = ik b) : a = b := by simpa [ik] using h

/-- block b is a map that reads as the pairs m, in the order of their coming in -/
def MapIs (w : World) (b : Nat) (m : Ents) : Prop :=
  ∃ es clock, w.heap[b]? = some (.map es clock) ∧ Stamped es clock ∧ es.toList.map ent = m.map enp

theorem MapIs.lt {w : World} {b : Nat} {m : Ents} (h : MapIs w b m) : b < w.heap.size := by
  obtain ⟨es, clock, hb, _⟩ := h
  exact (Array.getElem?_eq_some_iff.1 hb).1

theorem MapIs.of_block {w w' : World} {b : Nat} {m : Ents} (h : MapIs w b m) (e : w'.heap[b]? = w.heap[b]?) : MapIs w' b m := by
  obtain ⟨es, clock, hb, r⟩ := h
  exact ⟨es, clock, e.trans hb, r⟩

theorem MapIs.grown {w w' : World} {row : Option Nat} {b : Nat} {m : Ents} (h : MapIs w b m) (hg : w.grownBy w' row) (hne : some b ≠ row) : MapIs w' b m :=
  h.of_block (hg.block b h.lt hne)

theorem MapIs.below {w w' : World} {B b : Nat} {m : Ents} (h : MapIs w b m) (hg : Below B w w') (hb : b < B) : MapIs w' b m :=
  h.of_block (hg.block b hb)

theorem MapIs.drew {w : World} {b : Nat} {m : Ents} (h : MapIs w b m) : MapIs w.drew b m := h
theorem MapIs.alloc {w : World} {b : Nat} {m : Ents} (h : MapIs w b m) (o : Obj) : MapIs (w.alloc o) b m :=
  h.of_block (Below.heap_alloc w o b h.lt)
theorem MapIs.made (w : World) : MapIs (w.alloc (.map #[] 0)) w.heap.size [] :=
  ⟨#[], 0, heap_alloc_new w _, stamped_empty 0, rfl⟩

theorem keys_of {es : Array MapEntry} {m : Ents} (h : es.toList.map ent = m.map enp) : es.toList.map (·.key) = m.map (fun p => ik p.1) := by
  have := congrArg (List.map Prod.fst) h
  simpa [ent, enp, Function.comp_def] using this

theorem MapIs.nodup {w : World} {b : Nat} {m : Ents} (h : MapIs w b m) : (m.map (·.1)).Nodup := by
  obtain ⟨es, clock, hb, hs, he⟩ := h
  have h3 := hs.2.2
  rw [keys_of he] at h3
  rw [List.Nodup, List.pairwise_map] at h3 ⊢
  exact h3.imp (fun {a b} hab hh => hab (by rw [hh]))

theorem isKeys {es : Array MapEntry} {m : Ents} (h : es.toList.map ent = m.map enp) : ∀ x ∈ es.toList, IsKey (.int .i64) x.key := by
  intro x hx
  have : x.key ∈ es.toList.map (·.key) := List.mem_map.2 ⟨x, hx, rfl⟩
  rw [keys_of h] at this
  obtain ⟨p, _, e⟩ := List.mem_map.1 this
  rw [← e]
  simp [IsKey, ik]

theorem lkp_none {m : Ents} {k : Int} (h : ∀ p ∈ m, p.1 ≠ k) : lkp m k = none := by
  unfold lkp
  rw [List.find?_eq_none.2 (by simpa using h)]
  rfl

theorem lkp_mem {m : Ents} {k : Int} {v : Value} (hn : (m.map (·.1)).Nodup) (h : (k, v) ∈ m) : lkp m k = some v := by
  unfold lkp
  induction m with
  | nil => cases h
  | cons p m ih =>
    simp only [List.map_cons, List.nodup_cons] at hn
    rw [List.find?_cons]
    by_cases hp : p.1 = k
    · simp only [hp, beq_self_eq_true]
      rcases List.mem_cons.1 h with e | e
      · rw [← e]; rfl
      · exact absurd (List.mem_map.2 ⟨(k, v), e, rfl⟩) (by rw [hp] at hn; exact hn.1)
    · have : (p.1 == k) = false := by simpa using hp
      simp only [this]
      rcases List.mem_cons.1 h with e | e
      · exact absurd (by rw [← e]) hp
      · exact ih hn.2 e

theorem mem_of_lkp {m : Ents} {k : Int} {v : Value} (h : lkp m k = some v) : (k, v) ∈ m := by
  unfold lkp at h
  cases hf : m.find? (fun p => p.1 == k) with
  | none => rw [hf] at h; cases h
  | some p =>
    rw [hf] at h
    have h1 := List.mem_of_find?_eq_some hf
    have h2 := List.find?_some hf
    simp at h h2
    rw [← h, ← h2]; exact h1

theorem any_key {m : Ents} {k : Int} : (m.any (fun p => p.1 == k)) = true ↔ k ∈ m.map (·.1) := by
  simp only [List.any_eq_true, List.mem_map, beq_iff_eq]

theorem lkp_isSome {m : Ents} {k : Int} : (lkp m k).isSome = true ↔ k ∈ m.map (·.1) := by
  unfold lkp
  rw [Option.isSome_map, List.find?_isSome, List.mem_map]
  simp

/-! ### what the model's search finds -/
theorem find_spec {es : Array MapEntry} {m : Ents} (h : es.toList.map ent = m.map enp) (hn : (m.map (·.1)).Nodup) (k : Int) :
    (Instr.findNow (.int .i64) (ik k) es.toList 0 = some none ∧ lkp m k = none ∧ k ∉ m.map (·.1)) ∨
    ∃ (j : Nat) (e : MapEntry) (v : Value), Instr.findNow (.int .i64) (ik k) es.toList 0 = some (some (j, e.val)) ∧ es.toList[j]? = some e ∧ e.key = ik k ∧ e.val = v ∧ m[j]? = some (k, v) ∧ lkp m k = some v := by
  rcases findNow_spec (d := .int .i64) (k := ik k) (by simp [IsKey, ik]) es.toList 0 (isKeys h) with ⟨h1, h2⟩ | ⟨j, e, h1, h2, h3⟩
  · left
    have hno : k ∉ m.map (·.1) := by
      intro hk
      have : ik k ∈ es.toList.map (·.key) := by
        rw [keys_of h]
        obtain ⟨p, hp, e⟩ := List.mem_map.1 hk
        exact List.mem_map.2 ⟨p, hp, by rw [e]⟩
      obtain ⟨x, hx, e⟩ := List.mem_map.1 this
      exact h2 x hx e
    exact ⟨h1, lkp_none (fun p hp e => hno (List.mem_map.2 ⟨p, hp, e⟩)), hno⟩
  · right
    have h4 : (es.toList.map ent)[j]? = some (ent e) := by rw [List.getElem?_map, h2]; rfl
    rw [h, List.getElem?_map] at h4
    cases hm : m[j]? with
    | none => rw [hm] at h4; cases h4
    | some p =>
      rw [hm] at h4
      simp only [Option.map_some, Option.some.injEq, enp, ent, Prod.mk.injEq] at h4
      have hk : p.1 = k := by rw [h3] at h4; exact ik_inj h4.1
      refine ⟨j, e, p.2, by simpa using h1, h2, h3, h4.2.symm, by rw [hm, ← hk], ?_⟩
      refine lkp_mem hn ?_
      rw [← hk]
      exact List.mem_of_getElem? hm

section
variable {P : Program} {w : World} {t k e : TypeId} {b : Nat} {m : Ents}

theorem isKey_ik (x : Int) : IsKey (.int .i64) (ik x) := by simp [IsKey, ik]

/-- m[k]; v, ok := m[k] -/
theorem run_lookup_is (H : MapIs w b m) (ht : P.underlying t = some (.map k e)) (hk : P.underlying k = some (.int .i64)) {z : Value} (hz : (zeroValue e).run P w = .ok z w) (x : Int) (ok : Bool) :
    (Instr.lookup t (.map (some b)) (ik x) ok).run P w = .ok (if ok then .tuple #[(lkp m x).getD z, .bool (lkp m x).isSome] else (lkp m x).getD z) w := by
  have hn := H.nodup
  obtain ⟨es, clock, hb, hs, he⟩ := H
  rcases find_spec he hn x with ⟨h1, h2, _⟩ | ⟨j, e', v, h1, _, _, hv, _, h2⟩
  · cases ok <;> simp [Instr.lookup, run_underlying ht, MapKept.run_getObj_map hb, run_checkKey hk (isKey_ik x), run_findKey hk h1, hz, h2, Result.andThen]
  · cases ok <;> simp [Instr.lookup, run_underlying ht, MapKept.run_getObj_map hb, run_checkKey hk (isKey_ik x), run_findKey hk h1, h2, hv, Result.andThen]

theorem run_lookup_nil (ht : P.underlying t = some (.map k e)) (hk : P.underlying k = some (.int .i64)) {z : Value} (hz : (zeroValue e).run P w = .ok z w) (x : Int) (ok : Bool) :
    (Instr.lookup t (.map none) (ik x) ok).run P w = .ok (if ok then .tuple #[z, .bool false] else z) w := by
  have h1 : Instr.findNow (.int .i64) (ik x) [] 0 = some none := rfl
  cases ok <;> simp [Instr.lookup, run_underlying ht, run_checkKey hk (isKey_ik x), run_findKey hk h1, hz, Result.andThen]

theorem run_len_is (H : MapIs w b m) (ht : P.underlying t = some (.map k e)) (ty : TypeId) :
    (Builtin.len_ #[t] ty #[.map (some b)]).run P w = .ok (goInt m.length) w := by
  obtain ⟨es, clock, hb, hs, he⟩ := H
  have hl : es.size = m.length := by have := congrArg List.length he; simpa using this
  simp [Builtin.len_, run_underlying ht, MapKept.run_getObj_map hb, Result.andThen, hl]

theorem eraseIdx_map' {α β : Type} (f : α → β) : ∀ (l : List α) (i : Nat), (l.eraseIdx i).map f = (l.map f).eraseIdx i
  | [], _ => rfl
  | _ :: _, 0 => rfl
  | x :: l, i + 1 => by simp [eraseIdx_map' f l i]

theorem upd_new {m : Ents} {x : Int} {v : Value} (h : x ∉ m.map (·.1)) : upd m x v = m ++ [(x, v)] := by
  unfold upd
  rw [if_neg (fun hh => h (any_key.1 hh))]

theorem upd_old {m : Ents} {x : Int} {v : Value} (hn : (m.map (·.1)).Nodup) {j : Nat} {u : Value} (hj : m[j]? = some (x, u)) : upd m x v = m.set j (x, v) := by
  have hm : x ∈ m.map (·.1) := List.mem_map.2 ⟨_, List.mem_of_getElem? hj, rfl⟩
  unfold upd
  rw [if_pos (any_key.2 hm)]
  apply List.ext_getElem?
  intro i
  rw [List.getElem?_map, List.getElem?_set]
  by_cases hij : j = i
  · subst hij
    rw [hj]
    simp [List.getElem?_eq_some_iff.1 hj |>.1]
  · rw [if_neg hij]
    cases hi : m[i]? with
    | none => rfl
    | some p =>
      have : (p.1 == x) = false := by
        rw [beq_eq_false_iff_ne]
        intro e
        have h1 : (m.map (·.1))[i]? = some x := by rw [List.getElem?_map, hi]; simp [e]
        have h2 : (m.map (·.1))[j]? = some x := by rw [List.getElem?_map, hj]; rfl
        have hil := (List.getElem?_eq_some_iff.1 h1).1
        exact hij (((List.getElem?_inj hil hn).1 (h1.trans h2.symm)).symm)
      have hne : p.1 ≠ x := by simpa using this
      simp [hne]

/-- m[k] = v -/
theorem run_update_is (H : MapIs w b m) (ht : P.underlying t = some (.map k e)) (hk : P.underlying k = some (.int .i64)) (x : Int) (v : Value) :
    ∃ w', (Instr.mapUpdate t (.map (some b)) (ik x) v).run P w = .ok () w' ∧ MapIs w' b (upd m x v) ∧ w.grownBy w' (some b) ∧ w'.heap.size = w.heap.size := by
  have hn := H.nodup
  obtain ⟨es, clock, hb, hs, he⟩ := H
  have fin : ∀ es' clock', Stamped es' clock' → es'.toList.map ent = (upd m x v).map enp →
      MapIs (setBlock w b (.map es' clock')) b (upd m x v) ∧ w.grownBy (setBlock w b (.map es' clock')) (some b) ∧ (setBlock w b (.map es' clock')).heap.size = w.heap.size :=
    fun es' clock' h1 h2 => ⟨⟨es', clock', heap_setBlock_same hb _, h1, h2⟩, ⟨rfl, rfl, rfl, by simp [setBlock], fun i _ hi => heap_setBlock_other hb _ (fun e => hi (by rw [e]))⟩, by simp [setBlock]⟩
  rcases find_spec he hn x with ⟨h1, h2, hno⟩ | ⟨j, e', u, h1, hj, hkey, hv, hmj, h2⟩
  · refine ⟨setBlock w b (.map (es.push { key := ik x, val := v, born := clock }) (clock + 1)), ?_, fin _ _ ?_ ?_⟩
    · simp [Instr.mapUpdate, run_underlying ht, MapKept.run_getObj_map hb, run_checkKey hk (isKey_ik x), run_findKey hk h1, MapKept.run_setObj_map _ hb, Result.andThen, setBlock]
    · refine stamped_push hs (fun y hy e => hno ?_)
      have : y.key ∈ es.toList.map (·.key) := List.mem_map.2 ⟨y, hy, rfl⟩
      rw [keys_of he, e] at this
      obtain ⟨p, hp, e2⟩ := List.mem_map.1 this
      exact List.mem_map.2 ⟨p, hp, ik_inj e2⟩
    · rw [upd_new hno]; simp [he, ent, enp]
  · have hj' : es[j]? = some e' := by simpa using hj
    refine ⟨setBlock w b (.map (es.modify j fun e => { e with key := ik x, val := v }) clock), ?_, fin _ _ ?_ ?_⟩
    · have hsb : (Instr.keyThatStays (ik x) (ik x)).run P w = .ok (ik x) w := by
        unfold Instr.keyThatStays
        rw [if_pos (by simp [Instr.sameBits, ik])]
        rfl
      simp [Instr.mapUpdate, run_underlying ht, MapKept.run_getObj_map hb, run_checkKey hk (isKey_ik x), run_findKey hk h1, MapKept.run_setObj_map _ hb, Result.andThen, setBlock, hj', hkey, hsb]
    · exact stamped_modify hs _ _ (fun _ _ => rfl) (fun e2 _ he2 => by rw [hj'] at he2; cases he2; exact hkey.symm)
    · rw [upd_old hn hmj]
      apply List.ext_getElem?
      intro i
      simp only [List.getElem?_map, Array.getElem?_toList, Array.getElem?_modify, List.getElem?_set]
      have hlen : j < m.length := (List.getElem?_eq_some_iff.1 hmj).1
      by_cases hij : j = i
      · subst hij
        simp [hj', hlen, ent, enp]
      · simp only [hij, if_false]
        have := congrArg (fun l => l[i]?) he
        simpa using this

/-- delete(m, k) -/
theorem run_delete_is (H : MapIs w b m) (ht : P.underlying t = some (.map k e)) (hk : P.underlying k = some (.int .i64)) (x : Int) (t2 ty : TypeId) :
    ∃ w', (Builtin.delete_ #[t, t2] ty #[.map (some b), ik x]).run P w = .ok (.tuple #[]) w' ∧ MapIs w' b (del m x) ∧ w.grownBy w' (some b) ∧ w'.heap.size = w.heap.size := by
  have hn := H.nodup
  obtain ⟨es, clock, hb, hs, he⟩ := H
  have fin : ∀ es' clock', Stamped es' clock' → es'.toList.map ent = (del m x).map enp →
      MapIs (setBlock w b (.map es' clock')) b (del m x) ∧ w.grownBy (setBlock w b (.map es' clock')) (some b) ∧ (setBlock w b (.map es' clock')).heap.size = w.heap.size :=
    fun es' clock' h1 h2 => ⟨⟨es', clock', heap_setBlock_same hb _, h1, h2⟩, ⟨rfl, rfl, rfl, by simp [setBlock], fun i _ hi => heap_setBlock_other hb _ (fun e => hi (by rw [e]))⟩, by simp [setBlock]⟩
  rcases find_spec he hn x with ⟨h1, h2, hno⟩ | ⟨j, e', u, h1, hj, hkey, hv, hmj, h2⟩
  · refine ⟨setBlock w b (.map es clock), ?_, fin _ _ hs ?_⟩
    · simp [Builtin.delete_, run_underlying ht, MapKept.run_getObj_map hb, run_checkKey hk (isKey_ik x), run_findKey hk h1, MapKept.run_setObj_map _ hb, Result.andThen, setBlock]
    · have : del m x = m := List.filter_eq_self.2 (fun p hp => by
        have : p.1 ≠ x := fun e => hno (List.mem_map.2 ⟨p, hp, e⟩)
        simpa using this)
      rw [this]; exact he
  · have hjs : j < es.size := by simpa using (List.getElem?_eq_some_iff.1 hj).1
    refine ⟨setBlock w b (.map (es.eraseIdxIfInBounds j) clock), ?_, fin _ _ (stamped_erase hs j) ?_⟩
    · simp [Builtin.delete_, run_underlying ht, MapKept.run_getObj_map hb, run_checkKey hk (isKey_ik x), run_findKey hk h1, MapKept.run_setObj_map _ hb, Result.andThen, setBlock]
    · have e1 : (es.eraseIdxIfInBounds j).toList = es.toList.eraseIdx j := by simp [Array.eraseIdxIfInBounds, hjs]
      have e2 : del m x = m.eraseIdx j := by
        have hx : ∀ (l : Ents) (j : Nat), (l.map (·.1)).Nodup → l[j]? = some (x, u) → l.filter (fun p => !(p.1 == x)) = l.eraseIdx j := by
          intro l
          induction l with
          | nil => intro j _ h; simp at h
          | cons p l ih =>
            intro j hnd h
            simp only [List.map_cons, List.nodup_cons] at hnd
            cases j with
            | zero =>
              simp at h
              subst h
              simp only [List.filter_cons, beq_self_eq_true, Bool.not_true, Bool.false_eq_true, if_false, List.eraseIdx_zero, List.tail_cons]
              refine List.filter_eq_self.2 (fun q hq => ?_)
              have : q.1 ≠ x := fun e => hnd.1 (List.mem_map.2 ⟨q, hq, e⟩)
              simpa using this
            | succ j =>
              simp at h
              have : p.1 ≠ x := fun e => hnd.1 (by rw [e]; exact List.mem_map.2 ⟨_, List.mem_of_getElem? h, rfl⟩)
              have hb : (p.1 == x) = false := by simpa using this
              simp [hb, ih j hnd.2 h]
        exact hx m j hn hmj
      rw [e1, e2, eraseIdx_map', eraseIdx_map', he]

/-- the iterator in block r is on its way over the map in block b, which reads as m; 'left' is still to come -/
def RangeIs (w : World) (r b : Nat) (m left : Ents) : Prop :=
  ∃ es clock since seen c0, w.heap[r]? = some (.mapIter (some b) since seen c0) ∧ w.heap[b]? = some (.map es clock) ∧ Stamped es clock ∧ es.toList.map ent = m.map enp ∧
    (∀ x ∈ es.toList, x.born < since) ∧ since ≤ c0 ∧ since ≤ clock ∧ (leftOf es seen).toList.map ent = left.map enp

theorem RangeIs.map {r : Nat} {left : Ents} (h : RangeIs w r b m left) : MapIs w b m := by
  obtain ⟨es, clock, since, seen, c0, hr, hb, hs, he, _⟩ := h
  exact ⟨es, clock, hb, hs, he⟩
theorem RangeIs.lt {r : Nat} {left : Ents} (h : RangeIs w r b m left) : r < w.heap.size := by
  obtain ⟨es, clock, since, seen, c0, hr, _⟩ := h
  exact (Array.getElem?_eq_some_iff.1 hr).1
theorem RangeIs.ne {r : Nat} {left : Ents} (h : RangeIs w r b m left) : r ≠ b := by
  obtain ⟨es, clock, since, seen, c0, hr, hb, _⟩ := h
  intro e
  rw [e, hb] at hr
  cases hr
theorem RangeIs.of_blocks {w' : World} {r : Nat} {left : Ents} (h : RangeIs w r b m left) (e1 : w'.heap[r]? = w.heap[r]?) (e2 : w'.heap[b]? = w.heap[b]?) : RangeIs w' r b m left := by
  obtain ⟨es, clock, since, seen, c0, hr, hb, rest⟩ := h
  exact ⟨es, clock, since, seen, c0, e1.trans hr, e2.trans hb, rest⟩
theorem RangeIs.grown {w' : World} {row : Option Nat} {r : Nat} {left : Ents} (h : RangeIs w r b m left) (hg : w.grownBy w' row) (h1 : some r ≠ row) (h2 : some b ≠ row) : RangeIs w' r b m left :=
  h.of_blocks (hg.block r h.lt h1) (hg.block b h.map.lt h2)
theorem RangeIs.below {w' : World} {B r : Nat} {left : Ents} (h : RangeIs w r b m left) (hg : Below B w w') (h1 : r < B) (h2 : b < B) : RangeIs w' r b m left :=
  h.of_blocks (hg.block r h1) (hg.block b h2)
theorem RangeIs.sub {r : Nat} {left : Ents} (h : RangeIs w r b m left) : ∀ p ∈ left, p ∈ m := by
  obtain ⟨es, clock, since, seen, c0, hr, hb, hs, he, h1, h2, h2', h3⟩ := h
  intro p hp
  have : enp p ∈ (leftOf es seen).toList.map ent := by rw [h3]; exact List.mem_map.2 ⟨p, hp, rfl⟩
  obtain ⟨x, hx, e⟩ := List.mem_map.1 this
  have hx' : x ∈ es.toList := by unfold leftOf at hx; simp at hx ⊢; exact hx.1
  have : enp p ∈ m.map enp := by rw [← he, ← e]; exact List.mem_map.2 ⟨x, hx', rfl⟩
  obtain ⟨q, hq, e2⟩ := List.mem_map.1 this
  simp only [enp, Prod.mk.injEq] at e2
  have : q = p := Prod.ext (ik_inj e2.1) e2.2
  exact this ▸ hq

theorem run_range_is (H : MapIs w b m) (ht : P.underlying t = some (.map k e)) :
    ∃ w', (Instr.range t (.map (some b))).run P w = .ok (.pointer (some ⟨w.heap.size, 0, none⟩)) w' ∧ RangeIs w' w.heap.size b m m ∧ w.grownBy w' none ∧ w'.heap.size = w.heap.size + 1 := by
  have hlt := H.lt
  obtain ⟨es, clock, hb, hs, he⟩ := H
  refine ⟨_, run_range_map w t k e b es clock ht hb, ⟨es, clock, clock, #[], clock, heap_alloc_new w _, (Below.heap_alloc w _ b hlt).trans hb, hs, he, hs.1, Nat.le_refl _, Nat.le_refl _, ?_⟩, ⟨rfl, rfl, rfl, by simp, fun i hi _ => Below.heap_alloc w _ i hi⟩, by simp⟩
  have : leftOf es #[] = es := by simp [leftOf]
  rw [this, he]

theorem run_next_is {r : Nat} {left : Ents} (H : RangeIs w r b m left) (ty : TypeId) :
    (left = [] ∧ (Instr.next (.pointer (some ⟨r, 0, none⟩)) false ty).run P w = .ok (.tuple #[.bool false]) w) ∨
    ∃ p ∈ left, ∃ w', (Instr.next (.pointer (some ⟨r, 0, none⟩)) false ty).run P w = .ok (.tuple #[.bool true, ik p.1, p.2]) w' ∧ RangeIs w' r b m (left.filter (fun q => !(q.1 == p.1))) ∧
      w.grownBy w' (some r) ∧ w'.heap.size = w.heap.size ∧ (Instr.entry (.pointer (some ⟨r, 0, none⟩))).run P w' = .ok (.tuple #[ik p.1, p.2]) w' := by
  have hne := H.ne
  obtain ⟨es, clock, since, seen, c0, hr, hb, hs, he, h1, h2, h2', h3⟩ := H
  rcases run_next_at w ty r b since c0 seen es clock hr hb h1 h2 (P := P) with ⟨h0, hrun⟩ | ⟨x, hx, w1, hw1, hrun⟩
  · left
    refine ⟨?_, hrun⟩
    have : (leftOf es seen).toList.map ent = [] := by
      have : leftOf es seen = #[] := Array.eq_empty_of_size_eq_zero h0
      rw [this]; rfl
    rw [h3] at this
    exact List.map_eq_nil_iff.1 this
  · right
    have hx' : x ∈ es.toList := by unfold leftOf at hx; simp at hx ⊢; exact hx.1
    have hmem : ent x ∈ left.map enp := by rw [← h3]; exact List.mem_map.2 ⟨x, hx, rfl⟩
    obtain ⟨p, hp, ep⟩ := List.mem_map.1 hmem
    simp only [enp, ent, Prod.mk.injEq] at ep
    have hw1h : w1.heap = w.heap := by rcases hw1 with rfl | rfl <;> rfl
    have hr1 : w1.heap[r]? = some (.mapIter (some b) since seen c0) := by rw [hw1h]; exact hr
    have hrlt : r < w1.heap.size := (Array.getElem?_eq_some_iff.1 hr1).1
    have hset : ∀ o, (setBlock w1 r o).heap[r]? = some o := fun o => by simp [setBlock, hrlt]
    have hoth : ∀ o i, i ≠ r → (setBlock w1 r o).heap[i]? = w.heap[i]? := fun o i hi => by simp [setBlock, Ne.symm hi, hw1h]
    have hb' : ∀ o, (setBlock w1 r o).heap[b]? = some (.map es clock) := fun o => by rw [hoth o b (Ne.symm hne)]; exact hb
    have hent := run_entry_at (P := P) (setBlock w1 r (.mapIter (some b) since (seen.push x.born) clock)) r b since seen es clock x (hset _) (hb' _) hx' hs.2.1
    rw [← ep.1, ← ep.2] at hrun hent
    refine ⟨p, hp, _, hrun, ?_, ?_, by simp [setBlock, hw1h], hent⟩
    · have hleft : (leftOf es (seen.push x.born)).toList.map ent = (left.filter (fun q => !(q.1 == p.1))).map enp := by
        have e1 : (leftOf es (seen.push x.born)).toList = (leftOf es seen).toList.filter (fun y => !(y.born == x.born)) := by
          unfold leftOf
          simp only [Array.toList_filter, List.filter_filter]
          congr 1
          funext y
          simp only [Array.contains_push]
          cases seen.contains y.born <;> cases (y.born == x.born) <;> simp
        have hxx : ∀ y ∈ es.toList, y.born = x.born ↔ y.key = x.key := by
          intro y hy
          constructor
          · intro e
            have : y = x := by
              have hnd := hs.2.1
              rw [List.Nodup, List.pairwise_map] at hnd
              rcases List.getElem_of_mem hy with ⟨i, hi, ei⟩
              rcases List.getElem_of_mem hx' with ⟨j, hj, ej⟩
              have hnd' := hs.2.1
              have h1 : (es.toList.map (·.born))[i]? = some y.born := by rw [List.getElem?_map, List.getElem?_eq_getElem hi, ei]; rfl
              have h2 : (es.toList.map (·.born))[j]? = some x.born := by rw [List.getElem?_map, List.getElem?_eq_getElem hj, ej]; rfl
              have : i = j := (List.getElem?_inj (by simpa using hi) hnd').1 (by rw [h1, h2, e])
              subst this
              rw [← ei, ← ej]
            rw [this]
          · intro e
            have hnd' := hs.2.2
            rcases List.getElem_of_mem hy with ⟨i, hi, ei⟩
            rcases List.getElem_of_mem hx' with ⟨j, hj, ej⟩
            have h1 : (es.toList.map (·.key))[i]? = some y.key := by rw [List.getElem?_map, List.getElem?_eq_getElem hi, ei]; rfl
            have h2 : (es.toList.map (·.key))[j]? = some x.key := by rw [List.getElem?_map, List.getElem?_eq_getElem hj, ej]; rfl
            have : i = j := (List.getElem?_inj (by simpa using hi) hnd').1 (by rw [h1, h2, e])
            subst this
            rw [← ei, ← ej]
        rw [e1]
        have gen : ∀ (l1 : List MapEntry) (l2 : Ents), (∀ y ∈ l1, y ∈ es.toList) → l1.map ent = l2.map enp → (l1.filter (fun y => !(y.born == x.born))).map ent = (l2.filter (fun q => !(q.1 == p.1))).map enp := by
          intro l1
          induction l1 with
          | nil => intro l2 _ h; cases l2 <;> simp at h ⊢
          | cons y l1 ih =>
            intro l2 hall h
            cases l2 with
            | nil => simp at h
            | cons q l2 =>
              simp only [List.map_cons, List.cons.injEq] at h
              have ihh := ih l2 (fun z hz => hall z (List.mem_cons_of_mem _ hz)) h.2
              have hyk : y.key = ik q.1 := by have := h.1; simp only [ent, enp, Prod.mk.injEq] at this; exact this.1
              have hiff : (y.born == x.born) = (q.1 == p.1) := by
                rw [Bool.eq_iff_iff]
                simp only [beq_iff_eq]
                rw [hxx y (hall y (List.mem_cons_self ..)), hyk, ← ep.1]
                exact ⟨ik_inj, fun e => by rw [e]⟩
              simp only [List.filter_cons, hiff]
              cases hqq : (q.1 == p.1)
              · simp only [Bool.not_false, if_true, List.map_cons, h.1, ihh]
              · simp only [Bool.not_true, Bool.false_eq_true, if_false, ihh]
        exact gen _ _ (fun y hy => by unfold leftOf at hy; simp at hy ⊢; exact hy.1) h3
      exact ⟨es, clock, since, seen.push x.born, clock, hset _, hb' _, hs, he, h1, h2', h2', hleft⟩
    · exact ⟨by rcases hw1 with rfl | rfl <;> rfl, by rcases hw1 with rfl | rfl <;> rfl, by rcases hw1 with rfl | rfl <;> rfl, by simp [setBlock, hw1h], fun i _ hi => hoth _ i (fun e => hi (by rw [e]))⟩
end

/-! ### at the operation, for the walk -/
section
variable {P : Program} (w : World) {ops : Array Oper} {rest : List Oper} {o : Oper} {a : Act} {Q : Exit → Act → World → Prop}

theorem wpx_lookup (hg : o.guard = none) (mo x : Operand) (t : TypeId) (ok : Bool) (hop : o.op = Op.lookup t mo x ok) (k e : TypeId) (ht : P.underlying t = some (.map k e)) (hk : P.underlying k = some (.int .i64))
    (z : Value) (hz : (zeroValue e).run P w = .ok z w) (b : Nat) (m : Ents) (kk : Int) (hm : a.eval mo = .map (some b)) (hx : a.eval x = .int .i64 kk) (H : MapIs w b m)
    (hK : wpList P ops Q rest (a.put o.dst (if ok then .tuple #[(lkp m kk).getD z, .bool (lkp m kk).isSome] else (lkp m kk).getD z)) w) :
    wpList P ops Q (o :: rest) a w := by
  refine wpList_plain hg fun K' hK' => ?_
  have hrun := run_lookup_is H ht hk hz kk ok
  unfold ik at hrun
  unfold Oper.wp
  simp [execOp, hop, hm, hx, hrun, Result.andThen]
  exact hK' _ _ hK

theorem wpx_update (hg : o.guard = none) (mo x v : Operand) (t : TypeId) (hop : o.op = Op.mapUpdate t mo x v) (k e : TypeId) (ht : P.underlying t = some (.map k e)) (hk : P.underlying k = some (.int .i64))
    (b : Nat) (m : Ents) (kk : Int) (val : Value) (hm : a.eval mo = .map (some b)) (hx : a.eval x = .int .i64 kk) (hv : a.eval v = val) (H : MapIs w b m)
    (hK : ∀ w', MapIs w' b (upd m kk val) → w.grownBy w' (some b) → w'.heap.size = w.heap.size → wpList P ops Q rest (a.put o.dst undef) w') :
    wpList P ops Q (o :: rest) a w := by
  refine wpList_plain hg fun K' hK' => ?_
  obtain ⟨w', hrun, r1, r2, r3⟩ := run_update_is (P := P) H ht hk kk val
  unfold ik at hrun
  unfold Oper.wp
  simp [execOp, hop, hm, hx, hv, hrun, Result.andThen]
  exact hK' _ _ (hK w' r1 r2 r3)

theorem wpx_range (hg : o.guard = none) (mo : Operand) (t : TypeId) (hop : o.op = Op.range t mo) (k e : TypeId) (ht : P.underlying t = some (.map k e)) (b : Nat) (m : Ents) (hm : a.eval mo = .map (some b)) (H : MapIs w b m) (r : Nat) (hr : w.heap.size = r)
    (hK : ∀ w', RangeIs w' r b m m → w.grownBy w' none → w'.heap.size = r + 1 → wpList P ops Q rest (a.put o.dst (.pointer (some ⟨r, 0, none⟩))) w') :
    wpList P ops Q (o :: rest) a w := by
  subst hr
  refine wpList_plain hg fun K' hK' => ?_
  obtain ⟨w', hrun, r1, r2, r3⟩ := run_range_is (P := P) H ht
  unfold Oper.wp
  simp [execOp, hop, hm, hrun, Result.andThen]
  exact hK' _ _ (hK w' r1 r2 r3)

theorem wpx_next (hg : o.guard = none) (it : Operand) (hop : o.op = Op.next it false) (r b : Nat) (m left : Ents) (hit : a.eval it = .pointer (some ⟨r, 0, none⟩)) (H : RangeIs w r b m left)
    (hDone : left = [] → wpList P ops Q rest (a.put o.dst (.tuple #[.bool false])) w)
    (hMore : ∀ (x : Int) (v : Value) (w' : World), (x, v) ∈ left → RangeIs w' r b m (left.filter (fun q => !(q.1 == x))) → w.grownBy w' (some r) → w'.heap.size = w.heap.size →
      (Instr.entry (.pointer (some ⟨r, 0, none⟩))).run P w' = .ok (.tuple #[.int .i64 x, v]) w' → wpList P ops Q rest (a.put o.dst (.tuple #[.bool true, .int .i64 x, v])) w') :
    wpList P ops Q (o :: rest) a w := by
  refine wpList_plain hg fun K' hK' => ?_
  unfold Oper.wp
  rcases run_next_is (P := P) H o.type with ⟨h0, hrun⟩ | ⟨p, hp, w', hrun, r1, r2, r3, r4⟩
  · simp [execOp, hop, hit, hrun, Result.andThen]
    exact hK' _ _ (hDone h0)
  · unfold ik at hrun r4
    simp [execOp, hop, hit, hrun, Result.andThen]
    exact hK' _ _ (hMore p.1 p.2 w' hp r1 r2 r3 r4)
end
end Go.Proofs.Ytinlaaeoiocfoaa
