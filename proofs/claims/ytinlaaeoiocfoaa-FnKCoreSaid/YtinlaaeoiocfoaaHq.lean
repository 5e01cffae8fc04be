/- Laws of the heap, continued: append onto a row of the call's own; two steps of a world; a permutation behind a step of a range. -/
import Derived.Test.YtinlaaeoiocfoaaHp
import Derived.Maps.AppendAt
import Derived.Laws.AppendOwnNone
namespace Go.Proofs.Ytinlaaeoiocfoaa
open Go.MapKept Go.RowKit

/-- the slice type t has elements of type e, of 'size' cells and 'bytes' bytes, zero value z -/
structure ElT (P : Program) (t e : TypeId) (size bytes : Nat) (z : Value) : Prop where
  ht : P.underlying t = some (.slice e)
  hi : (P.info? e).map (fun i => (i.zero, i.size, i.bytes)) = some (some z, size, bytes)
  hzs : z.cells.size = size
  pos : 0 < size

theorem wpx_append {P : Program} {t e : TypeId} {size bytes : Nat} {z : Value} (E : ElT P t e size bytes z) (w : World) {ops : Array Oper} {rest : List Oper} {o : Oper} {a : Act} {Q : Exit → Act → World → Prop} (hgd : o.guard = none) (s x : Operand)
    (ho : o.op = .call { callee := .builtin .append, args := #[s, x], argTypes := #[t, t] }) (base : Nat)
    (v : Value) (n : Nat) (xs : List Value) (hs : a.eval s = v) (hown : w.ownsRow base e size v n xs)
    (ad : Addr) (m c : Nat) (news : List Value) (hx : a.eval x = .slice (some ad) m c) (hl : news.length = m * size) (hnews : ∀ j u, news[j]? = some u → w.cell? (ad.add j) = some u) (h1 : ∀ u ∈ news, u.oneCell' = true)
    (hsmall : (n + m) * bytes ≤ 140737488355328) (h63 : n + m ≤ maxLen) (hbase : base ≤ w.heap.size)
    (h : ∀ v' w', w'.ownsRow base e size v' (n + m) (xs ++ news) → w.grownBy w' v.ownBlock → (v' = .slice none 0 0 ↔ v = .slice none 0 0 ∧ m = 0) → (v'.ownBlock = v.ownBlock ∨ v'.ownBlock = some w.heap.size) → wpList P ops Q rest (a.put o.dst v') w') :
    wpList P ops Q (o :: rest) a w := by
  obtain ⟨i, h1i, h2, h3, h4⟩ := info_parts E.hi
  exact wpList_append_own_at w hgd s x t ho base e i z size bytes E.ht h1i h2 h3 h4 E.hzs E.pos v n xs hs hown ad m c news hx hl hnews h1 h63 hsmall hbase h

theorem wpx_append_none {P : Program} {t e : TypeId} {size bytes : Nat} {z : Value} (E : ElT P t e size bytes z) (w : World) {ops : Array Oper} {rest : List Oper} {o : Oper} {a : Act} {Q : Exit → Act → World → Prop} (hgd : o.guard = none) (s x : Operand)
    (ho : o.op = .call { callee := .builtin .append, args := #[s, x], argTypes := #[t, t] }) (base : Nat)
    (v : Value) (n : Nat) (xs : List Value) (hs : a.eval s = v) (hown : w.ownsRow base e size v n xs) (hx : a.eval x = .slice none 0 0)
    (h : wpList P ops Q rest (a.put o.dst v) w) : wpList P ops Q (o :: rest) a w := by
  obtain ⟨i, h1i, h2, h3, h4⟩ := info_parts E.hi
  exact wpList_append_own_none hgd s x t ho base e i size E.ht h1i v n xs hs hown hx h

/-- what one element's cells, just laid in a new block, are -/
theorem cells_new (w : World) (xs : List Value) (t : TypeId) : ∀ j u, xs[j]? = some u → (w.alloc (.cells xs.toArray t)).cell? ((⟨w.heap.size, 0, none⟩ : Addr).add j) = some u := by
  intro j u hj
  have e : (⟨w.heap.size, 0, none⟩ : Addr).add j = ⟨w.heap.size, j, none⟩ := by unfold Addr.add; split <;> simp_all
  rw [e]
  have hb : (w.alloc (.cells xs.toArray t)).heap[w.heap.size]? = some (.cells xs.toArray t) := heap_alloc_new w _
  simp only [World.cell?, hb]
  simpa using hj

theorem perm_step {left : Ents} {x : Int} {v : Value} (hn : (left.map (·.1)).Nodup) (hm : (x, v) ∈ left) : left.Perm ((x, v) :: left.filter (fun q => !(q.1 == x))) := by
  induction left with
  | nil => cases hm
  | cons p l ih =>
    simp only [List.map_cons, List.nodup_cons] at hn
    by_cases hp : p.1 = x
    · have : p = (x, v) := by
        rcases List.mem_cons.1 hm with e | e
        · exact e.symm
        · exact absurd (List.mem_map.2 ⟨_, e, hp.symm⟩) hn.1
      subst this
      have : l.filter (fun q => !(q.1 == x)) = l := List.filter_eq_self.2 (fun q hq => by
        have : q.1 ≠ x := fun e => hn.1 (List.mem_map.2 ⟨q, hq, e⟩)
        simpa using this)
      simp [this]
    · have hb : (p.1 == x) = false := by simpa using hp
      have hm' : (x, v) ∈ l := by
        rcases List.mem_cons.1 hm with e | e
        · exact absurd (by rw [← e]) hp
        · exact e
      simp only [List.filter_cons, hb, Bool.not_false, if_true]
      exact ((ih hn.2 hm').cons p).trans (List.Perm.swap _ _ _)

/-- where s[k:] begins -/
def dropAt (g o k cap size : Nat) : Addr := if cap = k then ⟨g, o, none⟩ else ⟨g, o + k * size, none⟩

theorem run_slice_low {P : Program} {t e : TypeId} {size bytes : Nat} {z : Value} (E : ElT P t e size bytes z) (g o n cap k : Nat) (hk : k ≤ n) (w : World) :
    (Instr.sliceAt t (.slice (some ⟨g, o, none⟩) n cap) (some (.int .i64 (k : Int))) none none).run P w = .ok (.slice (some (dropAt g o k cap size)) (n - k) (cap - k)) w := by
  obtain ⟨i, h1i, h2, h3, h4⟩ := info_parts E.hi
  have e1 : (0 : Int) ≤ (k : Int) ∧ (k : Int) ≤ (n : Int) := by omega
  unfold dropAt
  by_cases hc : cap = k
  · simp [Instr.sliceAt, Instr.slice, Instr.sliceBounds, Instr.sliceBound, run_underlying E.ht, asIntOf, e1, sizeOf, typeInfo, h1i, hc, hk]
  · by_cases hk0 : k * size = 0
    · simp [Instr.sliceAt, Instr.slice, Instr.sliceBounds, Instr.sliceBound, run_underlying E.ht, asIntOf, e1, sizeOf, typeInfo, h1i, h3, hc, Addr.add, hk0, hk]
    · simp [Instr.sliceAt, Instr.slice, Instr.sliceBounds, Instr.sliceBound, run_underlying E.ht, asIntOf, e1, sizeOf, typeInfo, h1i, h3, hc, Addr.add, hk0, hk]

theorem enp_inj {p q : Int × Value} (h : enp p = enp q) : p = q := by
  simp only [enp, Prod.mk.injEq] at h
  exact Prod.ext (ik_inj h.1) h.2

theorem RangeIs.sublist {w : World} {r b : Nat} {m left : Ents} (h : RangeIs w r b m left) : left.Sublist m := by
  obtain ⟨es, clock, since, seen, c0, hr, hb, hs, he, h1, h2, h2', h3⟩ := h
  have hsub : (leftOf es seen).toList.Sublist es.toList := by unfold leftOf; simp
  have := hsub.map ent
  rw [h3, he] at this
  obtain ⟨l', h4, h5⟩ := List.sublist_map_iff.1 this
  rw [(List.map_inj_right (fun _ _ => enp_inj)).1 h5]
  exact h4

theorem RangeIs.nodup {w : World} {r b : Nat} {m left : Ents} (h : RangeIs w r b m left) : (left.map (·.1)).Nodup :=
  (h.sublist.map _).nodup h.map.nodup

end Go.Proofs.Ytinlaaeoiocfoaa
