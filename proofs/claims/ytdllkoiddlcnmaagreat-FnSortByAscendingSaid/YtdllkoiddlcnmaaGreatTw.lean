/- The memory of Tarjan's algorithm: what holds of it, and how each step turns it. -/
import Derived.Test.YtdllkoiddlcnmaaGreatSu
import Derived.Test.YtdllkoiddlcnmaaGreatTk
import Derived.Test.YtdllkoiddlcnmaaGreatSt
namespace Go.Proofs.YtdllkoiddlcnmaaGreat
open Go.MapKept Go.RowKit

abbrev tjT : TypeId := 161
abbrev nodsT : TypeId := 70

/-- what must not be touched lies as it lay -/
structure Kp (R : Nat → Prop) (w w' : World) : Prop where
  os : w'.os = w.os
  tape : w'.tape = w.tape
  output : w'.output = w.output
  size : w.heap.size ≤ w'.heap.size
  blk : ∀ k, R k → w'.heap[k]? = w.heap[k]?
theorem Kp.refl (R : Nat → Prop) (w : World) : Kp R w w := ⟨rfl, rfl, rfl, Nat.le_refl _, fun _ _ => rfl⟩
theorem Kp.trans {R : Nat → Prop} {a b c : World} (h : Kp R a b) (k : Kp R b c) : Kp R a c :=
  ⟨k.os.trans h.os, k.tape.trans h.tape, k.output.trans h.output, Nat.le_trans h.size k.size, fun i hi => (k.blk i hi).trans (h.blk i hi)⟩
theorem Kp.of {R : Nat → Prop} {w w' : World} {row : Option Nat} (hg : w.grownBy w' row) (hR : ∀ k, R k → k < w.heap.size) (hr : ∀ k, R k → some k ≠ row) : Kp R w w' :=
  ⟨hg.os, hg.tape, hg.output, hg.size, fun k hk => hg.block k (hR k hk) (hr k hk)⟩
theorem Kp.sub {R R' : Nat → Prop} {w w' : World} (h : Kp R w w') (hs : ∀ k, R' k → R k) : Kp R' w w' := ⟨h.os, h.tape, h.output, h.size, fun k hk => h.blk k (hs k hk)⟩

def NumMap (w : World) (m : Nat) (f : Int → Nat) : Prop := ∃ e, MapIs w m e ∧ ∀ x, (lkp e x).getD (.int .i64 0) = .int .i64 (f x)

/-- the rows of nodes that a row of rows leads to -/
def Comps (w : World) (B : Nat) (vs : Value) (vals : List Value) (out : List (List Int)) : Prop :=
  vals.length = out.length ∧ ∀ (i : Nat) (v : Value) (c : List Int), vals[i]? = some v → out[i]? = some c → w.ownsRow B nodT 1 v c.length (c.map nodeV) ∧ (v.ownBlock = none ∨ v.ownBlock ≠ vs.ownBlock)

structure TarB (w : World) (B bt m1 m2 m3 : Nat) (fv vs vo : Value) (vals : List Value) (s : TSt) (os : List Int) (R : Nat → Prop) : Prop where
  blk : w.heap[bt]? = some (.cells #[fv, .int .i64 s.idx, .map (some m1), .map (some m2), .map (some m3), vs, vo] tjT (0, 0))
  tab : NumMap w m1 s.tab
  low : NumMap w m2 s.low
  on : SetMap w m3 os
  stk : w.ownsRow B nodT 1 vs s.stk.length (s.stk.reverse.map nodeV)
  out : w.ownsRow B nodsT 1 vo s.out.length vals
  cmp : Comps w B vs vals s.out.reverse
  ms : m1 ≠ m2 ∧ m1 ≠ m3 ∧ m2 ≠ m3
  ge : B ≤ bt ∧ B ≤ m1 ∧ B ≤ m2 ∧ B ≤ m3
  av : ∀ k, R k → k ≠ bt ∧ k ≠ m1 ∧ k ≠ m2 ∧ k ≠ m3 ∧ some k ≠ vs.ownBlock ∧ some k ≠ vo.ownBlock
  rlt : ∀ k, R k → k < w.heap.size

theorem NumMap.grown {w w' : World} {row : Option Nat} {m : Nat} {f : Int → Nat} (h : NumMap w m f) (hg : w.grownBy w' row) (hne : some m ≠ row) : NumMap w' m f := by
  obtain ⟨e, h1, h2⟩ := h
  exact ⟨e, h1.grown hg hne, h2⟩

section
variable {w w' : World} {B bt m1 m2 m3 : Nat} {fv vs vo : Value} {vals : List Value} {s : TSt} {os : List Int} {R : Nat → Prop}

theorem map_ne_cells {b m : Nat} {e : Ents} {c : Array Value} {t : TypeId} {f : Nat × Nat} (h : MapIs w m e) (hb : w.heap[b]? = some (.cells c t f)) : m ≠ b := by
  rintro rfl
  obtain ⟨es, clock, h1, _⟩ := h
  rw [hb] at h1
  cases h1

theorem TarB.m_ne (T : TarB w B bt m1 m2 m3 fv vs vo vals s os R) : m1 ≠ bt ∧ m2 ≠ bt ∧ m3 ≠ bt := by
  obtain ⟨e1, h1, _⟩ := T.tab
  obtain ⟨e2, h2, _⟩ := T.low
  obtain ⟨e3, h3, _⟩ := T.on
  exact ⟨map_ne_cells h1 T.blk, map_ne_cells h2 T.blk, map_ne_cells h3 T.blk⟩

theorem TarB.m_lt (T : TarB w B bt m1 m2 m3 fv vs vo vals s os R) : bt < w.heap.size ∧ m1 < w.heap.size ∧ m2 < w.heap.size ∧ m3 < w.heap.size := by
  obtain ⟨e1, h1, _⟩ := T.tab
  obtain ⟨e2, h2, _⟩ := T.low
  obtain ⟨e3, h3, _⟩ := T.on
  exact ⟨block_lt T.blk, h1.lt, h2.lt, h3.lt⟩

/-- a row of cells is none of the maps, nor the block itself -/
theorem TarB.row_ne (T : TarB w B bt m1 m2 m3 fv vs vo vals s os R) {b e sz n : Nat} {v : Value} {xs : List Value} (h : w.ownsRow b e sz v n xs) (he : e ≠ tjT) : some bt ≠ v.ownBlock ∧ some m1 ≠ v.ownBlock ∧ some m2 ≠ v.ownBlock ∧ some m3 ≠ v.ownBlock := by
  obtain ⟨e1, h1, _⟩ := T.tab
  obtain ⟨e2, h2, _⟩ := T.low
  obtain ⟨e3, h3, _⟩ := T.on
  exact ⟨own_ne_type h T.blk he, (row_ne_map h h1).symm, (row_ne_map h h2).symm, (row_ne_map h h3).symm⟩

theorem Comps.lt {out : List (List Int)} (h : Comps w B vs vals out) {i : Nat} {v : Value} (hv : vals[i]? = some v) : ∃ c : List Int, w.ownsRow B nodT 1 v c.length (c.map nodeV) := by
  have hi := (List.getElem?_eq_some_iff.1 hv).1
  rw [h.1] at hi
  exact ⟨out[i], (h.2 i v _ hv (List.getElem?_eq_getElem hi)).1⟩

theorem Comps.grown {out : List (List Int)} (h : Comps w B vs vals out) {row : Option Nat} (hg : w.grownBy w' row) (hne : ∀ (i : Nat) (v : Value), vals[i]? = some v → v.ownBlock = none ∨ v.ownBlock ≠ row) : Comps w' B vs vals out :=
  ⟨h.1, fun i v c hv hc => ⟨(h.2 i v c hv hc).1.kept hg (hne i v hv), (h.2 i v c hv hc).2⟩⟩

/-- each component of the memory that a step does not touch -/
theorem TarB.keep (T : TarB w B bt m1 m2 m3 fv vs vo vals s os R) {row : Option Nat} (hg : w.grownBy w' row) (h1 : some bt ≠ row) (h2 : some m1 ≠ row) (h3 : some m2 ≠ row) (h4 : some m3 ≠ row) (h5 : vs.ownBlock = none ∨ vs.ownBlock ≠ row) (h6 : vo.ownBlock = none ∨ vo.ownBlock ≠ row)
    (h7 : ∀ (i : Nat) (v : Value), vals[i]? = some v → v.ownBlock = none ∨ v.ownBlock ≠ row) : TarB w' B bt m1 m2 m3 fv vs vo vals s os R :=
  ⟨grown_block hg T.blk h1, T.tab.grown hg h2, T.low.grown hg h3, T.on.grown hg h4, T.stk.kept hg h5, T.out.kept hg h6, T.cmp.grown hg h7, T.ms, T.ge, T.av, fun k hk => Nat.lt_of_lt_of_le (T.rlt k hk) hg.size⟩

theorem none_or {v : Value} : v.ownBlock = none ∨ v.ownBlock ≠ none := by
  cases v.ownBlock with
  | none => exact .inl rfl
  | some k => exact .inr (by simp)

theorem TarB.grown (T : TarB w B bt m1 m2 m3 fv vs vo vals s os R) (hg : w.grownBy w' none) : TarB w' B bt m1 m2 m3 fv vs vo vals s os R :=
  T.keep hg (by simp) (by simp) (by simp) (by simp) none_or none_or (fun _ _ _ => none_or)

/-- a step that writes the block itself -/
theorem TarB.store (T : TarB w B bt m1 m2 m3 fv vs vo vals s os R) (j : Nat) (u : Value) : NumMap (w.setCell ⟨bt, j, none⟩ u) m1 s.tab ∧ NumMap (w.setCell ⟨bt, j, none⟩ u) m2 s.low ∧ SetMap (w.setCell ⟨bt, j, none⟩ u) m3 os ∧ (w.setCell ⟨bt, j, none⟩ u).ownsRow B nodT 1 vs s.stk.length (s.stk.reverse.map nodeV) ∧
    (w.setCell ⟨bt, j, none⟩ u).ownsRow B nodsT 1 vo s.out.length vals ∧ Comps (w.setCell ⟨bt, j, none⟩ u) B vs vals s.out.reverse ∧ ∀ k, R k → k < (w.setCell ⟨bt, j, none⟩ u).heap.size := by
  have hg := grown_setCell w bt j u
  obtain ⟨n1, n2, n3⟩ := T.m_ne
  obtain ⟨v1, -⟩ := T.row_ne T.stk (by decide)
  obtain ⟨v5, -⟩ := T.row_ne T.out (by decide)
  refine ⟨T.tab.grown hg (by simpa using n1), T.low.grown hg (by simpa using n2), T.on.grown hg (by simpa using n3), T.stk.kept hg (.inr v1.symm), T.out.kept hg (.inr v5.symm), T.cmp.grown hg (fun i v hv => ?_), fun k hk => by simpa [World.setCell] using T.rlt k hk⟩
  obtain ⟨c, h⟩ := T.cmp.lt hv
  exact .inr (T.row_ne h (by decide)).1.symm

theorem TarB.setIdx (T : TarB w B bt m1 m2 m3 fv vs vo vals s os R) (n : Nat) : TarB (w.setCell ⟨bt, 1, none⟩ (.int .i64 n)) B bt m1 m2 m3 fv vs vo vals { s with idx := n } os R := by
  obtain ⟨h2, h3, h4, h5, h6, h7, h8⟩ := T.store 1 (.int .i64 n)
  exact ⟨block_set T.blk 1 _, h2, h3, h4, h5, h6, h7, T.ms, T.ge, T.av, h8⟩

theorem MapIs.upd_num {m : Nat} {e : Ents} {f : Int → Nat} {x : Int} {n : Nat} (h : ∀ y, (lkp e y).getD (.int .i64 0) = .int .i64 (f y)) (h1 : MapIs w' m (upd e x (.int .i64 n))) : NumMap w' m (upN f x n) := by
  refine ⟨_, h1, fun y => ?_⟩
  rw [upd_look]
  by_cases hy : y = x
  · simp [hy, upN]
  · simp [hy, upN, h y]

theorem TarB.setTab (T : TarB w B bt m1 m2 m3 fv vs vo vals s os R) (hg : w.grownBy w' (some m1)) {f : Int → Nat} (hn : NumMap w' m1 f) : TarB w' B bt m1 m2 m3 fv vs vo vals { s with tab := f } os R := by
  obtain ⟨n1, n2, n3⟩ := T.m_ne
  obtain ⟨_, v1, -⟩ := T.row_ne T.stk (by decide)
  obtain ⟨_, v5, -⟩ := T.row_ne T.out (by decide)
  refine ⟨grown_block hg T.blk (by simpa using n1.symm), hn, T.low.grown hg (by simpa using T.ms.1.symm), T.on.grown hg (by simpa using T.ms.2.1.symm), T.stk.kept hg (.inr v1.symm), T.out.kept hg (.inr v5.symm), T.cmp.grown hg (fun i v hv => ?_), T.ms, T.ge, T.av, fun k hk => Nat.lt_of_lt_of_le (T.rlt k hk) hg.size⟩
  obtain ⟨c, h⟩ := T.cmp.lt hv
  exact .inr (T.row_ne h (by decide)).2.1.symm
theorem TarB.setLow (T : TarB w B bt m1 m2 m3 fv vs vo vals s os R) (hg : w.grownBy w' (some m2)) {f : Int → Nat} (hn : NumMap w' m2 f) : TarB w' B bt m1 m2 m3 fv vs vo vals { s with low := f } os R := by
  obtain ⟨n1, n2, n3⟩ := T.m_ne
  obtain ⟨_, _, v1, -⟩ := T.row_ne T.stk (by decide)
  obtain ⟨_, _, v5, -⟩ := T.row_ne T.out (by decide)
  refine ⟨grown_block hg T.blk (by simpa using n2.symm), T.tab.grown hg (by simpa using T.ms.1), hn, T.on.grown hg (by simpa using T.ms.2.2.symm), T.stk.kept hg (.inr v1.symm), T.out.kept hg (.inr v5.symm), T.cmp.grown hg (fun i v hv => ?_), T.ms, T.ge, T.av, fun k hk => Nat.lt_of_lt_of_le (T.rlt k hk) hg.size⟩
  obtain ⟨c, h⟩ := T.cmp.lt hv
  exact .inr (T.row_ne h (by decide)).2.2.1.symm
theorem TarB.setOn (T : TarB w B bt m1 m2 m3 fv vs vo vals s os R) (hg : w.grownBy w' (some m3)) {os' : List Int} (hn : SetMap w' m3 os') : TarB w' B bt m1 m2 m3 fv vs vo vals s os' R := by
  obtain ⟨n1, n2, n3⟩ := T.m_ne
  obtain ⟨_, _, _, v1⟩ := T.row_ne T.stk (by decide)
  obtain ⟨_, _, _, v5⟩ := T.row_ne T.out (by decide)
  refine ⟨grown_block hg T.blk (by simpa using n3.symm), T.tab.grown hg (by simpa using T.ms.2.1), T.low.grown hg (by simpa using T.ms.2.2), hn, T.stk.kept hg (.inr v1.symm), T.out.kept hg (.inr v5.symm), T.cmp.grown hg (fun i v hv => ?_), T.ms, T.ge, T.av, fun k hk => Nat.lt_of_lt_of_le (T.rlt k hk) hg.size⟩
  obtain ⟨c, h⟩ := T.cmp.lt hv
  exact .inr (T.row_ne h (by decide)).2.2.2.symm

/-- all blocks of its own lie below H -/
structure Lim (H bt m1 m2 m3 : Nat) (vs vo : Value) (vals : List Value) : Prop where
  ms : bt < H ∧ m1 < H ∧ m2 < H ∧ m3 < H
  vs : ∀ k, vs.ownBlock = some k → k < H
  vo : ∀ k, vo.ownBlock = some k → k < H
  vals : ∀ (i : Nat) (v : Value), vals[i]? = some v → ∀ k, v.ownBlock = some k → k < H
theorem TarB.lim (T : TarB w B bt m1 m2 m3 fv vs vo vals s os R) : Lim w.heap.size bt m1 m2 m3 vs vo vals :=
  ⟨T.m_lt, fun k hk => (T.stk.lt k hk).2, fun k hk => (T.out.lt k hk).2, fun i v hv k hk => by
    obtain ⟨c, h⟩ := T.cmp.lt hv
    exact (h.lt k hk).2⟩
theorem TarB.far (T : TarB w B bt m1 m2 m3 fv vs vo vals s os R) {H : Nat} (L : Lim H bt m1 m2 m3 vs vo vals) {row : Option Nat} (hg : w.grownBy w' row) (hr : ∀ k, row = some k → H ≤ k) : TarB w' B bt m1 m2 m3 fv vs vo vals s os R := by
  have hn : ∀ k, k < H → some k ≠ row := fun k hk e => by have := hr k e.symm; omega
  have hv : ∀ v : Value, (∀ k, v.ownBlock = some k → k < H) → v.ownBlock = none ∨ v.ownBlock ≠ row := fun v h => by
    cases e : v.ownBlock with
    | none => exact .inl rfl
    | some k => exact .inr (hn k (h k e))
  exact T.keep hg (hn _ L.ms.1) (hn _ L.ms.2.1) (hn _ L.ms.2.2.1) (hn _ L.ms.2.2.2) (hv _ L.vs) (hv _ L.vo) (fun i v h => hv _ (L.vals i v h))


theorem TarB.push (T : TarB w B bt m1 m2 m3 fv vs vo vals s os R) {wA w1 : World} {x : Int} {g cap : Nat} (hgA : w.grownBy wA none) (hg : wA.grownBy w1 vs.ownBlock)
    (ho : w1.ownsRow B nodT 1 (.slice (some ⟨g, 0, none⟩) (s.stk.length + 1) cap) (s.stk.length + 1) (s.stk.reverse.map nodeV ++ [nodeV x])) (hat : vs.ownBlock = some g ∨ w.heap.size ≤ g) :
    TarB (w1.setCell ⟨bt, 5, none⟩ (.slice (some ⟨g, 0, none⟩) (s.stk.length + 1) cap)) B bt m1 m2 m3 fv (.slice (some ⟨g, 0, none⟩) (s.stk.length + 1) cap) vo vals { s with stk := x :: s.stk } os R := by
  have TA := T.grown hgA
  obtain ⟨r1, r2, r3, r4⟩ := TA.row_ne TA.stk (by decide)
  have hb1 := grown_block hg TA.blk r1
  have hg2 := grown_setCell w1 bt 5 (.slice (some ⟨g, 0, none⟩) (s.stk.length + 1) cap)
  obtain ⟨n1, n2, n3⟩ := TA.m_ne
  have hrow : (x :: s.stk).reverse.map nodeV = s.stk.reverse.map nodeV ++ [nodeV x] := by simp
  have ho1 := TA.out.kept hg (row_ne_row TA.out TA.stk (by decide))
  have hbv : ∀ (i : Nat) (v : Value), vals[i]? = some v → v.ownBlock = none ∨ v.ownBlock ≠ (Value.slice (some ⟨g, 0, none⟩) (s.stk.length + 1) cap).ownBlock := fun i v hv => by
    have hi := (List.getElem?_eq_some_iff.1 hv).1
    rw [T.cmp.1] at hi
    obtain ⟨h1, h2⟩ := T.cmp.2 i v _ hv (List.getElem?_eq_getElem hi)
    rcases h2 with h2 | h2
    · exact .inl h2
    · right
      intro e
      rcases hat with h3 | h3
      · exact h2 (e.trans h3.symm)
      · have := (h1.lt g e).2
        omega
  refine ⟨block_set hb1 5 _, (TA.tab.grown hg r2).grown hg2 (by simpa using n1), (TA.low.grown hg r3).grown hg2 (by simpa using n2), (TA.on.grown hg r4).grown hg2 (by simpa using n3), ?_, ?_, ?_, T.ms, T.ge, fun k hk => ?_, fun k hk => ?_⟩
  · rw [hrow]
    exact ho.kept hg2 (.inr (own_ne_type ho hb1 (by decide)).symm)
  · exact ho1.kept hg2 (.inr (own_ne_type ho1 hb1 (by decide)).symm)
  · refine ⟨T.cmp.1, fun i v c hv hc => ?_⟩
    obtain ⟨h1, h2⟩ := TA.cmp.2 i v c hv hc
    have h3 := h1.kept hg h2
    exact ⟨h3.kept hg2 (.inr (own_ne_type h3 hb1 (by decide)).symm), hbv i v hv⟩
  · obtain ⟨a1, a2, a3, a4, a5, a6⟩ := T.av k hk
    refine ⟨a1, a2, a3, a4, ?_, a6⟩
    intro e
    have e1 : k = g := by simpa [Value.ownBlock] using e
    subst e1
    rcases hat with h | h
    · exact a5 h.symm
    · have := T.rlt k hk
      omega
  · have h1 := TA.rlt k hk
    have := hg.size
    simp [World.setCell]
    omega

theorem own_short {b e n cap g : Nat} {xs : List Value} {x : Value} (h : w.ownsRow b e 1 (.slice (some ⟨g, 0, none⟩) (n + 1) cap) (n + 1) (xs ++ [x])) : w.ownsRow b e 1 (.slice (some ⟨g, 0, none⟩) n cap) n xs := by
  have hl : xs.length = n := by have := own_of_list h; simpa using this
  obtain ⟨-, h | ⟨g', cap', cur, e1, hb, hh, hc, hm, hs, ht⟩⟩ := h
  · simp at h
  · simp only [Value.slice.injEq, Option.some.injEq, Addr.mk.injEq, and_true, true_and] at e1
    obtain ⟨rfl, rfl⟩ := e1
    refine ⟨by omega, .inr ⟨g, cap, cur, rfl, hb, hh, by omega, hm, hs, ?_⟩⟩
    have := congrArg (List.take n) ht
    rw [List.take_take, Nat.mul_one, Nat.min_eq_left (by omega), List.take_left' hl] at this
    rw [Nat.mul_one]
    exact this

theorem TarB.pop {g cap : Nat} {x : Int} {l : List Int} (T : TarB w B bt m1 m2 m3 fv (.slice (some ⟨g, 0, none⟩) (l.length + 1) cap) vo vals s os R) (hs : s.stk = x :: l) :
    TarB (w.setCell ⟨bt, 5, none⟩ (.slice (some ⟨g, 0, none⟩) l.length cap)) B bt m1 m2 m3 fv (.slice (some ⟨g, 0, none⟩) l.length cap) vo vals { s with stk := l } os R := by
  obtain ⟨h2, h3, h4, h5, h6, h7, h8⟩ := T.store 5 (.slice (some ⟨g, 0, none⟩) l.length cap)
  rw [hs] at h5
  simp only [List.length_cons, List.reverse_cons, List.map_append, List.map_cons, List.map_nil] at h5
  exact ⟨block_set T.blk 5 _, h2, h3, h4, own_short h5, h6, h7, T.ms, T.ge, T.av, h8⟩

theorem TarB.more (T : TarB w B bt m1 m2 m3 fv vs vo vals s os R) {wA w1 : World} {v : Value} {c : List Int} {g cap : Nat} (hv : w.ownsRow B nodT 1 v c.length (c.map nodeV)) (hap : v.ownBlock = none ∨ v.ownBlock ≠ vs.ownBlock) (hgA : w.grownBy wA none) (hg : wA.grownBy w1 vo.ownBlock)
    (ho : w1.ownsRow B nodsT 1 (.slice (some ⟨g, 0, none⟩) (s.out.length + 1) cap) (s.out.length + 1) (vals ++ [v])) (hat : vo.ownBlock = some g ∨ w.heap.size ≤ g) :
    TarB (w1.setCell ⟨bt, 6, none⟩ (.slice (some ⟨g, 0, none⟩) (s.out.length + 1) cap)) B bt m1 m2 m3 fv vs (.slice (some ⟨g, 0, none⟩) (s.out.length + 1) cap) (vals ++ [v]) { s with out := c :: s.out } os R := by
  have TA := T.grown hgA
  have hvA := own_new hv hgA
  obtain ⟨r1, r2, r3, r4⟩ := TA.row_ne TA.out (by decide)
  have hb1 := grown_block hg TA.blk r1
  have hg2 := grown_setCell w1 bt 6 (.slice (some ⟨g, 0, none⟩) (s.out.length + 1) cap)
  obtain ⟨n1, n2, n3⟩ := TA.m_ne
  have hs1 := TA.stk.kept hg (row_ne_row TA.stk TA.out (by decide))
  have hrow : ∀ {n : Nat} {u : Value} {xs : List Value}, wA.ownsRow B nodT 1 u n xs → (w1.setCell ⟨bt, 6, none⟩ (.slice (some ⟨g, 0, none⟩) (s.out.length + 1) cap)).ownsRow B nodT 1 u n xs := fun {n u xs} h => by
    have h3 := h.kept hg (row_ne_row h TA.out (by decide))
    exact h3.kept hg2 (.inr (own_ne_type h3 hb1 (by decide)).symm)
  refine ⟨block_set hb1 6 _, (TA.tab.grown hg r2).grown hg2 (by simpa using n1), (TA.low.grown hg r3).grown hg2 (by simpa using n2), (TA.on.grown hg r4).grown hg2 (by simpa using n3), hrow TA.stk, ?_, ?_, T.ms, T.ge, fun k hk => ?_, fun k hk => ?_⟩
  · exact ho.kept hg2 (.inr (own_ne_type ho hb1 (by decide)).symm)
  · have hlen := T.cmp.1
    refine ⟨by simp at hlen; simp [hlen], fun i u d hu hd => ?_⟩
    show _ ∧ _
    rw [List.reverse_cons] at hd
    by_cases hi : i < vals.length
    · rw [List.getElem?_append_left hi] at hu
      rw [List.getElem?_append_left (by rw [← hlen]; exact hi)] at hd
      obtain ⟨h1, h2⟩ := TA.cmp.2 i u d hu hd
      exact ⟨hrow h1, h2⟩
    · have hi2 : i = vals.length := by
        have := (List.getElem?_eq_some_iff.1 hu).1
        simp at this
        omega
      subst hi2
      rw [List.getElem?_append_right (by omega), Nat.sub_self] at hu
      rw [hlen, List.getElem?_append_right (by omega), Nat.sub_self] at hd
      simp at hu hd
      subst hu hd
      exact ⟨hrow hvA, hap⟩
  · obtain ⟨a1, a2, a3, a4, a5, a6⟩ := T.av k hk
    refine ⟨a1, a2, a3, a4, a5, ?_⟩
    intro e
    have e1 : k = g := by simpa [Value.ownBlock] using e
    subst e1
    rcases hat with h | h
    · exact a6 h.symm
    · have := T.rlt k hk
      omega
  · have h1 := TA.rlt k hk
    have := hg.size
    simp [World.setCell]
    omega

def Prot (R : Nat → Prop) (v : Value) : Nat → Prop := fun k => R k ∨ v.ownBlock = some k
theorem TarB.protect {w6 : World} (T : TarB w B bt m1 m2 m3 fv vs vo vals s os R) (hg : w.grownBy w6 none) {e n : Nat} {vl : Value} {xs : List Value} (h : w6.ownsRow w.heap.size e 1 vl n xs) : TarB w6 B bt m1 m2 m3 fv vs vo vals s os (Prot R vl) := by
  have T6 := T.grown hg
  have L := T.lim
  refine ⟨T6.blk, T6.tab, T6.low, T6.on, T6.stk, T6.out, T6.cmp, T6.ms, T6.ge, fun k hk => ?_, fun k hk => ?_⟩
  · rcases hk with hk | hk
    · exact T.av k hk
    · have h1 := (h.lt k hk).1
      have hne : ∀ j, j < w.heap.size → k ≠ j := fun j hj e => by omega
      refine ⟨hne _ L.ms.1, hne _ L.ms.2.1, hne _ L.ms.2.2.1, hne _ L.ms.2.2.2, fun e => ?_, fun e => ?_⟩
      · have := L.vs k e.symm; omega
      · have := L.vo k e.symm; omega
  · rcases hk with hk | hk
    · exact T6.rlt k hk
    · exact (h.lt k hk).2
theorem TarB.sub {R' : Nat → Prop} (T : TarB w B bt m1 m2 m3 fv vs vo vals s os R) (hs : ∀ k, R' k → R k) : TarB w B bt m1 m2 m3 fv vs vo vals s os R' :=
  ⟨T.blk, T.tab, T.low, T.on, T.stk, T.out, T.cmp, T.ms, T.ge, fun k hk => T.av k (hs k hk), fun k hk => T.rlt k (hs k hk)⟩
theorem Kp.grown {w0 : World} (hg : w0.grownBy w none) (hR : ∀ k, k < w0.heap.size → R k) (hk : Kp R w w') : w0.grownBy w' none :=
  ⟨hk.os.trans hg.os, hk.tape.trans hg.tape, hk.output.trans hg.output, Nat.le_trans hg.size hk.size, fun k h _ => (hk.blk k (hR k h)).trans (hg.block k h (by simp))⟩
theorem Kp.own {e n : Nat} {vl : Value} {xs : List Value} {b : Nat} (h : w.ownsRow b e 1 vl n xs) (hk : Kp (Prot R vl) w w') : w'.ownsRow b e 1 vl n xs := by
  refine ⟨h.1, ?_⟩
  rcases h.2 with h2 | ⟨g, cap, cur, rfl, h4, h5, h6⟩
  · exact .inl h2
  · exact .inr ⟨g, cap, cur, rfl, h4, (hk.blk g (.inr rfl)).trans h5, h6⟩
end
end Go.Proofs.YtdllkoiddlcnmaaGreat
