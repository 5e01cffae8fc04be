/- (*plain).lay: an edge laid into the rows of a plain graph. -/
import Derived.Test.YtinlaaeoiocfoaaSe
import Derived.Test.YtinlaaeoiocfoaaGd
import Derived.Deep.CutBlock
import Derived.Deep.DeepCutAuto
namespace Go.Proofs.Ytinlaaeoiocfoaa
open Go.MapKept Go.RowKit

def updN {α : Type} (f : Nat → α) (i : Nat) (x : α) : Nat → α := fun j => if j = i then x else f j
theorem updN_self {α : Type} (f : Nat → α) (i : Nat) (x : α) : updN f i x i = x := by simp [updN]
theorem updN_ne {α : Type} (f : Nat → α) {i j : Nat} (x : α) (h : j ≠ i) : updN f i x j = f j := by simp [updN, h]

abbrev arcT : TypeId := 112
abbrev idT : TypeId := 2
abbrev arcsT : TypeId := 89
abbrev plnT : TypeId := 70

/-- the memory of a plain graph that is being built: rows 0 .. n - 1 lead out, rows n .. 2 n - 1 in -/
structure Arcs2 (w : World) (B p0 Ro Ri n : Nat) (ids : List Int) (vids : Value) (V : Nat → Value) (F : Nat → Nat → Option Int) : Prop where
  blk : w.heap[p0]? = some (.cells #[vids, .slice (some ⟨Ro, 0, none⟩) n n, .slice (some ⟨Ri, 0, none⟩) n n] plnT (0, 0))
  ro : w.rowIs Ro arcsT n V
  ri : w.rowIs Ri arcsT n (fun r => V (n + r))
  own : ∀ r, r < 2 * n → w.ownsRow B arcT 2 (V r) (arcsOf n (F r)).length (arcCells (arcsOf n (F r)))
  sep : ∀ r s, r < 2 * n → s < 2 * n → r ≠ s → (V r).ownBlock = none ∨ (V r).ownBlock ≠ (V s).ownBlock
  ne : Ro ≠ Ri
  base : B ≤ p0 ∧ B ≤ Ro ∧ B ≤ Ri
  idr : w.ownsRow B idT 1 vids n (ids.map (Value.int .i64))

theorem own_ne_type {w : World} {b1 : Nat} {s1 : Nat} {v1 : Value} {n1 : Nat} {x1 : List Value} {e : TypeId} (h : w.ownsRow b1 e s1 v1 n1 x1) {S : Nat} {c : Array Value} {t : TypeId} {f : Nat × Nat} (hS : w.heap[S]? = some (.cells c t f)) (hne : e ≠ t) : some S ≠ v1.ownBlock :=
  fun h' => row_ne_block h hS hne h'.symm

section
variable {w w1 : World} {B p0 Ro Ri n : Nat} {ids : List Int} {vids : Value} {V : Nat → Value} {F : Nat → Nat → Option Int}

theorem Arcs2.nes (A : Arcs2 w B p0 Ro Ri n ids vids V F) {r : Nat} (hr : r < 2 * n) : some p0 ≠ (V r).ownBlock ∧ some Ro ≠ (V r).ownBlock ∧ some Ri ≠ (V r).ownBlock := by
  obtain ⟨c1, h1, _⟩ := A.ro
  obtain ⟨c2, h2, _⟩ := A.ri
  exact ⟨own_ne_type (A.own r hr) A.blk (by decide), own_ne_type (A.own r hr) h1 (by decide), own_ne_type (A.own r hr) h2 (by decide)⟩

theorem Arcs2.neo (A : Arcs2 w B p0 Ro Ri n ids vids V F) : p0 ≠ Ro ∧ p0 ≠ Ri := by
  obtain ⟨c1, h1, _⟩ := A.ro
  obtain ⟨c2, h2, _⟩ := A.ri
  constructor
  · rintro rfl
    rw [A.blk] at h1
    simp at h1
    exact absurd h1.2 (by decide)
  · rintro rfl
    rw [A.blk] at h2
    simp at h2
    exact absurd h2.2 (by decide)

theorem Fresh.own_ne {v v' : Value} (hf : Fresh w v v') {u : Value} (h1 : v.ownBlock = none ∨ v.ownBlock ≠ u.ownBlock) (h2 : ∀ k, u.ownBlock = some k → k < w.heap.size) : v'.ownBlock = none ∨ v'.ownBlock ≠ u.ownBlock := by
  rcases hf with e | ⟨k, e, hk⟩
  · rw [e]; exact h1
  · right
    rw [e]
    intro e2
    have := h2 k e2.symm
    omega

/-- behind the call: the rows but one -/
structure Mid (w w1 : World) (B p0 Ro Ri n : Nat) (ids : List Int) (vids : Value) (V : Nat → Value) (F : Nat → Nat → Option Int) (r : Nat) (v' : Value) (f' : Nat → Option Int) : Prop where
  a : Arcs2 w B p0 Ro Ri n ids vids V F
  lt : r < 2 * n
  g : w.grownBy w1 (V r).ownBlock
  o : w1.ownsRow B arcT 2 v' (arcsOf n f').length (arcCells (arcsOf n f'))
  f : Fresh w (V r) v'

theorem sep_upd {v' : Value} {r : Nat} (A : Arcs2 w B p0 Ro Ri n ids vids V F) (hf : Fresh w (V r) v') (hr : r < 2 * n) : ∀ a b, a < 2 * n → b < 2 * n → a ≠ b → (updN V r v' a).ownBlock = none ∨ (updN V r v' a).ownBlock ≠ (updN V r v' b).ownBlock := by
  intro a b ha hb hab
  have hlt : ∀ s, s < 2 * n → ∀ k, (V s).ownBlock = some k → k < w.heap.size := fun s hs k hk => ((A.own s hs).lt k hk).2
  by_cases h1 : a = r
  · subst h1
    rw [updN_self, updN_ne _ _ (Ne.symm hab)]
    exact hf.own_ne (A.sep a b ha hb hab) (hlt b hb)
  · by_cases h2 : b = r
    · subst h2
      rw [updN_self, updN_ne _ _ hab]
      rcases hf.own_ne (A.sep b a hb ha (Ne.symm hab)) (hlt a ha) with h | h
      · rw [h]
        cases (V a).ownBlock with
        | none => exact .inl rfl
        | some k => exact .inr (by simp)
      · exact .inr (Ne.symm h)
    · rw [updN_ne _ _ h1, updN_ne _ _ h2]
      exact A.sep a b ha hb hab

theorem Mid.done {r : Nat} {v' : Value} {f' : Nat → Option Int} (M : Mid w w1 B p0 Ro Ri n ids vids V F r v' f') {w2 : World} {S : Nat} (hS : S = Ro ∨ S = Ri) (hg2 : w1.grownBy w2 (some S)) (hbl : w2.heap[p0]? = w1.heap[p0]?)
    (h1 : w2.rowIs Ro arcsT n (updN V r v')) (h2 : w2.rowIs Ri arcsT n (fun s => updN V r v' (n + s))) : Arcs2 w2 B p0 Ro Ri n ids vids (updN V r v') (updN F r f') ∧ Below B w w2 := by
  obtain ⟨A, hr, hg, ho, hf⟩ := M
  obtain ⟨c1, k1, _⟩ := A.ro
  obtain ⟨c2, k2, _⟩ := A.ri
  obtain ⟨n1, n2, n3⟩ := A.nes hr
  have hS1 : ∃ c, w1.heap[S]? = some (.cells c arcsT (0, 0)) := by
    rcases hS with rfl | rfl
    · exact ⟨c1, grown_block hg k1 n2⟩
    · exact ⟨c2, grown_block hg k2 n3⟩
  obtain ⟨cS, hcS⟩ := hS1
  have hid := A.idr.kept hg (row_ne_row A.idr (A.own r hr) (by decide))
  refine ⟨⟨?_, h1, h2, ?_, sep_upd A hf hr, A.ne, A.base, hid.kept hg2 (.inr (own_ne_type hid hcS (by decide)).symm)⟩, ?_⟩
  · rw [hbl]; exact grown_block hg A.blk n1
  · intro s hs
    by_cases e : s = r
    · subst e
      rw [updN_self, updN_self]
      exact ho.kept hg2 (.inr (own_ne_type ho hcS (by decide)).symm)
    · rw [updN_ne _ _ e, updN_ne _ _ e]
      have h3 := (A.own s hs).kept hg (A.sep s r hs hr e)
      exact h3.kept hg2 (.inr (own_ne_type h3 hcS (by decide)).symm)
  · have b1 : Below B w w1 := ⟨hg.os, hg.tape, hg.output, hg.size, fun k hk => by
      refine hg.block k ?_ ?_
      · have := block_lt A.blk; have := A.base.1; omega
      · intro e
        have := ((A.own r hr).lt k e.symm).1
        omega⟩
    refine b1.trans ⟨hg2.os, hg2.tape, hg2.output, hg2.size, fun k hk => hg2.block k ?_ ?_⟩
    · have := block_lt A.blk; have := A.base.1; have := hg.size; omega
    · intro e
      cases e
      rcases hS with rfl | rfl
      · have := A.base.2.1; omega
      · have := A.base.2.2; omega

theorem Mid.out {r : Nat} {v' : Value} {f' : Nat → Option Int} (M : Mid w w1 B p0 Ro Ri n ids vids V F r v' f') (hr : r < n) : Arcs2 (w1.setCell ⟨Ro, r, none⟩ v') B p0 Ro Ri n ids vids (updN V r v') (updN F r f') ∧ Below B w (w1.setCell ⟨Ro, r, none⟩ v') := by
  obtain ⟨n1, n2, n3⟩ := M.a.nes M.lt
  refine M.done (.inl rfl) (grown_setCell w1 Ro r v') (Below.heap_setCell _ _ _ _ M.a.neo.1) ?_ ?_
  · refine ((rowIs_grown M.a.ro M.g n2).set r v').congr (fun j _ => ?_)
    unfold updN
    by_cases e : j = r <;> simp [e]
  · refine ((rowIs_grown M.a.ri M.g n3).setOther (a := ⟨Ro, r, none⟩) (Ne.symm M.a.ne) v').congr (fun j _ => ?_)
    rw [updN_ne _ _ (by omega)]

theorem Mid.in_ {r : Nat} {v' : Value} {f' : Nat → Option Int} (M : Mid w w1 B p0 Ro Ri n ids vids V F (n + r) v' f') : Arcs2 (w1.setCell ⟨Ri, r, none⟩ v') B p0 Ro Ri n ids vids (updN V (n + r) v') (updN F (n + r) f') ∧ Below B w (w1.setCell ⟨Ri, r, none⟩ v') := by
  obtain ⟨n1, n2, n3⟩ := M.a.nes M.lt
  refine M.done (.inr rfl) (grown_setCell w1 Ri r v') (Below.heap_setCell _ _ _ _ M.a.neo.2) ?_ ?_
  · refine ((rowIs_grown M.a.ro M.g n2).setOther (a := ⟨Ri, r, none⟩) M.a.ne v').congr (fun j hj => ?_)
    rw [updN_ne _ _ (by omega)]
  · refine ((rowIs_grown M.a.ri M.g n3).set r v').congr (fun j _ => ?_)
    unfold updN
    by_cases e : j = r
    · simp [e]
    · simp [e]
end

/-- a matrix's rows: those that lead out, those that lead in -/
def rowsOf (n : Nat) (M : Mat) : Nat → Nat → Option Int := fun r => if r < n then fun k => M r k else fun k => M k (r - n)
theorem rowsOf_set {n i k : Nat} (M : Mat) (z : Int) (hi : i < n) : updN (updN (rowsOf n M) i (putArc (rowsOf n M i) k z)) (n + k) (putArc (rowsOf n M (n + k)) i z) = rowsOf n (M.set i k z) := by
  funext r x
  unfold updN rowsOf putArc Mat.set
  by_cases h1 : r = n + k
  · subst h1
    simp only [if_true, show ¬ n + k < n by omega, if_false, Nat.add_sub_cancel_left, and_true]
  · rw [if_neg h1]
    by_cases h2 : r = i
    · subst h2
      simp [hi]
    · rw [if_neg h2]
      by_cases h3 : r < n
      · simp [h3, h2]
      · have : ¬ r - n = k := by omega
        simp [h3, this]

def LayPost (B p0 Ro Ri n : Nat) (ids : List Int) (vids : Value) (M : Mat) (w : World) (e : Ending) (w' : World) : Prop := e = .returned (.tuple #[]) ∧ (∃ V, Arcs2 w' B p0 Ro Ri n ids vids V (rowsOf n M)) ∧ Below B w w'
def LayMid (B p0 Ro Ri n : Nat) (ids : List Int) (vids : Value) (F : Nat → Nat → Option Int) (w : World) (w' : World) : Prop := (∃ V, Arcs2 w' B p0 Ro Ri n ids vids V F) ∧ Below B w w'

theorem Arcs2.drew {w : World} {B p0 Ro Ri n : Nat} {ids : List Int} {vids : Value} {V : Nat → Value} {F : Nat → Nat → Option Int} (A : Arcs2 w B p0 Ro Ri n ids vids V F) : Arcs2 w.drew B p0 Ro Ri n ids vids V F :=
  ⟨A.blk, A.ro, A.ri, A.own, A.sep, A.ne, A.base, A.idr⟩

theorem Mid.of {w w1 : World} {B p0 Ro Ri n : Nat} {ids : List Int} {vids : Value} {V : Nat → Value} {F : Nat → Nat → Option Int} (A : Arcs2 w.drew B p0 Ro Ri n ids vids V F) {r : Nat} (hr : r < 2 * n) {v' : Value} {f' : Nat → Option Int} (hg : w.drew.grownBy w1 (V r).ownBlock) (ho : w1.ownsRow B arcT 2 v' (arcsOf n f').length (arcCells (arcsOf n f'))) (hf : Fresh w.drew (V r) v') : Mid w w1 B p0 Ro Ri n ids vids V F r v' f' :=
  ⟨⟨A.blk, A.ro, A.ri, A.own, A.sep, A.ne, A.base, A.idr⟩, hr, ⟨hg.os, hg.tape, hg.output, hg.size, hg.block⟩, ho, hf⟩

set_option maxHeartbeats 4000000 in
set_option maxRecDepth 100000 in
theorem lay_any {w : World} {B p0 Ro Ri n i k : Nat} {ids : List Int} {vids : Value} {M : Mat} {z : Int} {dir : Bool} {V : Nat → Value} (A : Arcs2 w B p0 Ro Ri n ids vids V (rowsOf n M)) (hn : n ≤ 1000) (hi : i < n) (hk : k < n) :
    Calls Try.prog 29 #[.pointer (some ⟨p0, 0, none⟩), .int .i64 i, .int .i64 k, flt z, .bool dir] w (LayPost B p0 Ro Ri n ids vids (lay M i k z dir) w) := by
  replace A := A.drew
  have hcall := set_any (n := n) (f := rowsOf n M (i)) (k := k) (z := z) (w := w.drew) hn hk (by have := A.base.1; have := block_lt A.blk; omega) (A.own (i) (by omega))
  have c1 : w.cell? ⟨p0, 1, none⟩ = _ := cell_at (j := 1) A.blk
  have c3 : w.cell? ⟨Ro, i, none⟩ = some (V (i)) := A.ro.cell (by assumption)
  obtain ⟨n1, n2, n3⟩ := A.nes (r := i) (by omega)
  have hlt := block_lt A.blk
  have hro := A.ro.lt
  have hf3 := A.ro.frozen i
  have HA := Lib.hid A
  simp at c1
  clear A
  have HR := Lib.hid (rowsOf_set (k := k) M z hi)
  go_enter Try.func29, Try.ntmps29
  go_wp2_with fail
  go_cut [] (fun wx => LayMid B p0 Ro Ri n ids vids (updN (rowsOf n M) i (putArc (rowsOf n M i) k z)) w wx)
  case first =>
    go_region_with (go_at_call 34; refine hcall.mono ?_; rintro e w1 ⟨v', rfl, ho, hg, hf⟩; obtain ⟨a', c', rfl⟩ := own_slice ho; have d1 := (grown_cell hg hlt n1).trans c1; have d2 := (grown_cell hg hro n2).trans c3; have d3 := (World.frozen?_of_block (a := ⟨Ro, i, none⟩) (hg.block Ro hro n2)).trans hf3)
    all_goals (try go_wp2_with fail)
    all_goals go_meet
    all_goals
      obtain ⟨A1, B1⟩ := (Mid.of HA.out (by omega) hg ho hf).out hi
      exact ⟨⟨_, A1⟩, B1⟩
  case rest =>
    clear HA hcall c1 c3 n1 n2 n3 hlt hro hf3 V
    obtain ⟨⟨V, A⟩, hbel⟩ := hcut
    have hFk : updN (rowsOf n M) i (putArc (rowsOf n M i) k z) (n + k) = rowsOf n M (n + k) := updN_ne _ _ (by omega)
    replace A := A.drew
    have hcall := set_any (n := n) (f := updN (rowsOf n M) i (putArc (rowsOf n M i) k z) (n + k)) (k := i) (z := z) (w := wc.drew) hn hi (by have := A.base.1; have := block_lt A.blk; omega) (A.own (n + k) (by omega))
    have c1 : wc.cell? ⟨p0, 2, none⟩ = _ := cell_at (j := 2) A.blk
    have c3 : wc.cell? ⟨Ri, k, none⟩ = some (V (n + k)) := A.ri.cell (by assumption)
    obtain ⟨n1, n2, n3⟩ := A.nes (r := n + k) (by omega)
    have hlt := block_lt A.blk
    have hro := A.ri.lt
    have hf3 := A.ri.frozen k
    have HA := Lib.hid A
    simp at c1
    clear A
    rw [hFk] at hcall
    clear hFk
    go_wp2_with fail
    go_cut [] (fun wx => LayMid B p0 Ro Ri n ids vids (rowsOf n (M.set i k z)) w wx)
    case first =>
      go_region_with (go_at_call 34; refine hcall.mono ?_; rintro e w1 ⟨v', rfl, ho, hg, hf⟩; obtain ⟨a', c', rfl⟩ := own_slice ho; have d1 := (grown_cell hg hlt n1).trans c1; have d2 := (grown_cell hg hro n3).trans c3; have d3 := (World.frozen?_of_block (a := ⟨Ri, k, none⟩) (hg.block Ri hro n3)).trans hf3)
      all_goals (try go_wp2_with fail)
      all_goals go_meet
      all_goals
        obtain ⟨A1, B1⟩ := (Mid.of HA.out (by omega) hg ho hf).in_
        rw [HR.out] at A1
        exact ⟨⟨_, A1⟩, hbel.trans B1⟩
    case rest =>
      clear HA hcall c1 c3 n1 n2 n3 hlt hro hf3 hbel V
      obtain ⟨⟨V, A⟩, hbel⟩ := hcut
      have HR2 := Lib.hid (rowsOf_set (k := i) (M.set i k z) z hk)
      cases dir
      · replace A := A.drew
        have hcall := set_any (n := n) (f := rowsOf n (M.set i k z) (k)) (k := i) (z := z) (w := wc.drew) hn hi (by have := A.base.1; have := block_lt A.blk; omega) (A.own (k) (by omega))
        have c1 : wc.cell? ⟨p0, 1, none⟩ = _ := cell_at (j := 1) A.blk
        have c3 : wc.cell? ⟨Ro, k, none⟩ = some (V (k)) := A.ro.cell (by assumption)
        obtain ⟨n1, n2, n3⟩ := A.nes (r := k) (by omega)
        have hlt := block_lt A.blk
        have hro := A.ro.lt
        have hf3 := A.ro.frozen k
        have HA := Lib.hid A
        simp at c1
        clear A
        go_wp2_with fail
        go_cut [] (fun wx => LayMid B p0 Ro Ri n ids vids (updN (rowsOf n (M.set i k z)) k (putArc (rowsOf n (M.set i k z) k) i z)) w wx)
        case first =>
          go_region_with (go_at_call 34; refine hcall.mono ?_; rintro e w1 ⟨v', rfl, ho, hg, hf⟩; obtain ⟨a', c', rfl⟩ := own_slice ho; have d1 := (grown_cell hg hlt n1).trans c1; have d2 := (grown_cell hg hro n2).trans c3; have d3 := (World.frozen?_of_block (a := ⟨Ro, k, none⟩) (hg.block Ro hro n2)).trans hf3)
          all_goals (try go_wp2_with fail)
          all_goals go_meet
          all_goals
            obtain ⟨A1, B1⟩ := (Mid.of HA.out (by omega) hg ho hf).out hk
            exact ⟨⟨_, A1⟩, hbel.trans B1⟩
        case rest =>
          clear HA hcall c1 c3 n1 n2 n3 hlt hro hf3 hbel V
          obtain ⟨⟨V, A⟩, hbel⟩ := hcut
          have hFk : updN (rowsOf n (M.set i k z)) k (putArc (rowsOf n (M.set i k z) k) i z) (n + i) = rowsOf n (M.set i k z) (n + i) := updN_ne _ _ (by omega)
          replace A := A.drew
          have hcall := set_any (n := n) (f := updN (rowsOf n (M.set i k z)) k (putArc (rowsOf n (M.set i k z) k) i z) (n + i)) (k := k) (z := z) (w := wc.drew) hn hk (by have := A.base.1; have := block_lt A.blk; omega) (A.own (n + i) (by omega))
          have c1 : wc.cell? ⟨p0, 2, none⟩ = _ := cell_at (j := 2) A.blk
          have c3 : wc.cell? ⟨Ri, i, none⟩ = some (V (n + i)) := A.ri.cell (by assumption)
          obtain ⟨n1, n2, n3⟩ := A.nes (r := n + i) (by omega)
          have hlt := block_lt A.blk
          have hro := A.ri.lt
          have hf3 := A.ri.frozen i
          have HA := Lib.hid A
          simp at c1
          clear A
          rw [hFk] at hcall
          clear hFk
          go_wp2_with fail
          go_region_with (go_at_call 34; refine hcall.mono ?_; rintro e w1 ⟨v', rfl, ho, hg, hf⟩; obtain ⟨a', c', rfl⟩ := own_slice ho; have d1 := (grown_cell hg hlt n1).trans c1; have d2 := (grown_cell hg hro n3).trans c3; have d3 := (World.frozen?_of_block (a := ⟨Ri, i, none⟩) (hg.block Ri hro n3)).trans hf3)
          all_goals go_wp2_with fail
          all_goals go_end0
          all_goals
            obtain ⟨A1, B1⟩ := (Mid.of HA.out (by omega) hg ho hf).in_
            rw [HR2.out] at A1
            exact ⟨rfl, ⟨_, A1⟩, hbel.trans B1⟩
      · have HA := Lib.hid A
        clear A
        go_wp2_with fail
        go_end0
        exact ⟨rfl, ⟨V, HA.out⟩, hbel⟩
end Go.Proofs.Ytinlaaeoiocfoaa
