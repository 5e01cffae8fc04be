/- The laws' own: shape. -/
import Derived.Test.YtcbkalppclilfaaGreatEr
import Derived.Test.YtcbkalppclilfaaGreatIt
import Derived.Test.YtcbkalppclilfaaGreatLd
namespace Go.Proofs.YtcbkalppclilfaaGreat
open Go.MapKept Go.RowKit

def shp (e : E3) : E3 := (e.1, e.2.1, 0)
def ShPost (d : Bool) (vn : Value) (E : List E3) (w : World) (e : Ending) (w' : World) : Prop := ∃ ve, e = .returned (.agg #[.bool d, vn, ve]) ∧ EdgesR w' ve (E.map shp) ∧ w.grownBy w' none
def ShRel (d : Bool) (vn : Value) (E : List E3) (B g : Nat) (w5 : World) (i : Value) (wr : World) : Prop :=
  ∃ (k : Nat) (ve : Value), k ≤ E.length ∧ i = .int .i64 k ∧ wr.heap[g]? = some (.cells #[.bool d, vn, ve] grT (0, 0)) ∧ wr.ownsRow B edgT 3 ve k (edgeCells ((E.take k).map shp)) ∧ w5.grownBy wr none

theorem grown_own1 {w0 wr w' : World} {v : Value} {e : TypeId} {n s B : Nat} {xs : List Value} {O : Obj} (hg : w0.grownBy wr none) (hown : wr.ownsRow B e s v n xs) (hB : w0.heap.size ≤ B) {W : World} (hg' : W.grownBy w' v.ownBlock) (hW : W.heap = (wr.alloc O).heap) (ho : W.os = wr.os) (ht : W.tape = wr.tape) (hu : W.output = wr.output) : w0.grownBy w' none := by
  have h1 : wr.grownBy W none := ⟨ho, ht, hu, by rw [hW]; simp, fun k hk _ => by rw [hW]; exact Below.heap_alloc _ _ _ hk⟩
  exact grown_new (grown_tr hg h1) hg' (fun k hk => Nat.le_trans hB (hown.lt k hk).1)

theorem ShRel.drew {d : Bool} {vn : Value} {E : List E3} {B g : Nat} {w5 : World} {i : Value} {wr : World} (h : ShRel d vn E B g w5 i wr) : ShRel d vn E B g w5 i wr.drew := by
  obtain ⟨k, ve, h1, h2, h3, h4, h5⟩ := h
  exact ⟨k, ve, h1, h2, h3, own_new h4 (grown_drew _), grown_tr h5 (grown_drew _)⟩

set_option maxHeartbeats 16000000 in
set_option maxRecDepth 100000 in
theorem shape_any {d : Bool} {ids : List Int} {E : List E3} {vn ve : Value} {w : World} (hn : IntsR w vn ids) (he : EdgesR w ve E) (hl : E.length ≤ 1000000) :
    Calls Tryz.prog 11 #[.agg #[.bool d, vn, ve]] w (ShPost d vn E w) := by
  obtain ⟨an, cn, rfl, -⟩ := hn
  obtain ⟨ae, ce, rfl, he⟩ := he
  have HE := Lib.hid he
  clear he
  obtain ⟨w5, hw5⟩ : ∃ w5, w5 = (w.alloc (.cells #[.bool d, .slice an ids.length cn, .slice ae E.length ce] grT)).alloc (.cells #[.bool false, .slice none 0 0, .slice none 0 0] grT) := ⟨_, rfl⟩
  have HW5 : Hid (w.grownBy w5 none ∧ w5.heap.size = w.heap.size + 2 ∧ (∀ W, w5.grownBy W none → W.cell? ⟨w.heap.size, 2, none⟩ = some (.slice ae E.length ce)) ∧ w5.heap[w.heap.size + 1]? = some (.cells #[.bool false, .slice none 0 0, .slice none 0 0] grT)) := by
    rw [hw5]
    exact Lib.hid ⟨grown_tr (grown_alloc _ _) (grown_alloc _ _), by simp, fun W hW => by rw [box_at (grown_tr (grown_alloc _ _) hW) 2]; rfl, heap_alloc2 w _ _⟩
  have HS : Hid (ShRel d (.slice an ids.length cn) E (w.heap.size + 2) (w.heap.size + 2) w5 (.int .i64 0) (w5.alloc (.cells #[.bool d, .slice an ids.length cn, .slice none 0 0] grT))) := by
    refine Lib.hid ⟨0, .slice none 0 0, Nat.zero_le _, rfl, ?_, ⟨rfl, .inl ⟨rfl, rfl⟩⟩, grown_alloc _ _⟩
    rw [← HW5.out.2.1]
    exact heap_alloc_new w5 _
  go_enter Tryz.func11, Tryz.ntmps11
  go_wp2_with fail
  rw [← hw5]
  obtain ⟨g, hgg⟩ : ∃ g, g = w.heap.size + 2 := ⟨_, rfl⟩
  rw [← hgg] at HS ⊢
  have HGG := Lib.hid hgg
  clear hw5 hgg
  go_loopw [4] (fun i wr => ShRel d (.slice an ids.length cn) E g g w5 i wr) (fun i _ => E.length - (intOf i).toNat)
  case atStart => exact HS.out
  case round =>
    clear HS
    obtain ⟨k, ve, hk, rfl, hb, ho, hg⟩ := hrel
    obtain ⟨av, cv, rfl⟩ := own_slice ho
    have a2 := HW5.out.2.2.1 wr hg
    by_cases hlt : k < E.length
    · have hlt' : (k : Int) < E.length := by omega
      obtain ⟨be, oe, rfl, hbe, hce⟩ := HE.out (by omega)
      obtain ⟨q0, q1, q2⟩ := hce k hlt
      have m0 := (grown_cell (grown_tr HW5.out.1 hg) hbe (by simp)).trans q0
      have m1 := (grown_cell (grown_tr HW5.out.1 hg) hbe (by simp)).trans q1
      have hts : (E.take (k + 1)).map shp = (E.take k).map shp ++ [shp E[k]] := by rw [List.take_succ_eq_append_getElem hlt, List.map_append]; rfl
      obtain ⟨e, hee⟩ : ∃ e, e = E[k] := ⟨_, rfl⟩
      rw [← hee] at m0 m1 hts q0 q1
      obtain ⟨x, y, z⟩ := e
      simp only at m0 m1 q0 q1
      replace hts : (E.take (k + 1)).map shp = (E.take k).map shp ++ [(x, y, 0)] := hts
      have c2 : wr.cell? ⟨g, 2, none⟩ = some (.slice av k cv) := cell_at hb
      have hgl := block_lt hb
      have hl0 : ((E.take k).map shp).length = k := by rw [List.length_map, List.length_take]; omega
      have HO := Lib.hid (ho.alloc (.cells #[.int .i64 x, .int .i64 y, .int .i64 0] edgT))
      have HO2 := Lib.hid (heap_alloc_new wr (.cells #[.int .i64 x, .int .i64 y, .int .i64 0] edgT))
      have HO3 := Lib.hid (And.intro (grown_block (grown_alloc wr (.cells #[.int .i64 x, .int .i64 y, .int .i64 0] edgT)) hb (by simp)) (row_ne_cells ho hb (by decide)))
      have HX := Lib.hid (And.intro ho (And.intro hg (And.intro hts (And.intro hl0 (show w5.heap.size ≤ g by rw [HW5.out.2.1, HGG.out]; exact Nat.le_refl _)))))
      have hgs : g ≤ wr.heap.size := by omega
      clear ho hg hts hee q0 q1 q2 hce hb hl0
      go_wp2_with fail
      go_region_law (refine stepx_app1 elE rfl (.tmp 18) (.tmp 32) rfl g (.slice av k cv) k _ rfl (own_heap HO.out rfl) wr.heap.size #[.int .i64 x, .int .i64 y, .int .i64 0] HO2.out (wr.heap.size + 1) (by simp) 1 rfl rfl (by simp [Value.oneCell']) (by omega) (by unfold maxLen; omega) (by omega) ?_; intro g5 c5 w9 ho5 hg5 hat5 hlt5 hsz5; have hb9 := grown_block hg5 HO3.out.1 HO3.out.2; have hf9 : w9.frozen? ⟨g, 2, none⟩ = false := free_at hb9; have hc9 : w9.cell? ⟨g, 2, none⟩ = some (.slice av k cv) := cell_at hb9; have hgr := grown_own1 HX.out.2.1 HX.out.1 HX.out.2.2.2.2 hg5 rfl rfl rfl rfl)
      all_goals
        obtain ⟨ho, hg, hts, hl0, hsz⟩ := HX.out
        have ho9 : w9.ownsRow g edgT 3 (.slice (some ⟨g5, 0, none⟩) (k + 1) c5) (k + 1) (edgeCells ((E.take (k + 1)).map shp)) := by
          have := own_edge ho5 hl0.symm
          rw [← hts] at this
          have e : ((E.take (k + 1)).map shp).length = k + 1 := by rw [hts, List.length_append, hl0]; rfl
          rw [e] at this
          exact this
        have HREL := Lib.hid (show ShRel d (.slice an ids.length cn) E g g w5 (.int .i64 ((k : Int) + 1)) (w9.setCell ⟨g, 2, none⟩ (.slice (some ⟨g5, 0, none⟩) (k + 1) c5)) from ⟨k + 1, _, by omega, by go_num, block_set hb9 2 _, ho9.kept (grown_setCell w9 g 2 _) (.inr (row_ne_cells ho9 hb9 (by decide)).symm), grown_new hgr (grown_setCell w9 g 2 _) (fun b hb' => by cases hb'; exact hsz)⟩)
        clear ho hg hts hl0 hgr ho9 hb9 ho5 hg5 hat5 HX HO HO2 HO3
      all_goals go_wp2_with fail
      all_goals go_roundw
      all_goals first | (simp [intOf]; omega) | exact HREL.out | exact HREL.out.drew
    · have hlt' : ¬ (k : Int) < E.length := by omega
      have hkl : k = E.length := by omega
      rw [hkl, List.take_length] at ho
      rw [hkl] at hb
      have hres := grown_block hg HW5.out.2.2.2 (by simp)
      have d0 : wr.cell? ⟨g, 0, none⟩ = some (.bool d) := cell_at hb
      have d1 : wr.cell? ⟨g, 1, none⟩ = some (.slice an ids.length cn) := cell_at hb
      have d2 : wr.cell? ⟨g, 2, none⟩ = some (.slice av E.length cv) := cell_at hb
      have hf0 : ∀ j, wr.frozen? ⟨w.heap.size + 1, j, none⟩ = false := fun j => free_at hres
      have r0 : wr.cell? ⟨w.heap.size + 1, 0, none⟩ = some (.bool false) := cell_at hres
      have r1 : wr.cell? ⟨w.heap.size + 1, 1, none⟩ = some (.slice none 0 0) := cell_at hres
      have r2 : wr.cell? ⟨w.heap.size + 1, 2, none⟩ = some (.slice none 0 0) := cell_at hres
      have HX := Lib.hid (And.intro ho (And.intro hg hres))
      clear ho hg hres hb hkl
      go_wp2_with fail
      obtain ⟨ho, hg, hres⟩ := HX.out
      have k3 := block_set (block_set (block_set hres 0 (.bool d)) 1 (.slice an ids.length cn)) 2 (.slice av E.length cv)
      obtain ⟨wF, hwF⟩ : ∃ wF, wF = ((wr.setCell ⟨w.heap.size + 1, 0, none⟩ (.bool d)).setCell ⟨w.heap.size + 1, 1, none⟩ (.slice an ids.length cn)).setCell ⟨w.heap.size + 1, 2, none⟩ (.slice av E.length cv) := ⟨_, rfl⟩
      have hgF : wr.grownBy wF (some (w.heap.size + 1)) := by
        rw [hwF]
        exact grown_row (grown_row (grown_setCell wr (w.heap.size + 1) 0 (.bool d)) (grown_setCell _ (w.heap.size + 1) 1 (.slice an ids.length cn)) (fun b hb' => by cases hb'; exact .inl rfl)) (grown_setCell _ (w.heap.size + 1) 2 (.slice av E.length cv)) (fun b hb' => by cases hb'; exact .inl rfl)
      rw [← hwF] at k3 ⊢
      have e0 : wF.cell? ⟨w.heap.size + 1, 0, none⟩ = some (.bool d) := cell_at k3
      have e1 : wF.cell? ⟨w.heap.size + 1, 1, none⟩ = some (.slice an ids.length cn) := cell_at k3
      have e2 : wF.cell? ⟨w.heap.size + 1, 2, none⟩ = some (.slice av E.length cv) := cell_at k3
      have hl0 : (E.map shp).length = E.length := List.length_map _
      refine bodyPost_ret (v := .agg #[.bool d, .slice an ids.length cn, .slice av E.length cv]) (by simp [results, Tryz.results11, go_sem, e0, e1, e2]) rfl ⟨_, rfl, .of_own (base := g) (e := edgT) (by rw [hl0]; exact ho.kept hgF (.inr (fun e => by have := (ho.lt _ e).1; have := HGG.out; omega))), grown_new (grown_tr HW5.out.1 hg) hgF (fun b hb' => by cases hb'; omega)⟩
end Go.Proofs.YtcbkalppclilfaaGreat
