/- impl.Complement. -/
import Derived.Test.YtcbkalppclilfaaGreatSn
namespace Go.Proofs.YtcbkalppclilfaaGreat
open Go.MapKept Go.RowKit

/-- the edges of the complement, as they are handed back -/
def cmE (G : Gr) : List E3 := seenE G.dir (cmOuts G.ids G.mat) G.ids
def GrPost (d : Bool) (ids : List Int) (E : List E3) (w : World) (e : Ending) (w' : World) : Prop := ∃ vn ve, e = .returned (.tuple #[.agg #[.bool d, vn, ve], .bool false]) ∧ IntsR w' vn ids ∧ EdgesR w' ve E ∧ w.grownBy w' none

theorem cmOuts_len (ids : List Int) (M : Mat) (x : Int) : (cmOuts ids M x).length ≤ ids.length := List.length_filter_le _ _

set_option maxHeartbeats 2000000 in
set_option maxRecDepth 100000 in
theorem complement_any {G : Gr} {v : Value} {w : World} (h : GrR w v G) (hG : G.Well) (hnl : G.nodes.length ≤ 1000) (hel : G.edges.length ≤ 10000) :
    Calls Tryz.prog 8 #[v] w (GrPost G.dir G.ids (cmE G) w) := by
  have hopen := fun W hg => open_any (w := W) (h.grown hg) hG hnl hel
  have hidl : G.ids.length ≤ 1000 := by rw [Gr.length_ids]; exact hnl
  have hasc := hG.ids
  have hfl : ∀ x ∈ G.ids, (cmOuts G.ids G.mat x).length ≤ 1000 := fun x _ => Nat.le_trans (cmOuts_len _ _ _) hidl
  have hsd : ∀ W p0, PlnR W p0 G.ids G.mat → Calls Tryz.prog 23 #[.iface cmT (cmV dirT p0), .bool true, .nilFunc] W (SeenPost true G.ids (seenE true (cmOuts G.ids G.mat) G.ids) W) := fun W p0 hp =>
    seen_cmd hasc hidl hfl (fun W' hg => (dir_nodes (hp.grown hg) hidl).mono (fun e w' h => h.hand (by omega))) (fun W' x hg hx => cm_from_dir (hp.grown hg) hidl hx hasc)
  have hsu : ∀ W p0, PlnR W p0 G.ids G.mat → Calls Tryz.prog 23 #[.iface cmT (cmV undT p0), .bool false, .nilFunc] W (SeenPost false G.ids (seenE false (cmOuts G.ids G.mat) G.ids) W) := fun W p0 hp =>
    seen_cmu hasc hidl hfl (fun W' hg => (und_nodes (hp.grown hg) hidl).mono (fun e w' h => h.hand (by omega))) (fun W' x hg hx => cm_from_und (hp.grown hg) hidl hx hasc)
  obtain ⟨vn, ve, rfl, ⟨an, cn, rfl, _⟩, ⟨ae, ce, rfl, _⟩⟩ := h.parts
  clear h hG hasc hfl hidl
  unfold OpenPost at hopen
  unfold cmE
  obtain ⟨d, hd⟩ : ∃ d, d = G.dir := ⟨_, rfl⟩
  rw [← hd] at hopen ⊢
  clear hd
  obtain ⟨w0, hw0⟩ : ∃ w0, w0 = (w.alloc (.cells #[.bool d, .slice an G.nodes.length cn, .slice ae G.edges.length ce] grT)).alloc (.cells #[.bool false, .slice none 0 0, .slice none 0 0] grT) := ⟨_, rfl⟩
  have HW0 : Hid (w.grownBy w0 none ∧ (∀ W, w0.grownBy W none → W.cell? ⟨w.heap.size, 0, none⟩ = some (.bool d)) ∧ w0.heap[w.heap.size + 1]? = some (.cells #[.bool false, .slice none 0 0, .slice none 0 0] grT)) := by
    rw [hw0]
    exact Lib.hid ⟨grown_tr (grown_alloc _ _) (grown_alloc _ _), fun W hW => by rw [box_at (grown_tr (grown_alloc _ _) hW) 0]; rfl, heap_alloc2 w _ _⟩
  have ho := hopen w0 HW0.out.1
  rw [hw0] at ho
  clear hopen
  cases d
  · have hs := hsu
    clear hsd hsu
    go_enter Tryz.func8, Tryz.ntmps8
    go_wp2_with (first
      | (go_at_call 22; refine ho.mono ?_; intro e w1 hp; obtain ⟨p0, rfl, hp1, hg1⟩ := hp; clear ho; rw [← hw0] at hg1; have b0 := HW0.out.2.1 w1 hg1; have hs1 := hs w1 p0 hp1; clear hp1)
      | (go_at_call 23; refine hs1.mono ?_; intro e w2 hp; obtain ⟨vn2, ve2, rfl, hn2, he2, hg2⟩ := hp; obtain ⟨an2, cn2, rfl⟩ := own_slice hn2; obtain ⟨ae2, ce2, rfl⟩ := own_slice he2; have hres := grown_block (grown_tr hg1 hg2) HW0.out.2.2 (by simp); have hf0 : ∀ j, w2.frozen? ⟨w.heap.size + 1, j, none⟩ = false := (fun j => free_at hres); have r0 : w2.cell? ⟨w.heap.size + 1, 0, none⟩ = some (.bool false) := cell_at hres; have r1 : w2.cell? ⟨w.heap.size + 1, 1, none⟩ = some (.slice none 0 0) := cell_at hres; have r2 : w2.cell? ⟨w.heap.size + 1, 2, none⟩ = some (.slice none 0 0) := cell_at hres; replace hn2 := Lib.hid hn2; replace he2 := Lib.hid he2))
    obtain ⟨E, hE⟩ : ∃ E, E = seenE false (cmOuts G.ids G.mat) G.ids := ⟨_, rfl⟩
    rw [← hE] at he2 ⊢
    have k3 := block_set (block_set (block_set hres 0 (.bool false)) 1 (.slice an2 G.ids.length cn2)) 2 (.slice ae2 E.length ce2)
    obtain ⟨wF, hwF⟩ : ∃ wF, wF = ((w2.setCell ⟨w.heap.size + 1, 0, none⟩ (.bool false)).setCell ⟨w.heap.size + 1, 1, none⟩ (.slice an2 G.ids.length cn2)).setCell ⟨w.heap.size + 1, 2, none⟩ (.slice ae2 E.length ce2) := ⟨_, rfl⟩
    have hgF : w2.grownBy wF (some (w.heap.size + 1)) := by
      rw [hwF]
      exact grown_row (grown_row (grown_setCell w2 (w.heap.size + 1) 0 (.bool false)) (grown_setCell _ (w.heap.size + 1) 1 (.slice an2 G.ids.length cn2)) (fun b hb' => by cases hb'; exact .inl rfl)) (grown_setCell _ (w.heap.size + 1) 2 (.slice ae2 E.length ce2)) (fun b hb' => by cases hb'; exact .inl rfl)
    rw [← hwF] at k3 ⊢
    have e0 : wF.cell? ⟨w.heap.size + 1, 0, none⟩ = some (.bool false) := cell_at k3
    have e1 : wF.cell? ⟨w.heap.size + 1, 1, none⟩ = some (.slice an2 G.ids.length cn2) := cell_at k3
    have e2 : wF.cell? ⟨w.heap.size + 1, 2, none⟩ = some (.slice ae2 E.length ce2) := cell_at k3
    have hbs : w.heap.size + 1 < w1.heap.size := by have := block_lt HW0.out.2.2; have := hg1.size; omega
    have hn1 : ∀ {v : Value} {n s : Nat} {e : TypeId} {xs : List Value}, w2.ownsRow w1.heap.size e s v n xs → v.ownBlock = none ∨ v.ownBlock ≠ some (w.heap.size + 1) := fun ho => .inr (fun e => by have := (ho.lt _ e).1; omega)
    refine bodyPost_ret (v := .tuple #[.agg #[.bool false, .slice an2 G.ids.length cn2, .slice ae2 E.length ce2], .bool false]) (by simp [results, Tryz.results8, go_sem, e0, e1, e2]) rfl ⟨_, _, rfl, .of_own (base := w1.heap.size) (e := ntT) (hn2.out.kept hgF (hn1 hn2.out)), .of_own (base := w1.heap.size) (e := edgT) (he2.out.kept hgF (hn1 he2.out)), ?_⟩
    exact grown_new (grown_tr HW0.out.1 (grown_tr hg1 hg2)) hgF (fun b hb' => by cases hb'; omega)
  · have hs := hsd
    clear hsd hsu
    go_enter Tryz.func8, Tryz.ntmps8
    go_wp2_with (first
      | (go_at_call 22; refine ho.mono ?_; intro e w1 hp; obtain ⟨p0, rfl, hp1, hg1⟩ := hp; clear ho; rw [← hw0] at hg1; have b0 := HW0.out.2.1 w1 hg1; have hs1 := hs w1 p0 hp1; clear hp1)
      | (go_at_call 23; refine hs1.mono ?_; intro e w2 hp; obtain ⟨vn2, ve2, rfl, hn2, he2, hg2⟩ := hp; obtain ⟨an2, cn2, rfl⟩ := own_slice hn2; obtain ⟨ae2, ce2, rfl⟩ := own_slice he2; have hres := grown_block (grown_tr hg1 hg2) HW0.out.2.2 (by simp); have hf0 : ∀ j, w2.frozen? ⟨w.heap.size + 1, j, none⟩ = false := (fun j => free_at hres); have r0 : w2.cell? ⟨w.heap.size + 1, 0, none⟩ = some (.bool false) := cell_at hres; have r1 : w2.cell? ⟨w.heap.size + 1, 1, none⟩ = some (.slice none 0 0) := cell_at hres; have r2 : w2.cell? ⟨w.heap.size + 1, 2, none⟩ = some (.slice none 0 0) := cell_at hres; replace hn2 := Lib.hid hn2; replace he2 := Lib.hid he2))
    obtain ⟨E, hE⟩ : ∃ E, E = seenE true (cmOuts G.ids G.mat) G.ids := ⟨_, rfl⟩
    rw [← hE] at he2 ⊢
    have k3 := block_set (block_set (block_set hres 0 (.bool true)) 1 (.slice an2 G.ids.length cn2)) 2 (.slice ae2 E.length ce2)
    obtain ⟨wF, hwF⟩ : ∃ wF, wF = ((w2.setCell ⟨w.heap.size + 1, 0, none⟩ (.bool true)).setCell ⟨w.heap.size + 1, 1, none⟩ (.slice an2 G.ids.length cn2)).setCell ⟨w.heap.size + 1, 2, none⟩ (.slice ae2 E.length ce2) := ⟨_, rfl⟩
    have hgF : w2.grownBy wF (some (w.heap.size + 1)) := by
      rw [hwF]
      exact grown_row (grown_row (grown_setCell w2 (w.heap.size + 1) 0 (.bool true)) (grown_setCell _ (w.heap.size + 1) 1 (.slice an2 G.ids.length cn2)) (fun b hb' => by cases hb'; exact .inl rfl)) (grown_setCell _ (w.heap.size + 1) 2 (.slice ae2 E.length ce2)) (fun b hb' => by cases hb'; exact .inl rfl)
    rw [← hwF] at k3 ⊢
    have e0 : wF.cell? ⟨w.heap.size + 1, 0, none⟩ = some (.bool true) := cell_at k3
    have e1 : wF.cell? ⟨w.heap.size + 1, 1, none⟩ = some (.slice an2 G.ids.length cn2) := cell_at k3
    have e2 : wF.cell? ⟨w.heap.size + 1, 2, none⟩ = some (.slice ae2 E.length ce2) := cell_at k3
    have hbs : w.heap.size + 1 < w1.heap.size := by have := block_lt HW0.out.2.2; have := hg1.size; omega
    have hn1 : ∀ {v : Value} {n s : Nat} {e : TypeId} {xs : List Value}, w2.ownsRow w1.heap.size e s v n xs → v.ownBlock = none ∨ v.ownBlock ≠ some (w.heap.size + 1) := fun ho => .inr (fun e => by have := (ho.lt _ e).1; omega)
    refine bodyPost_ret (v := .tuple #[.agg #[.bool true, .slice an2 G.ids.length cn2, .slice ae2 E.length ce2], .bool false]) (by simp [results, Tryz.results8, go_sem, e0, e1, e2]) rfl ⟨_, _, rfl, .of_own (base := w1.heap.size) (e := ntT) (hn2.out.kept hgF (hn1 hn2.out)), .of_own (base := w1.heap.size) (e := edgT) (he2.out.kept hgF (hn1 he2.out)), ?_⟩
    exact grown_new (grown_tr HW0.out.1 (grown_tr hg1 hg2)) hgF (fun b hb' => by cases hb'; omega)
end Go.Proofs.YtcbkalppclilfaaGreat
