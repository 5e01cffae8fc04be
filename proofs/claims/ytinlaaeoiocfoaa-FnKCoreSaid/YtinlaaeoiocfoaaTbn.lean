/- The laws' own: tableOf. -/
import Derived.Test.YtinlaaeoiocfoaaLe
import Derived.Test.YtinlaaeoiocfoaaGd
import Derived.Deep.Cut
import Derived.Deep.CutRange
import Derived.Deep.DeepCutAuto
namespace Go.Proofs.Ytinlaaeoiocfoaa
open Go.RowKit Go.MapKept

theorem elBB : ElT Try.prog 35 40 1 24 (.slice none 0 0) := ⟨Try.underlying35, by kernel_rfl, by kernel_rfl, by decide⟩
theorem elII : ElT Try.prog 36 22 1 24 (.slice none 0 0) := ⟨Try.underlying36, by kernel_rfl, by kernel_rfl, by decide⟩
theorem mk_bools (n : Nat) (hn : n ≤ 1000000) (w : World) : (Instr.makeSlice 40 (.int .i64 (n : Int)) (.int .i64 (n : Int))).run Try.prog w = .ok (.slice (some ⟨w.heap.size, 0, none⟩) n n) (w.alloc (.cells (madeCells #[.bool false] n) 4)) := run_make_row' (P := Try.prog) 40 4 (.bool false) 1 Try.underlying40 (by kernel_rfl) rfl .i64 .i64 n (by omega) (by omega) w
theorem mk_ints (n : Nat) (hn : n ≤ 1000000) (w : World) : (Instr.makeSlice 22 (.int .i64 (n : Int)) (.int .i64 (n : Int))).run Try.prog w = .ok (.slice (some ⟨w.heap.size, 0, none⟩) n n) (w.alloc (.cells (madeCells #[.int .i64 0] n) 3)) := run_make_row' (P := Try.prog) 22 3 (.int .i64 0) 8 Try.underlying22 (by kernel_rfl) rfl .i64 .i64 n (by omega) (by omega) w

abbrev tblT : TypeId := 38
/-- a table as it is made, ka and kw rows of n -/
structure Tab (wr : World) (bt n ka kw : Nat) (vn va vw : Value) (Ra Rw : Nat → Nat) (f g : Nat → Nat → Value) : Prop where
  blk : wr.heap[bt]? = some (.cells #[vn, va, vw] tblT (0, 0))
  ga : GridB wr (bt + 1) 4 n ka Ra f
  oa : wr.ownsRow (bt + 1) 40 1 va ka ((List.range ka).map (rowV n Ra))
  gw : GridB wr (bt + 1) 3 n kw Rw g
  ow : wr.ownsRow (bt + 1) 22 1 vw kw ((List.range kw).map (rowV n Rw))

def TabRel (w0 : World) (bt n ka kw : Nat) (vn : Value) (wr : World) : Prop := ∃ va vw Ra Rw, Tab wr bt n ka kw vn va vw Ra Rw (fun _ _ => .bool false) (fun _ _ => .int .i64 0) ∧ w0.grownBy wr (some bt) ∧ w0.heap.size = bt + 1

theorem Tab.cells {wr : World} {bt n ka kw : Nat} {vn va vw : Value} {Ra Rw : Nat → Nat} {f g : Nat → Nat → Value} (h : Tab wr bt n ka kw vn va vw Ra Rw f g) :
    wr.cell? ⟨bt, 0, none⟩ = some vn ∧ wr.cell? ⟨bt, 1, none⟩ = some va ∧ wr.cell? ⟨bt, 2, none⟩ = some vw ∧ (∀ j, wr.frozen? ⟨bt, j, none⟩ = false) ∧ bt < wr.heap.size := by
  refine ⟨cell_at h.blk, cell_at h.blk, cell_at h.blk, fun j => free_at h.blk, block_lt h.blk⟩

theorem Tab.morea {w0 wr W w' : World} {bt n ka kw : Nat} {vn va vw : Value} {Ra Rw : Nat → Nat} {f g : Nat → Nat → Value} (T : Tab wr bt n ka kw vn va vw Ra Rw f g) (hw0 : w0.grownBy wr (some bt)) (hs0 : w0.heap.size = bt + 1) (hg : W.grownBy w' va.ownBlock)
    (hW : W.heap = ((wr.alloc (.cells (madeCells #[.bool false] n) 4)).alloc (.cells #[.slice (some ⟨wr.heap.size, 0, none⟩) n n] 40)).heap) (hgW : wr.grownBy W none)
    (hf : ∀ i, f ka i = .bool false)
    {gb cap : Nat} (ho : w'.ownsRow (bt + 1) 40 1 (.slice (some ⟨gb, 0, none⟩) (ka + 1) cap) (ka + 1) ((List.range ka).map (rowV n Ra) ++ #[.slice (some ⟨wr.heap.size, 0, none⟩) n n].toList)) :
    Tab (w'.setCell ⟨bt, 1, none⟩ (.slice (some ⟨gb, 0, none⟩) (ka + 1) cap)) bt n (ka + 1) kw vn (.slice (some ⟨gb, 0, none⟩) (ka + 1) cap) vw (fun r => if r = ka then wr.heap.size else Ra r) Rw f g ∧ w0.grownBy (w'.setCell ⟨bt, 1, none⟩ (.slice (some ⟨gb, 0, none⟩) (ka + 1) cap)) (some bt) := by
  have hbw : bt < wr.heap.size := block_lt T.blk
  have hva : ∀ k, va.ownBlock = some k → bt + 1 ≤ k ∧ k < wr.heap.size := T.oa.lt
  have hg' : wr.grownBy w' va.ownBlock := ⟨hg.os.trans hgW.os, hg.tape.trans hgW.tape, hg.output.trans hgW.output, Nat.le_trans hgW.size hg.size, fun k hk hne => (hg.block k (Nat.lt_of_lt_of_le hk hgW.size) hne).trans (hgW.block k hk (by simp))⟩
  have hbl : w'.heap[bt]? = some (.cells #[vn, va, vw] tblT (0, 0)) := grown_block hg' T.blk (fun e => by have := (hva bt e.symm).1; omega)
  have hnew : w'.rowIs wr.heap.size 4 n (f ka) := by
    have h1 : W.rowIs wr.heap.size 4 n (fun _ => .bool false) := ((World.rowIs_made wr (.bool false) n 4).alloc (.cells #[.slice (some ⟨wr.heap.size, 0, none⟩) n n] 40)).of_block (by rw [hW])
    exact (rowIs_grown h1 hg (fun e => by have := (hva _ e.symm).2; omega)).congr (fun i _ => (hf i).symm)
  have hgb : bt + 1 ≤ gb := by
    have := (ho.lt gb rfl).1
    omega
  have hset : w'.grownBy (w'.setCell ⟨bt, 1, none⟩ (.slice (some ⟨gb, 0, none⟩) (ka + 1) cap)) (some bt) := grown_setCell _ _ _ _
  refine ⟨⟨?_, ?_, ?_, ?_, ?_⟩, grown_row (grown_row hw0 hg' (fun k hk => .inr (by have := (hva k hk).1; omega))) hset (fun k hk => by cases hk; exact .inl rfl)⟩
  · rw [block_set hbl]; rfl
  · refine (T.ga.snoc hg' (fun r hr => rowIs_ne_own (T.ga.row r hr) T.oa (by decide)) hnew (Nat.le_refl _) (by omega) (fun _ _ => rfl)).elsewhere (fun r hr => ?_) _ _
    split
    · omega
    · have := T.ga.base r (by omega); omega
  · rw [rows_snoc]
    exact ho.kept hset (.inr (fun e => by simp [Value.ownBlock] at e; omega))
  · exact (T.gw.grown hg' (fun r hr => rowIs_ne_own (T.gw.row r hr) T.oa (by decide))).elsewhere (fun r hr => by have := T.gw.base r hr; omega) _ _
  · exact (T.ow.kept hg' (row_ne_row T.ow T.oa (by decide))).kept hset (.inr (fun e => by have := (T.ow.lt bt e).1; omega))
theorem Tab.morew {w0 wr W w' : World} {bt n ka kw : Nat} {vn va vw : Value} {Ra Rw : Nat → Nat} {f g : Nat → Nat → Value} (T : Tab wr bt n ka kw vn va vw Ra Rw f g) (hw0 : w0.grownBy wr (some bt)) (hs0 : w0.heap.size = bt + 1) (hg : W.grownBy w' vw.ownBlock)
    (hW : W.heap = ((wr.alloc (.cells (madeCells #[.int .i64 0] n) 3)).alloc (.cells #[.slice (some ⟨wr.heap.size, 0, none⟩) n n] 22)).heap) (hgW : wr.grownBy W none)
    (hf : ∀ i, g kw i = .int .i64 0)
    {gb cap : Nat} (ho : w'.ownsRow (bt + 1) 22 1 (.slice (some ⟨gb, 0, none⟩) (kw + 1) cap) (kw + 1) ((List.range kw).map (rowV n Rw) ++ #[.slice (some ⟨wr.heap.size, 0, none⟩) n n].toList)) :
    Tab (w'.setCell ⟨bt, 2, none⟩ (.slice (some ⟨gb, 0, none⟩) (kw + 1) cap)) bt n ka (kw + 1) vn va (.slice (some ⟨gb, 0, none⟩) (kw + 1) cap) Ra (fun r => if r = kw then wr.heap.size else Rw r) f g ∧ w0.grownBy (w'.setCell ⟨bt, 2, none⟩ (.slice (some ⟨gb, 0, none⟩) (kw + 1) cap)) (some bt) := by
  have hbw : bt < wr.heap.size := block_lt T.blk
  have hva : ∀ k, vw.ownBlock = some k → bt + 1 ≤ k ∧ k < wr.heap.size := T.ow.lt
  have hg' : wr.grownBy w' vw.ownBlock := ⟨hg.os.trans hgW.os, hg.tape.trans hgW.tape, hg.output.trans hgW.output, Nat.le_trans hgW.size hg.size, fun k hk hne => (hg.block k (Nat.lt_of_lt_of_le hk hgW.size) hne).trans (hgW.block k hk (by simp))⟩
  have hbl : w'.heap[bt]? = some (.cells #[vn, va, vw] tblT (0, 0)) := grown_block hg' T.blk (fun e => by have := (hva bt e.symm).1; omega)
  have hnew : w'.rowIs wr.heap.size 3 n (g kw) := by
    have h1 : W.rowIs wr.heap.size 3 n (fun _ => .int .i64 0) := ((World.rowIs_made wr (.int .i64 0) n 3).alloc (.cells #[.slice (some ⟨wr.heap.size, 0, none⟩) n n] 22)).of_block (by rw [hW])
    exact (rowIs_grown h1 hg (fun e => by have := (hva _ e.symm).2; omega)).congr (fun i _ => (hf i).symm)
  have hgb : bt + 1 ≤ gb := by
    have := (ho.lt gb rfl).1
    omega
  have hset : w'.grownBy (w'.setCell ⟨bt, 2, none⟩ (.slice (some ⟨gb, 0, none⟩) (kw + 1) cap)) (some bt) := grown_setCell _ _ _ _
  refine ⟨⟨?_, ?_, ?_, ?_, ?_⟩, grown_row (grown_row hw0 hg' (fun k hk => .inr (by have := (hva k hk).1; omega))) hset (fun k hk => by cases hk; exact .inl rfl)⟩
  · rw [block_set hbl]; rfl
  · exact (T.ga.grown hg' (fun r hr => rowIs_ne_own (T.ga.row r hr) T.ow (by decide))).elsewhere (fun r hr => by have := T.ga.base r hr; omega) _ _
  · exact (T.oa.kept hg' (row_ne_row T.oa T.ow (by decide))).kept hset (.inr (fun e => by have := (T.oa.lt bt e).1; omega))
  · refine (T.gw.snoc hg' (fun r hr => rowIs_ne_own (T.gw.row r hr) T.ow (by decide)) hnew (Nat.le_refl _) (by omega) (fun _ _ => rfl)).elsewhere (fun r hr => ?_) _ _
    split
    · omega
    · have := T.gw.base r (by omega); omega
  · rw [rows_snoc]
    exact ho.kept hset (.inr (fun e => by simp [Value.ownBlock] at e; omega))

/-- a table's cells, off its matrix -/
def arcF (T : Mat) (r i : Nat) : Value := .bool (T r i).isSome
def numF (T : Mat) (r i : Nat) : Value := .int .i64 ((T r i).getD 0)

theorem arcF_set (T : Mat) (i k : Nat) (z : Int) : arcF (T.set i k z) = fun s j => if s = i ∧ j = k then .bool true else arcF T s j := by
  funext s j
  simp only [arcF, Mat.set]
  split <;> rfl
theorem numF_set (T : Mat) (i k : Nat) (z : Int) : numF (T.set i k z) = fun s j => if s = i ∧ j = k then .int .i64 z else numF T s j := by
  funext s j
  simp only [numF, Mat.set]
  split <;> rfl

/-- both stores of an edge -/
theorem Tab.laid {w0 wr : World} {bt n : Nat} {vn va vw : Value} {Ra Rw : Nat → Nat} {M : Mat} (T : Tab wr bt n n n vn va vw Ra Rw (arcF M) (numF M)) (hw0 : w0.grownBy wr (some bt)) (hs0 : w0.heap.size = bt + 1) {q : Nat} {i k : Nat} (hi : i < n) (z : Int) :
    Tab (((wr.drewN q).setCell ⟨Ra i, k, none⟩ (.bool true)).setCell ⟨Rw i, k, none⟩ (.int .i64 z)) bt n n n vn va vw Ra Rw (arcF (M.set i k z)) (numF (M.set i k z)) ∧
      w0.grownBy (((wr.drewN q).setCell ⟨Ra i, k, none⟩ (.bool true)).setCell ⟨Rw i, k, none⟩ (.int .i64 z)) (some bt) := by
  have hg0 : wr.grownBy (wr.drewN q) none := grown_drewN _ _
  have T0 : Tab (wr.drewN q) bt n n n vn va vw Ra Rw (arcF M) (numF M) := ⟨T.blk, T.ga.grown hg0 (by simp), T.oa, T.gw.grown hg0 (by simp), T.ow⟩
  have hb1 := T0.ga.base i hi
  have hb2 := T0.gw.base i hi
  have g1 := grown_setCell (wr.drewN q) (Ra i) k (.bool true)
  have T1 : Tab ((wr.drewN q).setCell ⟨Ra i, k, none⟩ (.bool true)) bt n n n vn va vw Ra Rw (arcF (M.set i k z)) (numF M) := by
    refine ⟨grown_block g1 T0.blk (fun e => by cases e; omega), ?_, T0.oa.kept g1 ?_, ?_, T0.ow.kept g1 ?_⟩
    · rw [arcF_set]; exact T0.ga.stored hi k _
    · right
      exact (rowIs_ne_own (T0.ga.row i hi) T0.oa (by decide)).symm
    · exact T0.gw.elsewhere (fun r hr => (rowIs_ne_row (T0.ga.row i hi) (T0.gw.row r hr) (by decide)).symm) _ _
    · right
      exact (rowIs_ne_own (T0.ga.row i hi) T0.ow (by decide)).symm
  have g2 := grown_setCell ((wr.drewN q).setCell ⟨Ra i, k, none⟩ (.bool true)) (Rw i) k (.int .i64 z)
  refine ⟨⟨grown_block g2 T1.blk (fun e => by cases e; omega), ?_, T1.oa.kept g2 ?_, ?_, T1.ow.kept g2 ?_⟩, ?_⟩
  · exact T1.ga.elsewhere (fun r hr => (rowIs_ne_row (T1.ga.row r hr) (T1.gw.row i hi) (by decide))) _ _
  · right
    exact (rowIs_ne_own (T1.gw.row i hi) T1.oa (by decide)).symm
  · rw [numF_set]; exact T1.gw.stored hi k _
  · right
    exact (rowIs_ne_own (T1.gw.row i hi) T1.ow (by decide)).symm
  · exact grown_row (grown_row (grown_row hw0 hg0 (by simp)) g1 (fun k hk => .inr (by cases hk; omega))) g2 (fun k hk => .inr (by cases hk; omega))

/-- the cells that both stores touch -/
theorem Tab.at {wr : World} {bt n : Nat} {vn va vw : Value} {Ra Rw : Nat → Nat} {M : Mat} (T : Tab wr bt n n n vn va vw Ra Rw (arcF M) (numF M)) {i k : Nat} (hi : i < n) (hk : k < n) :
    ∃ ga ca gw cw, va = .slice (some ⟨ga, 0, none⟩) n ca ∧ vw = .slice (some ⟨gw, 0, none⟩) n cw ∧ wr.cell? ⟨ga, i, none⟩ = some (.slice (some ⟨Ra i, 0, none⟩) n n) ∧ wr.cell? ⟨gw, i, none⟩ = some (.slice (some ⟨Rw i, 0, none⟩) n n) ∧
      wr.cell? ⟨Ra i, k, none⟩ = some (arcF M i k) ∧ wr.cell? ⟨Rw i, k, none⟩ = some (numF M i k) ∧ wr.frozen? ⟨Ra i, k, none⟩ = false ∧ wr.frozen? ⟨Rw i, k, none⟩ = false ∧ Ra i ≠ Rw i := by
  obtain ⟨ga, ca, rfl, _⟩ := own_row T.oa (by omega)
  obtain ⟨gw, cw, rfl, _⟩ := own_row T.ow (by omega)
  refine ⟨ga, ca, gw, cw, rfl, rfl, ?_, ?_, (T.ga.row i hi).cell hk, (T.gw.row i hi).cell hk, (T.ga.row i hi).frozen k, (T.gw.row i hi).frozen k, rowIs_ne_row (T.ga.row i hi) (T.gw.row i hi) (by decide)⟩
  · rw [T.oa.cellAt i (by omega)]; simp [hi, rowV]
  · rw [T.ow.cellAt i (by omega)]; simp [hi, rowV]

theorem Tab.other {wr : World} {bt n ka kw : Nat} {vn va vw : Value} {Ra Rw : Nat → Nat} {f g : Nat → Nat → Value} (T : Tab wr bt n ka kw vn va vw Ra Rw f g) {S : Nat} (hS : S < bt) (j : Nat) (v : Value) : Tab (wr.setCell ⟨S, j, none⟩ v) bt n ka kw vn va vw Ra Rw f g := by
  have hg := grown_setCell wr S j v
  exact ⟨grown_block hg T.blk (fun e => by cases e; omega), T.ga.elsewhere (fun r hr => by have := T.ga.base r hr; omega) _ _, T.oa.kept hg (.inr fun e => by have := (T.oa.lt S e).1; omega), T.gw.elsewhere (fun r hr => by have := T.gw.base r hr; omega) _ _, T.ow.kept hg (.inr fun e => by have := (T.ow.lt S e).1; omega)⟩

/-- a table's value -/
structure TabR (w : World) (v : Value) (ids : List Int) (M : Mat) : Prop where
  parts : ∃ vn va vw, v = .agg #[vn, va, vw] ∧ IntsR w vn ids ∧ GridR w va ids.length ids.length (arcF M) ∧ GridR w vw ids.length ids.length (numF M)

def TabPost (G : Gr) (w : World) (e : Ending) (w' : World) : Prop := ∃ v, e = .returned v ∧ TabR w' v G.ids G.mat ∧ w.grownBy w' none

def TabFacts (G : Gr) (w : World) (ve vn : Value) (w2 : World) (bt : Nat) : Prop := ∀ wx, w2.grownBy wx (some bt) →
  w.grownBy wx none ∧ wx.cell? ⟨w.heap.size, 2, none⟩ = some ve ∧ wx.cell? ⟨w.heap.size, 0, none⟩ = some (.bool G.dir) ∧ wx.ownsRow (w.heap.size + 2) 3 1 vn G.nodes.length (G.ids.map (Value.int .i64)) ∧
    (∃ c : Array Value, wx.heap[w.heap.size + 1]? = some (.cells c tblT (0, 0)) ∧ c.size = 3) ∧ w.heap.size + 1 < bt

theorem tabFacts {G : Gr} {w w1 : World} {vn ve v1 : Value} {c : Array Value} {va vw : Value} (ho : w1.ownsRow ((w.alloc (.cells #[.bool G.dir, vn, ve] 25)).alloc (.cells c tblT)).heap.size 3 1 v1 G.nodes.length ((srt G.nodes).map (Value.int .i64)))
    (hg : ((w.alloc (.cells #[.bool G.dir, vn, ve] 25)).alloc (.cells c tblT)).grownBy w1 none) (hc : c.size = 3 := by rfl) : TabFacts G w ve v1 (w1.alloc (.cells #[v1, va, vw] tblT)) w1.heap.size := by
  intro wx hx
  have hs := hg.size
  simp at hs
  have h1 : w1.grownBy wx none := grown_new (grown_alloc _ _) hx (fun k hk => by cases hk; exact Nat.le_refl _)
  have hgb : (w.alloc (.cells #[.bool G.dir, vn, ve] 25)).grownBy wx none := grown_tr (grown_tr (grown_alloc _ _) hg) h1
  refine ⟨grown_tr (grown_alloc _ _) hgb, by rw [box_at hgb]; rfl, by rw [box_at hgb]; rfl, own_mono (own_new ho h1) (by simp), ⟨c, ?_, hc⟩, by omega⟩
  exact grown_block h1 (grown_block hg (heap_alloc2 w _ _) (by simp)) (by simp)

theorem Tab.at2 {wr : World} {bt n ga ca gw cw : Nat} {vn : Value} {Ra Rw : Nat → Nat} {M : Mat} (T : Tab wr bt n n n vn (.slice (some ⟨ga, 0, none⟩) n ca) (.slice (some ⟨gw, 0, none⟩) n cw) Ra Rw (arcF M) (numF M)) {i k : Nat} (hi : i < n) (hk : k < n) :
    wr.cell? ⟨ga, i, none⟩ = some (.slice (some ⟨Ra i, 0, none⟩) n n) ∧ wr.cell? ⟨gw, i, none⟩ = some (.slice (some ⟨Rw i, 0, none⟩) n n) ∧
      wr.cell? ⟨Ra i, k, none⟩ = some (arcF M i k) ∧ wr.cell? ⟨Rw i, k, none⟩ = some (numF M i k) ∧ wr.frozen? ⟨Ra i, k, none⟩ = false ∧ wr.frozen? ⟨Rw i, k, none⟩ = false ∧ Ra i ≠ Rw i := by
  obtain ⟨ga', ca', gw', cw', hva, hvw, m1, m2, m3, m4, m5, m6, m7⟩ := T.at hi hk
  cases hva
  cases hvw
  exact ⟨m1, m2, m3, m4, m5, m6, m7⟩
theorem edge_cells2 {w wr : World} {b o c : Nat} {l : List E3} (h : EdgesR w (.slice (some ⟨b, o, none⟩) l.length c) l) (hg : w.grownBy wr none) {k : Nat} (hk : k < l.length) :
    wr.cell? ⟨b, o + k * 3, none⟩ = some (.int .i64 l[k].1) ∧ wr.cell? ⟨b, o + k * 3 + 1, none⟩ = some (.int .i64 l[k].2.1) ∧ wr.cell? ⟨b, o + k * 3 + 2, none⟩ = some (.int .i64 l[k].2.2) := by
  obtain ⟨be', oe', hae, ce0, ce1, ce2⟩ := edge_cells h hg hk
  cases hae
  exact ⟨ce0, ce1, ce2⟩

theorem drewN_0 (w : World) : w.drewN 0 = w := by first | rfl | simp [World.drewN]
theorem then_normal {K : Act → World → Prop} {Q : Exit → Act → World → Prop} {a : Act} {w : World} (h : K a w) : Exit.then K Q .normal a w := h
def LayRel (G : Gr) (w2 : World) (bt n : Nat) (vn va vw : Value) (Ra Rw : Nat → Nat) (i : Value) (wx : World) : Prop :=
  ∃ k : Nat, k ≤ G.edges.length ∧ i = .int .i64 k ∧ Tab wx bt n n n vn va vw Ra Rw (arcF (matOf G.ids G.dir (G.edges.take k))) (numF (matOf G.ids G.dir (G.edges.take k))) ∧ w2.grownBy wx (some bt)

set_option maxHeartbeats 4000000 in
set_option maxRecDepth 100000 in
theorem tableOf_any {G : Gr} {v : Value} {w : World} (h : GrR w v G) (hG : G.Well) (hnl : G.nodes.length ≤ 1000) (hel : G.edges.length ≤ 10000) :
    Calls Try.prog 11 #[v] w (TabPost G w) := by
  obtain ⟨vn, ve, rfl, hn, he⟩ := h.parts
  have hmb := mk_bools G.nodes.length (by omega)
  have hmi := mk_ints G.nodes.length (by omega)
  clear h
  go_enter Try.func11, Try.ntmps11
  go_wp2_with (go_at_call 9; refine (sorted_any (by omega) (hn.grown (Below.asGrown (by go_grown)))).mono ?_; rintro e w1 ⟨v1, rfl, ho1, hg1⟩; obtain ⟨a1, c1, hv1⟩ := own_slice ho1; subst hv1)
  obtain ⟨ae, ce, rfl, hec⟩ := he
  have he : EdgesR w (.slice ae G.edges.length ce) G.edges := ⟨ae, ce, rfl, hec⟩
  clear hec
  have HF := Lib.hid (show TabFacts G w (.slice ae G.edges.length ce) (.slice a1 G.nodes.length c1) (w1.alloc (.cells #[.slice a1 G.nodes.length c1, .slice none 0 0, .slice none 0 0] tblT)) w1.heap.size from tabFacts ho1 hg1)
  have HE := Lib.hid he
  clear he hn
  obtain ⟨n, hn0⟩ : ∃ n, n = G.nodes.length := ⟨_, rfl⟩
  rw [← hn0] at hmb hmi ho1 hnl HF
  rw [← hn0]
  have HN := Lib.hid hn0
  clear hn0
  try go_frame
  have hTab0 : TabRel (w1.alloc (.cells #[.slice a1 n c1, .slice none 0 0, .slice none 0 0] tblT)) w1.heap.size n 0 0 (.slice a1 n c1) (w1.alloc (.cells #[.slice a1 n c1, .slice none 0 0, .slice none 0 0] tblT)) :=
    ⟨.slice none 0 0, .slice none 0 0, fun _ => 0, fun _ => 0, ⟨heap_alloc_new _ _, GridB.zero .., ⟨rfl, .inl ⟨rfl, rfl⟩⟩, GridB.zero .., ⟨rfl, .inl ⟨rfl, rfl⟩⟩⟩, grown_any (grown_refl _) _, by simp⟩
  obtain ⟨w2, hw2⟩ : ∃ w2, w2 = w1.alloc (.cells #[.slice a1 n c1, .slice none 0 0, .slice none 0 0] tblT) := ⟨_, rfl⟩
  rw [← hw2] at hTab0 HF
  rw [← hw2]
  have HW2 := Lib.hid hw2
  clear hw2
  obtain ⟨bt, hbt⟩ : ∃ bt, bt = w1.heap.size := ⟨_, rfl⟩
  rw [← hbt] at hTab0 HF
  rw [← hbt]
  have HBT := Lib.hid hbt
  clear hbt
  go_loopw [5] (fun i wr => ∃ k : Nat, k ≤ n ∧ i = .int .i64 k ∧ TabRel w2 bt n k k (.slice a1 n c1) wr) (fun i _ => n - (intOf i).toNat)
  case atStart => exact ⟨0, Nat.zero_le _, rfl, hTab0⟩
  case round =>
    clear hTab0 ho1 hg1
    obtain ⟨k, hk, rfl, va, vw, Ra, Rw, T, hg, hs0⟩ := hrel
    obtain ⟨hc0, hc1, hc2, hfz, hlt⟩ := T.cells
    by_cases hkn : k < n
    · have hbn : ∀ o : Obj, (wr.alloc o).cell? ⟨bt, 1, none⟩ = some va := fun o => by rw [World.cell?_alloc_past _ _ _ hlt]; exact hc1
      have hbn2 : ∀ o o' : Obj, ((wr.alloc o).alloc o').cell? ⟨bt, 1, none⟩ = some va := fun o o' => by rw [World.cell?_alloc_past _ _ _ (by simp; omega)]; exact hbn o
      have HA := Lib.hid ((T.oa.alloc (.cells (madeCells #[.bool false] n) 4)).alloc (.cells #[.slice (some ⟨wr.heap.size, 0, none⟩) n n] 40))
      have HL := Lib.hid (heap_alloc2 wr (.cells (madeCells #[.bool false] n) 4) (.cells #[.slice (some ⟨wr.heap.size, 0, none⟩) n n] 40))
      have HB := Lib.hid (heap_lt2 (.cells (madeCells #[.bool false] n) 4) (.cells #[.slice (some ⟨wr.heap.size, 0, none⟩) n n] 40) T.blk)
      have hva := T.oa.lt
      have HT := Lib.hid (And.intro T (And.intro hg hs0))
      clear T hg hs0
      go_wp2_with fail
      go_cut [] (fun wx => TabRel w2 bt n (k + 1) k (.slice a1 n c1) wx)
      case first =>
        go_region_law (refine stepx_app1 elBB rfl (.tmp 22) (.tmp 25) rfl (bt + 1) va k _ rfl (own_heap HA.out rfl) (wr.heap.size + 1) #[.slice (some ⟨wr.heap.size, 0, none⟩) n n] HL.out (wr.heap.size + 2) (by simp) 1 rfl rfl (by simp [Value.oneCell']) (by omega) (by unfold maxLen; omega) (by omega) ?_; intro g cap w' ho' hg' hat hlt' hsz; have hb' := grown_block hg' HB.out (fun e => by have := hva bt e.symm; omega); have hcb : w'.cell? ⟨bt, 1, none⟩ = some va := cell_at hb'; have hfb : w'.frozen? ⟨bt, 1, none⟩ = false := free_at hb')
        all_goals (try go_wp2_with fail)
        all_goals go_meet
        all_goals
          obtain ⟨T, hg, hs0⟩ := HT.out
          obtain ⟨T', hg2⟩ := T.morea hg hs0 hg' rfl (Below.asGrown (by go_grown)) (fun _ => rfl) ho'
          exact ⟨_, _, _, _, T', hg2, hs0⟩
      case rest =>
        clear HA HL HB hva HT hbn hbn2 hc0 hc1 hc2 hfz hlt
        clear va vw Ra Rw
        obtain ⟨va, vw, Ra, Rw, T, hg, hs0⟩ := hcut
        obtain ⟨wr, rfl⟩ : ∃ wr, wr = wc := ⟨_, rfl⟩
        obtain ⟨hc0, hc1, hc2, hfz, hlt⟩ := T.cells
        have hbn : ∀ o : Obj, (wr.alloc o).cell? ⟨bt, 2, none⟩ = some vw := fun o => by rw [World.cell?_alloc_past _ _ _ hlt]; exact hc2
        have hbn2 : ∀ o o' : Obj, ((wr.alloc o).alloc o').cell? ⟨bt, 2, none⟩ = some vw := fun o o' => by rw [World.cell?_alloc_past _ _ _ (by simp; omega)]; exact hbn o
        have HA := Lib.hid ((T.ow.alloc (.cells (madeCells #[.int .i64 0] n) 3)).alloc (.cells #[.slice (some ⟨wr.heap.size, 0, none⟩) n n] 22))
        have HL := Lib.hid (heap_alloc2 wr (.cells (madeCells #[.int .i64 0] n) 3) (.cells #[.slice (some ⟨wr.heap.size, 0, none⟩) n n] 22))
        have HB := Lib.hid (heap_lt2 (.cells (madeCells #[.int .i64 0] n) 3) (.cells #[.slice (some ⟨wr.heap.size, 0, none⟩) n n] 22) T.blk)
        have hva := T.ow.lt
        have HT := Lib.hid (And.intro T (And.intro hg hs0))
        clear T hg hs0
        go_wp2_with fail
        go_region_law (refine stepx_app1 elII rfl (.tmp 29) (.tmp 32) rfl (bt + 1) vw k _ rfl (own_heap HA.out rfl) (wr.heap.size + 1) #[.slice (some ⟨wr.heap.size, 0, none⟩) n n] HL.out (wr.heap.size + 2) (by simp) 1 rfl rfl (by simp [Value.oneCell']) (by omega) (by unfold maxLen; omega) (by omega) ?_; intro g cap w' ho' hg' hat hlt' hsz; have hb' := grown_block hg' HB.out (fun e => by have := hva bt e.symm; omega); have hcb : w'.cell? ⟨bt, 2, none⟩ = some vw := cell_at hb'; have hfb : w'.frozen? ⟨bt, 2, none⟩ = false := free_at hb')
        all_goals go_wp2_with fail
        all_goals go_roundw
        all_goals first | (simp [intOf]; omega) | skip
        all_goals
          obtain ⟨T, hg, hs0⟩ := HT.out
          obtain ⟨T', hg2⟩ := T.morew hg hs0 hg' rfl (Below.asGrown (by go_grown)) (fun _ => rfl) ho'
          exact ⟨k + 1, by omega, by go_num, _, _, _, _, T', hg2, hs0⟩
    · have hkl : ¬ (k : Int) < n := by omega
      have hkn' : k = n := by omega
      subst hkn'
      have HT := Lib.hid (And.intro T (And.intro hg hs0))
      clear T hg hs0 hc0 hc1 hc2 hfz hlt hmb hmi
      go_wp2_with fail
      clear hkl hkn
      obtain ⟨wl, rfl⟩ : ∃ wl, wl = wr := ⟨_, rfl⟩
      go_loopw [6, 7, 8] (fun i _ _ wx => LayRel G w2 bt k (.slice a1 k c1) va vw Ra Rw i wx) (fun i _ _ _ => G.edges.length - (intOf i).toNat)
      case atStart =>
        obtain ⟨T, hg, hs0⟩ := HT.out
        exact ⟨0, Nat.zero_le _, rfl, T, hg⟩
      case round =>
        obtain ⟨j, hj, rfl, T, hg⟩ := hrel
        obtain ⟨-, -, hs0⟩ := HT.out
        obtain ⟨hgw, hb2, hb0, hov, hres, hlt⟩ := HF.out wr hg
        clear HT
        by_cases hjl : j < G.edges.length
        · obtain ⟨be, oe, hae, ce0, ce1, ce2⟩ := edge_cells HE.out hgw hjl
          subst hae
          have hEO : EdOk G.nodes G.edges[j] := hG.2 _ (List.getElem_mem hjl)
          have hiu := ix_lt (hG.in_ids (List.getElem_mem hjl)).1
          have hix := ix_lt (hG.in_ids (List.getElem_mem hjl)).2
          have hmu := (hG.in_ids (List.getElem_mem hjl)).1
          have hmx := (hG.in_ids (List.getElem_mem hjl)).2
          have hmt := matOf_take (ids := G.ids) (dir := G.dir) hjl
          have hcalls : ∀ (q : Nat) (y : Int), y ∈ G.ids → Calls Try.prog 18 #[.slice a1 k c1, .int .i64 y] (wr.drewN q) (fun e w' => e = .returned (.int .i64 ((ix G.ids y : Nat) : Int)) ∧ w' = wr.drewN q) := fun q y hy => by
            rw [← idx_mem hy]
            exact index_any y (by rw [Gr.length_ids]; unfold Gr.n; rw [← HN.out]; omega) ((IntsR.of_own (by rw [Gr.length_ids]; unfold Gr.n; exact hov)).grown (grown_drewN _ _))
          obtain ⟨e, he⟩ : ∃ e, e = G.edges[j] := ⟨_, rfl⟩
          rw [← he] at hEO hiu hix hmt ce0 ce1 ce2 hmu hmx
          obtain ⟨u, x, z⟩ := e
          simp only at hEO hiu hix hmt ce0 ce1 ce2 hmu hmx
          have hUX : ix G.ids u ≠ ix G.ids x := fun h => hEO.1 (ix_inj hmu hmx h)
          rw [Gr.length_ids] at hiu hix
          unfold Gr.n at hiu hix
          rw [← HN.out] at hiu hix
          obtain ⟨Z, hZ⟩ : ∃ Z : Int → Nat, Z = ix G.ids := ⟨_, rfl⟩
          rw [show ix G.ids = Z from hZ.symm] at hUX hiu hix hmt hcalls
          obtain ⟨MM, hMM⟩ : ∃ MM, MM = matOf G.ids G.dir (G.edges.take j) := ⟨_, rfl⟩
          rw [← hMM] at hmt T
          clear hMM
          have HQ := Lib.hid he
          clear hEO hZ he
          obtain ⟨hc0, hc1, hc2, hfz, hbl⟩ := T.cells
          have hc0' : ∀ q, (wr.drewN q).cell? ⟨bt, 0, none⟩ = some (.slice a1 k c1) := fun _ => hc0
          obtain ⟨ga, ca, gw, cw, hva, hvw, k1, k2, k3, k4, k5, k6, k7⟩ := T.at hiu hix
          subst hva hvw
          have HT := Lib.hid (And.intro T (And.intro hg (And.intro hmt hUX)))
          clear T hg hmt hUX hov hres hgw
          go_wp2_with fail
          go_quiet (first | (go_at_call 18; exact Calls.quiet_of_same (hcalls _ _ (by assumption))))
          go_wp2_with fail
          go_cut [] (fun wx => Tab wx bt k k k (.slice a1 k c1) (.slice (some ⟨ga, 0, none⟩) k ca) (.slice (some ⟨gw, 0, none⟩) k cw) Ra Rw (arcF (MM.set (Z u) (Z x) z)) (numF (MM.set (Z u) (Z x) z)) ∧ w2.grownBy wx (some bt))
          case first =>
            go_region
            all_goals (try go_wp2_with fail)
            all_goals go_meet
            all_goals
              obtain ⟨T, hg, hmt, hUX⟩ := HT.out
              exact T.laid hg hs0 (q := nq + 1) (k := Z x) hiu z
          case rest =>
          clear hc0' hc0 hc1 hc2 hfz hbl k1 k2 k3 k4 k5 k6 k7 hb0 hb2 ce0 ce1 ce2
          obtain ⟨w3, rfl⟩ : ∃ w3, w3 = wc := ⟨_, rfl⟩
          obtain ⟨T3, hg3⟩ := hcut
          obtain ⟨hgw3, hb2, hb0, -, -, -⟩ := HF.out w3 hg3
          obtain ⟨hc0, hc1, hc2, hfz, hbl⟩ := T3.cells
          obtain ⟨m1, m2, m3, m4, m5, m6, m7⟩ := T3.at2 hix hiu
          obtain ⟨ce0, ce1, ce2⟩ := edge_cells2 HE.out hgw3 hjl
          rw [← HQ.out] at ce0 ce1 ce2
          simp only at ce0 ce1 ce2
          clear hgw3
          obtain ⟨d, hdir⟩ : ∃ d, d = G.dir := ⟨_, rfl⟩
          rw [← hdir] at hb0
          have HD := Lib.hid hdir
          clear hdir
          cases d
          · obtain ⟨-, -, hmt, -⟩ := HT.out
            have HT3 := Lib.hid (And.intro T3 (And.intro hg3 hmt))
            clear T3 hg3 hmt HT hcalls hmu hmx HQ HE
            go_wp2_with fail
            go_region
            have HT4 : Hid (LayRel G w2 bt k (.slice a1 k c1) (.slice (some ⟨ga, 0, none⟩) k ca) (.slice (some ⟨gw, 0, none⟩) k cw) Ra Rw (.int .i64 ((j : Int) + 1)) ((w3.setCell ⟨Ra (Z x), Z u, none⟩ (.bool true)).setCell ⟨Rw (Z x), Z u, none⟩ (.int .i64 z)).drew) := by
              obtain ⟨T, hg, hmt⟩ := HT3.out
              obtain ⟨T4, hg4⟩ := T.laid hg hs0 (q := 0) (k := Z u) hix z
              rw [drewN_0] at T4 hg4
              refine Lib.hid ⟨j + 1, by omega, by go_num, ?_, grown_row hg4 (grown_drew _) (by simp)⟩
              rw [hmt, ← HD.out]
              exact ⟨T4.blk, T4.ga.grown (grown_drew _) (by simp), T4.oa, T4.gw.grown (grown_drew _) (by simp), T4.ow⟩
            generalize ((w3.setCell ⟨Ra (Z x), Z u, none⟩ (.bool true)).setCell ⟨Rw (Z x), Z u, none⟩ (.int .i64 z)).drew = w4 at HT4 ⊢
            clear HT3 m1 m2 m3 m4 m5 m6 m7 ce0 ce1 ce2 hc0 hc1 hc2 hfz hbl hb0 hb2
            go_upto_region 10 with fail
            iterate 11 (first | go_big_hide | go_big_move | go_big_op | go_big_cond | go_big_open | go_big_round | go_step)
            go_big_open
            apply then_normal
            go_big_round
            refine ⟨?rel, ?measure⟩
            case rel => exact HT4.out
            case measure => simp [intOf]; omega
          · obtain ⟨-, -, hmt, -⟩ := HT.out
            have HT3 := Lib.hid (And.intro T3 (And.intro hg3 hmt))
            clear T3 hg3 hmt HT hcalls hmu hmx HQ HE
            clear m1 m2 m3 m4 m5 m6 m7 ce0 ce1 ce2 hc0 hc1 hc2 hfz hbl
            go_upto_region 10 with fail
            iterate 11 (first | go_big_hide | go_big_move | go_big_op | go_big_cond | go_big_open | go_big_round | go_step)
            go_big_open
            apply then_normal
            go_big_round
            refine ⟨?rel, ?measure⟩
            case rel =>
              obtain ⟨T, hg, hmt⟩ := HT3.out
              refine ⟨j + 1, by omega, by go_num, ?_, hg⟩
              rw [hmt, ← HD.out]
              exact T
            case measure => simp [intOf]; omega
        · have hjl' : ¬ (j : Int) < G.edges.length := by omega
          obtain rfl : j = G.edges.length := by omega
          obtain ⟨c, hrc, hcs⟩ := hres
          obtain ⟨hc0, hc1, hc2, hfz, hbl⟩ := T.cells
          have HT := Lib.hid (And.intro T (And.intro hg (And.intro hgw (And.intro hrc hov))))
          have r0 : wr.cell? ⟨w.heap.size + 1, 0, none⟩ = c[0]? := cell_at hrc
          have r1 : wr.cell? ⟨w.heap.size + 1, 1, none⟩ = c[1]? := cell_at hrc
          have r2 : wr.cell? ⟨w.heap.size + 1, 2, none⟩ = c[2]? := cell_at hrc
          rw [Array.getElem?_eq_getElem (by omega)] at r0 r1 r2
          have rf := fun i => free_at (j := i) hrc
          obtain ⟨aa, ca, hva⟩ := own_slice T.oa
          obtain ⟨aw, cw, hvw⟩ := own_slice T.ow
          clear T hg hgw hrc hov hb0
          go_wp2_with fail
          obtain ⟨T, hg, hgw, hrc, hov⟩ := HT.out
          have hb3 := block_set (block_set (block_set hrc 0 (.slice a1 k c1)) 1 (.slice aa k ca)) 2 (.slice aw k cw)
          have s0 : (((wr.setCell ⟨w.heap.size + 1, 0, none⟩ (.slice a1 k c1)).setCell ⟨w.heap.size + 1, 1, none⟩ (.slice aa k ca)).setCell ⟨w.heap.size + 1, 2, none⟩ (.slice aw k cw)).cell? ⟨w.heap.size + 1, 0, none⟩ = some (.slice a1 k c1) := by rw [cell_at hb3]; simp [hcs]
          have s1 : (((wr.setCell ⟨w.heap.size + 1, 0, none⟩ (.slice a1 k c1)).setCell ⟨w.heap.size + 1, 1, none⟩ (.slice aa k ca)).setCell ⟨w.heap.size + 1, 2, none⟩ (.slice aw k cw)).cell? ⟨w.heap.size + 1, 1, none⟩ = some (.slice aa k ca) := by rw [cell_at hb3]; simp [hcs]
          have s2 : (((wr.setCell ⟨w.heap.size + 1, 0, none⟩ (.slice a1 k c1)).setCell ⟨w.heap.size + 1, 1, none⟩ (.slice aa k ca)).setCell ⟨w.heap.size + 1, 2, none⟩ (.slice aw k cw)).cell? ⟨w.heap.size + 1, 2, none⟩ = some (.slice aw k cw) := by rw [cell_at hb3]; simp [hcs]
          refine bodyPost_ret (v := .agg #[.slice a1 k c1, .slice aa k ca, .slice aw k cw]) (by simp [results, Try.results11, go_sem, s0, s1, s2]) rfl ?_
          have T3 := ((T.other hlt 0 (.slice a1 k c1)).other hlt 1 (.slice aa k ca)).other hlt 2 (.slice aw k cw)
          have hgz : wr.grownBy (((wr.setCell ⟨w.heap.size + 1, 0, none⟩ (.slice a1 k c1)).setCell ⟨w.heap.size + 1, 1, none⟩ (.slice aa k ca)).setCell ⟨w.heap.size + 1, 2, none⟩ (.slice aw k cw)) (some (w.heap.size + 1)) :=
            grown_row (grown_row (grown_setCell wr (w.heap.size + 1) 0 _) (grown_setCell _ _ 1 _) (fun j hj => by cases hj; exact .inl rfl)) (grown_setCell _ _ 2 _) (fun j hj => by cases hj; exact .inl rfl)
          have hoz := hov.kept hgz (.inr (fun e => by have := (hov.lt _ e).1; omega))
          have hidl : G.ids.length = k := by rw [Gr.length_ids]; unfold Gr.n; exact HN.out.symm
          have hmat : matOf G.ids G.dir (G.edges.take G.edges.length) = G.mat := by rw [List.take_length]; rfl
          rw [hmat, hva, hvw] at T3
          refine ⟨_, rfl, ⟨⟨_, _, _, rfl, IntsR.of_own (e := 3) (base := w.heap.size + 2) ?_, ?_, ?_⟩⟩, grown_new hgw hgz (fun j hj => by cases hj; omega)⟩
          · rw [hidl]
            first | exact hoz | (rw [← HN.out] at hoz; exact hoz)
          · rw [hidl]
            exact GridR.of T3.oa T3.ga
          · rw [hidl]
            exact GridR.of T3.ow T3.gw
end Go.Proofs.Ytinlaaeoiocfoaa
