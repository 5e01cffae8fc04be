/- A plain graph as a directed one: oneWay, Nodes, From; successors. -/
import Derived.Test.YtcbkalppclilfaaGreatIu
namespace Go.Proofs.YtcbkalppclilfaaGreat
open Go.MapKept Go.RowKit

abbrev dirT : TypeId := 65
abbrev dirV (p0 : Nat) : Value := .agg #[.pointer (some ⟨p0, 0, none⟩)]

/-- the nodes to which arcs lead from a node -/
def outs (ids : List Int) (M : Mat) (x : Int) : List Int := (arcsOf ids.length (M (ix ids x))).map fun p => ids.getD p.1 0

theorem PlnR.row {w : World} {p0 : Nat} {ids : List Int} {M : Mat} (h : PlnR w p0 ids M) {i : Nat} (hi : i < ids.length) : ∃ Ro vr, w.cell? ⟨p0, 1, none⟩ = some (.slice (some ⟨Ro, 0, none⟩) ids.length ids.length) ∧ w.cell? ⟨Ro, i, none⟩ = some vr ∧ ArcsR w vr (arcsOf ids.length (M i)) ∧ Ro < w.heap.size := by
  obtain ⟨B, Ro, Ri, vids, V, A⟩ := h
  refine ⟨Ro, V i, cell_at A.blk, A.ro.cell hi, ?_, A.ro.lt⟩
  have := ArcsR.of_own (A.own i (by omega))
  have e : rowsOf ids.length M i = M i := by unfold rowsOf; rw [if_pos hi]
  rw [e] at this
  exact this

theorem ItPost.weak {l : List Int} {w w0 : World} {e : Ending} {w' : World} (h : ItPost l w e w') (hg : w0.grownBy w none) : ItPost l w0 e w' := by
  obtain ⟨q, vs, h1, h2, h3, h4, h5⟩ := h
  exact ⟨q, vs, h1, h2, own_mono h3 hg.size, Nat.le_trans hg.size h4, grown_tr hg h5⟩

set_option maxHeartbeats 400000 in
theorem dir_nodes {p0 : Nat} {ids : List Int} {M : Mat} {w : World} (h : PlnR w p0 ids M) (hl : ids.length ≤ 1000) : Calls Tryz.prog 134 #[dirV p0] w (ItPost ids w) := by
  have hcall := fun O => all_any (h.grown (grown_alloc w O)) hl
  clear h
  go_enter Tryz.func134, Tryz.ntmps134
  go_wp2_with (go_at_call 139; refine (hcall _).mono ?_; intro e w' hp; obtain ⟨q, vs, rfl, hp2⟩ := hp)
  go_ret
  exact ItPost.weak ⟨q, vs, rfl, hp2⟩ (grown_alloc _ _)

set_option maxHeartbeats 1000000 in
set_option maxRecDepth 100000 in
theorem dir_from {p0 : Nat} {ids : List Int} {M : Mat} {w : World} {x : Int} (h : PlnR w p0 ids M) (hl : ids.length ≤ 1000) (hx : x ∈ ids) (ha : ids.Pairwise (· < ·)) : Calls Tryz.prog 131 #[dirV p0, .int .i64 x] w (ItPost (outs ids M x) w) := by
  have hix := ix_lt hx
  obtain ⟨vids, hc, hint, hp⟩ := h.ids
  obtain ⟨Ro, vr, h1, h2, h3, hro⟩ := h.row hix
  obtain ⟨ar, cr, rfl⟩ : ∃ a c, vr = .slice a (arcsOf ids.length (M (ix ids x))).length c := by obtain ⟨a, c, e, _⟩ := h3; exact ⟨a, c, e⟩
  have hidx : ∀ O, Calls Tryz.prog 54 #[.pointer (some ⟨p0, 0, none⟩), .int .i64 x] (w.alloc O) (fun e w' => e = .returned (.tuple #[.int .i64 ((ix ids x : Nat) : Int), .bool true]) ∧ w' = w.alloc O) := fun O =>
    (plain_index (x := x) (by rw [World.cell?_alloc_past _ _ _ hp]; exact hc) (hint.grown (grown_alloc w O)) ha (by omega)).mono (fun e w' ⟨m, h1, h2, h3⟩ => ⟨by rw [h2, (h1 hx).1, decide_eq_true hx], h3⟩)
  have hends := fun O q => ends_any (h.grown (grown_tr (grown_alloc w O) (grown_drewN _ q))) (h3.grown (grown_tr (grown_alloc w O) (grown_drewN _ q))) (by have := length_arcsOf ids.length (M (ix ids x)); omega) hl (fun p hp => (arcsOf_mem.1 hp).1)
  have HE := Lib.hid hends
  have d1 : ∀ O, (w.alloc O).cell? ⟨p0, 1, none⟩ = _ := fun O => (World.cell?_alloc_past O p0 1 hp).trans h1
  have d2 : ∀ O, (w.alloc O).cell? ⟨Ro, ix ids x, none⟩ = _ := fun O => (World.cell?_alloc_past O Ro (ix ids x) hro).trans h2
  obtain ⟨i, hi⟩ : ∃ i, i = ix ids x := ⟨_, rfl⟩
  have HO : Hid ((List.map (fun p => ids.getD p.1 0) (arcsOf ids.length (M i))) = outs ids M x) := Lib.hid (by rw [hi]; rfl)
  rw [← hi] at hix hidx HE d2
  rw [← HO.out]
  have HI := Lib.hid hi
  clear hi hends h1 h2 h3 h hint hc
  have hi0 : (0 : Int) ≤ i := by omega
  have hi1 : (i : Int) < ids.length := by omega
  go_enter Tryz.func131, Tryz.ntmps131
  go_wp2_with (go_at_call 54; refine (hidx _).mono ?_; rintro e w' ⟨rfl, rfl⟩)
  go_region_with (go_at_call 137; refine (HE.out _ 1).mono ?_; intro e w' hp; obtain ⟨q, vs, rfl, hp2⟩ := hp)
  all_goals go_wp2_with fail
  all_goals go_ret
  all_goals exact ItPost.weak ⟨q, vs, rfl, hp2⟩ (grown_tr (grown_alloc w _) (grown_drewN _ 1))

/-- a new list of nodes -/
def NlPost (l : List Int) (w : World) (e : Ending) (w' : World) : Prop := ∃ v, e = .returned v ∧ w'.ownsRow w.heap.size nodT 1 v l.length (l.map nodeV) ∧ w.grownBy w' none

theorem NlPost.of {l : List Int} {w w1 : World} {q : Nat} {e : Ending} {w2 : World} (hq : w.heap.size ≤ q) (hg : w.grownBy w1 none) (h : NofPost l w.heap.size q w1 e w2) : NlPost l w e w2 := by
  obtain ⟨v, h1, h2, h3⟩ := h
  exact ⟨v, h1, h2, grown_new hg h3 (fun k hk => by cases hk; exact hq)⟩

set_option maxHeartbeats 400000 in
set_option maxRecDepth 100000 in
theorem succ_any {p0 bx : Nat} {ids : List Int} {M : Mat} {w : World} {x : Int} (h : PlnR w p0 ids M) (hl : ids.length ≤ 1000) (hx : x ∈ ids) (ha : ids.Pairwise (· < ·)) (hb : w.cell? ⟨bx, 0, none⟩ = some (.iface dirT (dirV p0))) :
    Calls Tryz.prog 57 #[.int .i64 x, .pointer (some ⟨bx, 0, none⟩)] w (NlPost (outs ids M x) w) := by
  have hcall := dir_from h hl hx ha
  have hlo : (outs ids M x).length ≤ 1000000 := by
    unfold outs
    rw [List.length_map]
    have := length_arcsOf ids.length (M (ix ids x))
    omega
  clear h
  go_enter Tryz.func57, Tryz.ntmps57
  go_wp2_with (first
    | (go_at_call 131; refine hcall.mono ?_; intro e w1 hp; obtain ⟨q, vs, rfl, hp1, hp2, hp3, hp4⟩ := hp)
    | (go_at_call 56; refine (nodesOf_it hp1 hp2 hlo).mono ?_; intro e w2 hn; obtain ⟨v, rfl, hn2⟩ := hn))
  go_ret
  exact NlPost.of hp3 hp4 ⟨v, rfl, hn2⟩

def OneWayPost (G : Gr) (w : World) (e : Ending) (w' : World) : Prop := ∃ p0, e = .returned (.tuple #[dirV p0, .bool G.dir]) ∧ PlnR w' p0 G.ids G.mat ∧ w.grownBy w' none

set_option maxHeartbeats 400000 in
set_option maxRecDepth 100000 in
theorem oneWay_any {G : Gr} {v : Value} {w : World} (h : GrR w v G) (hG : G.Well) (hnl : G.nodes.length ≤ 1000) (hel : G.edges.length ≤ 10000) :
    Calls Tryz.prog 28 #[v] w (OneWayPost G w) := by
  have hread := fun O O2 => read_any (h.grown (grown_tr (grown_alloc w O) (grown_alloc _ O2))) hG hnl hel
  obtain ⟨vn, ve, rfl, ⟨an, cn, rfl, _⟩, ⟨ae, ce, rfl, _⟩⟩ := h.parts
  clear h
  have hbx : ∀ w1, ((w.alloc (.cells #[.bool G.dir, .slice an G.nodes.length cn, .slice ae G.edges.length ce] 25)).alloc (.cells #[.pointer none] dirT)).grownBy w1 none → w1.cell? ⟨w.heap.size, 0, none⟩ = some (.bool G.dir) ∧ w1.cell? ⟨w.heap.size + 1, 0, none⟩ = some (.pointer none) ∧ w1.frozen? ⟨w.heap.size + 1, 0, none⟩ = false := fun w1 hg => by
    have b1 := grown_block hg (heap_alloc2 w (.cells #[.bool G.dir, .slice an G.nodes.length cn, .slice ae G.edges.length ce] 25) (.cells #[.pointer none] dirT)) (by simp)
    have b0 := box_at (grown_tr (grown_alloc _ _) hg) 0
    exact ⟨by rw [b0]; rfl, cell_at b1, free_at b1⟩
  have HB := Lib.hid hbx
  clear hbx
  obtain ⟨d, hd⟩ : ∃ d, d = G.dir := ⟨_, rfl⟩
  have HD := Lib.hid hd
  rw [← hd] at HB hread
  rw [← hd]
  clear hd
  go_enter Tryz.func28, Tryz.ntmps28
  go_wp2_with (go_at_call 42; refine (hread _ _).mono ?_; intro e w1 hp; obtain ⟨p0, rfl, hp1, hp2⟩ := hp; obtain ⟨b1, b2, b3⟩ := HB.out w1 hp2; replace hp1 := Lib.hid hp1; replace hp2 := Lib.hid hp2)
  go_region
  all_goals go_wp2_with fail
  all_goals
    have hcr : ((w1.setCell ⟨w.heap.size + 1, 0, none⟩ (.pointer (some ⟨p0, 0, none⟩))).drew).cell? ⟨w.heap.size + 1, 0, none⟩ = some (.pointer (some ⟨p0, 0, none⟩)) := World.cell?_setCell_same _ _ _ b2
    have h1 := hp1.out.other (grown_setCell w1 (w.heap.size + 1) 0 (.pointer (some ⟨p0, 0, none⟩))) (by simp)
    refine bodyPost_ret (v := .tuple #[dirV p0, .bool d]) (by simp [results, Tryz.results28, go_sem, hcr]) rfl ⟨p0, by rw [← HD.out], h1.pln.grown (grown_drew _), ?_⟩
    exact grown_tr (grown_new (grown_tr (grown_tr (grown_alloc _ _) (grown_alloc _ _)) hp2.out) (grown_setCell w1 (w.heap.size + 1) 0 _) (fun k hk => by cases hk; omega)) (grown_drew _)
end Go.Proofs.YtcbkalppclilfaaGreat
