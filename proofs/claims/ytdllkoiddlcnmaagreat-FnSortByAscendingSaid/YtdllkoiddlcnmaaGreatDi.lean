/- A plain graph as a directed one: Nodes, From. -/
import Derived.Test.YtdllkoiddlcnmaaGreatIu
namespace Go.Proofs.YtdllkoiddlcnmaaGreat
open Go.MapKept Go.RowKit

abbrev dirT : TypeId := 67
abbrev dirV (p0 : Nat) : Value := .agg #[.pointer (some ⟨p0, 0, none⟩)]

/-- the nodes to which arcs lead from a node -/
def outs (ids : List Int) (M : Mat) (x : Int) : List Int := (arcsOf ids.length (M (ix ids x))).map fun p => ids.getD p.1 0

theorem PlnR.row {w : World} {p0 : Nat} {ids : List Int} {M : Mat} (h : PlnR w p0 ids M) {i : Nat} (hi : i < ids.length) : ∃ Ro vr, w.cell? ⟨p0, 1, none⟩ = some (.slice (some ⟨Ro, 0, none⟩) ids.length ids.length) ∧ w.cell? ⟨Ro, i, none⟩ = some vr ∧ ArcsR w vr (arcsOf ids.length (M i)) ∧ Ro < w.heap.size := by
  obtain ⟨B, Ro, Ri, vids, V, A⟩ := h
  refine ⟨Ro, V i, cell_at A.blk, A.ro.cell hi, ?_, A.ro.lt⟩
  have := ArcsR.of_own (A.own i (by omega))
  have e : rowsOf ids.length M i = M i := by unfold rowsOf; rw [if_pos hi]
  rw [e] at this
  exact this

theorem ItPost.weak {l : List Int} {w w0 : World} {e : Ending} {w' : World} (h : ItPost l w e w') (hg : w0.grownBy w none) : ItPost l w0 e w' := by
  obtain ⟨q, vs, h1, h2, h3, h4, h5⟩ := h
  exact ⟨q, vs, h1, h2, own_mono h3 hg.size, Nat.le_trans hg.size h4, grown_tr hg h5⟩

set_option maxHeartbeats 400000 in
theorem dir_nodes {p0 : Nat} {ids : List Int} {M : Mat} {w : World} (h : PlnR w p0 ids M) (hl : ids.length ≤ 1000) : Calls Tryz.prog 175 #[dirV p0] w (ItPost ids w) := by
  have hcall := fun O => all_any (h.grown (grown_alloc w O)) hl
  clear h
  go_enter Tryz.func175, Tryz.ntmps175
  go_wp2_with (go_at_call 178; refine (hcall _).mono ?_; intro e w' hp; obtain ⟨q, vs, rfl, hp2⟩ := hp)
  go_ret
  exact ItPost.weak ⟨q, vs, rfl, hp2⟩ (grown_alloc _ _)

set_option maxHeartbeats 1000000 in
set_option maxRecDepth 100000 in
theorem dir_from {p0 : Nat} {ids : List Int} {M : Mat} {w : World} {x : Int} (h : PlnR w p0 ids M) (hl : ids.length ≤ 1000) (hx : x ∈ ids) (ha : ids.Pairwise (· < ·)) : Calls Tryz.prog 173 #[dirV p0, .int .i64 x] w (ItPost (outs ids M x) w) := by
  have hix := ix_lt hx
  obtain ⟨vids, hc, hint, hp⟩ := h.ids
  obtain ⟨Ro, vr, h1, h2, h3, hro⟩ := h.row hix
  obtain ⟨ar, cr, rfl⟩ : ∃ a c, vr = .slice a (arcsOf ids.length (M (ix ids x))).length c := by obtain ⟨a, c, e, _⟩ := h3; exact ⟨a, c, e⟩
  have hidx : ∀ O, Calls Tryz.prog 43 #[.pointer (some ⟨p0, 0, none⟩), .int .i64 x] (w.alloc O) (fun e w' => e = .returned (.tuple #[.int .i64 ((ix ids x : Nat) : Int), .bool true]) ∧ w' = w.alloc O) := fun O =>
    (plain_index (x := x) (by rw [World.cell?_alloc_past _ _ _ hp]; exact hc) (hint.grown (grown_alloc w O)) ha (by omega)).mono (fun e w' ⟨m, h1, h2, h3⟩ => ⟨by rw [h2, (h1 hx).1, decide_eq_true hx], h3⟩)
  have hends := fun O q => ends_any (h.grown (grown_tr (grown_alloc w O) (grown_drewN _ q))) (h3.grown (grown_tr (grown_alloc w O) (grown_drewN _ q))) (by have := length_arcsOf ids.length (M (ix ids x)); omega) hl (fun p hp => (arcsOf_mem.1 hp).1)
  have HE := Lib.hid hends
  have d1 : ∀ O, (w.alloc O).cell? ⟨p0, 1, none⟩ = _ := fun O => (World.cell?_alloc_past O p0 1 hp).trans h1
  have d2 : ∀ O, (w.alloc O).cell? ⟨Ro, ix ids x, none⟩ = _ := fun O => (World.cell?_alloc_past O Ro (ix ids x) hro).trans h2
  obtain ⟨i, hi⟩ : ∃ i, i = ix ids x := ⟨_, rfl⟩
  have HO : Hid ((List.map (fun p => ids.getD p.1 0) (arcsOf ids.length (M i))) = outs ids M x) := Lib.hid (by rw [hi]; rfl)
  rw [← hi] at hix hidx HE d2
  rw [← HO.out]
  have HI := Lib.hid hi
  clear hi hends h1 h2 h3 h hint hc
  have hi0 : (0 : Int) ≤ i := by omega
  have hi1 : (i : Int) < ids.length := by omega
  go_enter Tryz.func173, Tryz.ntmps173
  go_wp2_with (go_at_call 43; refine (hidx _).mono ?_; rintro e w' ⟨rfl, rfl⟩)
  go_region_with (go_at_call 176; refine (HE.out _ 1).mono ?_; intro e w' hp; obtain ⟨q, vs, rfl, hp2⟩ := hp)
  all_goals go_wp2_with fail
  all_goals go_ret
  all_goals exact ItPost.weak ⟨q, vs, rfl, hp2⟩ (grown_tr (grown_alloc w _) (grown_drewN _ 1))

end Go.Proofs.YtdllkoiddlcnmaaGreat
