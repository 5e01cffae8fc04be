/- A plain graph as an undirected one; Node; impl.open. -/
import Derived.Test.YtinlaaeoiocfoaaDi
namespace Go.Proofs.Ytinlaaeoiocfoaa
open Go.MapKept Go.RowKit

abbrev undT : TypeId := 43

set_option maxHeartbeats 400000 in
theorem und_nodes {p0 : Nat} {ids : List Int} {M : Mat} {w : World} (h : PlnR w p0 ids M) (hl : ids.length ≤ 1000) : Calls Try.prog 80 #[dirV p0] w (ItPost ids w) := by
  have hcall := fun O => all_any (h.grown (grown_alloc w O)) hl
  clear h
  go_enter Try.func80, Try.ntmps80
  go_wp2_with (go_at_call 83; refine (hcall _).mono ?_; intro e w' hp; obtain ⟨q, vs, rfl, hp2⟩ := hp)
  go_ret
  exact ItPost.weak ⟨q, vs, rfl, hp2⟩ (grown_alloc _ _)

set_option maxHeartbeats 1000000 in
set_option maxRecDepth 100000 in
theorem und_from {p0 : Nat} {ids : List Int} {M : Mat} {w : World} {x : Int} (h : PlnR w p0 ids M) (hl : ids.length ≤ 1000) (hx : x ∈ ids) (ha : ids.Pairwise (· < ·)) : Calls Try.prog 78 #[dirV p0, .int .i64 x] w (ItPost (outs ids M x) w) := by
  have hix := ix_lt hx
  obtain ⟨vids, hc, hint, hp⟩ := h.ids
  obtain ⟨Ro, vr, h1, h2, h3, hro⟩ := h.row hix
  obtain ⟨ar, cr, rfl⟩ : ∃ a c, vr = .slice a (arcsOf ids.length (M (ix ids x))).length c := by obtain ⟨a, c, e, _⟩ := h3; exact ⟨a, c, e⟩
  have hidx : ∀ O, Calls Try.prog 28 #[.pointer (some ⟨p0, 0, none⟩), .int .i64 x] (w.alloc O) (fun e w' => e = .returned (.tuple #[.int .i64 ((ix ids x : Nat) : Int), .bool true]) ∧ w' = w.alloc O) := fun O =>
    (plain_index (x := x) (by rw [World.cell?_alloc_past _ _ _ hp]; exact hc) (hint.grown (grown_alloc w O)) ha (by omega)).mono (fun e w' ⟨m, h1, h2, h3⟩ => ⟨by rw [h2, (h1 hx).1, decide_eq_true hx], h3⟩)
  have hends := fun O q => ends_any (h.grown (grown_tr (grown_alloc w O) (grown_drewN _ q))) (h3.grown (grown_tr (grown_alloc w O) (grown_drewN _ q))) (by have := length_arcsOf ids.length (M (ix ids x)); omega) hl (fun p hp => (arcsOf_mem.1 hp).1)
  have HE := Lib.hid hends
  have d1 : ∀ O, (w.alloc O).cell? ⟨p0, 1, none⟩ = _ := fun O => (World.cell?_alloc_past O p0 1 hp).trans h1
  have d2 : ∀ O, (w.alloc O).cell? ⟨Ro, ix ids x, none⟩ = _ := fun O => (World.cell?_alloc_past O Ro (ix ids x) hro).trans h2
  obtain ⟨i, hi⟩ : ∃ i, i = ix ids x := ⟨_, rfl⟩
  have HO : Hid ((List.map (fun p => ids.getD p.1 0) (arcsOf ids.length (M i))) = outs ids M x) := Lib.hid (by rw [hi]; rfl)
  rw [← hi] at hix hidx HE d2
  rw [← HO.out]
  have HI := Lib.hid hi
  clear hi hends h1 h2 h3 h hint hc
  have hi0 : (0 : Int) ≤ i := by omega
  have hi1 : (i : Int) < ids.length := by omega
  go_enter Try.func78, Try.ntmps78
  go_wp2_with (go_at_call 28; refine (hidx _).mono ?_; rintro e w' ⟨rfl, rfl⟩)
  go_region_with (go_at_call 81; refine (HE.out _ 1).mono ?_; intro e w' hp; obtain ⟨q, vs, rfl, hp2⟩ := hp)
  all_goals go_wp2_with fail
  all_goals go_ret
  all_goals exact ItPost.weak ⟨q, vs, rfl, hp2⟩ (grown_tr (grown_alloc w _) (grown_drewN _ 1))


set_option maxHeartbeats 1000000 in
theorem plain_node {p0 : Nat} {ids : List Int} {M : Mat} {w : World} {x : Int} (h : PlnR w p0 ids M) (hl : ids.length ≤ 1000) (hx : x ∈ ids) (ha : ids.Pairwise (· < ·)) : Calls Try.prog 82 #[.pointer (some ⟨p0, 0, none⟩), .int .i64 x] w (fun e w' => e = .returned (nodeV x) ∧ w = w') := by
  obtain ⟨vids, hc, hint, hp⟩ := h.ids
  have hidx : Calls Try.prog 28 #[.pointer (some ⟨p0, 0, none⟩), .int .i64 x] w (fun e w' => ∃ m : Int, e = .returned (.tuple #[.int .i64 m, .bool true]) ∧ w = w') :=
    (plain_index (x := x) hc hint ha (by omega)).mono (fun e w' ⟨m, h1, h2, h3⟩ => ⟨m, by rw [h2, decide_eq_true hx], h3.symm⟩)
  clear h hc hint hp
  go_enter Try.func82, Try.ntmps82
  go_wp2_with (go_at_call 28; refine hidx.mono ?_; rintro e w' ⟨m, rfl, rfl⟩)
  go_ret
  exact ⟨rfl, rfl⟩

set_option maxHeartbeats 400000 in
theorem und_node {p0 : Nat} {ids : List Int} {M : Mat} {w : World} {x : Int} (h : PlnR w p0 ids M) (hl : ids.length ≤ 1000) (hx : x ∈ ids) (ha : ids.Pairwise (· < ·)) : Calls Try.prog 79 #[dirV p0, .int .i64 x] w (fun e w' => e = .returned (nodeV x) ∧ w.grownBy w' none) := by
  have hcall := fun O => plain_node (h.grown (grown_alloc w O)) hl hx ha
  clear h
  go_enter Try.func79, Try.ntmps79
  go_wp2_with (go_at_call 82; refine (hcall _).mono ?_; rintro e w' ⟨rfl, rfl⟩)
  go_ret
  exact ⟨rfl, grown_alloc _ _⟩

end Go.Proofs.Ytinlaaeoiocfoaa
