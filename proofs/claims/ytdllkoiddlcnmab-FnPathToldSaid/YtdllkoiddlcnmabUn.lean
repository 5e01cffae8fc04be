/- A plain graph as an undirected one; Node; impl.open. -/
import Derived.Test.YtdllkoiddlcnmabDi
namespace Go.Proofs.Ytdllkoiddlcnmab
open Go.MapKept Go.RowKit

abbrev undT : TypeId := 52


set_option maxHeartbeats 1000000 in
set_option maxRecDepth 100000 in
theorem und_from {p0 : Nat} {ids : List Int} {M : Mat} {w : World} {x : Int} (h : PlnR w p0 ids M) (hl : ids.length ≤ 1000) (hx : x ∈ ids) (ha : ids.Pairwise (· < ·)) : Calls Try.prog 94 #[dirV p0, .int .i64 x] w (ItPost (outs ids M x) w) := by
  have hix := ix_lt hx
  obtain ⟨vids, hc, hint, hp⟩ := h.ids
  obtain ⟨Ro, vr, h1, h2, h3, hro⟩ := h.row hix
  obtain ⟨ar, cr, rfl⟩ : ∃ a c, vr = .slice a (arcsOf ids.length (M (ix ids x))).length c := by obtain ⟨a, c, e, _⟩ := h3; exact ⟨a, c, e⟩
  have hidx : ∀ O, Calls Try.prog 18 #[.pointer (some ⟨p0, 0, none⟩), .int .i64 x] (w.alloc O) (fun e w' => e = .returned (.tuple #[.int .i64 ((ix ids x : Nat) : Int), .bool true]) ∧ w' = w.alloc O) := fun O =>
    (plain_index (x := x) (by rw [World.cell?_alloc_past _ _ _ hp]; exact hc) (hint.grown (grown_alloc w O)) ha (by omega)).mono (fun e w' ⟨m, h1, h2, h3⟩ => ⟨by rw [h2, (h1 hx).1, decide_eq_true hx], h3⟩)
  have hends := fun O q => ends_any (h.grown (grown_tr (grown_alloc w O) (grown_drewN _ q))) (h3.grown (grown_tr (grown_alloc w O) (grown_drewN _ q))) (by have := length_arcsOf ids.length (M (ix ids x)); omega) hl (fun p hp => (arcsOf_mem.1 hp).1)
  have HE := Lib.hid hends
  have d1 : ∀ O, (w.alloc O).cell? ⟨p0, 1, none⟩ = _ := fun O => (World.cell?_alloc_past O p0 1 hp).trans h1
  have d2 : ∀ O, (w.alloc O).cell? ⟨Ro, ix ids x, none⟩ = _ := fun O => (World.cell?_alloc_past O Ro (ix ids x) hro).trans h2
  obtain ⟨i, hi⟩ : ∃ i, i = ix ids x := ⟨_, rfl⟩
  have HO : Hid ((List.map (fun p => ids.getD p.1 0) (arcsOf ids.length (M i))) = outs ids M x) := Lib.hid (by rw [hi]; rfl)
  rw [← hi] at hix hidx HE d2
  rw [← HO.out]
  have HI := Lib.hid hi
  clear hi hends h1 h2 h3 h hint hc
  have hi0 : (0 : Int) ≤ i := by omega
  have hi1 : (i : Int) < ids.length := by omega
  go_enter Try.func94, Try.ntmps94
  go_wp2_with (go_at_call 18; refine (hidx _).mono ?_; rintro e w' ⟨rfl, rfl⟩)
  go_region_with (go_at_call 88; refine (HE.out _ 1).mono ?_; intro e w' hp; obtain ⟨q, vs, rfl, hp2⟩ := hp)
  all_goals go_wp2_with fail
  all_goals go_ret
  all_goals exact ItPost.weak ⟨q, vs, rfl, hp2⟩ (grown_tr (grown_alloc w _) (grown_drewN _ 1))


set_option maxHeartbeats 1000000 in
theorem plain_node {p0 : Nat} {ids : List Int} {M : Mat} {w : World} {x : Int} (h : PlnR w p0 ids M) (hl : ids.length ≤ 1000) (hx : x ∈ ids) (ha : ids.Pairwise (· < ·)) : Calls Try.prog 90 #[.pointer (some ⟨p0, 0, none⟩), .int .i64 x] w (fun e w' => e = .returned (nodeV x) ∧ w = w') := by
  obtain ⟨vids, hc, hint, hp⟩ := h.ids
  have hidx : Calls Try.prog 18 #[.pointer (some ⟨p0, 0, none⟩), .int .i64 x] w (fun e w' => ∃ m : Int, e = .returned (.tuple #[.int .i64 m, .bool true]) ∧ w = w') :=
    (plain_index (x := x) hc hint ha (by omega)).mono (fun e w' ⟨m, h1, h2, h3⟩ => ⟨m, by rw [h2, decide_eq_true hx], h3.symm⟩)
  clear h hc hint hp
  go_enter Try.func90, Try.ntmps90
  go_wp2_with (go_at_call 18; refine hidx.mono ?_; rintro e w' ⟨m, rfl, rfl⟩)
  go_ret
  exact ⟨rfl, rfl⟩

set_option maxHeartbeats 400000 in
theorem dir_node {p0 : Nat} {ids : List Int} {M : Mat} {w : World} {x : Int} (h : PlnR w p0 ids M) (hl : ids.length ≤ 1000) (hx : x ∈ ids) (ha : ids.Pairwise (· < ·)) : Calls Try.prog 83 #[dirV p0, .int .i64 x] w (fun e w' => e = .returned (nodeV x) ∧ w.grownBy w' none) := by
  have hcall := fun O => plain_node (h.grown (grown_alloc w O)) hl hx ha
  clear h
  go_enter Try.func83, Try.ntmps83
  go_wp2_with (go_at_call 90; refine (hcall _).mono ?_; rintro e w' ⟨rfl, rfl⟩)
  go_ret
  exact ⟨rfl, grown_alloc _ _⟩
set_option maxHeartbeats 400000 in
theorem und_node {p0 : Nat} {ids : List Int} {M : Mat} {w : World} {x : Int} (h : PlnR w p0 ids M) (hl : ids.length ≤ 1000) (hx : x ∈ ids) (ha : ids.Pairwise (· < ·)) : Calls Try.prog 96 #[dirV p0, .int .i64 x] w (fun e w' => e = .returned (nodeV x) ∧ w.grownBy w' none) := by
  have hcall := fun O => plain_node (h.grown (grown_alloc w O)) hl hx ha
  clear h
  go_enter Try.func96, Try.ntmps96
  go_wp2_with (go_at_call 90; refine (hcall _).mono ?_; rintro e w' ⟨rfl, rfl⟩)
  go_ret
  exact ⟨rfl, grown_alloc _ _⟩

def wayT (d : Bool) : TypeId := if d then dirT else undT
def OpenPost (G : Gr) (w : World) (e : Ending) (w' : World) : Prop := ∃ p0, e = .returned (.tuple #[.iface (wayT G.dir) (dirV p0), .pointer (some ⟨p0, 0, none⟩), .bool true]) ∧ PlnR w' p0 G.ids G.mat ∧ w.grownBy w' none

set_option maxHeartbeats 400000 in
set_option maxRecDepth 100000 in
theorem open_any {G : Gr} {v : Value} {w : World} (h : GrR w v G) (hG : G.Well) (hnl : G.nodes.length ≤ 1000) (hel : G.edges.length ≤ 10000) :
    Calls Try.prog 9 #[v] w (OpenPost G w) := by
  have hread := fun O => read_any (h.grown (grown_alloc w O)) hG hnl hel
  obtain ⟨vn, ve, rfl, ⟨an, cn, rfl, _⟩, ⟨ae, ce, rfl, _⟩⟩ := h.parts
  clear h
  have HB : Hid (∀ w1, (w.alloc (.cells #[.bool G.dir, .slice an G.nodes.length cn, .slice ae G.edges.length ce] 25)).grownBy w1 none → w1.cell? ⟨w.heap.size, 0, none⟩ = some (.bool G.dir)) := Lib.hid (fun w1 hg => by rw [box_at hg 0]; rfl)
  unfold OpenPost
  obtain ⟨d, hd⟩ : ∃ d, d = G.dir := ⟨_, rfl⟩
  rw [← hd] at HB hread ⊢
  clear hd
  cases d
  all_goals
    go_enter Try.func9, Try.ntmps9
    go_wp2_with (go_at_call 17; refine (hread _).mono ?_; intro e w1 hp; obtain ⟨p0, rfl, hp1, hp2⟩ := hp; have b1 := HB.out w1 hp2; replace hp1 := Lib.hid hp1; replace hp2 := Lib.hid hp2)
    refine bodyPost_ret (v := .tuple #[.iface (wayT _) (dirV p0), .pointer (some ⟨p0, 0, none⟩), .bool true]) (by simp [results, Try.results9, go_sem, wayT]) rfl ⟨p0, rfl, hp1.out.pln, grown_tr (grown_alloc _ _) hp2.out⟩
end Go.Proofs.Ytdllkoiddlcnmab
