/- impl.bothWays. -/
import Derived.Test.YtinlaaeoiocfoaaUn
namespace Go.Proofs.Ytinlaaeoiocfoaa
open Go.MapKept Go.RowKit

def BothPost (G : Gr) (w : World) (e : Ending) (w' : World) : Prop := ∃ p0, e = .returned (.tuple #[dirV p0,  .bool (!G.dir)]) ∧ PlnR w' p0 G.ids G.mat ∧ w.grownBy w' none

set_option maxHeartbeats 400000 in
set_option maxRecDepth 100000 in
theorem bothWays_any {G : Gr} {v : Value} {w : World} (h : GrR w v G) (hG : G.Well) (hnl : G.nodes.length ≤ 1000) (hel : G.edges.length ≤ 10000) :
    Calls Try.prog 12 #[v] w (BothPost G w) := by
  have hread := fun O O2 => read_any (h.grown (grown_tr (grown_alloc w O) (grown_alloc _ O2))) hG hnl hel
  obtain ⟨vn, ve, rfl, ⟨an, cn, rfl, _⟩, ⟨ae, ce, rfl, _⟩⟩ := h.parts
  clear h
  have hbx : ∀ w1, ((w.alloc (.cells #[.bool G.dir, .slice an G.nodes.length cn, .slice ae G.edges.length ce] 25)).alloc (.cells #[.pointer none] undT)).grownBy w1 none → w1.cell? ⟨w.heap.size, 0, none⟩ = some (.bool G.dir) ∧ w1.cell? ⟨w.heap.size + 1, 0, none⟩ = some (.pointer none) ∧ w1.frozen? ⟨w.heap.size + 1, 0, none⟩ = false := fun w1 hg => by
    have b1 := grown_block hg (heap_alloc2 w (.cells #[.bool G.dir, .slice an G.nodes.length cn, .slice ae G.edges.length ce] 25) (.cells #[.pointer none] undT)) (by simp)
    have b0 := box_at (grown_tr (grown_alloc _ _) hg) 0
    exact ⟨by rw [b0]; rfl, cell_at b1, free_at b1⟩
  have HB := Lib.hid hbx
  clear hbx
  obtain ⟨d, hd⟩ : ∃ d, d = G.dir := ⟨_, rfl⟩
  have HD := Lib.hid hd
  rw [← hd] at HB hread
  rw [← hd]
  clear hd
  go_enter Try.func12, Try.ntmps12
  go_wp2_with (go_at_call 19; refine (hread _ _).mono ?_; intro e w1 hp; obtain ⟨p0, rfl, hp1, hp2⟩ := hp; obtain ⟨b1, b2, b3⟩ := HB.out w1 hp2; replace hp1 := Lib.hid hp1; replace hp2 := Lib.hid hp2)
  go_region
  all_goals go_wp2_with fail
  all_goals
    have hcr : ((w1.setCell ⟨w.heap.size + 1, 0, none⟩ (.pointer (some ⟨p0, 0, none⟩))).drew).cell? ⟨w.heap.size + 1, 0, none⟩ = some (.pointer (some ⟨p0, 0, none⟩)) := World.cell?_setCell_same _ _ _ b2
    have h1 := hp1.out.other (grown_setCell w1 (w.heap.size + 1) 0 (.pointer (some ⟨p0, 0, none⟩))) (by simp)
    refine bodyPost_ret (v := .tuple #[dirV p0, .bool (!d)]) (by simp [results, Try.results12, go_sem, hcr]) rfl ⟨p0, by rw [← HD.out], h1.pln.grown (grown_drew _), ?_⟩
    exact grown_tr (grown_new (grown_tr (grown_tr (grown_alloc _ _) (grown_alloc _ _)) hp2.out) (grown_setCell w1 (w.heap.size + 1) 0 _) (fun k hk => by cases hk; omega)) (grown_drew _)
end Go.Proofs.Ytinlaaeoiocfoaa
