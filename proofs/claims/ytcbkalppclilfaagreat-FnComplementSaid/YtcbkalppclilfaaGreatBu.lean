/- The laws' own: builds. -/
import Derived.Test.YtcbkalppclilfaaGreatCq
import Derived.Test.YtcbkalppclilfaaGreatEe
namespace Go.Proofs.YtcbkalppclilfaaGreat
open Go.MapKept Go.RowKit

theorem lit_ints {w : World} (a b : Int) : IntsR (w.alloc (.cells #[.int .i64 a, .int .i64 b] ntT)) (.slice (some ⟨w.heap.size, 0, none⟩) 2 2) [a, b] :=
  ⟨_, _, rfl, fun _ => ⟨_, _, rfl, by simp, fun i hi => by
    have hb : (w.alloc (.cells #[.int .i64 a, .int .i64 b] ntT)).heap[w.heap.size]? = some (.cells #[.int .i64 a, .int .i64 b] ntT) := heap_alloc_new w _
    match i, hi with
    | 0, _ => exact cell_at hb
    | 1, _ => exact cell_at hb
    | i + 2, hi => simp at hi; omega⟩⟩

theorem lit_ints2 (w : World) (O : Obj) (a b : Int) : IntsR ((w.alloc O).alloc (.cells #[.int .i64 a, .int .i64 b] ntT)) (.slice (some ⟨w.heap.size + 1, 0, none⟩) 2 2) [a, b] := by
  have := lit_ints (w := w.alloc O) a b
  have e : (w.alloc O).heap.size = w.heap.size + 1 := by simp
  rw [e] at this
  exact this
theorem complement_87 (w : World) : Calls Tryz.prog 8 #[.agg #[.bool false, .slice (some ⟨w.heap.size, 0, none⟩) 2 2, .slice none 0 0]] (w.alloc (.cells #[.int .i64 8, .int .i64 7] ntT)) (GrPost false [7, 8] [(7, 8, 0)] (w.alloc (.cells #[.int .i64 8, .int .i64 7] ntT))) := by
  have he : EdgesR (w.alloc (.cells #[.int .i64 8, .int .i64 7] ntT)) (.slice none 0 0) [] := ⟨_, _, rfl, fun h => by simp at h⟩
  have hc := complement_any (G := g87) ⟨_, _, rfl, lit_ints (w := w) 8 7, he⟩ g87_well (by simp [g87]) (by simp [g87])
  rw [g87_ids, g87_E] at hc
  exact hc

set_option maxHeartbeats 1000000 in
set_option maxRecDepth 100000 in
theorem builds_any (w : World) : Calls Tryz.prog 12 #[] w (fun e w' => e = .returned (.bool true) ∧ w.grownBy w' none) := by
  have hc := complement_87 w
  go_enter Tryz.func12, Tryz.ntmps12
  go_wp2_with (first
    | (go_at_call 8; refine hc.mono ?_; intro e w1 hp; obtain ⟨vn, ve, rfl, hn, he, hg1⟩ := hp; clear hc; obtain ⟨a1, c1, rfl, -⟩ := id hn; obtain ⟨a2, c2, rfl, -⟩ := id he; have hlit : IntsR ((w1.alloc (.cells #[.bool false, .slice a1 2 c1, .slice a2 1 c2] grT)).alloc (.cells #[.int .i64 7, .int .i64 8] ntT)) (.slice (some ⟨w1.heap.size + 1, 0, none⟩) 2 2) [7, 8] := lit_ints2 w1 _ 7 8; have heq := equal_same (hn.grown (grown_tr (grown_alloc _ _) (grown_alloc _ _))) hlit (by simp); have hbx : ∀ W, ((w1.alloc (.cells #[.bool false, .slice a1 2 c1, .slice a2 1 c2] grT)).alloc (.cells #[.int .i64 7, .int .i64 8] ntT)).grownBy W none → W.cell? ⟨w1.heap.size, 2, none⟩ = some (.slice a2 1 c2) := (fun W hW => by rw [box_at (grown_tr (grown_alloc _ _) hW) 2]; rfl); clear hn he hlit)
    | (go_at_call 26; refine heq.mono ?_; rintro e w2 ⟨rfl, hg2⟩; have b2 : w2.cell? ⟨w1.heap.size, 2, none⟩ = some (.slice a2 1 c2) := hbx w2 hg2))
  go_ret
  exact ⟨rfl, grown_tr (grown_tr (grown_alloc _ _) hg1) (grown_tr (grown_tr (grown_alloc _ _) (grown_alloc _ _)) hg2)⟩
end Go.Proofs.YtcbkalppclilfaaGreat
