/- impl.SCC's answer; the graph with one node. -/
import Derived.Test.YtcbkalppclilfaaGreatSl
import Derived.Test.YtcbkalppclilfaaGreatLe
namespace Go.Proofs.YtcbkalppclilfaaGreat
open Go.MapKept Go.RowKit

/-- what impl.SCC answers -/
def sccL (G : Gr) : List (List Int) := (tall (outs G.ids G.mat) G.ids.length G.ids).out.reverse.map srt
theorem sccL_ok {G : Gr} (hG : G.Well) : SccOk (edgeOf G.ids G.mat) G.ids (sccL G) :=
  (scc_ok (succ := outs G.ids G.mat) (ids := G.ids) (fun x _ y hy => outs_in hy) (hG.ids.imp (fun hab e => by omega))).mono (fun u hu v => rch_outs hG.ids hu)
def g7 : Gr := ⟨true, [7], []⟩
theorem g7_well : g7.Well := ⟨by simp [g7], by simp [g7]⟩
theorem g7_len : (sccL g7).length = 1 := by
  have h := sccL_ok g7_well
  have e : g7.ids = [7] := by simp [Gr.ids, g7, srt]
  rw [e] at h
  exact scc_one h

def TrueB (w : World) (e : Ending) (w' : World) : Prop := e = .returned (.bool true) ∧ w.grownBy w' none

/-- the graph with one node, as the law lays it -/
theorem scc_seven (w : World) : Calls Tryz.prog 14 #[.agg #[.bool true, .slice (some ⟨w.heap.size, 0, none⟩) 1 1, .slice none 0 0]] (w.alloc (.cells #[.int .i64 7] intT))
    (fun e w' => ∃ a c, e = .returned (.tuple #[.slice a 1 c, .bool false]) ∧ (w.alloc (.cells #[.int .i64 7] intT)).grownBy w' none) := by
  have hb : (w.alloc (.cells #[.int .i64 7] intT)).heap[w.heap.size]? = some (.cells #[.int .i64 7] intT) := heap_alloc_new w _
  have hi : IntsR (w.alloc (.cells #[.int .i64 7] intT)) (.slice (some ⟨w.heap.size, 0, none⟩) 1 1) [7] := ⟨_, _, rfl, fun _ => ⟨_, _, rfl, by simp, fun i hi => by
    obtain rfl : i = 0 := by simpa using hi
    exact cell_at hb⟩⟩
  have he : EdgesR (w.alloc (.cells #[.int .i64 7] intT)) (.slice none 0 0) [] := ⟨_, _, rfl, fun h => by simp at h⟩
  refine (scc_any (G := g7) ⟨_, _, rfl, hi, he⟩ g7_well rfl (by simp [g7]) (by simp [g7])).mono ?_
  intro e w' hp
  obtain ⟨v, rfl, ⟨a, c, vals, rfl, _⟩, hg⟩ := hp
  refine ⟨a, c, ?_, hg⟩
  have := g7_len
  unfold sccL at this
  rw [this]

end Go.Proofs.YtcbkalppclilfaaGreat
