/- impl.PathExistsIn. -/
import Derived.Test.YtdllkoiddlcnmabFm
import Derived.Test.YtdllkoiddlcnmabPe
namespace Go.Proofs.Ytdllkoiddlcnmab
open Go.MapKept Go.RowKit

def PxPost (E : Int → Int → Prop) (u v : Int) (w : World) (e : Ending) (w' : World) : Prop :=
  ∃ p : Bool, e = .returned (.tuple #[.bool p, .bool false]) ∧ (p = true ↔ Rch E u v) ∧ w.grownBy w' none

set_option maxHeartbeats 1000000 in
set_option maxRecDepth 100000 in
theorem pathExists_any {G : Gr} {vg : Value} {u v : Int} {w : World} (h : GrR w vg G) (hG : G.Well) (hnl : G.nodes.length ≤ 1000) (hel : G.edges.length ≤ 10000) (hu : u ∈ G.ids) :
    Calls Try.prog 7 #[vg, .int .i64 u, .int .i64 v] w (PxPost (edgeOf G.ids G.mat) u v w) := by
  have hidl : G.ids.length ≤ 1000 := by rw [Gr.length_ids]; exact hnl
  have hasc := hG.ids
  have hfm := fun (W : World) (hW : w.grownBy W none) (vl : Value) (hr : IntsR W vl [u]) => from_any (h.grown hW) hG hnl hel hr (fun x hx => by simp at hx; rw [hx]; exact hu) (by simp)
  obtain ⟨vn, ve, rfl, ⟨an, cn, rfl, _⟩, ⟨ae, ce, rfl, _⟩⟩ := h.parts
  clear h
  have hpe : ∀ W p0, PlnR W p0 G.ids G.mat → Calls Try.prog 13 #[.iface (wayT G.dir) (dirV p0), nodeV u, nodeV v] W (PePost (edgeOf G.ids G.mat) u v W) := fun W p0 hp => by
    cases G.dir
    · exact pe_und hp hidl hasc hu
    · exact pe_dir hp hidl hasc hu
  obtain ⟨w0, hw0⟩ : ∃ w0, w0 = (w.alloc (.cells #[.bool G.dir, .slice an G.nodes.length cn, .slice ae G.edges.length ce] 25)).alloc (.cells #[.int .i64 u] 3) := ⟨_, rfl⟩
  have hg0 : w.grownBy w0 none := by rw [hw0]; exact grown_tr (grown_alloc _ _) (grown_alloc _ _)
  have hfm0 := hfm w0 hg0 (.slice (some ⟨w.heap.size + 1, 0, none⟩) 1 1) ⟨_, _, rfl, fun _ => ⟨_, _, rfl, by rw [hw0]; simp, fun i hi => by
    obtain rfl : i = 0 := by simpa using hi
    rw [hw0]
    exact cell_at (heap_alloc2 w _ _)⟩⟩
  have HG0 := Lib.hid hg0
  rw [hw0] at hfm0 HG0
  unfold OpenPost at hfm0
  obtain ⟨d, hd⟩ : ∃ d, d = G.dir := ⟨_, rfl⟩
  rw [← hd] at hfm0 hpe HG0 ⊢
  clear hfm hw0 hg0 hG hidl hasc hu hd
  cases d
  all_goals
    go_enter Try.func7, Try.ntmps7
    go_wp2_with (first
      | (go_at_call 12; refine hfm0.mono ?_; intro e w1 hp; obtain ⟨p0, rfl, hp1, hg1⟩ := hp; have hpx := hpe w1 p0 hp1)
      | (go_at_call 13; refine hpx.mono ?_; intro e w2 hp; obtain ⟨p, rfl, hpr, hg2⟩ := hp))
    go_ret2
    exact ⟨p, rfl, hpr, grown_tr (grown_tr HG0.out hg1) hg2⟩
end Go.Proofs.Ytdllkoiddlcnmab
