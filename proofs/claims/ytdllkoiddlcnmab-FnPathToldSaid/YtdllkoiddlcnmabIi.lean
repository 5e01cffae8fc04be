/- impl.IsPathIn. -/
import Derived.Test.YtdllkoiddlcnmabIq
namespace Go.Proofs.Ytdllkoiddlcnmab
open Go.MapKept Go.RowKit

noncomputable def pathB (ids : List Int) (M : Mat) (l : List Int) : Bool := @decide (PathP ids M l) (Classical.propDecidable _)
theorem pathB_iff {ids : List Int} {M : Mat} {l : List Int} : pathB ids M l = true ↔ PathP ids M l := by unfold pathB; exact @decide_eq_true_iff _ (Classical.propDecidable _)
theorem pathB_nil (ids : List Int) (M : Mat) : pathB ids M [] = true := pathB_iff.2 (.nil _ _)

set_option maxHeartbeats 1000000 in
set_option maxRecDepth 100000 in
theorem isPathIn_any {G : Gr} {vg vp : Value} {l : List Int} {w : World} (h : GrR w vg G) (hG : G.Well) (hnl : G.nodes.length ≤ 1000) (hel : G.edges.length ≤ 10000) (hp : IntsR w vp l) (hll : l.length ≤ 1000) :
    Calls Try.prog 6 #[vg, vp] w (fun e w' => e = .returned (.tuple #[.bool (pathB G.ids G.mat l), .bool false]) ∧ w.grownBy w' none) := by
  have hopen := fun O => open_any (h.grown (grown_alloc w O)) hG hnl hel
  have hidl : G.ids.length ≤ 1000 := by rw [Gr.length_ids]; exact hnl
  have hasc := hG.ids
  have hnod := fun W (hW : w.grownBy W none) => nodesOf_any (hp.grown hW) (by omega)
  have his : ∀ W p0 B vl, PlnR W p0 G.ids G.mat → W.ownsRow B nodT 1 vl l.length (l.map nodeV) → Calls Try.prog 10 #[.iface (wayT G.dir) (dirV p0), vl] W (fun e w' => e = .returned (.bool (pathB G.ids G.mat l)) ∧ W.grownBy w' none) := fun W p0 B vl hp ho => by
    have k : Calls Try.prog 10 #[.iface (wayT G.dir) (dirV p0), vl] W (IsPost G.ids G.mat l W) := by
      cases G.dir
      · exact is_und hp hidl hasc ho hll
      · exact is_dir hp hidl hasc ho hll
    exact k.mono (fun e w' ⟨p, h1, h2, h3⟩ => by
      have e1 : p = pathB G.ids G.mat l := by rw [Bool.eq_iff_iff, h2, pathB_iff]
      rw [h1, e1]
      exact ⟨rfl, h3⟩)
  obtain ⟨vn, ve, rfl, ⟨an, cn, rfl, _⟩, ⟨ae, ce, rfl, _⟩⟩ := h.parts
  obtain ⟨ap, cp, rfl, -⟩ := hp
  clear h hG hidl hasc hnl hel
  unfold OpenPost at hopen
  obtain ⟨p, hp⟩ : ∃ p, p = pathB G.ids G.mat l := ⟨_, rfl⟩
  rw [← hp] at his ⊢
  clear hp
  go_enter Try.func6, Try.ntmps6
  go_wp2_with (first
    | (go_at_call 9; refine (hopen _).mono ?_; intro e w1 hp; obtain ⟨p0, rfl, hp1, hg1⟩ := hp; replace hp1 := Lib.hid hp1)
    | (go_at_call 11; refine (hnod _ (grown_tr (grown_alloc _ _) hg1)).mono ?_; intro e w2 hp; obtain ⟨vl, rfl, ho, hg2⟩ := hp; have his2 := his w2 p0 _ vl (hp1.out.grown hg2) ho; clear ho)
    | (go_at_call 10; refine his2.mono ?_; rintro e w3 ⟨rfl, hg3⟩))
  go_ret2
  exact ⟨rfl, grown_tr (grown_tr (grown_tr (grown_alloc _ _) hg1) hg2) hg3⟩
end Go.Proofs.Ytdllkoiddlcnmab
