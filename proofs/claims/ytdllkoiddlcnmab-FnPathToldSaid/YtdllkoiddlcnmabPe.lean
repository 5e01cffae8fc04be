/- topo.PathExistsIn. -/
import Derived.Test.YtdllkoiddlcnmabBw
import Derived.Test.YtdllkoiddlcnmabOu
namespace Go.Proofs.Ytdllkoiddlcnmab
open Go.MapKept Go.RowKit

def PePost (E : Int → Int → Prop) (u v : Int) (w : World) (e : Ending) (w' : World) : Prop :=
  ∃ p : Bool, e = .returned (.bool p) ∧ (p = true ↔ Rch E u v) ∧ w.grownBy w' none

theorem node_neq (v : Int) (W : World) : (binOp .neq 56 (nodeV v) .nilIface).run Try.prog W = .ok (.bool true) W := by kernel_rfl
theorem nil_neq (W : World) : (binOp .neq 56 .nilIface .nilIface).run Try.prog W = .ok (.bool false) W := by kernel_rfl

set_option maxHeartbeats 4000000 in
set_option maxRecDepth 100000 in
theorem pe_dir {w : World} {p0 : Nat} {ids : List Int} {M : Mat} {u v : Int} (h : PlnR w p0 ids M) (hl : ids.length ≤ 1000) (hasc : ids.Pairwise (· < ·)) (hu : u ∈ ids) :
    Calls Try.prog 13 #[.iface dirT (dirV p0), nodeV u, nodeV v] w (PePost (edgeOf ids M) u v w) := by
  obtain ⟨w0, hw0⟩ : ∃ w0, w0 = w.alloc (.cells #[nodeV v] 56) := ⟨_, rfl⟩
  have hg0 : w.grownBy w0 none := by rw [hw0]; exact grown_alloc _ _
  have hs0 : w0.heap.size = w.heap.size + 1 := by rw [hw0]; simp
  have hwalk := bw_dir (w0 := w0) (w := w0.alloc (.cells #[.nilFunc, .nilFunc, .int .i64 0, .slice none 0 0, .map none] bfT)) (b := w0.heap.size) (bx := w.heap.size) (f := outs ids M) (u := u) (v := v) (fun W x hW hx => dir_from ((h.grown hg0).grown hW) hl hx hasc) hl (fun x => Nat.le_trans (length_outs ids M x) hl) hu (fun x _ y hy => outs_in hy)
    (by rw [hw0]; exact cell_at (heap_alloc_new w _)) (by omega) (grown_alloc _ _) (heap_alloc_new w0 _) (Nat.le_refl _)
  have hrc := rch_outs (M := M) (v := v) hasc hu
  rw [hs0] at hwalk
  rw [hw0] at hwalk
  have hn1 := node_neq v
  have hn2 := nil_neq
  by_cases hr : Rch (fun x y => y ∈ outs ids M x) u v
  case pos =>
    have hw2 : Calls Try.prog 19 _ _ (fun e w' => e = .returned (nodeV v) ∧ (w.alloc (.cells #[nodeV v] 56)).grownBy w' none) := hwalk.mono (fun e w' ⟨h1, h2, h3⟩ => ⟨h1 hr, h3⟩)
    have HR := Lib.hid (hrc.1 hr)
    clear hwalk h hr hrc hw0 hg0 hs0
    go_enter Try.func13, Try.ntmps13
    go_wp2_with (go_at_call 19; refine hw2.mono ?_; rintro e w3 ⟨rfl, hg3⟩)
    go_ret
    exact ⟨true, rfl, ⟨fun _ => HR.out, fun _ => rfl⟩, grown_tr (grown_alloc _ _) hg3⟩
  case neg =>
    have hw2 : Calls Try.prog 19 _ _ (fun e w' => e = .returned .nilIface ∧ (w.alloc (.cells #[nodeV v] 56)).grownBy w' none) := hwalk.mono (fun e w' ⟨h1, h2, h3⟩ => ⟨h2 hr, h3⟩)
    have HR := Lib.hid (fun h9 => hr (hrc.2 h9))
    clear hwalk h hr hrc hw0 hg0 hs0
    go_enter Try.func13, Try.ntmps13
    go_wp2_with (go_at_call 19; refine hw2.mono ?_; rintro e w3 ⟨rfl, hg3⟩)
    go_ret
    exact ⟨false, rfl, ⟨fun h9 => absurd h9 (by simp), fun h9 => absurd h9 HR.out⟩, grown_tr (grown_alloc _ _) hg3⟩
set_option maxHeartbeats 4000000 in
set_option maxRecDepth 100000 in
theorem pe_und {w : World} {p0 : Nat} {ids : List Int} {M : Mat} {u v : Int} (h : PlnR w p0 ids M) (hl : ids.length ≤ 1000) (hasc : ids.Pairwise (· < ·)) (hu : u ∈ ids) :
    Calls Try.prog 13 #[.iface undT (dirV p0), nodeV u, nodeV v] w (PePost (edgeOf ids M) u v w) := by
  obtain ⟨w0, hw0⟩ : ∃ w0, w0 = w.alloc (.cells #[nodeV v] 56) := ⟨_, rfl⟩
  have hg0 : w.grownBy w0 none := by rw [hw0]; exact grown_alloc _ _
  have hs0 : w0.heap.size = w.heap.size + 1 := by rw [hw0]; simp
  have hwalk := bw_und (w0 := w0) (w := w0.alloc (.cells #[.nilFunc, .nilFunc, .int .i64 0, .slice none 0 0, .map none] bfT)) (b := w0.heap.size) (bx := w.heap.size) (f := outs ids M) (u := u) (v := v) (fun W x hW hx => und_from ((h.grown hg0).grown hW) hl hx hasc) hl (fun x => Nat.le_trans (length_outs ids M x) hl) hu (fun x _ y hy => outs_in hy)
    (by rw [hw0]; exact cell_at (heap_alloc_new w _)) (by omega) (grown_alloc _ _) (heap_alloc_new w0 _) (Nat.le_refl _)
  have hrc := rch_outs (M := M) (v := v) hasc hu
  rw [hs0] at hwalk
  rw [hw0] at hwalk
  have hn1 := node_neq v
  have hn2 := nil_neq
  by_cases hr : Rch (fun x y => y ∈ outs ids M x) u v
  case pos =>
    have hw2 : Calls Try.prog 19 _ _ (fun e w' => e = .returned (nodeV v) ∧ (w.alloc (.cells #[nodeV v] 56)).grownBy w' none) := hwalk.mono (fun e w' ⟨h1, h2, h3⟩ => ⟨h1 hr, h3⟩)
    have HR := Lib.hid (hrc.1 hr)
    clear hwalk h hr hrc hw0 hg0 hs0
    go_enter Try.func13, Try.ntmps13
    go_wp2_with (go_at_call 19; refine hw2.mono ?_; rintro e w3 ⟨rfl, hg3⟩)
    go_ret
    exact ⟨true, rfl, ⟨fun _ => HR.out, fun _ => rfl⟩, grown_tr (grown_alloc _ _) hg3⟩
  case neg =>
    have hw2 : Calls Try.prog 19 _ _ (fun e w' => e = .returned .nilIface ∧ (w.alloc (.cells #[nodeV v] 56)).grownBy w' none) := hwalk.mono (fun e w' ⟨h1, h2, h3⟩ => ⟨h2 hr, h3⟩)
    have HR := Lib.hid (fun h9 => hr (hrc.2 h9))
    clear hwalk h hr hrc hw0 hg0 hs0
    go_enter Try.func13, Try.ntmps13
    go_wp2_with (go_at_call 19; refine hw2.mono ?_; rintro e w3 ⟨rfl, hg3⟩)
    go_ret
    exact ⟨false, rfl, ⟨fun h9 => absurd h9 (by simp), fun h9 => absurd h9 HR.out⟩, grown_tr (grown_alloc _ _) hg3⟩
end Go.Proofs.Ytdllkoiddlcnmab
