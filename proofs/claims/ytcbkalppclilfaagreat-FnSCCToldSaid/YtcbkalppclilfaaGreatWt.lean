/- The reference's own: Weight (whether there is an edge), Joined. -/
import Derived.Test.YtcbkalppclilfaaGreatLd
import Derived.Test.YtcbkalppclilfaaGreatWj
namespace Go.Proofs.YtcbkalppclilfaaGreat
open Go.MapKept Go.RowKit

def WtPost (G : Gr) (u v : Int) (w : World) (e : Ending) (w' : World) : Prop := ∃ z : Int, e = .returned (.tuple #[.int .i64 z, .bool (G.joins u v)]) ∧ w.grownBy w' none
def WtRel (G : Gr) (u v : Int) (w0 : World) (a b i : Value) (wr : World) : Prop :=
  ∃ (k : Nat) (z : Int), k ≤ G.edges.length ∧ i = .int .i64 k ∧ a = .int .i64 z ∧ b = .bool ((G.edges.take k).any (joinB G.dir u v)) ∧ w0.grownBy wr none

set_option maxHeartbeats 4000000 in
set_option maxRecDepth 100000 in
theorem weight_any {G : Gr} {u v : Int} {vg : Value} {w : World} (h : GrR w vg G) (hel : G.edges.length ≤ 1000000) :
    Calls Tryz.prog 85 #[vg, .int .i64 u, .int .i64 v] w (WtPost G u v w) := by
  obtain ⟨vn, ve, rfl, ⟨an, cn, rfl, _⟩, he⟩ := h.parts
  obtain ⟨ae, ce, rfl, _⟩ := id he
  have HE := Lib.hid he
  have HB : Hid (∀ wx, (w.alloc (.cells #[.bool G.dir, .slice an G.nodes.length cn, .slice ae G.edges.length ce] 25)).grownBy wx none → wx.cell? ⟨w.heap.size, 0, none⟩ = some (.bool G.dir)) := Lib.hid (fun wx hg => by rw [box_at hg 0]; rfl)
  clear h he
  go_enter Tryz.func85, Tryz.ntmps85
  go_wp2_with fail
  obtain ⟨w0, hw0⟩ : ∃ w0, w0 = w.alloc (.cells #[.bool G.dir, .slice an G.nodes.length cn, .slice ae G.edges.length ce] 25) := ⟨_, rfl⟩
  rw [← hw0] at HB ⊢
  have HW0 : Hid (w.grownBy w0 none) := Lib.hid (by rw [hw0]; exact grown_alloc _ _)
  clear hw0
  go_loopw [6, 7, 9, 13] (fun a b _ i wr => WtRel G u v w0 a b i wr) (fun _ _ _ i _ => G.edges.length - (intOf i).toNat)
  case atStart => exact ⟨0, 0, Nat.zero_le _, rfl, rfl, by simp, grown_refl _⟩
  case round =>
    obtain ⟨k, z, hk, rfl, rfl, rfl, hg⟩ := hrel
    by_cases hlt : k < G.edges.length
    · have hlt' : (k : Int) < G.edges.length := by omega
      have cb : ∀ O, (wr.alloc O).cell? ⟨w.heap.size, 0, none⟩ = some (.bool G.dir) := fun O => HB.out _ (grown_tr hg (grown_alloc wr O))
      obtain ⟨be, oe, rfl, c0, c1, c2⟩ := edge_cells HE.out (grown_tr HW0.out hg) hlt
      have hjs := any_take_succ (p := joinB G.dir u v) hlt
      obtain ⟨e, he⟩ : ∃ e, e = G.edges[k] := ⟨_, rfl⟩
      rw [← he] at c0 c1 c2 hjs
      obtain ⟨e1, e2, e3⟩ := e
      simp only at c0 c1 c2
      obtain ⟨q, hq⟩ : ∃ q, q = (G.edges.take k).any (joinB G.dir u v) := ⟨_, rfl⟩
      rw [← hq] at hjs ⊢
      obtain ⟨d, hd⟩ : ∃ d, d = G.dir := ⟨_, rfl⟩
      have HDD := Lib.hid hd
      have HJ : Hid ((G.edges.take (k + 1)).any (joinB G.dir u v) = (q || ((e1 == u && e2 == v) || (!d && (e1 == v && e2 == u))))) := Lib.hid (by rw [hjs, hd]; rfl)
      replace cb : ∀ O, (wr.alloc O).cell? ⟨w.heap.size, 0, none⟩ = some (.bool d) := fun O => by rw [hd]; exact cb O
      have HG := Lib.hid hg
      clear hjs hq hd hg he
      obtain ⟨p1, h1⟩ : ∃ p, (e1 == u) = p := ⟨_, rfl⟩
      obtain ⟨p2, h2⟩ : ∃ p, (e2 == v) = p := ⟨_, rfl⟩
      obtain ⟨p4, h4⟩ : ∃ p, (e1 == v) = p := ⟨_, rfl⟩
      obtain ⟨p5, h5⟩ : ∃ p, (e2 == u) = p := ⟨_, rfl⟩
      rw [h1, h2, h4, h5] at HJ
      cases p1 <;> cases p2 <;> cases d <;> cases p4 <;> cases p5
      all_goals
        go_wp2_with fail
        go_roundw
        case rel =>
          refine ⟨k + 1, _, by omega, by go_num, rfl, ?_, grown_tr HG.out (grown_alloc _ _)⟩
          rw [HJ.out]
          first | rfl | (cases q <;> rfl)
        case measure => simp [intOf]; omega
    · have hlt' : ¬ (k : Int) < G.edges.length := by omega
      obtain rfl : k = G.edges.length := by omega
      have HG := Lib.hid hg
      clear hg
      go_wp2_with fail
      go_ret2
      exact ⟨z, rfl, grown_tr HW0.out HG.out⟩

def JndPost (G : Gr) (u v : Int) (w : World) (e : Ending) (w' : World) : Prop := e = .returned (.bool (G.joins u v)) ∧ w.grownBy w' none
theorem joined_any {G : Gr} {u v : Int} {vg : Value} {w : World} (h : GrR w vg G) (hel : G.edges.length ≤ 1000000) :
    Calls Tryz.prog 72 #[vg, .int .i64 u, .int .i64 v] w (JndPost G u v w) := by
  have hcall := fun W hg => weight_any (u := u) (v := v) (w := W) (h.grown hg) hel
  obtain ⟨vn, ve, rfl, ⟨an, cn, rfl, _⟩, ⟨ae, ce, rfl, _⟩⟩ := h.parts
  clear h
  go_enter Tryz.func72, Tryz.ntmps72
  go_wp2_with (go_at_call 85; refine (hcall _ (by first | exact grown_refl _ | exact grown_alloc _ _)).mono ?_; rintro e w2 ⟨z, rfl, hg2⟩)
  go_ret
  exact ⟨rfl, by first | exact hg2 | exact grown_tr (grown_alloc _ _) hg2⟩
end Go.Proofs.YtcbkalppclilfaaGreat
