/- graph.Complement: Nodes, From. -/
import Derived.Test.YtcbkalppclilfaaGreatUn
import Derived.Test.YtcbkalppclilfaaGreatIb
import Derived.Deep.RegionHeld3
namespace Go.Proofs.YtcbkalppclilfaaGreat
open Go.MapKept Go.RowKit

abbrev cmT : TypeId := 59
abbrev cmV (t : TypeId) (p0 : Nat) : Value := .agg #[.iface t (dirV p0)]

/-- an iterator that is handed back, with what iterated does with it -/
def ItHand (l : List Int) (w : World) (e : Ending) (w' : World) : Prop := ∃ it, e = .returned it ∧ ItdOk w.heap.size l it w' ∧ w.grownBy w' none
theorem ItPost.on {l : List Int} {w : World} {e : Ending} {w' : World} (h : ItPost l w e w') : ∃ q vs, e = .returned (.iface onpT (.pointer (some ⟨q, 0, none⟩))) ∧ OnR w' q vs l (-1) ∧ w.heap.size ≤ q ∧ w.grownBy w' none := by
  obtain ⟨q, vs, h1, h2, h3, h4, h5⟩ := h
  exact ⟨q, vs, h1, ⟨h2, .of_own h3⟩, h4, h5⟩
theorem ItPost.hand {l : List Int} {w : World} {e : Ending} {w' : World} (h : ItPost l w e w') (hl : l.length ≤ 1000000) : ItHand l w e w' := by
  obtain ⟨q, vs, rfl, h2, h3, h4⟩ := h.on
  exact ⟨_, rfl, on_ok h2 h3 hl, h4⟩

/-- what is left of the nodes of the complement -/
def cmOuts (ids : List Int) (M : Mat) (x : Int) : List Int := ids.filter (keepB (x :: outs ids M x))

theorem length_outs (ids : List Int) (M : Mat) (x : Int) : (outs ids M x).length ≤ ids.length := by
  unfold outs
  rw [List.length_map]
  exact length_arcsOf _ _

set_option maxHeartbeats 2000000 in
set_option maxRecDepth 100000 in
theorem cm_from_dir {p0 : Nat} {ids : List Int} {M : Mat} {w : World} {x : Int} (h : PlnR w p0 ids M) (hl : ids.length ≤ 1000) (hx : x ∈ ids) (ha : ids.Pairwise (· < ·)) :
    Calls Tryz.prog 127 #[cmV dirT p0, .int .i64 x] w (ItHand (cmOuts ids M x) w) := by
  have HN := Lib.hid (fun W hg => dir_node (w := W) (x := x) (h.grown hg) hl hx ha)
  have HA := Lib.hid (fun W hg => dir_nodes (w := W) (h.grown hg) hl)
  have HF := Lib.hid (fun W hg => dir_from (w := W) (x := x) (h.grown hg) hl hx ha)
  have hol := length_outs ids M x
  obtain ⟨nb, hnb⟩ : ∃ nb, nb = outs ids M x := ⟨_, rfl⟩
  have HNB : Hid (ids.filter (keepB (x :: nb)) = cmOuts ids M x) := Lib.hid (by rw [hnb]; rfl)
  rw [← hnb] at HF hol
  have HB : Hid (∀ w1, (w.alloc (.cells #[.iface dirT (dirV p0)] cmT)).grownBy w1 none → w1.cell? ⟨w.heap.size, 0, none⟩ = some (.iface dirT (dirV p0))) := Lib.hid (fun w1 hg => by rw [box_at hg 0]; rfl)
  clear h hx ha hnb
  go_enter Tryz.func127, Tryz.ntmps127
  go_wp2_with (go_at_call 133; refine (HN.out _ (grown_alloc _ _)).mono ?_; rintro e w1 ⟨rfl, hg1⟩; have b1 := HB.out w1 hg1)
  have HG1 := Lib.hid hg1
  clear hg1
  go_region_held3 (fun w' => w'.cell? ⟨w.heap.size, 0, none⟩ = some (.iface dirT (dirV p0)))
    (first | go_keep | exact HB.out _ (grown_tr HG1.out hC) | exact HB.out _ (grown_tr HG1.out hB) | exact HB.out _ (grown_tr HG1.out hA))
    (first
      | (go_at_call 134; refine (HA.out _ (by first | exact grown_tr (grown_alloc _ _) HG1.out | exact grown_tr (grown_tr (grown_alloc _ _) HG1.out) (grown_drew _))).mono ?_; intro e wa hp; obtain ⟨q1, vs1, rfl, o1, k1, g1⟩ := hp.on; have hA : w1.grownBy wa none := (by first | exact g1 | exact grown_tr (grown_drew _) g1); have k1' : w1.heap.size ≤ q1 := k1; have l1 : q1 < wa.heap.size := block_lt o1.1)
      | (go_at_call 131; refine (HF.out _ (by first | exact grown_tr (grown_tr (grown_alloc _ _) HG1.out) hA | exact grown_tr (grown_tr (grown_tr (grown_alloc _ _) HG1.out) hA) (grown_drew _))).mono ?_; intro e wb hp; obtain ⟨q2, vs2, rfl, o2, k2, g2⟩ := hp.on; have hab : wa.grownBy wb none := (by first | exact g2 | exact grown_tr (grown_drew _) g2); have k2' : wa.heap.size ≤ q2 := k2; have hB := grown_tr hA hab)
      | (go_at_call 129; refine (new_filter (w0 := w1) (by first | exact o1.kept hab (by simp) (by simp) | exact o1.kept (grown_tr hab (grown_drew _)) (by simp) (by simp)) (by first | exact o2 | exact o2.kept (grown_drew _) (by simp) (by simp)) (by omega) (by first | exact hB | exact grown_tr hB (grown_drew _)) k1' (by have := hA.size; omega) (by omega)).mono ?_; intro e wc hp; obtain ⟨p, m, rfl, f1, f2, f3, f4, hC⟩ := hp))
  go_wp2_with fail
  go_ret
  rw [← HNB.out]
  exact ⟨_, rfl, (nf_ok f2 f1 k1' (by omega)).mono (by have := HG1.out.size; simp at this; omega), grown_tr (grown_tr (grown_alloc _ _) HG1.out) hC⟩
set_option maxHeartbeats 2000000 in
set_option maxRecDepth 100000 in
theorem cm_from_und {p0 : Nat} {ids : List Int} {M : Mat} {w : World} {x : Int} (h : PlnR w p0 ids M) (hl : ids.length ≤ 1000) (hx : x ∈ ids) (ha : ids.Pairwise (· < ·)) :
    Calls Tryz.prog 127 #[cmV undT p0, .int .i64 x] w (ItHand (cmOuts ids M x) w) := by
  have HN := Lib.hid (fun W hg => und_node (w := W) (x := x) (h.grown hg) hl hx ha)
  have HA := Lib.hid (fun W hg => und_nodes (w := W) (h.grown hg) hl)
  have HF := Lib.hid (fun W hg => und_from (w := W) (x := x) (h.grown hg) hl hx ha)
  have hol := length_outs ids M x
  obtain ⟨nb, hnb⟩ : ∃ nb, nb = outs ids M x := ⟨_, rfl⟩
  have HNB : Hid (ids.filter (keepB (x :: nb)) = cmOuts ids M x) := Lib.hid (by rw [hnb]; rfl)
  rw [← hnb] at HF hol
  have HB : Hid (∀ w1, (w.alloc (.cells #[.iface undT (dirV p0)] cmT)).grownBy w1 none → w1.cell? ⟨w.heap.size, 0, none⟩ = some (.iface undT (dirV p0))) := Lib.hid (fun w1 hg => by rw [box_at hg 0]; rfl)
  clear h hx ha hnb
  go_enter Tryz.func127, Tryz.ntmps127
  go_wp2_with (go_at_call 144; refine (HN.out _ (grown_alloc _ _)).mono ?_; rintro e w1 ⟨rfl, hg1⟩; have b1 := HB.out w1 hg1)
  have HG1 := Lib.hid hg1
  clear hg1
  go_region_held3 (fun w' => w'.cell? ⟨w.heap.size, 0, none⟩ = some (.iface undT (dirV p0)))
    (first | go_keep | exact HB.out _ (grown_tr HG1.out hC) | exact HB.out _ (grown_tr HG1.out hB) | exact HB.out _ (grown_tr HG1.out hA))
    (first
      | (go_at_call 145; refine (HA.out _ (by first | exact grown_tr (grown_alloc _ _) HG1.out | exact grown_tr (grown_tr (grown_alloc _ _) HG1.out) (grown_drew _))).mono ?_; intro e wa hp; obtain ⟨q1, vs1, rfl, o1, k1, g1⟩ := hp.on; have hA : w1.grownBy wa none := (by first | exact g1 | exact grown_tr (grown_drew _) g1); have k1' : w1.heap.size ≤ q1 := k1; have l1 : q1 < wa.heap.size := block_lt o1.1)
      | (go_at_call 142; refine (HF.out _ (by first | exact grown_tr (grown_tr (grown_alloc _ _) HG1.out) hA | exact grown_tr (grown_tr (grown_tr (grown_alloc _ _) HG1.out) hA) (grown_drew _))).mono ?_; intro e wb hp; obtain ⟨q2, vs2, rfl, o2, k2, g2⟩ := hp.on; have hab : wa.grownBy wb none := (by first | exact g2 | exact grown_tr (grown_drew _) g2); have k2' : wa.heap.size ≤ q2 := k2; have hB := grown_tr hA hab)
      | (go_at_call 129; refine (new_filter (w0 := w1) (by first | exact o1.kept hab (by simp) (by simp) | exact o1.kept (grown_tr hab (grown_drew _)) (by simp) (by simp)) (by first | exact o2 | exact o2.kept (grown_drew _) (by simp) (by simp)) (by omega) (by first | exact hB | exact grown_tr hB (grown_drew _)) k1' (by have := hA.size; omega) (by omega)).mono ?_; intro e wc hp; obtain ⟨p, m, rfl, f1, f2, f3, f4, hC⟩ := hp))
  go_wp2_with fail
  go_ret
  rw [← HNB.out]
  exact ⟨_, rfl, (nf_ok f2 f1 k1' (by omega)).mono (by have := HG1.out.size; simp at this; omega), grown_tr (grown_tr (grown_alloc _ _) HG1.out) hC⟩
end Go.Proofs.YtcbkalppclilfaaGreat
