/- The law FnPathExists, walked. -/
import Derived.Test.YtdllkoiddlcnmaaPx
import Derived.Test.YtdllkoiddlcnmaaRc
import Derived.Test.YtdllkoiddlcnmaaLe
namespace Go.Proofs.Ytdllkoiddlcnmaa
open Go.MapKept Go.RowKit

/-- what PathExistsIn tells -/
noncomputable def isPath (G : Gr) (u v : Int) : Bool := @decide (Rch (edgeOf G.ids G.mat) u v) (Classical.propDecidable _)
theorem isPath_iff {G : Gr} {u v : Int} : isPath G u v = true ↔ Rch (edgeOf G.ids G.mat) u v := by unfold isPath; exact @decide_eq_true_iff _ (Classical.propDecidable _)
theorem isPath_self (G : Gr) (u : Int) : isPath G u u = true := isPath_iff.2 (.refl _)
theorem isPath_out {G : Gr} {u v : Int} (hu : u ∈ G.ids) (hv : v ∉ G.ids) : isPath G u v = false := by
  cases h : isPath G u v with
  | false => rfl
  | true => exact absurd (rch_in hu (isPath_iff.1 h)) hv
theorem isPath_wars {G : Gr} (hG : G.Well) {u v : Int} (hu : u ∈ G.ids) (hv : v ∈ G.ids) : wars (m0 G.mat) G.ids.length (ix G.ids u) (ix G.ids v) = isPath G u v := by
  rw [Bool.eq_iff_iff, isPath_iff, wars_mat hG.mat_in, rch_iff hG.ids hG.mat_in hu hv]
theorem pathExists_is {G : Gr} {vg : Value} {u v : Int} {w : World} (h : GrR w vg G) (hG : G.Well) (hnl : G.nodes.length ≤ 1000) (hel : G.edges.length ≤ 10000) (hu : u ∈ G.ids) :
    Calls Try.prog 13 #[vg, .int .i64 u, .int .i64 v] w (fun e w' => e = .returned (.tuple #[.bool (isPath G u v), .bool false]) ∧ w.grownBy w' none) :=
  (pathExists_any h hG hnl hel hu).mono (fun e w' ⟨p, h1, h2, h3⟩ => by
    have hp : p = isPath G u v := by rw [Bool.eq_iff_iff, h2, isPath_iff]
    rw [h1, hp]
    exact ⟨rfl, h3⟩)


set_option maxHeartbeats 4000000 in
set_option maxRecDepth 100000 in
theorem lawPathExists_any {G : Gr} {vg : Value} {u v : Int} {w : World} (h : GrR w vg G) : Calls Try.prog 4 #[vg, .int .i64 u, .int .i64 v] w (TrueB w) := by
  have hfit := fun O => fits_any (h.grown (grown_alloc w O))
  by_cases hF : G.nodes.length ≤ 2147483647 ∧ G.edges.length ≤ 2147483647
  case neg =>
    rw [decide_eq_false hF] at hfit
    obtain ⟨vn, ve, rfl, ⟨an, cn, rfl, _⟩, ⟨ae, ce, rfl, _⟩⟩ := h.parts
    clear h hF
    go_enter Try.func4, Try.ntmps4
    go_wp2_with (go_at_call 5; refine (hfit _).mono ?_; rintro e w1 ⟨hg1, rfl⟩)
    go_ret
    exact ⟨rfl, grown_tr (grown_alloc _ _) hg1⟩
  case pos =>
  rw [decide_eq_true hF] at hfit
  have hfew : ∀ W, w.grownBy W none → Calls Try.prog 11 #[vg, .int .i64 25] W (FewPost (G.Few 25) W) := fun W hg => few_any 25 (by omega) (h.grown hg)
  by_cases hP : G.Few 25
  case neg =>
    have hfew' : ∀ W, w.grownBy W none → Calls Try.prog 11 #[vg, .int .i64 25] W (fun e w' => e = .returned (.bool false) ∧ W.grownBy w' none) := fun W hg => (hfew W hg).mono (fun e w' ⟨d, h1, h2, h3⟩ => by
      cases d
      · exact ⟨h2, h3⟩
      · exact absurd (h1.1 rfl) hP)
    obtain ⟨vn, ve, rfl, ⟨an, cn, rfl, _⟩, ⟨ae, ce, rfl, _⟩⟩ := h.parts
    have HB : Hid (∀ wx, (w.alloc (.cells #[.bool G.dir, .slice an G.nodes.length cn, .slice ae G.edges.length ce] 25)).grownBy wx none → wx.cell? ⟨w.heap.size, 0, none⟩ = some (.bool G.dir) ∧ wx.cell? ⟨w.heap.size, 1, none⟩ = some (.slice an G.nodes.length cn) ∧ wx.cell? ⟨w.heap.size, 2, none⟩ = some (.slice ae G.edges.length ce)) := Lib.hid (fun wx hg => ⟨by rw [box_at hg 0]; rfl, by rw [box_at hg 1]; rfl, by rw [box_at hg 2]; rfl⟩)
    clear h hF hfew
    go_enter Try.func4, Try.ntmps4
    go_wp2_with (first
      | (go_at_call 5; refine (hfit _).mono ?_; rintro e w1 ⟨hg1, rfl⟩; obtain ⟨b0, b1, b2⟩ := HB.out w1 hg1)
      | (go_at_call 11; refine (hfew' _ (grown_tr (grown_alloc _ _) hg1)).mono ?_; rintro e w2 ⟨rfl, hg2⟩))
    go_ret
    exact ⟨rfl, grown_tr (grown_tr (grown_alloc _ _) hg1) hg2⟩
  case pos =>
  have hfew' : ∀ W, w.grownBy W none → Calls Try.prog 11 #[vg, .int .i64 25] W (fun e w' => e = .returned (.bool true) ∧ W.grownBy w' none) := fun W hg => (hfew W hg).mono (fun e w' ⟨d, h1, h2, h3⟩ => by
    cases d
    · exact absurd (h1.2 hP) (by decide)
    · exact ⟨h2, h3⟩)
  obtain ⟨hn25, he25, hG⟩ := hP
  have hmem : ∀ x, x ∈ G.nodes ↔ x ∈ G.ids := fun x => (srt_perm G.nodes).mem_iff.symm
  have hhas := fun (W : World) (hW : w.grownBy W none) (vn : Value) (hv : IntsR W vn G.nodes) => has_any u (by omega) hv
  by_cases hu : u ∈ G.nodes
  case neg =>
    rw [decide_eq_false hu] at hhas
    obtain ⟨vn, ve, rfl, hni, ⟨ae, ce, rfl, _⟩⟩ := h.parts
    have hh := fun (W : World) (hW : w.grownBy W none) => hhas W hW vn (hni.grown hW)
    obtain ⟨an, cn, rfl, _⟩ := hni
    have HB : Hid (∀ wx, (w.alloc (.cells #[.bool G.dir, .slice an G.nodes.length cn, .slice ae G.edges.length ce] 25)).grownBy wx none → wx.cell? ⟨w.heap.size, 0, none⟩ = some (.bool G.dir) ∧ wx.cell? ⟨w.heap.size, 1, none⟩ = some (.slice an G.nodes.length cn) ∧ wx.cell? ⟨w.heap.size, 2, none⟩ = some (.slice ae G.edges.length ce)) := Lib.hid (fun wx hg => ⟨by rw [box_at hg 0]; rfl, by rw [box_at hg 1]; rfl, by rw [box_at hg 2]; rfl⟩)
    clear h hF hfew hn25 he25 hG hmem hhas hu
    go_enter Try.func4, Try.ntmps4
    go_wp2_with (first
      | (go_at_call 5; refine (hfit _).mono ?_; rintro e w1 ⟨hg1, rfl⟩; obtain ⟨b0, b1, b2⟩ := HB.out w1 hg1)
      | (go_at_call 11; refine (hfew' _ (grown_tr (grown_alloc _ _) hg1)).mono ?_; rintro e w2 ⟨rfl, hg2⟩; have hg12 := grown_tr hg1 hg2; clear b0 b1 b2; obtain ⟨b0, b1, b2⟩ := HB.out w2 hg12)
      | (go_at_call 12; refine (hh _ (grown_tr (grown_alloc _ _) hg12)).mono ?_; rintro e w' ⟨rfl, rfl⟩))
    go_ret
    exact ⟨rfl, grown_tr (grown_alloc _ _) hg12⟩
  case pos =>
  rw [decide_eq_true hu] at hhas
  have huI := (hmem u).1 hu
  have hpx : ∀ W y, w.grownBy W none → _ := fun W y hg => pathExists_is (v := y) (h.grown hg : GrR W vg G) hG (by omega) (by omega) huI
  have hself := isPath_self G u
  have htab : ∀ W, w.grownBy W none → Calls Try.prog 14 #[vg] W (TabPost G W) := fun W hg => tableOf_any (h.grown hg) hG (by omega) (by omega)
  have hidl : G.ids.length ≤ 25 := by rw [Gr.length_ids]; exact hn25
  have hix := fun (W : World) (vi : Value) (hv : IntsR W vi G.ids) (y : Int) => index_any y (by omega) hv
  obtain ⟨vn, ve, rfl, hni, ⟨ae, ce, rfl, _⟩⟩ := h.parts
  have hh := fun (W : World) (hW : w.grownBy W none) => hhas W hW vn (hni.grown hW)
  obtain ⟨an, cn, rfl, _⟩ := hni
  have HB : Hid (∀ wx, (w.alloc (.cells #[.bool G.dir, .slice an G.nodes.length cn, .slice ae G.edges.length ce] 25)).grownBy wx none → wx.cell? ⟨w.heap.size, 0, none⟩ = some (.bool G.dir) ∧ wx.cell? ⟨w.heap.size, 1, none⟩ = some (.slice an G.nodes.length cn) ∧ wx.cell? ⟨w.heap.size, 2, none⟩ = some (.slice ae G.edges.length ce)) := Lib.hid (fun wx hg => ⟨by rw [box_at hg 0]; rfl, by rw [box_at hg 1]; rfl, by rw [box_at hg 2]; rfl⟩)
  have HG := Lib.hid (And.intro hG (And.intro hidl huI))
  clear h hF hfew hn25 he25 hG hmem hhas hu hidl huI
  have HSELF := Lib.hid hself
  clear hself
  go_enter Try.func4, Try.ntmps4
  go_wp2_with (first
    | (go_at_call 5; refine (hfit _).mono ?_; rintro e w1 ⟨hg1, rfl⟩; obtain ⟨b0, b1, b2⟩ := HB.out w1 hg1)
    | (go_at_call 11; refine (hfew' _ (grown_tr (grown_alloc _ _) hg1)).mono ?_; rintro e w2 ⟨rfl, hg2⟩; have hg12 := grown_tr hg1 hg2; clear b0 b1 b2; obtain ⟨b0, b1, b2⟩ := HB.out w2 hg12)
    | (go_at_call 12; refine (hh _ (grown_tr (grown_alloc _ _) hg12)).mono ?_; rintro e w' ⟨rfl, rfl⟩; have hpx1 := hpx _ v (grown_tr (grown_alloc _ _) hg12))
    | (go_at_call 13; refine hpx1.mono ?_; rintro e w3 ⟨rfl, hg3⟩; have hg13 := grown_tr hg12 hg3; clear b0 b1 b2 hpx1; obtain ⟨b0, b1, b2⟩ := HB.out w3 hg13; have hpx2 := hpx w3 u (grown_tr (grown_alloc _ _) hg13); rw [HSELF.out] at hpx2)
    | (go_at_call 13; refine hpx2.mono ?_; rintro e w4 ⟨rfl, hg4⟩; have hg14 := grown_tr hg13 hg4; clear b0 b1 b2; obtain ⟨b0, b1, b2⟩ := HB.out w4 hg14)
    | (go_at_call 14; refine (htab _ (grown_tr (grown_alloc _ _) hg14)).mono ?_; intro e w5 hp; obtain ⟨vt, rfl, ht, hg5⟩ := hp; obtain ⟨tn, ta, tw, rfl, ti, tg, tv⟩ := ht; obtain ⟨a5, c5, e5, -⟩ := id ti; obtain ⟨a6, c6, R6, e6, -⟩ := id tg; obtain ⟨a7, c7, R7, e7, -⟩ := id tv; subst e5 e6 e7; have HT := Lib.hid (And.intro ti (And.intro tg tv)); clear ti tg tv))
  obtain ⟨hG, hidl, huI⟩ := HG.out
  have hxu := idx_mem huI
  obtain ⟨W6, hW6⟩ : ∃ W6, W6 = w5.alloc (.cells #[.slice a5 G.ids.length c5, .slice a6 G.ids.length c6, .slice a7 G.ids.length c7] 41) := ⟨_, rfl⟩
  have h56 : w5.grownBy W6 none := by rw [hW6]; exact grown_alloc _ _
  have ti6 := HT.out.1.grown h56
  obtain ⟨J, hJ⟩ : ∃ J : Int → Int, J = idx G.ids := ⟨_, rfl⟩
  have hiq : ∀ q y, Calls Try.prog 15 #[.slice a5 G.ids.length c5, .int .i64 y] (W6.drewN q) (fun e w' => e = .returned (.int .i64 (J y)) ∧ w' = W6.drewN q) := fun q y => by
    rw [hJ]
    exact hix (W6.drewN q) _ (ti6.grown (grown_drewN _ q)) y
  have t0 : W6.cell? ⟨w5.heap.size, 0, none⟩ = some (.slice a5 G.ids.length c5) := by rw [hW6]; exact cell_at (heap_alloc_new w5 _)
  have t1 : W6.cell? ⟨w5.heap.size, 1, none⟩ = some (.slice a6 G.ids.length c6) := by rw [hW6]; exact cell_at (heap_alloc_new w5 _)
  have t2 : W6.cell? ⟨w5.heap.size, 2, none⟩ = some (.slice a7 G.ids.length c7) := by rw [hW6]; exact cell_at (heap_alloc_new w5 _)
  have HW6 := Lib.hid (And.intro hW6 (grown_tr (grown_tr (grown_alloc _ _) (grown_tr hg14 hg5)) h56))
  have HG' := Lib.hid (And.intro hG (And.intro hidl huI))
  clear hix h56 ti6 hG hidl huI HG b0 b1 b2 hg1 hg2 hg3 hg4 hg5 hg12 hg13 hg14 hpx hpx2 htab hh hfit hfew' HB
  rw [← hJ] at hxu
  rw [← hW6]
  have HJ := Lib.hid (And.intro hJ hxu)
  clear hW6 hJ hxu
  go_quiet ((go_at_call 15; exact Calls.quiet_of_same (hiq _ _)))
  clear hiq
  obtain ⟨hJ, hxu⟩ := HJ.out
  rw [hxu]
  clear HJ
  by_cases hv : v ∈ G.ids
  case pos =>
    have hxv := idx_mem hv
    rw [← hJ] at hxv
    rw [hxv]
    have hw := isPath_wars HG'.out.1 HG'.out.2.2 hv
    have hlu := ix_lt HG'.out.2.2
    have hlv := ix_lt hv
    have hidl := HG'.out.2.1
    have HR := Lib.hid (fun q => reach_any (TabR.of3 (w' := W6.drewN q) HT.out.1 HT.out.2.1 HT.out.2.2 (by rw [HW6.out.1]; exact grown_tr (grown_alloc _ _) (grown_drewN _ q))) (Nat.le_trans hidl (by omega)))
    obtain ⟨iu, hiu'⟩ : ∃ i, i = ix G.ids u := ⟨_, rfl⟩
    obtain ⟨iv, hiv'⟩ : ∃ i, i = ix G.ids v := ⟨_, rfl⟩
    obtain ⟨p, hp⟩ : ∃ p, p = isPath G u v := ⟨_, rfl⟩
    rw [← hiu'] at hw hlu ⊢
    rw [← hiv'] at hw hlv ⊢
    rw [← hp] at hw ⊢
    have h0 : (0 : Int) ≤ iv := by omega
    have HX := Lib.hid (And.intro hw (And.intro hlu hlv))
    clear hw hlu hlv hiu' hiv' hp HT hv hxu hxv hJ
    have hu9 : (iu : Int) < G.ids.length := by have := HX.out.2.1; omega
    have hv9 : (iv : Int) < G.ids.length := by have := HX.out.2.2; omega
    cases p
    all_goals go_wp2_with (go_at_call 16; refine (HR.out _).mono ?_; intro e w7 hp; obtain ⟨vr, rfl, ⟨a8, c8, R8, C8, rfl, hr1, hr2⟩, hg7⟩ := hp; obtain ⟨b8, o8, rfl, hb8, hc8⟩ := hr1 (by omega); have r1 : w7.cell? ⟨b8, o8 + iu, none⟩ = some (.slice (some ⟨R8 iu, 0, none⟩) G.ids.length (C8 iu)) := hc8 iu HX.out.2.1; have r2 := (hr2 iu HX.out.2.1).2 iv HX.out.2.2; simp only [HX.out.1] at r2; clear hr1 hr2 hb8 hc8)
    all_goals go_ret
    all_goals exact ⟨rfl, grown_tr (grown_tr HW6.out.2 (grown_drewN _ _)) hg7⟩
  case neg =>
    have hne : J v = -1 := by rw [hJ]; unfold idx; rw [if_neg hv]
    rw [hne]
    have hw := isPath_out HG'.out.2.2 hv
    rw [hw]
    clear hw hne HT hv hxu hJ
    go_wp2_with fail
    go_ret
    exact ⟨rfl, grown_tr HW6.out.2 (grown_drewN _ _)⟩
end Go.Proofs.Ytdllkoiddlcnmaa
