/- The law FnSCCTold, walked. -/
import Derived.Test.YtcbkalppclilfaaGreatSz
import Derived.Test.YtcbkalppclilfaaGreatSq
import Derived.Test.YtcbkalppclilfaaGreatSm
namespace Go.Proofs.YtcbkalppclilfaaGreat
open Go.MapKept Go.RowKit

theorem SccOk.lists {E : Int → Int → Prop} {ids : List Int} {L : List (List Int)} (h : SccOk E ids L) (hl : ids.length ≤ 1000) : L.length ≤ 1000 ∧ ∀ c ∈ L, c.length ≤ 1000 := by
  have hfl : L.flatten.length ≤ 1000 := by rw [h.perm.length_eq]; omega
  exact ⟨Nat.le_trans (len_of_flat h.ne) hfl, len_in_flat hfl⟩

/-- a draw ahead of a growth -/
theorem grown_undrew {w w' : World} {r : Option Nat} (h : w.drew.grownBy w' r) : w.grownBy w' r := grown_opt (grown_drew w) h


set_option maxHeartbeats 8000000 in
set_option maxRecDepth 100000 in
theorem lawTold_any {G : Gr} {v : Value} {w : World} (h : GrR w v G) : Calls Tryz.prog 5 #[v] w (TrueB w) := by
  have hfit := fun O => fits_any (h.grown (grown_alloc w O))
  by_cases hF : G.nodes.length ≤ 2147483647 ∧ G.edges.length ≤ 2147483647
  case neg =>
    rw [decide_eq_false hF] at hfit
    obtain ⟨vn, ve, rfl, ⟨an, cn, rfl, _⟩, ⟨ae, ce, rfl, _⟩⟩ := h.parts
    clear h hF
    go_enter Tryz.func5, Tryz.ntmps5
    go_wp2_with (go_at_call 6; refine (hfit _).mono ?_; rintro e w1 ⟨hg1, rfl⟩)
    go_ret
    exact ⟨rfl, grown_tr (grown_alloc _ _) hg1⟩
  case pos =>
  rw [decide_eq_true hF] at hfit
  have hfew : ∀ W, w.grownBy W none → Calls Tryz.prog 13 #[v, .bool true, .int .i64 14] W (FewPost (G.dir = true ∧ G.Few 14) W) := fun W hg => fewOf_any true 14 (by omega) (h.grown hg)
  by_cases hP : G.dir = true ∧ G.Few 14
  case neg =>
    have hfew' : ∀ W, w.grownBy W none → Calls Tryz.prog 13 #[v, .bool true, .int .i64 14] W (fun e w' => e = .returned (.bool false) ∧ W.grownBy w' none) := fun W hg => (hfew W hg).mono (fun e w' ⟨d, h1, h2, h3⟩ => by
      cases d
      · exact ⟨h2, h3⟩
      · exact absurd (h1.1 rfl) hP)
    obtain ⟨vn, ve, rfl, ⟨an, cn, rfl, _⟩, ⟨ae, ce, rfl, _⟩⟩ := h.parts
    have HB : Hid (∀ wx, (w.alloc (.cells #[.bool G.dir, .slice an G.nodes.length cn, .slice ae G.edges.length ce] 25)).grownBy wx none → wx.cell? ⟨w.heap.size, 0, none⟩ = some (.bool G.dir) ∧ wx.cell? ⟨w.heap.size, 1, none⟩ = some (.slice an G.nodes.length cn) ∧ wx.cell? ⟨w.heap.size, 2, none⟩ = some (.slice ae G.edges.length ce)) := Lib.hid (fun wx hg => ⟨by rw [box_at hg 0]; rfl, by rw [box_at hg 1]; rfl, by rw [box_at hg 2]; rfl⟩)
    clear h hF hfew
    go_enter Tryz.func5, Tryz.ntmps5
    go_wp2_with (first
      | (go_at_call 6; refine (hfit _).mono ?_; rintro e w1 ⟨hg1, rfl⟩; obtain ⟨b0, b1, b2⟩ := HB.out w1 hg1)
      | (go_at_call 13; refine (hfew' _ (grown_tr (grown_alloc _ _) hg1)).mono ?_; rintro e w2 ⟨rfl, hg2⟩))
    go_ret
    exact ⟨rfl, grown_tr (grown_tr (grown_alloc _ _) hg1) hg2⟩
  case pos =>
  have hfew' : ∀ W, w.grownBy W none → Calls Tryz.prog 13 #[v, .bool true, .int .i64 14] W (fun e w' => e = .returned (.bool true) ∧ W.grownBy w' none) := fun W hg => (hfew W hg).mono (fun e w' ⟨d, h1, h2, h3⟩ => by
    cases d
    · exact absurd (h1.2 hP) (by decide)
    · exact ⟨h2, h3⟩)
  obtain ⟨hd, hn14, he14, hG⟩ := hP
  have hscc : ∀ W, w.grownBy W none → Calls Tryz.prog 14 #[v] W (SccPost (sccL G) W) := fun W hg => scc_any (h.grown hg) hG hd (by omega) (by omega)
  have hspec : ∀ W, w.grownBy W none → Calls Tryz.prog 20 #[v] W (SqPost G W) := fun W hg => specSCC_any (h.grown hg) hG (by omega) (by omega)
  have hok := sccL_ok hG
  have hidl : G.ids.length ≤ 14 := by rw [Gr.length_ids]; exact hn14
  have hnd : G.ids.Nodup := hG.ids.imp (fun hab e => by omega)
  have HK : Hid (SccOk (edgeOf G.ids G.mat) G.ids (sccL G) ∧ G.ids.length ≤ 1000 ∧ G.ids.Nodup) := Lib.hid ⟨hok, by omega, hnd⟩
  obtain ⟨vn, ve, rfl, ⟨an, cn, rfl, _⟩, ⟨ae, ce, rfl, _⟩⟩ := h.parts
  have HB : Hid (∀ wx, (w.alloc (.cells #[.bool G.dir, .slice an G.nodes.length cn, .slice ae G.edges.length ce] 25)).grownBy wx none → wx.cell? ⟨w.heap.size, 0, none⟩ = some (.bool G.dir) ∧ wx.cell? ⟨w.heap.size, 1, none⟩ = some (.slice an G.nodes.length cn) ∧ wx.cell? ⟨w.heap.size, 2, none⟩ = some (.slice ae G.edges.length ce)) := Lib.hid (fun wx hg => ⟨by rw [box_at hg 0]; rfl, by rw [box_at hg 1]; rfl, by rw [box_at hg 2]; rfl⟩)
  clear h hF hfew hok hn14 he14 hG hd hidl hnd
  go_enter Tryz.func5, Tryz.ntmps5
  go_wp2_with (first
    | (go_at_call 6; refine (hfit _).mono ?_; rintro e w1 ⟨hg1, rfl⟩; obtain ⟨b0, b1, b2⟩ := HB.out w1 hg1)
    | (go_at_call 13; refine (hfew' _ (grown_tr (grown_alloc _ _) hg1)).mono ?_; rintro e w2 ⟨rfl, hg2⟩; have hg12 := grown_tr hg1 hg2; clear b0 b1 b2; obtain ⟨b0, b1, b2⟩ := HB.out w2 hg12)
    | (go_at_call 14; refine (hscc _ (grown_tr (grown_alloc _ _) hg12)).mono ?_; intro e w3 hp; obtain ⟨vl, rfl, hrl, hg3⟩ := hp; clear hscc; have hg13 := grown_tr hg12 hg3; clear b0 b1 b2; obtain ⟨b0, b1, b2⟩ := HB.out w3 hg13)
    | (go_at_call 14; refine (scc_seven w3).mono ?_; rintro e w4 ⟨a7, c7, rfl, hg4⟩; have hg34 : w3.grownBy w4 none := grown_tr (grown_alloc _ _) hg4; have hg14 := grown_tr hg13 hg34; clear b0 b1 b2; obtain ⟨b0, b1, b2⟩ := HB.out w4 hg14))
  have hL : (sccL G).length ≤ 1000000 ∧ ∀ c ∈ sccL G, c.length ≤ 1000000 := by
    obtain ⟨h1, h2⟩ := HK.out.1.lists HK.out.2.1
    exact ⟨by omega, fun c hc => Nat.le_trans (h2 c hc) (by omega)⟩
  have hs1 : ∀ W, w4.grownBy W none → Calls Tryz.prog 19 #[vl] W (SlPost (sccL G) W) := fun W hW => sortedLists_any (hrl.grown (grown_tr hg34 hW)) hL.1 hL.2
  have HU : Hid (∀ (W : World) (u1 u2 : Value) (L1 L2 out : List (List Int)), L1.Perm (sccL G) → L1.Pairwise lexLe → SccOk (edgeOf G.ids G.mat) G.ids out → L2.Perm out → L2.Pairwise lexLe → RowsR W u1 L1 → RowsR W u2 L2 → Calls Tryz.prog 18 #[u1, u2] W (fun e w' => e = .returned (.bool true) ∧ W.grownBy w' none)) := by
    refine Lib.hid (fun W u1 u2 L1 L2 out p1 s1 k p2 s2 r1 r2 => ?_)
    have e : L2 = L1 := lex_uniq s2 s1 (p2.trans ((SccOk.same HK.out.2.2 k HK.out.1).trans p1.symm))
    subst e
    exact sameLists_same r1 r2 (by rw [p1.length_eq]; exact hL.1) (fun c hc => hL.2 c (p1.subset hc))
  have hsp : ∀ W, w4.grownBy W none → Calls Tryz.prog 20 #[.agg #[.bool G.dir, .slice an G.nodes.length cn, .slice ae G.edges.length ce]] W (SqPost G W) := fun W hW => hspec W (grown_tr (grown_alloc _ _) (grown_tr hg14 hW))
  have HS2 : Hid (∀ (W : World) (u : Value) (out : List (List Int)), SccOk (edgeOf G.ids G.mat) G.ids out → RowsR W u out → Calls Tryz.prog 19 #[u] W (SlPost out W)) := Lib.hid (fun W u out k r => by
    obtain ⟨h1, h2⟩ := k.lists HK.out.2.1
    exact sortedLists_any r (by omega) (fun c hc => Nat.le_trans (h2 c hc) (by omega)))
  have HGW : Hid ((w.alloc (.cells #[.bool G.dir, .slice an G.nodes.length cn, .slice ae G.edges.length ce] 25)).grownBy w4 none) := Lib.hid hg14
  clear hfit hfew' hspec hg1 hg2 hg12 hg3 hg13 hg4 hg34 hg14 hrl hL
  go_region_held3 (fun w' => w'.cell? ⟨w.heap.size, 0, none⟩ = some (.bool G.dir) ∧ w'.cell? ⟨w.heap.size, 1, none⟩ = some (.slice an G.nodes.length cn) ∧ w'.cell? ⟨w.heap.size, 2, none⟩ = some (.slice ae G.edges.length ce))
    (first | go_keep | exact HB.out _ (grown_tr HGW.out hE) | exact HB.out _ (grown_tr HGW.out hD) | exact HB.out _ (grown_tr HGW.out hC) | exact HB.out _ (grown_tr HGW.out hA))
    (first
      | (go_at_call 19; refine (hs1 _ (by first | exact grown_refl _ | exact grown_drew _)).mono ?_; intro e wa hp; obtain ⟨u1, L1, rfl, p1, q1, r1, hga⟩ := hp; clear hs1; have hA : w4.grownBy wa none := (by first | exact hga | exact grown_tr (grown_drew _) hga))
      | (go_at_call 20; refine (hsp _ (by first | exact hA | exact grown_tr hA (grown_drew _))).mono ?_; intro e wc hp; obtain ⟨u2, out, rfl, k2, r2, hgc⟩ := hp; clear hsp; have hac : wa.grownBy wc none := (by first | exact hgc | exact grown_tr (grown_drew _) hgc); have hC := grown_tr hA hac)
      | (go_at_call 19; refine (HS2.out _ _ _ k2 (by first | exact r2 | exact r2.grown (grown_drew _))).mono ?_; intro e wd hp; obtain ⟨u3, L3, rfl, p3, q3, r3, hgd⟩ := hp; have hcd : wc.grownBy wd none := (by first | exact hgd | exact grown_tr (grown_drew _) hgd); have hD := grown_tr hC hcd)
      | (go_at_call 18; refine (HU.out _ _ _ _ _ _ p1 q1 k2 p3 q3 (by first | exact r1.grown (grown_tr hac hcd) | exact r1.grown (grown_tr (grown_tr hac hcd) (grown_drew _))) (by first | exact r3 | exact r3.grown (grown_drew _))).mono ?_; rintro e we ⟨rfl, hge⟩; have hE := grown_tr hD (by first | exact hge | exact grown_tr (grown_drew _) hge)))
  go_wp2_with fail
  go_ret
  exact ⟨rfl, grown_tr (grown_alloc _ _) (grown_tr HGW.out hE)⟩
end Go.Proofs.YtcbkalppclilfaaGreat
