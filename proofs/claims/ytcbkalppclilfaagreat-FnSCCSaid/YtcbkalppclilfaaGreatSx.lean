/- The law FnSCC, walked. -/
import Derived.Test.YtcbkalppclilfaaGreatSl
import Derived.Test.YtcbkalppclilfaaGreatRc
import Derived.Test.YtcbkalppclilfaaGreatLe
namespace Go.Proofs.YtcbkalppclilfaaGreat
open Go.MapKept Go.RowKit

theorem wars_iff2 {M : Nat → Nat → Bool} {R : Nat → Nat → Prop} {n : Nat} (hR : ∀ u v, R u v → u < n ∧ v < n) (hs : ∀ u v, M u v = true → Rch R u v) (hc : ∀ u, M u u = true) (hr : ∀ u v, R u v → M u v = true) {u v : Nat} : wars M n u v = true ↔ Rch R u v := by
  constructor
  · exact wars_sound hs n u v
  · intro h
    induction h with
    | refl => exact wars_mono n (hc u)
    | tail h1 r ih =>
      obtain ⟨h2, h3⟩ := hR _ _ r
      exact wars_through n _ _ _ h2 ih (wars_mono n (hr _ _ r))
theorem wars_mat {M : Mat} {n : Nat} (hM : ∀ a b, (M a b).isSome = true → a < n ∧ b < n) {u v : Nat} : wars (m0 M) n u v = true ↔ Rch (fun i j => (M i j).isSome = true) u v := by
  refine wars_iff2 hM (fun a b h => ?_) (fun a => by simp [m0]) (fun a b h => by unfold m0; rw [h]; rfl)
  unfold m0 at h
  rw [Bool.or_eq_true] at h
  rcases h with h | h
  · exact .one h
  · rw [of_decide_eq_true h]; exact .refl _

/-- what impl.SCC answers -/
def sccL (G : Gr) : List (List Int) := (tall (outs G.ids G.mat) G.ids.length G.ids).out.reverse.map srt
theorem sccL_ok {G : Gr} (hG : G.Well) : SccOk (edgeOf G.ids G.mat) G.ids (sccL G) :=
  (scc_ok (succ := outs G.ids G.mat) (ids := G.ids) (fun x _ y hy => outs_in hy) (hG.ids.imp (fun hab e => by omega))).mono (fun u hu v => rch_outs hG.ids hu)
theorem Gr.Well.mat_in {G : Gr} (hG : G.Well) (a b : Nat) (h : (G.mat a b).isSome = true) : a < G.ids.length ∧ b < G.ids.length := by
  rw [Gr.length_ids]
  exact ⟨(hG.mat_lt h).1, (hG.mat_lt h).2.1⟩
theorem scc_tog {G : Gr} (hG : G.Well) {u v : Nat} (hu : u < G.ids.length) (hv : v < G.ids.length) :
    decide (Tog (sccL G) G.ids[u] G.ids[v]) = (wars (m0 G.mat) G.ids.length u v && wars (m0 G.mat) G.ids.length v u) := by
  rw [Bool.eq_iff_iff, decide_eq_true_iff, Bool.and_eq_true, (sccL_ok hG).tog _ (List.getElem_mem hu) _ (List.getElem_mem hv), rch_iff hG.ids hG.mat_in (List.getElem_mem hu) (List.getElem_mem hv), rch_iff hG.ids hG.mat_in (List.getElem_mem hv) (List.getElem_mem hu), wars_mat hG.mat_in, wars_mat hG.mat_in, get_ix hG.ids, get_ix hG.ids]

theorem srt_of_perm {a b : List Int} (h : a.Perm b) : srt a = srt b := srt_eq (srt_le a) ((srt_perm a).trans h)

def g7 : Gr := ⟨true, [7], []⟩
theorem g7_well : g7.Well := ⟨by simp [g7], by simp [g7]⟩
theorem g7_len : (sccL g7).length = 1 := by
  have h := sccL_ok g7_well
  have e : g7.ids = [7] := by simp [Gr.ids, g7, srt]
  rw [e] at h
  exact scc_one h

theorem TabR.of3 {w w' : World} {ids : List Int} {M : Mat} {tn ta tw : Value} (h1 : IntsR w tn ids) (h2 : GridR w ta ids.length ids.length (arcF M)) (h3 : GridR w tw ids.length ids.length (numF M)) (hg : w.grownBy w' none) : TabR w' (.agg #[tn, ta, tw]) ids M :=
  ⟨tn, ta, tw, rfl, h1.grown hg, h2.grown hg, h3.grown hg⟩

def TrueB (w : World) (e : Ending) (w' : World) : Prop := e = .returned (.bool true) ∧ w.grownBy w' none

/-- the graph with one node, as the law lays it -/
theorem scc_seven (w : World) : Calls Tryz.prog 14 #[.agg #[.bool true, .slice (some ⟨w.heap.size, 0, none⟩) 1 1, .slice none 0 0]] (w.alloc (.cells #[.int .i64 7] intT))
    (fun e w' => ∃ a c, e = .returned (.tuple #[.slice a 1 c, .bool false]) ∧ (w.alloc (.cells #[.int .i64 7] intT)).grownBy w' none) := by
  have hb : (w.alloc (.cells #[.int .i64 7] intT)).heap[w.heap.size]? = some (.cells #[.int .i64 7] intT) := heap_alloc_new w _
  have hi : IntsR (w.alloc (.cells #[.int .i64 7] intT)) (.slice (some ⟨w.heap.size, 0, none⟩) 1 1) [7] := ⟨_, _, rfl, fun _ => ⟨_, _, rfl, by simp, fun i hi => by
    obtain rfl : i = 0 := by simpa using hi
    exact cell_at hb⟩⟩
  have he : EdgesR (w.alloc (.cells #[.int .i64 7] intT)) (.slice none 0 0) [] := ⟨_, _, rfl, fun h => by simp at h⟩
  refine (scc_any (G := g7) ⟨_, _, rfl, hi, he⟩ g7_well rfl (by simp [g7]) (by simp [g7])).mono ?_
  intro e w' hp
  obtain ⟨v, rfl, ⟨a, c, vals, rfl, _⟩, hg⟩ := hp
  refine ⟨a, c, ?_, hg⟩
  have := g7_len
  unfold sccL at this
  rw [this]


set_option maxHeartbeats 4000000 in
set_option maxRecDepth 100000 in
theorem lawSCC_any {G : Gr} {v : Value} {w : World} (h : GrR w v G) : Calls Tryz.prog 4 #[v] w (TrueB w) := by
  have hfit := fun O => fits_any (h.grown (grown_alloc w O))
  by_cases hF : G.nodes.length ≤ 2147483647 ∧ G.edges.length ≤ 2147483647
  case neg =>
    rw [decide_eq_false hF] at hfit
    obtain ⟨vn, ve, rfl, ⟨an, cn, rfl, _⟩, ⟨ae, ce, rfl, _⟩⟩ := h.parts
    clear h hF
    go_enter Tryz.func4, Tryz.ntmps4
    go_wp2_with (go_at_call 6; refine (hfit _).mono ?_; rintro e w1 ⟨hg1, rfl⟩)
    go_ret
    exact ⟨rfl, grown_tr (grown_alloc _ _) hg1⟩
  case pos =>
  rw [decide_eq_true hF] at hfit
  have hfew : ∀ W, w.grownBy W none → Calls Tryz.prog 13 #[v, .bool true, .int .i64 25] W (FewPost (G.dir = true ∧ G.Few 25) W) := fun W hg => fewOf_any true 25 (by omega) (h.grown hg)
  by_cases hP : G.dir = true ∧ G.Few 25
  case neg =>
    have hfew' : ∀ W, w.grownBy W none → Calls Tryz.prog 13 #[v, .bool true, .int .i64 25] W (fun e w' => e = .returned (.bool false) ∧ W.grownBy w' none) := fun W hg => (hfew W hg).mono (fun e w' ⟨d, h1, h2, h3⟩ => by
      cases d
      · exact ⟨h2, h3⟩
      · exact absurd (h1.1 rfl) hP)
    obtain ⟨vn, ve, rfl, ⟨an, cn, rfl, _⟩, ⟨ae, ce, rfl, _⟩⟩ := h.parts
    have HB : Hid (∀ wx, (w.alloc (.cells #[.bool G.dir, .slice an G.nodes.length cn, .slice ae G.edges.length ce] 25)).grownBy wx none → wx.cell? ⟨w.heap.size, 0, none⟩ = some (.bool G.dir) ∧ wx.cell? ⟨w.heap.size, 1, none⟩ = some (.slice an G.nodes.length cn) ∧ wx.cell? ⟨w.heap.size, 2, none⟩ = some (.slice ae G.edges.length ce)) := Lib.hid (fun wx hg => ⟨by rw [box_at hg 0]; rfl, by rw [box_at hg 1]; rfl, by rw [box_at hg 2]; rfl⟩)
    clear h hF hfew
    go_enter Tryz.func4, Tryz.ntmps4
    go_wp2_with (first
      | (go_at_call 6; refine (hfit _).mono ?_; rintro e w1 ⟨hg1, rfl⟩; obtain ⟨b0, b1, b2⟩ := HB.out w1 hg1)
      | (go_at_call 13; refine (hfew' _ (grown_tr (grown_alloc _ _) hg1)).mono ?_; rintro e w2 ⟨rfl, hg2⟩))
    go_ret
    exact ⟨rfl, grown_tr (grown_tr (grown_alloc _ _) hg1) hg2⟩
  case pos =>
  have hfew' : ∀ W, w.grownBy W none → Calls Tryz.prog 13 #[v, .bool true, .int .i64 25] W (fun e w' => e = .returned (.bool true) ∧ W.grownBy w' none) := fun W hg => (hfew W hg).mono (fun e w' ⟨d, h1, h2, h3⟩ => by
    cases d
    · exact absurd (h1.2 hP) (by decide)
    · exact ⟨h2, h3⟩)
  obtain ⟨hd, hn25, he25, hG⟩ := hP
  have hscc : ∀ W, w.grownBy W none → Calls Tryz.prog 14 #[v] W (SccPost (sccL G) W) := fun W hg => scc_any (h.grown hg) hG hd (by omega) (by omega)
  have htab : ∀ W, w.grownBy W none → Calls Tryz.prog 9 #[v] W (TabPost G W) := fun W hg => tableOf_any (h.grown hg) hG (by omega) (by omega)
  have hok := sccL_ok hG
  have hidl : G.ids.length ≤ 25 := by rw [Gr.length_ids]; exact hn25
  have hfl : (sccL G).flatten.length ≤ 1000 := by rw [hok.perm.length_eq]; omega
  have hll : (sccL G).length ≤ 1000 := Nat.le_trans (len_of_flat hok.ne) hfl
  have HLen := Lib.hid (And.intro hll (len_in_flat hfl))
  obtain ⟨vn, ve, rfl, hni, ⟨ae, ce, rfl, _⟩⟩ := h.parts
  have hpar : ∀ W vl, w.grownBy W none → RowsR W vl (sccL G) → Calls Tryz.prog 15 #[vl, vn] W (fun e w' => e = .returned (.bool true) ∧ W.grownBy w' none) := fun W vl hg hr => parts_true hr (hni.grown hg) hll hfl hok.ne hok.asc ((srt_of_perm hok.perm).trans (srt_of_perm (srt_perm _))) (by omega)
  obtain ⟨an, cn, rfl, _⟩ := hni
  have HB : Hid (∀ wx, (w.alloc (.cells #[.bool G.dir, .slice an G.nodes.length cn, .slice ae G.edges.length ce] 25)).grownBy wx none → wx.cell? ⟨w.heap.size, 0, none⟩ = some (.bool G.dir) ∧ wx.cell? ⟨w.heap.size, 1, none⟩ = some (.slice an G.nodes.length cn) ∧ wx.cell? ⟨w.heap.size, 2, none⟩ = some (.slice ae G.edges.length ce)) := Lib.hid (fun wx hg => ⟨by rw [box_at hg 0]; rfl, by rw [box_at hg 1]; rfl, by rw [box_at hg 2]; rfl⟩)
  have HG := Lib.hid (And.intro hG (And.intro hd hidl))
  clear h hF hfew hok hfl hll hn25 he25 hG hd hidl
  go_enter Tryz.func4, Tryz.ntmps4
  go_wp2_with (first
    | (go_at_call 6; refine (hfit _).mono ?_; rintro e w1 ⟨hg1, rfl⟩; obtain ⟨b0, b1, b2⟩ := HB.out w1 hg1)
    | (go_at_call 13; refine (hfew' _ (grown_tr (grown_alloc _ _) hg1)).mono ?_; rintro e w2 ⟨rfl, hg2⟩; have hg12 := grown_tr hg1 hg2; clear b0 b1 b2; obtain ⟨b0, b1, b2⟩ := HB.out w2 hg12)
    | (go_at_call 14; refine (hscc _ (grown_tr (grown_alloc _ _) hg12)).mono ?_; intro e w3 hp; obtain ⟨vl, rfl, hrl, hg3⟩ := hp; have hg13 := grown_tr hg12 hg3; clear b0 b1 b2; obtain ⟨b0, b1, b2⟩ := HB.out w3 hg13)
    | (go_at_call 15; refine (hpar _ _ (grown_tr (grown_alloc _ _) hg13) hrl).mono ?_; rintro e w4 ⟨rfl, hg4⟩; have hg14 := grown_tr hg13 hg4; clear b0 b1 b2; obtain ⟨b0, b1, b2⟩ := HB.out w4 hg14)
    | (go_at_call 9; refine (htab _ (grown_tr (grown_alloc _ _) hg14)).mono ?_; intro e w5 hp; obtain ⟨vt, rfl, ht, hg5⟩ := hp; obtain ⟨tn, ta, tw, rfl, ti, tg, tv⟩ := ht; obtain ⟨a5, c5, e5, -⟩ := id ti; obtain ⟨a6, c6, R6, e6, -⟩ := id tg; obtain ⟨a7, c7, R7, e7, -⟩ := id tv; subst e5 e6 e7; have HT := Lib.hid (And.intro ti (And.intro tg tv)); clear ti tg tv)
    | (go_at_call 16; refine (reach_any (TabR.of3 HT.out.1 HT.out.2.1 HT.out.2.2 (grown_alloc _ _)) (Nat.le_trans HG.out.2.2 (by omega))).mono ?_; intro e w6 hp; obtain ⟨vr, rfl, hr, hg6⟩ := hp))
  obtain ⟨hG, hd, hidl⟩ := HG.out
  obtain ⟨ti, tg, tv⟩ := HT.out
  obtain ⟨a8, c8, R8, C8, rfl, hr1, hr2⟩ := hr
  have hg56 : w5.grownBy w6 none := grown_tr (grown_alloc _ _) hg6
  have HGW : Hid (w.grownBy w6 none) := Lib.hid (grown_tr (grown_tr (grown_alloc _ _) (grown_tr hg14 hg5)) hg56)
  have HF : Hid (∀ wr, w6.grownBy wr none → wr.cell? ⟨w5.heap.size, 0, none⟩ = some (.slice a5 G.ids.length c5) ∧ RowsR wr vl (sccL G)) := Lib.hid (fun wr hw => ⟨by rw [box_at (grown_tr hg6 hw) 0]; rfl, hrl.grown (grown_tr (grown_tr (grown_tr hg4 hg5) hg56) hw)⟩)
  have HN : Hid (0 < G.ids.length → ∃ b o, a5 = some ⟨b, o, none⟩ ∧ ∀ wr, w6.grownBy wr none → ∀ u (hu : u < G.ids.length), wr.cell? ⟨b, o + u, none⟩ = some (.int .i64 G.ids[u])) := Lib.hid (fun hp => by
    obtain ⟨a, c, e, hx⟩ := ti
    simp only [Value.slice.injEq] at e
    obtain ⟨rfl, -, -⟩ := e
    obtain ⟨b, o, rfl, hb, hc⟩ := hx hp
    exact ⟨b, o, rfl, fun wr hw u hu => (grown_cell (grown_tr hg56 hw) hb (by simp)).trans (hc u hu)⟩)
  have HQ : Hid (0 < G.ids.length → ∃ b o, a8 = some ⟨b, o, none⟩ ∧ ∀ wr, w6.grownBy wr none → ∀ u, u < G.ids.length → wr.cell? ⟨b, o + u, none⟩ = some (.slice (some ⟨R8 u, 0, none⟩) G.ids.length (C8 u)) ∧ ∀ v, v < G.ids.length → wr.cell? ⟨R8 u, v, none⟩ = some (.bool (wars (m0 G.mat) G.ids.length u v))) := Lib.hid (fun hp => by
    obtain ⟨b, o, rfl, hb, hc⟩ := hr1 hp
    exact ⟨b, o, rfl, fun wr hw u hu => ⟨(grown_cell hw hb (by simp)).trans (hc u hu), fun v hv => (grown_cell hw (hr2 u hu).1 (by simp)).trans ((hr2 u hu).2 v hv)⟩⟩)
  have HTG := Lib.hid (fun (u v : Nat) (hu : u < G.ids.length) (hv : v < G.ids.length) => scc_tog hG hu hv)
  clear HT ti tg tv hr1 hr2 hg6 hg56 hg5 hg14 hg4 hg13 hg3 hg12 hg2 hg1 hrl b0 b1 b2 hG hd hfit hfew' hscc htab hpar HB HG
  obtain ⟨ids, hids⟩ : ∃ ids, ids = G.ids := ⟨_, rfl⟩
  rw [← hids] at HF HN HQ HTG hidl ⊢
  clear hids
  obtain ⟨n, hn⟩ : ∃ n, n = ids.length := ⟨_, rfl⟩
  have HNL := Lib.hid hn
  rw [← hn] at hidl HF ⊢
  have HQ2 : Hid (0 < n → ∃ b o, a8 = some ⟨b, o, none⟩ ∧ ∀ wr, w6.grownBy wr none → ∀ u, u < n → wr.cell? ⟨b, o + u, none⟩ = some (.slice (some ⟨R8 u, 0, none⟩) n (C8 u)) ∧ ∀ v, v < n → wr.cell? ⟨R8 u, v, none⟩ = some (.bool (wars (m0 G.mat) n u v))) := Lib.hid (by rw [hn]; exact HQ.out)
  have HTG2 : Hid (∀ (u v : Nat) (hu : u < ids.length) (hv : v < ids.length), decide (Tog (sccL G) ids[u] ids[v]) = (wars (m0 G.mat) n u v && wars (m0 G.mat) n v u)) := Lib.hid (by rw [hn]; exact HTG.out)
  clear hn HQ HTG
  go_loopw [7, 8] (fun i _ wr => ∃ u : Nat, u ≤ n ∧ i = .int .i64 u ∧ w6.grownBy wr none) (fun i _ _ => n - (intOf i).toNat)
  case atStart => exact ⟨0, Nat.zero_le _, rfl, grown_refl _⟩
  case round =>
    obtain ⟨u, hu, rfl, hg⟩ := hrel
    by_cases hun : u < n
    · have hun' : (u : Int) < n := by omega
      obtain ⟨bn, on, rfl, hcn⟩ := HN.out (by rw [← HNL.out]; omega)
      obtain ⟨br, ob, rfl, hcr⟩ := HQ2.out (by omega)
      have HCN := Lib.hid hcn
      have HCR := Lib.hid hcr
      have HG := Lib.hid hg
      clear hcn hcr hg
      go_wp2_with fail
      obtain ⟨wo, rfl⟩ : ∃ wo, wo = wr := ⟨_, rfl⟩
      go_loopw [8] (fun i wr => ∃ v : Nat, v ≤ n ∧ i = .int .i64 v ∧ w6.grownBy wr none) (fun i _ => n - (intOf i).toNat)
      case atStart => exact ⟨0, Nat.zero_le _, rfl, HG.out⟩
      case round =>
        clear HG
        obtain ⟨v, hv, rfl, hg⟩ := hrel
        by_cases hvn : v < n
        · have hvn' : (v : Int) < n := by omega
          obtain ⟨t0, hrl⟩ := HF.out wr hg
          have x1 := HCN.out wr hg u (by rw [← HNL.out]; exact hun)
          have x2 := HCN.out wr hg v (by rw [← HNL.out]; exact hvn)
          obtain ⟨r1, q1⟩ := HCR.out wr hg u hun
          obtain ⟨r2, q2⟩ := HCR.out wr hg v hvn
          have s1 := q1 v hvn
          have s2 := q2 u hun
          have htog : ∀ q, Calls Tryz.prog 17 #[vl, .int .i64 (ids[u]'(by rw [← HNL.out]; exact hun)), .int .i64 (ids[v]'(by rw [← HNL.out]; exact hvn))] (wr.drewN q) (fun e w' => e = .returned (.bool (wars (m0 G.mat) n u v && wars (m0 G.mat) n v u)) ∧ w' = wr.drewN q) := fun q => by
            have h1 := together_any (u := ids[u]'(by rw [← HNL.out]; exact hun)) (v := ids[v]'(by rw [← HNL.out]; exact hvn)) (hrl.grown (grown_drewN wr q)) (Nat.le_trans HLen.out.1 (by omega)) (fun c hc => Nat.le_trans (HLen.out.2 c hc) (by omega))
            have h2 := HTG2.out u v (by rw [← HNL.out]; exact hun) (by rw [← HNL.out]; exact hvn)
            rw [h2] at h1
            exact h1
          obtain ⟨y1, hy1⟩ : ∃ y, y = ids[u]'(by rw [← HNL.out]; exact hun) := ⟨_, rfl⟩
          obtain ⟨y2, hy2⟩ : ∃ y, y = ids[v]'(by rw [← HNL.out]; exact hvn) := ⟨_, rfl⟩
          obtain ⟨p1, hp1⟩ : ∃ p, p = wars (m0 G.mat) n u v := ⟨_, rfl⟩
          obtain ⟨p2, hp2⟩ : ∃ p, p = wars (m0 G.mat) n v u := ⟨_, rfl⟩
          rw [← hy1] at x1 htog
          rw [← hy2] at x2 htog
          rw [← hp1] at s1 htog
          rw [← hp2] at s2 htog
          have HGR := Lib.hid hg
          clear hy1 hy2 hp1 hp2 q1 q2 hrl hg
          go_wp2_with fail
          cases p1
          · simp only [Bool.false_and] at htog
            go_quiet ((go_at_call 17; exact Calls.quiet_of_same (htog _)))
            go_wp2_with fail
            go_roundw
            case rel => exact ⟨v + 1, by omega, by go_num, grown_tr HGR.out (grown_drewN _ _)⟩
            case measure => simp [intOf]; omega
          · cases p2
            · simp only [Bool.true_and] at htog
              go_quiet ((go_at_call 17; exact Calls.quiet_of_same (htog _)))
              go_wp2_with fail
              go_roundw
              case rel => exact ⟨v + 1, by omega, by go_num, grown_tr HGR.out (grown_drewN _ _)⟩
              case measure => simp [intOf]; omega
            · simp only [Bool.true_and] at htog
              go_quiet ((go_at_call 17; exact Calls.quiet_of_same (htog _)))
              go_wp2_with fail
              go_roundw
              case rel => exact ⟨v + 1, by omega, by go_num, grown_tr HGR.out (grown_drewN _ _)⟩
              case measure => simp [intOf]; omega
        · have hvn' : ¬ (v : Int) < n := by omega
          have HGR := Lib.hid hg
          clear hg
          go_wp2_with fail
          go_roundw
          case rel => exact ⟨u + 1, by omega, by go_num, HGR.out⟩
          case measure => simp [intOf]; omega
    · have hun' : ¬ (u : Int) < n := by omega
      have HGR := Lib.hid hg
      clear hg
      have hs7 := scc_seven wr
      clear HF HN HQ2 HTG2 HNL HLen hidl
      go_wp2_with (go_at_call 14; refine hs7.mono ?_; intro e w7 hp; obtain ⟨a9, c9, rfl, hg7⟩ := hp)
      go_ret
      exact ⟨rfl, grown_tr (grown_tr HGW.out HGR.out) (grown_tr (grown_alloc _ _) hg7)⟩
end Go.Proofs.YtcbkalppclilfaaGreat
