/- The law FnSortUnique, walked. -/
import Derived.Test.YtdllkoiddlcnmaaGreatJa
import Derived.Test.YtdllkoiddlcnmaaGreatJi
namespace Go.Proofs.YtdllkoiddlcnmaaGreat
open Go.MapKept Go.RowKit

def TrueB (w : World) (e : Ending) (w' : World) : Prop := e = .returned (.bool true) ∧ w.grownBy w' none
def G0 : Gr := ⟨true, [], []⟩
theorem G0_well : G0.Well := ⟨List.nodup_nil, fun e he => by cases he⟩
theorem G0_reads (w : World) : GrR w (.agg #[.bool true, .slice none 0 0, .slice none 0 0]) G0 := ⟨⟨_, _, rfl, ⟨none, 0, rfl, fun h => absurd h (by decide)⟩, ⟨none, 0, rfl, fun h => absurd h (by decide)⟩⟩⟩
theorem G0_one : AllOne (compA G0.ids G0.mat) := by
  have : G0.ids = [] := by simp [Gr.ids, G0, srt]
  rw [this]
  exact one_nil

/-- what the loop knows -/
def JRel (E : Int → Int → Prop) (os : List (Option Int)) (w1 : World) (b i : Value) (wr : World) : Prop :=
  ∃ (j : Nat) (d : Bool), j ≤ os.length ∧ i = .int .i64 ((j : Int) + 1) ∧ b = .bool d ∧ (d = true → ∀ k (h : k + 1 < os.length), k < j → E (os[k].getD 0) (os[k + 1].getD 0)) ∧ w1.grownBy wr none


set_option maxHeartbeats 1000000 in
set_option maxRecDepth 100000 in
theorem lawSortUnique_any {G : Gr} {vg : Value} {w : World} (h : GrR w vg G) : Calls Tryz.prog 5 #[vg] w (TrueB w) := by
  have hfit := fun O => fits_any (h.grown (grown_alloc w O))
  by_cases hF : G.nodes.length ≤ 2147483647 ∧ G.edges.length ≤ 2147483647
  case neg =>
    rw [decide_eq_false hF] at hfit
    obtain ⟨vn, ve, rfl, ⟨an, cn, rfl, _⟩, ⟨ae, ce, rfl, _⟩⟩ := h.parts
    clear h hF
    go_enter Tryz.func5, Tryz.ntmps5
    go_wp2_with (go_at_call 7; refine (hfit _).mono ?_; rintro e w1 ⟨hg1, rfl⟩)
    go_ret
    exact ⟨rfl, grown_tr (grown_alloc _ _) hg1⟩
  case pos =>
  rw [decide_eq_true hF] at hfit
  have hfew : ∀ W, w.grownBy W none → Calls Tryz.prog 8 #[vg, .bool true, .int .i64 40] W (FewPost (G.dir = true ∧ G.Few 40) W) := fun W hg => fewOf_any true 40 (by omega) (h.grown hg)
  by_cases hP : G.dir = true ∧ G.Few 40
  case neg =>
    have hfew' : ∀ W, w.grownBy W none → Calls Tryz.prog 8 #[vg, .bool true, .int .i64 40] W (fun e w' => e = .returned (.bool false) ∧ W.grownBy w' none) := fun W hg => (hfew W hg).mono (fun e w' ⟨d, h1, h2, h3⟩ => by
      cases d
      · exact ⟨h2, h3⟩
      · exact absurd (h1.1 rfl) hP)
    obtain ⟨vn, ve, rfl, ⟨an, cn, rfl, _⟩, ⟨ae, ce, rfl, _⟩⟩ := h.parts
    have HB : Hid (∀ wx, (w.alloc (.cells #[.bool G.dir, .slice an G.nodes.length cn, .slice ae G.edges.length ce] 25)).grownBy wx none → wx.cell? ⟨w.heap.size, 0, none⟩ = some (.bool G.dir) ∧ wx.cell? ⟨w.heap.size, 1, none⟩ = some (.slice an G.nodes.length cn) ∧ wx.cell? ⟨w.heap.size, 2, none⟩ = some (.slice ae G.edges.length ce)) := Lib.hid (fun wx hg => ⟨by rw [box_at hg 0]; rfl, by rw [box_at hg 1]; rfl, by rw [box_at hg 2]; rfl⟩)
    clear h hF hfew hP
    go_enter Tryz.func5, Tryz.ntmps5
    go_wp2_with (first
      | (go_at_call 7; refine (hfit _).mono ?_; rintro e w1 ⟨hg1, rfl⟩; obtain ⟨b0, b1, b2⟩ := HB.out w1 hg1)
      | (go_at_call 8; refine (hfew' _ (grown_tr (grown_alloc _ _) hg1)).mono ?_; rintro e w2 ⟨rfl, hg2⟩))
    go_ret
    exact ⟨rfl, grown_tr (grown_tr (grown_alloc _ _) hg1) hg2⟩
  case pos =>
  have hfew' : ∀ W, w.grownBy W none → Calls Tryz.prog 8 #[vg, .bool true, .int .i64 40] W (fun e w' => e = .returned (.bool true) ∧ W.grownBy w' none) := fun W hg => (hfew W hg).mono (fun e w' ⟨d, h1, h2, h3⟩ => by
    cases d
    · exact absurd (h1.2 hP) (by decide)
    · exact ⟨h2, h3⟩)
  obtain ⟨hdir, hn40, he40, hG⟩ := hP
  have hclo : ∀ x ∈ G.ids, ∀ y ∈ outs G.ids G.mat x, y ∈ G.ids := fun x _ y hy => outs_in hy
  have h0 : ∀ W, Calls Tryz.prog 19 #[.agg #[.bool true, .slice none 0 0, .slice none 0 0]] W (StOk (compA G0.ids G0.mat) W) := fun W => isort_ok (G0_reads W) G0_well rfl (by decide) (by decide) G0_one
  have harc := fun W u v (hW : w.grownBy W none) => arc_any (u := u) (v := v) (h.grown hW) hdir hG (by omega)
  by_cases ho : AllOne (compA G.ids G.mat)
  case pos =>
    have ho2 := (one_same hclo).2 ho
    have h1 := fun W (hW : w.grownBy W none) => isort_ok (h.grown hW) hG hdir (by omega) (by omega) ho
    have h2 := fun W (hW : w.grownBy W none) => isortSt_ok (h.grown hW) hG hdir (by omega) (by omega) ho2
    have hlen : (ord (compA G.ids G.mat)).length ≤ 1000 := by
      have := ((compA_ok hclo).comp (hG.ids.imp (by intro a b h; omega)) (by rw [Gr.length_ids]; exact Nat.le_trans hn40 (by omega))).len
      unfold ord
      rw [List.length_map]
      simpa using this
    have hon : ∀ o1, o1 = ord (compA G.ids G.mat) → (∀ j (h : j + 1 < o1.length), edgeOf G.ids G.mat (o1[j].getD 0) (o1[j + 1].getD 0)) → ord (compB G.ids G.mat) = o1 := fun o1 e => by subst e; exact order_only hG ho ho2
    obtain ⟨o1, ho1⟩ : ∃ o, o = ord (compA G.ids G.mat) := ⟨_, rfl⟩
    obtain ⟨o2, ho2'⟩ : ∃ o, o = ord (compB G.ids G.mat) := ⟨_, rfl⟩
    unfold StOk at h0 h1 h2
    have HON := Lib.hid (hon o1 ho1)
    clear hon
    rw [← ho1] at h1 hlen
    rw [← ho2'] at h2 HON
    obtain ⟨E, hE⟩ : ∃ E, E = edgeOf G.ids G.mat := ⟨_, rfl⟩
    unfold ArcPost at harc
    rw [← hE] at harc HON
    obtain ⟨vn, ve, rfl, ⟨an, cn, rfl, _⟩, ⟨ae, ce, rfl, _⟩⟩ := h.parts
    have HB : Hid (∀ wx, (w.alloc (.cells #[.bool G.dir, .slice an G.nodes.length cn, .slice ae G.edges.length ce] 25)).grownBy wx none → wx.cell? ⟨w.heap.size, 0, none⟩ = some (.bool G.dir) ∧ wx.cell? ⟨w.heap.size, 1, none⟩ = some (.slice an G.nodes.length cn) ∧ wx.cell? ⟨w.heap.size, 2, none⟩ = some (.slice ae G.edges.length ce)) := Lib.hid (fun wx hg => ⟨by rw [box_at hg 0]; rfl, by rw [box_at hg 1]; rfl, by rw [box_at hg 2]; rfl⟩)
    clear h hF hfew hn40 he40 hG hclo ho ho2 ho1 ho2' hE hdir
    have HARC := Lib.hid harc
    have HZ := Lib.hid h0
    clear harc h0
    go_enter Tryz.func5, Tryz.ntmps5
    go_wp2_with (first
      | (go_at_call 7; refine (hfit _).mono ?_; rintro e w1 ⟨hg1, rfl⟩; obtain ⟨b0, b1, b2⟩ := HB.out w1 hg1)
      | (go_at_call 8; refine (hfew' _ (grown_tr (grown_alloc _ _) hg1)).mono ?_; rintro e w2 ⟨rfl, hg2⟩; have hg12 := grown_tr hg1 hg2; clear b0 b1 b2; obtain ⟨b0, b1, b2⟩ := HB.out w2 hg12; have hs1 := h1 w2 (grown_tr (grown_alloc _ _) hg12))
      | (go_at_call 19; refine hs1.mono ?_; intro e w3 hp; obtain ⟨v1, rfl, q1, hg3⟩ := hp; have hg13 := grown_tr hg12 hg3; clear b0 b1 b2; obtain ⟨b0, b1, b2⟩ := HB.out w3 hg13; have hs2 := h2 w3 (grown_tr (grown_alloc _ _) hg13); replace q1 := Lib.hid (SlotsR.of_own q1))
      | (go_at_call 20; refine hs2.mono ?_; intro e w4 hp; obtain ⟨v2, rfl, q2, hg4⟩ := hp; have hg14 := grown_tr hg13 hg4; clear b0 b1 b2; have Q2 := Lib.hid (SlotsR.of_own q2); have Q1 := Lib.hid (q1.out.grown hg4); clear q1 q2))
    obtain ⟨a1, c1, rfl, hq1⟩ := Q1.out
    have HQ1 := Lib.hid hq1
    have HG14 := Lib.hid hg14
    clear hq1 hg1 hg2 hg3 hg4 hg12 hg13 hg14 hs1 hs2 h1 h2 hfit hfew'
    go_loopw [11, 12] (fun b i wr => JRel E o1 w4 b i wr) (fun _ i _ => o1.length + 1 - (intOf i).toNat)
    case atStart => exact ⟨0, true, Nat.zero_le _, rfl, rfl, fun _ k h hk => absurd hk (by omega), grown_refl _⟩
    case round =>
      obtain ⟨j, d, hj, rfl, rfl, hed, hg⟩ := hrel
      obtain ⟨b0, b1, b2⟩ := HB.out wr (grown_tr HG14.out hg)
      by_cases hlt : j + 1 < o1.length
      · have hlt' : (j : Int) + 1 < o1.length := by omega
        obtain ⟨b, rfl, hb, hc⟩ := HQ1.out (by omega)
        have c1 := (grown_cell hg hb (by simp)).trans (hc j (by omega)).2
        have c2 := (grown_cell hg hb (by simp)).trans (hc (j + 1) hlt).2
        obtain ⟨x, hx⟩ : ∃ x, x = o1[j].getD 0 := ⟨_, rfl⟩
        obtain ⟨y, hy⟩ : ∃ y, y = o1[j + 1].getD 0 := ⟨_, rfl⟩
        rw [← hx] at c1
        rw [← hy] at c2
        have HC1 : Hid (∀ W, wr.grownBy W none → W.cell? ⟨w.heap.size, 0, none⟩ = some (.bool G.dir) ∧ W.cell? ⟨w.heap.size, 1, none⟩ = some (.slice an G.nodes.length cn) ∧ W.cell? ⟨w.heap.size, 2, none⟩ = some (.slice ae G.edges.length ce) ∧ W.cell? ⟨b, j * 2 + 1, none⟩ = some (.int .i64 x) ∧ W.cell? ⟨b, (j + 1) * 2 + 1, none⟩ = some (.int .i64 y)) := Lib.hid (fun W hW => by
          obtain ⟨d0, d1, d2⟩ := HB.out W (grown_tr HG14.out (grown_tr hg hW))
          refine ⟨d0, d1, d2, ?_, ?_⟩
          · rw [hx]; exact (grown_cell (grown_tr hg hW) hb (by simp)).trans (hc j (by omega)).2
          · rw [hy]; exact (grown_cell (grown_tr hg hW) hb (by simp)).trans (hc (j + 1) hlt).2)
        have hj9 : j ≤ 1000 := by omega
        have hwj : IntKind.i64.wrap (j : Int) = (j : Int) := by rw [IntKind.wrap_i64]; omega
        have hj0 : (0 : Int) ≤ (j : Int) := by omega
        have hj1 : (j : Int) < o1.length := by omega
        have hj2 : (0 : Int) ≤ (j : Int) + 1 := by omega
        have HX := Lib.hid (And.intro hed (And.intro hg (And.intro hx hy)))
        have HA : Hid (∀ W, wr.grownBy W none → Calls Tryz.prog 21 #[.agg #[.bool G.dir, .slice an G.nodes.length cn, .slice ae G.edges.length ce], .int .i64 x, .int .i64 y] W (fun e w' => ∃ b : Bool, e = .returned (.bool b) ∧ (b = true → E x y) ∧ W.grownBy w' none)) := Lib.hid (fun W hW => HARC.out W x y (grown_tr (grown_tr (grown_tr (grown_alloc _ _) HG14.out) hg) hW))
        clear hed hg hx hy hc hb
        cases d
        case false =>
          go_wp2_with fail
          go_quiet (fail)
          go_wp2_with fail
          go_roundw
          case rel =>
            obtain ⟨hed, hg, hx, hy⟩ := HX.out
            exact ⟨j + 1, false, by omega, by go_num, rfl, fun h => absurd h (by simp), grown_tr hg (grown_drewN _ _)⟩
          case measure => simp [intOf]; omega
        case true =>
          go_wp2_with fail
          go_region_held3 (fun w' => w'.cell? ⟨w.heap.size, 0, none⟩ = some (.bool G.dir) ∧ w'.cell? ⟨w.heap.size, 1, none⟩ = some (.slice an G.nodes.length cn) ∧ w'.cell? ⟨w.heap.size, 2, none⟩ = some (.slice ae G.edges.length ce) ∧ w'.cell? ⟨b, j * 2 + 1, none⟩ = some (.int .i64 x) ∧ w'.cell? ⟨b, (j + 1) * 2 + 1, none⟩ = some (.int .i64 y)) (first | go_keep | exact HC1.out _ (grown_tr (grown_drew _) hg5)) (first | (go_at_call 21; refine (HA.out _ (grown_drew _)).mono ?_; rintro e w5 ⟨r, rfl, hr, hg5⟩))
          go_wp2_with fail
          obtain ⟨hed, hg, hx, hy⟩ := HX.out
          refine ⟨⟨j + 1, r, by omega, by go_num, rfl, fun hrt k hk hkj => ?_, grown_tr hg (grown_tr (grown_drew _) hg5)⟩, by simp [intOf]; omega⟩
          by_cases hkj2 : k < j
          · exact hed (by first | rfl | trivial) k hk hkj2
          · obtain rfl : k = j := by omega
            rw [← hx, ← hy]
            exact hr hrt
      · have hlt' : ¬ (j : Int) + 1 < o1.length := by omega
        have HQ : Hid (d = true → ∀ W, w4.grownBy W none → Calls Tryz.prog 22 #[.slice a1 o1.length c1, v2] W (fun e w' => e = .returned (.bool true) ∧ W.grownBy w' none)) := Lib.hid (fun hd W hW => by
          have e := HON.out (fun k hk => hed hd k hk (by omega))
          have q2 := Q2.out
          rw [e] at q2
          exact equalSl_same (Q1.out.grown hW) (q2.grown hW) (by omega))
        have HG := Lib.hid hg
        clear hed hg
        cases d
        case false =>
          go_wp2_with (go_at_call 19; refine (HZ.out _).mono ?_; intro e w5 hp; obtain ⟨v5, rfl, q5, hg5⟩ := hp; clear q5)
          go_ret
          exact ⟨rfl, grown_tr (grown_tr (grown_tr (grown_alloc _ _) HG14.out) HG.out) hg5⟩
        case true =>
          go_wp2_with (first
            | (go_at_call 19; refine (HZ.out _).mono ?_; intro e w5 hp; obtain ⟨v5, rfl, q5, hg5⟩ := hp; clear q5; have heq := HQ.out rfl w5 (grown_tr HG.out hg5))
            | (go_at_call 22; refine heq.mono ?_; rintro e w6 ⟨rfl, hg6⟩))
          go_ret
          exact ⟨rfl, grown_tr (grown_tr (grown_tr (grown_tr (grown_alloc _ _) HG14.out) HG.out) hg5) hg6⟩
  case neg =>
    have ho2 : ¬ AllOne (compB G.ids G.mat) := fun h9 => ho ((one_same hclo).1 h9)
    have h1 := fun W (hW : w.grownBy W none) => isort_bad (h.grown hW) hG hdir (by omega) (by omega) ho
    have h2 := fun W (hW : w.grownBy W none) => isortSt_bad (h.grown hW) hG hdir (by omega) (by omega) ho2
    have hlen : (ord (compA G.ids G.mat)).length ≤ 1000 := by
      have := ((compA_ok hclo).comp (hG.ids.imp (by intro a b h; omega)) (by rw [Gr.length_ids]; exact Nat.le_trans hn40 (by omega))).len
      unfold ord
      rw [List.length_map]
      simpa using this
    obtain ⟨o1, ho1⟩ : ∃ o, o = ord (compA G.ids G.mat) := ⟨_, rfl⟩
    obtain ⟨o2, ho2'⟩ : ∃ o, o = ord (compB G.ids G.mat) := ⟨_, rfl⟩
    unfold StOk at h0
    unfold StBad at h1 h2
    rw [← ho1] at h1 hlen
    rw [← ho2'] at h2
    obtain ⟨vn, ve, rfl, ⟨an, cn, rfl, _⟩, ⟨ae, ce, rfl, _⟩⟩ := h.parts
    have HB : Hid (∀ wx, (w.alloc (.cells #[.bool G.dir, .slice an G.nodes.length cn, .slice ae G.edges.length ce] 25)).grownBy wx none → wx.cell? ⟨w.heap.size, 0, none⟩ = some (.bool G.dir) ∧ wx.cell? ⟨w.heap.size, 1, none⟩ = some (.slice an G.nodes.length cn) ∧ wx.cell? ⟨w.heap.size, 2, none⟩ = some (.slice ae G.edges.length ce)) := Lib.hid (fun wx hg => ⟨by rw [box_at hg 0]; rfl, by rw [box_at hg 1]; rfl, by rw [box_at hg 2]; rfl⟩)
    clear h hF hfew hn40 he40 hG hclo ho ho2 ho1 ho2' hdir harc
    have HZ := Lib.hid h0
    clear h0
    go_enter Tryz.func5, Tryz.ntmps5
    go_wp2_with (first
      | (go_at_call 7; refine (hfit _).mono ?_; rintro e w1 ⟨hg1, rfl⟩; obtain ⟨b0, b1, b2⟩ := HB.out w1 hg1)
      | (go_at_call 8; refine (hfew' _ (grown_tr (grown_alloc _ _) hg1)).mono ?_; rintro e w2 ⟨rfl, hg2⟩; have hg12 := grown_tr hg1 hg2; clear b0 b1 b2; obtain ⟨b0, b1, b2⟩ := HB.out w2 hg12; have hs1 := h1 w2 (grown_tr (grown_alloc _ _) hg12))
      | (go_at_call 19; refine hs1.mono ?_; intro e w3 hp; obtain ⟨v1, vc1, rfl, q1, hg3⟩ := hp; have hg13 := grown_tr hg12 hg3; clear b0 b1 b2; obtain ⟨b0, b1, b2⟩ := HB.out w3 hg13; have hs2 := h2 w3 (grown_tr (grown_alloc _ _) hg13); obtain ⟨a1, c1, rfl⟩ := own_slice q1; clear q1)
      | (go_at_call 20; refine hs2.mono ?_; intro e w4 hp; obtain ⟨v2, vc2, rfl, q2, hg4⟩ := hp; have hg14 := grown_tr hg13 hg4; clear b0 b1 b2 q2))
    have HG14 := Lib.hid hg14
    clear hg1 hg2 hg3 hg4 hg12 hg13 hg14 hs1 hs2 h1 h2 hfit hfew'
    go_loopw [11, 12] (fun b i wr => ∃ j : Nat, j ≤ o1.length ∧ i = .int .i64 ((j : Int) + 1) ∧ b = .bool false ∧ w4.grownBy wr none) (fun _ i _ => o1.length + 1 - (intOf i).toNat)
    case atStart => exact ⟨0, Nat.zero_le _, rfl, rfl, grown_refl _⟩
    case round =>
      obtain ⟨j, hj, rfl, rfl, hg⟩ := hrel
      have HG := Lib.hid hg
      clear hg
      by_cases hlt : j + 1 < o1.length
      · have hlt' : (j : Int) + 1 < o1.length := by omega
        go_wp2_with fail
        go_quiet (fail)
        go_wp2_with fail
        go_roundw
        case rel => exact ⟨j + 1, by omega, by go_num, rfl, grown_tr HG.out (grown_drewN _ _)⟩
        case measure => simp [intOf]; omega
      · have hlt' : ¬ (j : Int) + 1 < o1.length := by omega
        go_wp2_with (go_at_call 19; refine (HZ.out _).mono ?_; intro e w5 hp; obtain ⟨v5, rfl, q5, hg5⟩ := hp; clear q5)
        go_ret
        exact ⟨rfl, grown_tr (grown_tr (grown_tr (grown_alloc _ _) HG14.out) HG.out) hg5⟩
end Go.Proofs.YtdllkoiddlcnmaaGreat
