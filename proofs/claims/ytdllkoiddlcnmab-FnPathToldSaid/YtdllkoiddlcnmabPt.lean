/- The law FnPathTold, walked. -/
import Derived.Test.YtdllkoiddlcnmabIi
import Derived.Test.YtdllkoiddlcnmabPx
import Derived.Test.YtdllkoiddlcnmabLe
namespace Go.Proofs.Ytdllkoiddlcnmab
open Go.MapKept Go.RowKit

def TrueB (w : World) (e : Ending) (w' : World) : Prop := e = .returned (.bool true) ∧ w.grownBy w' none




set_option maxHeartbeats 4000000 in
set_option maxRecDepth 100000 in
theorem lawPathTold_any {G : Gr} {vg vp : Value} {l : List Int} {i k : Int} {w : World} (h : GrR w vg G) (hp : IntsR w vp l) (hi : IntKind.u8.has i) (hk : IntKind.u8.has k) : Calls Try.prog 3 #[vg, vp, .int .u8 i, .int .u8 k] w (TrueB w) := by
  have hi0 : 0 ≤ i ∧ i ≤ 255 := hi
  have hk0 : 0 ≤ k ∧ k ≤ 255 := hk
  clear hi hk
  have hfit := fun O => fits_any (h.grown (grown_alloc w O))
  by_cases hF : G.nodes.length ≤ 2147483647 ∧ G.edges.length ≤ 2147483647
  case neg =>
    rw [decide_eq_false hF] at hfit
    obtain ⟨vn, ve, rfl, ⟨an, cn, rfl, _⟩, ⟨ae, ce, rfl, _⟩⟩ := h.parts
    obtain ⟨ap, cp, rfl, -⟩ := hp
    clear h hF
    go_enter Try.func3, Try.ntmps3
    go_wp2_with (go_at_call 4; refine (hfit _).mono ?_; rintro e w1 ⟨hg1, rfl⟩)
    go_ret
    exact ⟨rfl, grown_tr (grown_alloc _ _) hg1⟩
  case pos =>
  rw [decide_eq_true hF] at hfit
  by_cases hbig : l.length ≤ 2147483647
  case neg =>
    obtain ⟨vn, ve, rfl, ⟨an, cn, rfl, _⟩, ⟨ae, ce, rfl, _⟩⟩ := h.parts
    obtain ⟨ap, cp, rfl, -⟩ := hp
    have hbig' : (2147483647 : Int) < (l.length : Int) := by omega
    clear h hF hbig
    go_enter Try.func3, Try.ntmps3
    go_wp2_with (go_at_call 4; refine (hfit _).mono ?_; rintro e w1 ⟨hg1, rfl⟩)
    go_ret
    exact ⟨rfl, grown_tr (grown_alloc _ _) hg1⟩
  case pos =>
  have hbig' : ¬ ((2147483647 : Int) < (l.length : Int)) := by omega
  have hfew : ∀ W, w.grownBy W none → Calls Try.prog 5 #[vg, .int .i64 40] W (FewPost (G.Few 40) W) := fun W hg => few_any 40 (by omega) (h.grown hg)
  by_cases hP : G.Few 40
  case neg =>
    have hfew' : ∀ W, w.grownBy W none → Calls Try.prog 5 #[vg, .int .i64 40] W (fun e w' => e = .returned (.bool false) ∧ W.grownBy w' none) := fun W hg => (hfew W hg).mono (fun e w' ⟨d, h1, h2, h3⟩ => by
      cases d
      · exact ⟨h2, h3⟩
      · exact absurd (h1.1 rfl) hP)
    obtain ⟨vn, ve, rfl, ⟨an, cn, rfl, _⟩, ⟨ae, ce, rfl, _⟩⟩ := h.parts
    obtain ⟨ap, cp, rfl, -⟩ := hp
    have HB : Hid (∀ wx, (w.alloc (.cells #[.bool G.dir, .slice an G.nodes.length cn, .slice ae G.edges.length ce] 25)).grownBy wx none → wx.cell? ⟨w.heap.size, 0, none⟩ = some (.bool G.dir) ∧ wx.cell? ⟨w.heap.size, 1, none⟩ = some (.slice an G.nodes.length cn) ∧ wx.cell? ⟨w.heap.size, 2, none⟩ = some (.slice ae G.edges.length ce)) := Lib.hid (fun wx hg => ⟨by rw [box_at hg 0]; rfl, by rw [box_at hg 1]; rfl, by rw [box_at hg 2]; rfl⟩)
    clear h hF hfew hbig
    go_enter Try.func3, Try.ntmps3
    go_wp2_with (first
      | (go_at_call 4; refine (hfit _).mono ?_; rintro e w1 ⟨hg1, rfl⟩; obtain ⟨b0, b1, b2⟩ := HB.out w1 hg1)
      | (go_at_call 5; refine (hfew' _ (grown_tr (grown_alloc _ _) hg1)).mono ?_; rintro e w2 ⟨rfl, hg2⟩))
    go_ret
    exact ⟨rfl, grown_tr (grown_tr (grown_alloc _ _) hg1) hg2⟩
  case pos =>
  have hfew' : ∀ W, w.grownBy W none → Calls Try.prog 5 #[vg, .int .i64 40] W (fun e w' => e = .returned (.bool true) ∧ W.grownBy w' none) := fun W hg => (hfew W hg).mono (fun e w' ⟨d, h1, h2, h3⟩ => by
    cases d
    · exact absurd (h1.2 hP) (by decide)
    · exact ⟨h2, h3⟩)
  obtain ⟨hn40, he40, hG⟩ := hP
  by_cases hlen : 0 < l.length ∧ l.length ≤ 60
  case neg =>
    obtain ⟨vn, ve, rfl, ⟨an, cn, rfl, _⟩, ⟨ae, ce, rfl, _⟩⟩ := h.parts
    obtain ⟨ap, cp, rfl, -⟩ := hp
    have HB : Hid (∀ wx, (w.alloc (.cells #[.bool G.dir, .slice an G.nodes.length cn, .slice ae G.edges.length ce] 25)).grownBy wx none → wx.cell? ⟨w.heap.size, 0, none⟩ = some (.bool G.dir) ∧ wx.cell? ⟨w.heap.size, 1, none⟩ = some (.slice an G.nodes.length cn) ∧ wx.cell? ⟨w.heap.size, 2, none⟩ = some (.slice ae G.edges.length ce)) := Lib.hid (fun wx hg => ⟨by rw [box_at hg 0]; rfl, by rw [box_at hg 1]; rfl, by rw [box_at hg 2]; rfl⟩)
    clear h hF hfew hn40 he40 hG
    by_cases hz : l.length = 0
    · rw [hz] at *
      clear hlen hz hbig
      go_enter Try.func3, Try.ntmps3
      go_wp2_with (first
        | (go_at_call 4; refine (hfit _).mono ?_; rintro e w1 ⟨hg1, rfl⟩; obtain ⟨b0, b1, b2⟩ := HB.out w1 hg1)
        | (go_at_call 5; refine (hfew' _ (grown_tr (grown_alloc _ _) hg1)).mono ?_; rintro e w2 ⟨rfl, hg2⟩))
      go_ret
      exact ⟨rfl, grown_tr (grown_tr (grown_alloc _ _) hg1) hg2⟩
    · have h60n : 60 < l.length := by
        rcases Nat.lt_or_ge 60 l.length with h9 | h9
        · exact h9
        · exact absurd ⟨Nat.pos_of_ne_zero hz, h9⟩ hlen
      have h60 : (60 : Int) < (l.length : Int) := by exact_mod_cast h60n
      clear h60n
      have hz' : ¬ ((l.length : Int) = 0) := by omega
      clear hlen hbig
      go_enter Try.func3, Try.ntmps3
      go_wp2_with (first
        | (go_at_call 4; refine (hfit _).mono ?_; rintro e w1 ⟨hg1, rfl⟩; obtain ⟨b0, b1, b2⟩ := HB.out w1 hg1)
        | (go_at_call 5; refine (hfew' _ (grown_tr (grown_alloc _ _) hg1)).mono ?_; rintro e w2 ⟨rfl, hg2⟩))
      go_ret
      exact ⟨rfl, grown_tr (grown_tr (grown_alloc _ _) hg1) hg2⟩
  case pos =>
  have h60 : ¬ ((60 : Int) < (l.length : Int)) := by omega
  have hz' : ¬ ((l.length : Int) = 0) := by omega
  have hip := fun W (hW : w.grownBy W none) => isPathIn_any (h.grown hW) hG (by omega) (by omega) (hp.grown hW) (by omega)
  have hin := fun W (hW : w.grownBy W none) => isPathIn_any (vp := .slice none 0 0) (l := []) (h.grown hW) hG (by omega) (by omega) ⟨none, 0, rfl, fun h => absurd h (by simp)⟩ (by simp)
  rw [pathB_nil] at hin
  obtain ⟨p, hpp⟩ : ∃ p, p = pathB G.ids G.mat l := ⟨_, rfl⟩
  rw [← hpp] at hip
  have hpx := fun W x y (hW : w.grownBy W none) (hx : x ∈ G.ids) => pathExists_any (u := x) (v := y) (h.grown hW) hG (by omega) (by omega) hx
  obtain ⟨vn, ve, rfl, ⟨an, cn, rfl, _⟩, ⟨ae, ce, rfl, _⟩⟩ := h.parts
  obtain ⟨ap, cp, rfl, hc⟩ := hp
  obtain ⟨b, o, rfl, hb, hcell⟩ := hc hlen.1
  have HC : Hid (∀ W, w.grownBy W none → ∀ j, (hj : j < l.length) → W.cell? ⟨b, o + j, none⟩ = some (.int .i64 l[j])) := Lib.hid (fun W hW j hj => (grown_cell hW hb (by simp)).trans (hcell j hj))
  have HB : Hid (∀ wx, (w.alloc (.cells #[.bool G.dir, .slice an G.nodes.length cn, .slice ae G.edges.length ce] 25)).grownBy wx none → wx.cell? ⟨w.heap.size, 0, none⟩ = some (.bool G.dir) ∧ wx.cell? ⟨w.heap.size, 1, none⟩ = some (.slice an G.nodes.length cn) ∧ wx.cell? ⟨w.heap.size, 2, none⟩ = some (.slice ae G.edges.length ce)) := Lib.hid (fun wx hg => ⟨by rw [box_at hg 0]; rfl, by rw [box_at hg 1]; rfl, by rw [box_at hg 2]; rfl⟩)
  have HPX := Lib.hid hpx
  have HL := Lib.hid (And.intro hlen hpp)
  clear h hF hfew hn40 he40 hG hpx hbig hcell hb hc hpp
  have hfn : ∀ a : Int, 0 ≤ a ∧ a ≤ 255 → ∃ f : Nat, Int.tmod a l.length = f ∧ f < l.length := fun a ha => by
    refine ⟨(a % (l.length : Int)).toNat, ?_, ?_⟩
    · rw [Int.tmod_eq_emod_of_nonneg ha.1]
      have := Int.emod_nonneg a (show (l.length : Int) ≠ 0 by omega)
      omega
    · have h1 := Int.emod_nonneg a (show (l.length : Int) ≠ 0 by omega)
      have h2 := Int.emod_lt_of_pos a (show (0 : Int) < (l.length : Int) by have := HL.out.1.1; omega)
      omega
  obtain ⟨f, hf, hfl⟩ := hfn i hi0
  obtain ⟨t, ht, htl⟩ := hfn k hk0
  have hwi : IntKind.i64.wrap i = i := by rw [IntKind.wrap_i64]; omega
  have hwk : IntKind.i64.wrap k = k := by rw [IntKind.wrap_i64]; omega
  have hf0 : (0 : Int) ≤ (f : Int) := by omega
  have ht0 : (0 : Int) ≤ (t : Int) := by omega
  have hfl' : (f : Int) < (l.length : Int) := by omega
  have htl' : (t : Int) < (l.length : Int) := by omega
  clear hfn hi0 hk0
  have hq0 : (((l.length : Nat) : Int) == 0) = false := by rw [beq_eq_false_iff_ne]; exact hz'
  have hd1 : decide ((2147483647 : Int) < ((l.length : Nat) : Int)) = false := decide_eq_false hbig'
  have hd60 : decide ((60 : Int) < ((l.length : Nat) : Int)) = false := decide_eq_false h60
  cases p
  case false =>
    clear HPX
    go_enter Try.func3, Try.ntmps3
    go_wp2_with (first
      | (go_at_call 4; refine (hfit _).mono ?_; rintro e w1 ⟨hg1, rfl⟩; obtain ⟨b0, b1, b2⟩ := HB.out w1 hg1)
      | (go_at_call 5; refine (hfew' _ (grown_tr (grown_alloc _ _) hg1)).mono ?_; rintro e w2 ⟨rfl, hg2⟩; have hg12 := grown_tr hg1 hg2; clear b0 b1 b2; obtain ⟨b0, b1, b2⟩ := HB.out w2 hg12; have hip2 := hip w2 (grown_tr (grown_alloc _ _) hg12))
      | (go_at_call 6; refine hip2.mono ?_; rintro e w3 ⟨rfl, hg3⟩; have hg13 := grown_tr hg12 hg3; clear b0 b1 b2 hip2; obtain ⟨b0, b1, b2⟩ := HB.out w3 hg13; clear hg1 hg2 hg3 hg12))
    go_quiet (fail)
    have HG13 := Lib.hid hg13
    clear hf ht hwi hwk hq0 hd1 hd60 hg13 h60 hz' hbig'
    have hin3 := hin _ (grown_tr (grown_tr (grown_alloc _ _) HG13.out) (grown_drewN w3 nq))
    go_wp2_with (go_at_call 6; refine hin3.mono ?_; rintro e w4 ⟨rfl, hg4⟩)
    go_ret
    exact ⟨rfl, grown_tr (grown_tr (grown_tr (grown_alloc _ _) HG13.out) (grown_drewN w3 nq)) hg4⟩
  case true =>
    have hP : PathP G.ids G.mat l := pathB_iff.1 HL.out.2.symm
    by_cases hft : t < f
    · have hft' : (t : Int) < (f : Int) := by omega
      clear HPX hP
      go_enter Try.func3, Try.ntmps3
      go_wp2_with (first
        | (go_at_call 4; refine (hfit _).mono ?_; rintro e w1 ⟨hg1, rfl⟩; obtain ⟨b0, b1, b2⟩ := HB.out w1 hg1)
        | (go_at_call 5; refine (hfew' _ (grown_tr (grown_alloc _ _) hg1)).mono ?_; rintro e w2 ⟨rfl, hg2⟩; have hg12 := grown_tr hg1 hg2; clear b0 b1 b2; obtain ⟨b0, b1, b2⟩ := HB.out w2 hg12; have hip2 := hip w2 (grown_tr (grown_alloc _ _) hg12))
        | (go_at_call 6; refine hip2.mono ?_; rintro e w3 ⟨rfl, hg3⟩; have hg13 := grown_tr hg12 hg3; clear b0 b1 b2 hip2; obtain ⟨b0, b1, b2⟩ := HB.out w3 hg13; clear hg1 hg2 hg3 hg12))
      go_quiet (fail)
      have HG13 := Lib.hid hg13
      clear hf ht hwi hwk hq0 hd1 hd60 hg13 h60 hz' hbig'
      have hin3 := hin _ (grown_tr (grown_tr (grown_alloc _ _) HG13.out) (grown_drewN w3 nq))
      go_wp2_with (go_at_call 6; refine hin3.mono ?_; rintro e w4 ⟨rfl, hg4⟩)
      go_ret
      exact ⟨rfl, grown_tr (grown_tr (grown_tr (grown_alloc _ _) HG13.out) (grown_drewN w3 nq)) hg4⟩
    · have hft' : ¬ ((t : Int) < (f : Int)) := by omega
      have hr := hP.reach_le (show f ≤ t by omega) htl
      have hm := hP.mem hfl
      have HPX0 := HPX
      clear HPX
      have HPX : Hid (∀ W, w.grownBy W none → Calls Try.prog 7 #[.agg #[.bool G.dir, .slice an G.nodes.length cn, .slice ae G.edges.length ce], .int .i64 l[f], .int .i64 l[t]] W (fun e w' => e = .returned (.tuple #[.bool true, .bool false]) ∧ W.grownBy w' none)) := Lib.hid (fun W hW => (HPX0.out W l[f] l[t] hW hm).mono (fun e w' ⟨p, h1, h2, h3⟩ => by
        have : p = true := h2.2 hr
        rw [h1, this]
        exact ⟨rfl, h3⟩))
      clear HPX0 hP hr hm
      go_enter Try.func3, Try.ntmps3
      go_wp2_with (first
        | (go_at_call 4; refine (hfit _).mono ?_; rintro e w1 ⟨hg1, rfl⟩; obtain ⟨b0, b1, b2⟩ := HB.out w1 hg1)
        | (go_at_call 5; refine (hfew' _ (grown_tr (grown_alloc _ _) hg1)).mono ?_; rintro e w2 ⟨rfl, hg2⟩; have hg12 := grown_tr hg1 hg2; clear b0 b1 b2; obtain ⟨b0, b1, b2⟩ := HB.out w2 hg12; have hip2 := hip w2 (grown_tr (grown_alloc _ _) hg12))
        | (go_at_call 6; refine hip2.mono ?_; rintro e w3 ⟨rfl, hg3⟩; have hg13 := grown_tr hg12 hg3; clear b0 b1 b2 hip2; obtain ⟨b0, b1, b2⟩ := HB.out w3 hg13; clear hg1 hg2 hg3 hg12))
      go_quiet (fail)
      have HG13 := Lib.hid hg13
      clear hf ht hwi hwk hq0 hd1 hd60 hg13 h60 hz' hbig'
      have cf := HC.out w3 (grown_tr (grown_alloc _ _) HG13.out) f hfl
      have ct := HC.out w3 (grown_tr (grown_alloc _ _) HG13.out) t htl
      obtain ⟨x, hx⟩ : ∃ x, x = l[f] := ⟨_, rfl⟩
      obtain ⟨y, hy⟩ : ∃ y, y = l[t] := ⟨_, rfl⟩
      rw [← hx] at cf HPX
      rw [← hy] at ct HPX
      have HP2 : Hid (∀ W, w3.grownBy W none → Calls Try.prog 7 #[.agg #[.bool G.dir, .slice an G.nodes.length cn, .slice ae G.edges.length ce], .int .i64 x, .int .i64 y] W (fun e w' => e = .returned (.tuple #[.bool true, .bool false]) ∧ W.grownBy w' none)) := Lib.hid (fun W hW => HPX.out W (grown_tr (grown_tr (grown_alloc _ _) HG13.out) hW))
      clear HPX hx hy HC HB
      go_wp2_with fail
      go_region_with (go_at_call 7; refine (HP2.out _ (grown_tr (grown_drewN w3 nq) (grown_drew _))).mono ?_; rintro e w4 ⟨rfl, hg4⟩)
      all_goals go_wp2_with fail
      all_goals go_ret
      all_goals exact ⟨rfl, grown_tr (grown_tr (grown_tr (grown_alloc _ _) HG13.out) (grown_tr (grown_drewN w3 nq) (grown_drew _))) hg4⟩
end Go.Proofs.Ytdllkoiddlcnmab
