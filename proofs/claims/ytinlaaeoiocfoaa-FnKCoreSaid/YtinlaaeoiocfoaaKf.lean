/- The law FnKCore, walked. -/
import Derived.Test.YtinlaaeoiocfoaaKe
import Derived.Test.YtinlaaeoiocfoaaEs
import Derived.Test.YtinlaaeoiocfoaaLe
namespace Go.Proofs.Ytinlaaeoiocfoaa
open Go.MapKept Go.RowKit

def PeelAny : Prop := ∀ {G : Gr} {v : Value} {w : World}, GrR w v G → G.Well → G.nodes.length ≤ 1000 → G.edges.length ≤ 10000 → ∀ (k : Nat), k ≤ 1000 → Calls Try.prog 6 #[.int .i64 k, v] w (fun e w' => ∃ v', e = .returned v' ∧ w'.ownsRow w.heap.size inT 1 v' (cl G k).length ((cl G k).map (Value.int .i64)) ∧ w.grownBy w' none)
def TruK (w : World) (e : Ending) (w' : World) : Prop := e = .returned (.bool true) ∧ w.grownBy w' none

set_option maxHeartbeats 8000000 in
set_option maxRecDepth 100000 in
theorem lawKCore_any (HD : DegAny) (HPL : PeelAny) {G : Gr} {v : Value} {k : Int} {w : World} (h : GrR w v G) : Calls Try.prog 3 #[.int .i64 k, v] w (TruK w) := by
  have hfit := fun O => fits_any (h.grown (grown_alloc w O))
  by_cases hF : G.nodes.length ≤ 2147483647 ∧ G.edges.length ≤ 2147483647
  case neg =>
    rw [decide_eq_false hF] at hfit
    obtain ⟨vn, ve, rfl, ⟨an, cn, rfl, _⟩, ⟨ae, ce, rfl, _⟩⟩ := h.parts
    clear h hF
    go_enter Try.func3, Try.ntmps3
    go_wp2_with (go_at_call 4; refine (hfit _).mono ?_; rintro e w1 ⟨hg1, rfl⟩)
    go_ret
    exact ⟨rfl, grown_tr (grown_alloc _ _) hg1⟩
  case pos =>
  rw [decide_eq_true hF] at hfit
  have hfew : ∀ W, w.grownBy W none → Calls Try.prog 5 #[v, .bool false, .int .i64 25] W (FewPost (G.dir = false ∧ G.Few 25) W) := fun W hg => fewOf_any false 25 (by omega) (h.grown hg)
  by_cases hP : G.dir = false ∧ G.Few 25
  case neg =>
    have hfew' : ∀ W, w.grownBy W none → Calls Try.prog 5 #[v, .bool false, .int .i64 25] W (fun e w' => e = .returned (.bool false) ∧ W.grownBy w' none) := fun W hg => (hfew W hg).mono (fun e w' ⟨d, h1, h2, h3⟩ => by
      cases d
      · exact ⟨h2, h3⟩
      · exact absurd (h1.1 rfl) hP)
    obtain ⟨vn, ve, rfl, ⟨an, cn, rfl, _⟩, ⟨ae, ce, rfl, _⟩⟩ := h.parts
    have HB : Hid (∀ wx, (w.alloc (.cells #[.bool G.dir, .slice an G.nodes.length cn, .slice ae G.edges.length ce] 25)).grownBy wx none → wx.cell? ⟨w.heap.size, 0, none⟩ = some (.bool G.dir) ∧ wx.cell? ⟨w.heap.size, 1, none⟩ = some (.slice an G.nodes.length cn) ∧ wx.cell? ⟨w.heap.size, 2, none⟩ = some (.slice ae G.edges.length ce)) := Lib.hid (fun wx hg => ⟨by rw [box_at hg 0]; rfl, by rw [box_at hg 1]; rfl, by rw [box_at hg 2]; rfl⟩)
    clear h hF hfew hP
    go_enter Try.func3, Try.ntmps3
    go_wp2_with (first
      | (go_at_call 4; refine (hfit _).mono ?_; rintro e w1 ⟨hg1, rfl⟩; obtain ⟨b0, b1, b2⟩ := HB.out w1 hg1)
      | (go_at_call 5; refine (hfew' _ (grown_tr (grown_alloc _ _) hg1)).mono ?_; rintro e w2 ⟨rfl, hg2⟩))
    go_ret
    exact ⟨rfl, grown_tr (grown_tr (grown_alloc _ _) hg1) hg2⟩
  case pos =>
  have hfew' : ∀ W, w.grownBy W none → Calls Try.prog 5 #[v, .bool false, .int .i64 25] W (fun e w' => e = .returned (.bool true) ∧ W.grownBy w' none) := fun W hg => (hfew W hg).mono (fun e w' ⟨d, h1, h2, h3⟩ => by
    cases d
    · exact absurd (h1.2 hP) (by decide)
    · exact ⟨h2, h3⟩)
  obtain ⟨hdir, hn25, he25, hG⟩ := hP
  by_cases hkb : k < 0 ∨ 30 < k
  case pos =>
    obtain ⟨vn, ve, rfl, ⟨an, cn, rfl, _⟩, ⟨ae, ce, rfl, _⟩⟩ := h.parts
    have HB : Hid (∀ wx, (w.alloc (.cells #[.bool G.dir, .slice an G.nodes.length cn, .slice ae G.edges.length ce] 25)).grownBy wx none → wx.cell? ⟨w.heap.size, 0, none⟩ = some (.bool G.dir) ∧ wx.cell? ⟨w.heap.size, 1, none⟩ = some (.slice an G.nodes.length cn) ∧ wx.cell? ⟨w.heap.size, 2, none⟩ = some (.slice ae G.edges.length ce)) := Lib.hid (fun wx hg => ⟨by rw [box_at hg 0]; rfl, by rw [box_at hg 1]; rfl, by rw [box_at hg 2]; rfl⟩)
    clear h hF hfew hdir hn25 he25 hG
    go_enter Try.func3, Try.ntmps3
    by_cases hk1 : k < 0
    · clear hkb
      go_wp2_with (first
        | (go_at_call 4; refine (hfit _).mono ?_; rintro e w1 ⟨hg1, rfl⟩; obtain ⟨b0, b1, b2⟩ := HB.out w1 hg1)
        | (go_at_call 5; refine (hfew' _ (grown_tr (grown_alloc _ _) hg1)).mono ?_; rintro e w2 ⟨rfl, hg2⟩))
      go_ret
      exact ⟨rfl, grown_tr (grown_tr (grown_alloc _ _) hg1) hg2⟩
    · have hk2 : 30 < k := hkb.resolve_left hk1
      clear hkb
      go_wp2_with (first
        | (go_at_call 4; refine (hfit _).mono ?_; rintro e w1 ⟨hg1, rfl⟩; obtain ⟨b0, b1, b2⟩ := HB.out w1 hg1)
        | (go_at_call 5; refine (hfew' _ (grown_tr (grown_alloc _ _) hg1)).mono ?_; rintro e w2 ⟨rfl, hg2⟩))
      go_ret
      exact ⟨rfl, grown_tr (grown_tr (grown_alloc _ _) hg1) hg2⟩
  case neg =>
  obtain ⟨kk, rfl⟩ : ∃ kk : Nat, k = (kk : Int) := ⟨k.toNat, by omega⟩
  have hk0 : ¬ ((kk : Int) < 0) := by omega
  have hk30 : ¬ (30 < (kk : Int)) := by omega
  have hpk : ∀ W, w.grownBy W none → _ := fun W (hg : w.grownBy W none) => HPL (h.grown hg) hG (by omega) (by omega) kk (by omega)
  have hpk1 : ∀ W, w.grownBy W none → _ := fun W (hg : w.grownBy W none) => HPL (h.grown hg) hG (by omega) (by omega) (kk - 1) (by omega)
  have hkc : (kk ≤ 1 ∨ cl G (kk - 1) ≠ []) → ∀ W, w.grownBy W none → Calls Try.prog 7 #[.int .i64 kk, v] W (fun e w' => ∃ (v' : Value) (L : List Int), e = .returned (.tuple #[v', .bool false]) ∧ w'.ownsRow W.heap.size inT 1 v' L.length (L.map (Value.int .i64)) ∧ W.grownBy w' none ∧ srt L = cl G kk ∧ L.length ≤ 1000) := fun h1 W hg => (kco_any HD (h.grown hg) hG (by omega) (by omega) hdir (cl_some h1)).mono (fun e w' h2 => h2.cl hG)
  have hk7 : ∀ W : World, Calls Try.prog 7 #[.int .i64 0, .agg #[.bool false, .slice (some ⟨W.heap.size, 0, none⟩) 1 1, .slice none 0 0]] (W.alloc (.cells #[.int .i64 7] 3)) (fun e w' => ∃ (a : Option Addr) (c : Nat), e = .returned (.tuple #[.slice a 1 c, .bool false]) ∧ W.grownBy w' none) := fun W => by
    have hn : IntsR (W.alloc (.cells #[.int .i64 7] 3)) (.slice (some ⟨W.heap.size, 0, none⟩) 1 1) [7] := ⟨_, _, rfl, fun _ => ⟨W.heap.size, 0, rfl, by simp, fun i hi => by
      obtain rfl : i = 0 := by simpa using hi
      exact cell_at (heap_alloc_new W _)⟩⟩
    have hg7 : GrR (W.alloc (.cells #[.int .i64 7] 3)) (.agg #[.bool false, .slice (some ⟨W.heap.size, 0, none⟩) 1 1, .slice none 0 0]) g7 := ⟨⟨_, _, rfl, hn, ⟨none, 0, rfl, fun h => absurd h (by decide)⟩⟩⟩
    refine (kco_any (k := 0) HD hg7 g7_well (by simp [g7]) (by simp [g7]) rfl (.inl (Nat.zero_le _))).mono ?_
    intro e w' h2
    obtain ⟨v', L, rfl, ho, hg, hs, _⟩ := h2.cl g7_well
    obtain ⟨a, c, rfl⟩ := own_slice ho
    have hl : L.length = 1 := by rw [length_of_srt hs]; exact g7_cl
    rw [hl]
    exact ⟨a, c, rfl, grown_tr (grown_alloc _ _) hg⟩
  have hcll : (cl G kk).length ≤ 1000 := by
    have h1 : (cl G kk).length ≤ G.ids.length := List.length_filter_le _ _
    rw [G.length_ids] at h1
    exact Nat.le_trans h1 (by show G.nodes.length ≤ 1000; omega)
  obtain ⟨vn, ve, rfl, ⟨an, cn, rfl, _⟩, ⟨ae, ce, rfl, _⟩⟩ := h.parts
  have HB : Hid (∀ wx, (w.alloc (.cells #[.bool G.dir, .slice an G.nodes.length cn, .slice ae G.edges.length ce] 25)).grownBy wx none → wx.cell? ⟨w.heap.size, 0, none⟩ = some (.bool G.dir) ∧ wx.cell? ⟨w.heap.size, 1, none⟩ = some (.slice an G.nodes.length cn) ∧ wx.cell? ⟨w.heap.size, 2, none⟩ = some (.slice ae G.edges.length ce)) := Lib.hid (fun wx hg => ⟨by rw [box_at hg 0]; rfl, by rw [box_at hg 1]; rfl, by rw [box_at hg 2]; rfl⟩)
  obtain ⟨CL, hCL⟩ : ∃ CL, CL = cl G kk := ⟨_, rfl⟩
  obtain ⟨CM, hCM⟩ : ∃ CM, CM = cl G (kk - 1) := ⟨_, rfl⟩
  rw [← hCL] at hpk hkc hcll
  rw [← hCM] at hpk1 hkc
  have e1 : IntKind.i64.wrap ((kk : Int) - 1) = (kk : Int) - 1 := by rw [IntKind.wrap_i64]; omega
  clear h hF hfew hdir hn25 he25 hG hCL hCM HD HPL hkb
  by_cases hk1 : (1 : Int) < (kk : Int)
  · have e2 : ((kk - 1 : Nat) : Int) = (kk : Int) - 1 := by omega
    rw [e2] at hpk1
    clear e2
    by_cases hne : CM = []
    · subst hne
      clear hkc hk7 hpk hcll
      go_enter Try.func3, Try.ntmps3
      go_wp2_with (first
        | (go_at_call 4; refine (hfit _).mono ?_; rintro e w1 ⟨hg1, rfl⟩; obtain ⟨b0, b1, b2⟩ := HB.out w1 hg1)
        | (go_at_call 5; refine (hfew' _ (grown_tr (grown_alloc _ _) hg1)).mono ?_; rintro e w2 ⟨rfl, hg2⟩; have hg12 := grown_tr hg1 hg2; clear b0 b1 b2; obtain ⟨b0, b1, b2⟩ := HB.out w2 hg12)
        | (go_at_call 6; refine (hpk1 _ (grown_tr (grown_alloc _ _) hg12)).mono ?_; intro e w3 hp; obtain ⟨v3, rfl, ho3, hg3⟩ := hp; obtain ⟨a3, c3, hv3⟩ := own_slice ho3; subst hv3; clear ho3))
      go_ret
      exact ⟨rfl, grown_tr (grown_tr (grown_alloc _ _) hg12) hg3⟩
    · have hkc2 := hkc (.inr hne)
      have hlen : ¬ CM.length = 0 := fun e => hne (List.eq_nil_of_length_eq_zero e)
      have hlen2 : ((CM.length : Int) == 0) = false := by rw [beq_eq_false_iff_ne]; omega
      clear hkc hne
      go_enter Try.func3, Try.ntmps3
      go_wp2_with (first
        | (go_at_call 4; refine (hfit _).mono ?_; rintro e w1 ⟨hg1, rfl⟩; obtain ⟨b0, b1, b2⟩ := HB.out w1 hg1)
        | (go_at_call 5; refine (hfew' _ (grown_tr (grown_alloc _ _) hg1)).mono ?_; rintro e w2 ⟨rfl, hg2⟩; have hg12 := grown_tr hg1 hg2; clear b0 b1 b2; obtain ⟨b0, b1, b2⟩ := HB.out w2 hg12)
        | (go_at_call 6; refine (hpk1 _ (grown_tr (grown_alloc _ _) hg12)).mono ?_; intro e w3 hp; obtain ⟨v3, rfl, ho3, hg3⟩ := hp; obtain ⟨a3, c3, hv3⟩ := own_slice ho3; subst hv3; clear ho3; have hg13 := grown_tr hg12 hg3; clear b0 b1 b2 hg12; have hg12 := hg13; clear hg13; obtain ⟨b0, b1, b2⟩ := HB.out w3 hg12)
        | (go_at_call 7; refine (hkc2 _ (grown_tr (grown_alloc _ _) hg12)).mono ?_; intro e w4 hp; obtain ⟨v4, L, rfl, ho4, hg4, hs4, hl4⟩ := hp; replace ho4 := Lib.hid (And.intro ho4 hs4); clear hs4; have hg14 := grown_tr hg12 hg4; clear b0 b1 b2 hkc2)
        | (go_at_call 7; refine (hk7 w4).mono ?_; intro e w5 hp; obtain ⟨a7, c7, rfl, hg5⟩ := hp; have hg15 := grown_tr hg14 hg5; obtain ⟨b0, b1, b2⟩ := HB.out w5 hg15))
      have hgw : w.grownBy w5 none := grown_tr (grown_alloc _ _) hg15
      have HS : Hid (∀ W, w5.grownBy W none → Calls Try.prog 9 #[v4] W (fun e w' => ∃ v9, e = .returned v9 ∧ IntsR w' v9 CL ∧ W.grownBy w' none)) := Lib.hid (fun W hW => by
        obtain ⟨ho9, hs9⟩ := ho4.out
        refine (sorted_any (by omega) ((IntsR.of_own ho9).grown (grown_tr hg5 hW))).mono ?_
        rintro e w' ⟨v9, rfl, h9, h8⟩
        rw [← length_srt L, hs9] at h9
        exact ⟨v9, rfl, IntsR.of_own h9, h8⟩)
      have HK : Hid (∀ W, w5.grownBy W none → Calls Try.prog 6 #[.int .i64 kk, .agg #[.bool G.dir, .slice an G.nodes.length cn, .slice ae G.edges.length ce]] W (fun e w' => ∃ v9, e = .returned v9 ∧ IntsR w' v9 CL ∧ W.grownBy w' none)) := Lib.hid (fun W hW => by
        refine (hpk W (grown_tr hgw hW)).mono ?_
        rintro e w' ⟨v9, rfl, h9, h8⟩
        exact ⟨v9, rfl, IntsR.of_own h9, h8⟩)
      have HE : Hid (∀ W u1 u2, IntsR W u1 CL → IntsR W u2 CL → Calls Try.prog 8 #[u1, u2] W (fun e w' => e = .returned (.bool true) ∧ W.grownBy w' none)) := Lib.hid (fun W u1 u2 h1 h2 => equal_same h1 h2 (by omega))
      have HC : Hid (∀ W, w5.grownBy W none → W.cell? ⟨w.heap.size, 0, none⟩ = some (.bool G.dir) ∧ W.cell? ⟨w.heap.size, 1, none⟩ = some (.slice an G.nodes.length cn) ∧ W.cell? ⟨w.heap.size, 2, none⟩ = some (.slice ae G.edges.length ce)) := Lib.hid (fun W hW => HB.out W (grown_tr hg15 hW))
      replace hgw := Lib.hid hgw
      clear ho4 hpk hg1 hg2 hg4 hg5 hg12 hg14 hg15 HB hk7 hfit hfew'
      go_region_held3 (fun W => W.cell? ⟨w.heap.size, 0, none⟩ = some (.bool G.dir) ∧ W.cell? ⟨w.heap.size, 1, none⟩ = some (.slice an G.nodes.length cn) ∧ W.cell? ⟨w.heap.size, 2, none⟩ = some (.slice ae G.edges.length ce))
        (first | go_keep | exact HC.out _ hC | exact HC.out _ hB | exact HC.out _ hA)
        (first
          | (go_at_call 9; refine (HS.out _ (by first | exact grown_refl _ | exact grown_drew _)).mono ?_; intro e wa hp; obtain ⟨v9, rfl, hi9, hga⟩ := hp; have hA : w5.grownBy wa none := (by first | exact hga | exact grown_tr (grown_drew _) hga))
          | (go_at_call 6; refine (HK.out _ (by first | exact hA | exact grown_tr hA (grown_drew _))).mono ?_; intro e wb hp; obtain ⟨v8, rfl, hi8, hgb⟩ := hp; have hi7 : IntsR wb v9 CL := (by first | exact hi9.grown hgb | exact hi9.grown (grown_tr (grown_drew _) hgb)); have hB : w5.grownBy wb none := (by first | exact grown_tr hA hgb | exact grown_tr (grown_tr hA (grown_drew _)) hgb))
          | (go_at_call 8; refine (HE.out _ _ _ (by first | exact hi7 | exact hi7.grown (grown_drew _)) (by first | exact hi8 | exact hi8.grown (grown_drew _))).mono ?_; rintro e wc ⟨rfl, hgc⟩; have hC : w5.grownBy wc none := (by first | exact grown_tr hB hgc | exact grown_tr (grown_tr hB (grown_drew _)) hgc)))
      go_wp2_with fail
      go_ret
      exact ⟨rfl, grown_tr hgw.out hC⟩
  · have hkc2 := hkc (.inl (by omega))
    clear hkc hpk1
    go_enter Try.func3, Try.ntmps3
    go_wp2_with (first
      | (go_at_call 4; refine (hfit _).mono ?_; rintro e w1 ⟨hg1, rfl⟩; obtain ⟨b0, b1, b2⟩ := HB.out w1 hg1)
      | (go_at_call 5; refine (hfew' _ (grown_tr (grown_alloc _ _) hg1)).mono ?_; rintro e w2 ⟨rfl, hg2⟩; have hg12 := grown_tr hg1 hg2; clear b0 b1 b2; obtain ⟨b0, b1, b2⟩ := HB.out w2 hg12)
      | (go_at_call 6; refine (hpk1 _ (grown_tr (grown_alloc _ _) hg12)).mono ?_; intro e w3 hp; obtain ⟨v3, rfl, ho3, hg3⟩ := hp; obtain ⟨a3, c3, hv3⟩ := own_slice ho3; subst hv3; clear ho3; have hg13 := grown_tr hg12 hg3; clear b0 b1 b2 hg12; have hg12 := hg13; clear hg13; obtain ⟨b0, b1, b2⟩ := HB.out w3 hg12)
      | (go_at_call 7; refine (hkc2 _ (grown_tr (grown_alloc _ _) hg12)).mono ?_; intro e w4 hp; obtain ⟨v4, L, rfl, ho4, hg4, hs4, hl4⟩ := hp; replace ho4 := Lib.hid (And.intro ho4 hs4); clear hs4; have hg14 := grown_tr hg12 hg4; clear b0 b1 b2 hkc2)
      | (go_at_call 7; refine (hk7 w4).mono ?_; intro e w5 hp; obtain ⟨a7, c7, rfl, hg5⟩ := hp; have hg15 := grown_tr hg14 hg5; obtain ⟨b0, b1, b2⟩ := HB.out w5 hg15))
    have hgw : w.grownBy w5 none := grown_tr (grown_alloc _ _) hg15
    have HS : Hid (∀ W, w5.grownBy W none → Calls Try.prog 9 #[v4] W (fun e w' => ∃ v9, e = .returned v9 ∧ IntsR w' v9 CL ∧ W.grownBy w' none)) := Lib.hid (fun W hW => by
      obtain ⟨ho9, hs9⟩ := ho4.out
      refine (sorted_any (by omega) ((IntsR.of_own ho9).grown (grown_tr hg5 hW))).mono ?_
      rintro e w' ⟨v9, rfl, h9, h8⟩
      rw [← length_srt L, hs9] at h9
      exact ⟨v9, rfl, IntsR.of_own h9, h8⟩)
    have HK : Hid (∀ W, w5.grownBy W none → Calls Try.prog 6 #[.int .i64 kk, .agg #[.bool G.dir, .slice an G.nodes.length cn, .slice ae G.edges.length ce]] W (fun e w' => ∃ v9, e = .returned v9 ∧ IntsR w' v9 CL ∧ W.grownBy w' none)) := Lib.hid (fun W hW => by
      refine (hpk W (grown_tr hgw hW)).mono ?_
      rintro e w' ⟨v9, rfl, h9, h8⟩
      exact ⟨v9, rfl, IntsR.of_own h9, h8⟩)
    have HE : Hid (∀ W u1 u2, IntsR W u1 CL → IntsR W u2 CL → Calls Try.prog 8 #[u1, u2] W (fun e w' => e = .returned (.bool true) ∧ W.grownBy w' none)) := Lib.hid (fun W u1 u2 h1 h2 => equal_same h1 h2 (by omega))
    have HC : Hid (∀ W, w5.grownBy W none → W.cell? ⟨w.heap.size, 0, none⟩ = some (.bool G.dir) ∧ W.cell? ⟨w.heap.size, 1, none⟩ = some (.slice an G.nodes.length cn) ∧ W.cell? ⟨w.heap.size, 2, none⟩ = some (.slice ae G.edges.length ce)) := Lib.hid (fun W hW => HB.out W (grown_tr hg15 hW))
    replace hgw := Lib.hid hgw
    clear ho4 hpk hg1 hg2 hg4 hg5 hg12 hg14 hg15 HB hk7 hfit hfew'
    go_region_held3 (fun W => W.cell? ⟨w.heap.size, 0, none⟩ = some (.bool G.dir) ∧ W.cell? ⟨w.heap.size, 1, none⟩ = some (.slice an G.nodes.length cn) ∧ W.cell? ⟨w.heap.size, 2, none⟩ = some (.slice ae G.edges.length ce))
      (first | go_keep | exact HC.out _ hC | exact HC.out _ hB | exact HC.out _ hA)
      (first
        | (go_at_call 9; refine (HS.out _ (by first | exact grown_refl _ | exact grown_drew _)).mono ?_; intro e wa hp; obtain ⟨v9, rfl, hi9, hga⟩ := hp; have hA : w5.grownBy wa none := (by first | exact hga | exact grown_tr (grown_drew _) hga))
        | (go_at_call 6; refine (HK.out _ (by first | exact hA | exact grown_tr hA (grown_drew _))).mono ?_; intro e wb hp; obtain ⟨v8, rfl, hi8, hgb⟩ := hp; have hi7 : IntsR wb v9 CL := (by first | exact hi9.grown hgb | exact hi9.grown (grown_tr (grown_drew _) hgb)); have hB : w5.grownBy wb none := (by first | exact grown_tr hA hgb | exact grown_tr (grown_tr hA (grown_drew _)) hgb))
        | (go_at_call 8; refine (HE.out _ _ _ (by first | exact hi7 | exact hi7.grown (grown_drew _)) (by first | exact hi8 | exact hi8.grown (grown_drew _))).mono ?_; rintro e wc ⟨rfl, hgc⟩; have hC : w5.grownBy wc none := (by first | exact grown_tr hB hgc | exact grown_tr (grown_tr hB (grown_drew _)) hgc)))
    go_wp2_with fail
    go_ret
    exact ⟨rfl, grown_tr hgw.out hC⟩
end Go.Proofs.Ytinlaaeoiocfoaa
