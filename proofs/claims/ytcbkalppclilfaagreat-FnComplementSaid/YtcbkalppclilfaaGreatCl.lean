/- The law FnComplement, walked. -/
import Derived.Test.YtcbkalppclilfaaGreatBu
import Derived.Test.YtcbkalppclilfaaGreatSa
import Derived.Test.YtcbkalppclilfaaGreatTbn
import Derived.Test.YtcbkalppclilfaaGreatLe
namespace Go.Proofs.YtcbkalppclilfaaGreat
open Go.MapKept Go.RowKit

theorem boxG2 {w wr : World} {d : Bool} {vn ve : Value} {T : TypeId} (h : (w.alloc (.cells #[.bool d, vn, ve] T)).grownBy wr none) : wr.cell? ⟨w.heap.size, 0, none⟩ = some (.bool d) ∧ wr.cell? ⟨w.heap.size, 1, none⟩ = some vn ∧ wr.cell? ⟨w.heap.size, 2, none⟩ = some ve :=
  ⟨box_at h 0, box_at h 1, box_at h 2⟩
def TruB (w : World) (e : Ending) (w' : World) : Prop := e = .returned (.bool true) ∧ w.grownBy w' none

def CwRel (d : Bool) (ids : List Int) (M : Mat) (tn : Value) (g : Nat) (w7 : World) (i : Value) (wr : World) : Prop :=
  ∃ (u : Nat) (ve : Value), u ≤ ids.length ∧ i = .int .i64 u ∧ wr.heap[g]? = some (.cells #[.bool d, tn, ve] grT (0, 0)) ∧ wr.ownsRow g edgT 3 ve (wantE d ids M (List.range u)).length (edgeCells (wantE d ids M (List.range u))) ∧ w7.grownBy wr none
def CwIn (d : Bool) (ids : List Int) (M : Mat) (tn : Value) (g u : Nat) (w7 : World) (i : Value) (wr : World) : Prop :=
  ∃ (v : Nat) (ve : Value), v ≤ ids.length ∧ i = .int .i64 v ∧ wr.heap[g]? = some (.cells #[.bool d, tn, ve] grT (0, 0)) ∧
    wr.ownsRow g edgT 3 ve (wantE d ids M (List.range u) ++ wantRow d ids M u (List.range v)).length (edgeCells (wantE d ids M (List.range u) ++ wantRow d ids M u (List.range v))) ∧ w7.grownBy wr none

theorem CwIn.drew {d : Bool} {ids : List Int} {M : Mat} {tn : Value} {g u : Nat} {w7 : World} {i : Value} {wr : World} (h : CwIn d ids M tn g u w7 i wr) : CwIn d ids M tn g u w7 i wr.drew := by
  obtain ⟨k, ve, h1, h2, h3, h4, h5⟩ := h
  exact ⟨k, ve, h1, h2, h3, own_new h4 (grown_drew _), grown_tr h5 (grown_drew _)⟩
set_option maxHeartbeats 32000000 in
set_option maxRecDepth 100000 in
theorem lawComplement_any {G : Gr} {v : Value} {w : World} (h : GrR w v G) : Calls Tryz.prog 3 #[v] w (TruB w) := by
  have hfit := fun O => fits_any (h.grown (grown_alloc w O))
  by_cases hF : G.nodes.length ≤ 2147483647 ∧ G.edges.length ≤ 2147483647
  case neg =>
    rw [decide_eq_false hF] at hfit
    obtain ⟨vn, ve, rfl, ⟨an, cn, rfl, _⟩, ⟨ae, ce, rfl, _⟩⟩ := h.parts
    clear h hF
    go_enter Tryz.func3, Tryz.ntmps3
    go_wp2_with (go_at_call 6; refine (hfit _).mono ?_; rintro e w1 ⟨hg1, rfl⟩)
    go_ret
    exact ⟨rfl, grown_tr (grown_alloc _ _) hg1⟩
  case pos =>
  rw [decide_eq_true hF] at hfit
  have hfew : ∀ W, w.grownBy W none → Calls Tryz.prog 7 #[v, .int .i64 25] W (FewPost (G.Few 25) W) := fun W hg => few_any 25 (by omega) (h.grown hg)
  by_cases hP : G.Few 25
  case neg =>
    have hfew' : ∀ W, w.grownBy W none → Calls Tryz.prog 7 #[v, .int .i64 25] W (fun e w' => e = .returned (.bool false) ∧ W.grownBy w' none) := fun W hg => (hfew W hg).mono (fun e w' ⟨d, h1, h2, h3⟩ => by
      cases d
      · exact ⟨h2, h3⟩
      · exact absurd (h1.1 rfl) hP)
    obtain ⟨vn, ve, rfl, ⟨an, cn, rfl, _⟩, ⟨ae, ce, rfl, _⟩⟩ := h.parts
    have HB : Hid (∀ wx, (w.alloc (.cells #[.bool G.dir, .slice an G.nodes.length cn, .slice ae G.edges.length ce] 25)).grownBy wx none → wx.cell? ⟨w.heap.size, 0, none⟩ = some (.bool G.dir) ∧ wx.cell? ⟨w.heap.size, 1, none⟩ = some (.slice an G.nodes.length cn) ∧ wx.cell? ⟨w.heap.size, 2, none⟩ = some (.slice ae G.edges.length ce)) := Lib.hid (fun wx hg => ⟨by rw [box_at hg 0]; rfl, by rw [box_at hg 1]; rfl, by rw [box_at hg 2]; rfl⟩)
    clear h hF hfew
    go_enter Tryz.func3, Tryz.ntmps3
    go_wp2_with (first
      | (go_at_call 6; refine (hfit _).mono ?_; rintro e w1 ⟨hg1, rfl⟩; obtain ⟨b0, b1, b2⟩ := HB.out w1 hg1)
      | (go_at_call 7; refine (hfew' _ (grown_tr (grown_alloc _ _) hg1)).mono ?_; rintro e w2 ⟨rfl, hg2⟩))
    go_ret
    exact ⟨rfl, grown_tr (grown_tr (grown_alloc _ _) hg1) hg2⟩
  case pos =>
  have hfew' : ∀ W, w.grownBy W none → Calls Tryz.prog 7 #[v, .int .i64 25] W (fun e w' => e = .returned (.bool true) ∧ W.grownBy w' none) := fun W hg => (hfew W hg).mono (fun e w' ⟨d, h1, h2, h3⟩ => by
    cases d
    · exact absurd (h1.2 hP) (by decide)
    · exact ⟨h2, h3⟩)
  obtain ⟨hn25, he25, hG⟩ := hP
  have hcm : ∀ W, w.grownBy W none → Calls Tryz.prog 8 #[v] W (GrPost G.dir G.ids (cmE G) W) := fun W hg => complement_any (h.grown hg) hG (by omega) (by omega)
  have htab : ∀ W, w.grownBy W none → Calls Tryz.prog 9 #[v] W (TabPost G W) := fun W hg => tableOf_any (h.grown hg) hG (by omega) (by omega)
  have hidl : G.ids.length ≤ 25 := by rw [Gr.length_ids]; exact hn25
  have hasc := hG.ids
  have hE : cmE G = wantE G.dir G.ids G.mat (List.range G.ids.length) := cmE_want hasc
  have hshp : (cmE G).map shp = cmE G := shp_want _ _ _ _ (fun a b => rfl)
  have hEl : (cmE G).length ≤ 1000 := by
    rw [hE]
    have h1 := wantE_len G.dir G.ids G.mat (List.range G.ids.length)
    rw [List.length_range] at h1
    have h2 : G.ids.length * G.ids.length ≤ 25 * 25 := Nat.mul_le_mul hidl hidl
    omega
  rw [hE] at hcm hshp hEl
  obtain ⟨vn, ve, rfl, ⟨an, cn, rfl, _⟩, ⟨ae, ce, rfl, _⟩⟩ := h.parts
  have HB : Hid (∀ wx, (w.alloc (.cells #[.bool G.dir, .slice an G.nodes.length cn, .slice ae G.edges.length ce] 25)).grownBy wx none → wx.cell? ⟨w.heap.size, 0, none⟩ = some (.bool G.dir) ∧ wx.cell? ⟨w.heap.size, 1, none⟩ = some (.slice an G.nodes.length cn) ∧ wx.cell? ⟨w.heap.size, 2, none⟩ = some (.slice ae G.edges.length ce)) := Lib.hid (fun wx hg => ⟨by rw [box_at hg 0]; rfl, by rw [box_at hg 1]; rfl, by rw [box_at hg 2]; rfl⟩)
  unfold TabPost at htab
  clear h hF hfew hn25 he25 hG hasc hE
  obtain ⟨d, hd⟩ : ∃ d, d = G.dir := ⟨_, rfl⟩
  obtain ⟨ids, hids⟩ : ∃ ids, ids = G.ids := ⟨_, rfl⟩
  obtain ⟨M, hM⟩ : ∃ M, M = G.mat := ⟨_, rfl⟩
  rw [← hd] at hfit hcm htab hfew' HB hshp hEl ⊢
  rw [← hids] at hcm htab hshp hEl hidl
  rw [← hM] at hcm htab hshp hEl
  clear hd hids hM
  obtain ⟨E, hE⟩ : ∃ E, E = wantE d ids M (List.range ids.length) := ⟨_, rfl⟩
  rw [← hE] at hcm hshp hEl
  have HE := Lib.hid (And.intro hE hshp)
  clear hE hshp
  have HLN := Lib.hid (And.intro hidl hEl)
  clear hidl hEl
  have HCM := Lib.hid hcm
  have HTB := Lib.hid htab
  clear hcm htab
  go_enter Tryz.func3, Tryz.ntmps3
  go_wp2_with (first
    | (go_at_call 6; refine (hfit _).mono ?_; rintro e w1 ⟨hg1, rfl⟩; obtain ⟨b0, b1, b2⟩ := HB.out w1 hg1)
    | (go_at_call 7; refine (hfew' _ (grown_tr (grown_alloc _ _) hg1)).mono ?_; rintro e w2 ⟨rfl, hg2⟩; have hg12 := grown_tr hg1 hg2; clear b0 b1 b2; obtain ⟨b0, b1, b2⟩ := HB.out w2 hg12)
    | (go_at_call 8; refine (HCM.out _ (grown_tr (grown_alloc _ _) hg12)).mono ?_; intro e w3 hp; obtain ⟨vo, vx, rfl, hon, hoe, hg3⟩ := hp; obtain ⟨ao, co, rfl, -⟩ := id hon; obtain ⟨ax, cx, rfl, -⟩ := id hoe; have hon' := Lib.hid hon; have hoe' := Lib.hid hoe; clear hon hoe; have hg13 := grown_tr hg12 (grown_tr hg3 (grown_alloc w3 (.cells #[.bool d, .slice ao ids.length co, .slice ax E.length cx] grT))); clear b0 b1 b2; obtain ⟨b0, b1, b2⟩ := HB.out _ hg13)
    | (go_at_call 9; refine (HTB.out _ (grown_tr (grown_alloc _ _) hg13)).mono ?_; intro e w5 hp; obtain ⟨vt, rfl, ht, hg5⟩ := hp; obtain ⟨tn, ta, tw, rfl, ti, tg, tv⟩ := ht; obtain ⟨a5, c5, e5, -⟩ := id ti; obtain ⟨a6, c6, R6, e6, -⟩ := id tg; obtain ⟨a7, c7, R7, e7, -⟩ := id tv; subst e5 e6 e7; have HT := Lib.hid (And.intro ti (And.intro tg tv)); clear ti tg tv; have hg15 := grown_tr (grown_tr hg13 hg5) (grown_alloc w5 (.cells #[.slice a5 ids.length c5, .slice a6 ids.length c6, .slice a7 ids.length c7] 33)); clear b0 b1 b2; obtain ⟨b0, b1, b2⟩ := HB.out _ hg15))
  obtain ⟨w6, hw6⟩ : ∃ w6, w6 = w5.alloc (.cells #[.slice a5 ids.length c5, .slice a6 ids.length c6, .slice a7 ids.length c7] 33) := ⟨_, rfl⟩
  obtain ⟨ti, tg, tv⟩ := HT.out
  have h56 : w5.grownBy w6 none := by rw [hw6]; exact grown_alloc _ _
  rw [← hw6] at hg15
  rw [← hw6]
  have HFT : Hid (∀ wr, w6.grownBy wr none → wr.cell? ⟨w5.heap.size, 0, none⟩ = some (.slice a5 ids.length c5) ∧ wr.cell? ⟨w5.heap.size, 1, none⟩ = some (.slice a6 ids.length c6)) := Lib.hid (fun wr hw => by
    rw [hw6] at hw
    exact ⟨by rw [box_at hw 0]; rfl, by rw [box_at hw 1]; rfl⟩)
  have HFB : Hid (∀ wr, w6.grownBy wr none → wr.cell? ⟨w.heap.size, 0, none⟩ = some (.bool d)) := Lib.hid (fun wr hw => (HB.out wr (grown_tr hg15 hw)).1)
  have hg36 := grown_tr hg5 h56
  have HFO : Hid (∀ wr, w6.grownBy wr none → wr.cell? ⟨w3.heap.size, 0, none⟩ = some (.bool d) ∧ wr.cell? ⟨w3.heap.size, 1, none⟩ = some (.slice ao ids.length co) ∧ wr.cell? ⟨w3.heap.size, 2, none⟩ = some (.slice ax E.length cx)) := Lib.hid (fun wr hw => boxG2 (grown_tr hg36 hw))
  have HFR : Hid (∀ wr, w6.grownBy wr none → IntsR wr (.slice ao ids.length co) ids ∧ EdgesR wr (.slice ax E.length cx) E ∧ IntsR wr (.slice a5 ids.length c5) ids) := Lib.hid (fun wr hw => ⟨hon'.out.grown (grown_tr (grown_alloc _ _) (grown_tr hg36 hw)), hoe'.out.grown (grown_tr (grown_alloc _ _) (grown_tr hg36 hw)), ti.grown (grown_tr h56 hw)⟩)
  have HGW : Hid (w.grownBy w6 none) := Lib.hid (grown_tr (grown_alloc _ _) hg15)
  have HN : Hid (0 < ids.length → ∃ b o, a5 = some ⟨b, o, none⟩ ∧ ∀ wr, w6.grownBy wr none → ∀ u (hu : u < ids.length), wr.cell? ⟨b, o + u, none⟩ = some (.int .i64 ids[u])) := Lib.hid (fun hp => by
    obtain ⟨a, c, e, hx⟩ := ti
    simp only [Value.slice.injEq] at e
    obtain ⟨rfl, -, -⟩ := e
    obtain ⟨b, o, rfl, hb, hc⟩ := hx hp
    exact ⟨b, o, rfl, fun wr hw u hu => (grown_cell (grown_tr h56 hw) hb (by simp)).trans (hc u hu)⟩)
  have HQ : Hid (0 < ids.length → ∃ (b o : Nat) (R : Nat → Nat), a6 = some ⟨b, o, none⟩ ∧ ∀ wr, w6.grownBy wr none → ∀ u, u < ids.length → wr.cell? ⟨b, o + u, none⟩ = some (rowV ids.length R u) ∧ ∀ v, v < ids.length → wr.cell? ⟨R u, v, none⟩ = some (.bool (M u v).isSome)) := Lib.hid (fun hp => by
    obtain ⟨a, c, R, e, hx, hr⟩ := tg
    simp only [Value.slice.injEq] at e
    obtain ⟨rfl, -, -⟩ := e
    obtain ⟨b, o, rfl, hb, hc⟩ := hx hp
    exact ⟨b, o, R, rfl, fun wr hw u hu => ⟨(grown_cell (grown_tr h56 hw) hb (by simp)).trans (hc u hu), fun v hv => (grown_cell (grown_tr h56 hw) (hr u hu).1 (by simp)).trans ((hr u hu).2 v hv)⟩⟩)
  obtain ⟨g, hgd⟩ : ∃ g, g = w5.heap.size + 1 := ⟨_, rfl⟩
  have hg6 : w6.heap.size = g := by rw [hw6, hgd]; simp
  have HS : Hid (CwRel d ids M (.slice a5 ids.length c5) g w6 (.int .i64 0) (w6.alloc (.cells #[.bool d, .slice a5 ids.length c5, .slice none 0 0] grT))) := by
    refine Lib.hid ⟨0, .slice none 0 0, Nat.zero_le _, rfl, ?_, ⟨rfl, .inl ⟨rfl, rfl⟩⟩, grown_alloc _ _⟩
    rw [← hg6]
    exact heap_alloc_new w6 _
  have HG6 := Lib.hid (And.intro hg6 (show w5.heap.size < g by omega))
  rw [← hgd]
  clear hon' hoe' hg3 hg5 hg12 hg13 hg15 hg1 hg2 HT ti tg tv h56 hw6 hg36 hgd hg6 b0 b1 b2 HB hfit hfew'
  obtain ⟨n, hn⟩ : ∃ n, n = ids.length := ⟨_, rfl⟩
  have HNL := Lib.hid hn
  have hn25 : n ≤ 25 := by rw [hn]; exact HLN.out.1
  go_loopw [7, 8] (fun i _ wr => CwRel d ids M (.slice a5 ids.length c5) g w6 i wr) (fun i _ _ => ids.length - (intOf i).toNat)
  case atStart => exact HS.out
  case round =>
    clear HS
    obtain ⟨u, ve, hu, rfl, hb, ho, hg⟩ := hrel
    obtain ⟨t0, t1⟩ := HFT.out wr hg
    by_cases hun : u < ids.length
    · have hun' : (u : Int) < ids.length := by omega
      have HIN : Hid (CwIn d ids M (.slice a5 ids.length c5) g u w6 (.int .i64 0) wr) := by
        refine Lib.hid ⟨0, ve, Nat.zero_le _, rfl, hb, ?_, hg⟩
        have e : wantE d ids M (List.range u) ++ wantRow d ids M u (List.range 0) = wantE d ids M (List.range u) := by simp [wantRow]
        rw [e]; exact ho
      clear hb ho hg
      go_wp2_with fail
      clear t0 t1
      obtain ⟨wo, rfl⟩ : ∃ wo, wo = wr := ⟨_, rfl⟩
      go_loopw [8] (fun i wr => CwIn d ids M (.slice a5 ids.length c5) g u w6 i wr) (fun i _ => ids.length - (intOf i).toNat)
      case atStart => exact HIN.out
      case round =>
        clear HIN
        obtain ⟨v, ve2, hv, rfl, hb, ho, hg⟩ := hrel
        obtain ⟨t0, t1⟩ := HFT.out wr hg
        have tb := HFB.out wr hg
        obtain ⟨av, cv, rfl⟩ := own_slice ho
        by_cases hvn : v < ids.length
        · have hvn' : (v : Int) < ids.length := by omega
          obtain ⟨bn, on, rfl, hnc⟩ := HN.out (by omega)
          obtain ⟨bq, oq, R, rfl, hqc⟩ := HQ.out (by omega)
          have x1 := hnc wr hg u hun
          have x2 := hnc wr hg v hvn
          obtain ⟨r1, r2⟩ := hqc wr hg u hun
          have s1 := r2 v hvn
          unfold rowV at r1
          have hwr := wantRow_take (d := d) (M := M) (u := u) hvn
          have hg1 : ids.getD u 0 = ids[u] := by simp [List.getD, hun]
          have hg2 : ids.getD v 0 = ids[v] := by simp [List.getD, hvn]
          rw [hg1, hg2] at hwr
          obtain ⟨y1, hy1⟩ : ∃ y, y = ids[u] := ⟨_, rfl⟩
          obtain ⟨y2, hy2⟩ : ∃ y, y = ids[v] := ⟨_, rfl⟩
          rw [← hy1] at x1 hwr
          rw [← hy2] at x2 hwr
          have hlen : (wantE d ids M (List.range u) ++ wantRow d ids M u (List.range v)).length ≤ 1000 := by
            have h1 := wantE_len d ids M (List.range u)
            have h2 := wantRow_len d ids M u (List.range v)
            rw [List.length_range] at h1 h2
            have h3 : u * ids.length ≤ 25 * 25 := Nat.mul_le_mul (by omega) (by omega)
            rw [List.length_append]
            omega
          obtain ⟨L0, hL0⟩ : ∃ L0, L0 = wantE d ids M (List.range u) := ⟨_, rfl⟩
          obtain ⟨L, hL⟩ : ∃ L, L = L0 ++ wantRow d ids M u (List.range v) := ⟨_, rfl⟩
          rw [← hL0] at ho hlen hb
          rw [← hL] at ho hlen hb
          obtain ⟨s, hs⟩ : ∃ s, s = (M u v).isSome := ⟨_, rfl⟩
          rw [← hs] at s1
          have HX := Lib.hid (And.intro hb (And.intro ho (And.intro hg (And.intro hwr (And.intro hL0 (And.intro hL hs))))))
          have c2 : wr.cell? ⟨g, 2, none⟩ = some (.slice av L.length cv) := cell_at hb
          have hgl := block_lt hb
          have hwb : wantB d M u v = ((!(u == v) && !s) && (d || decide (u < v))) := by unfold wantB; rw [← hs]
          have HWR := Lib.hid hwb
          clear hb ho hg hwr hL0 hL hs hwb hnc hqc r2 hg1 hg2 hy1 hy2
          by_cases huv : u = v
          · have e1 : ((u : Int) == (v : Int)) = true := by simp [huv]
            have e2 : ((u : Int) != (v : Int)) = false := by simp [huv]
            have HWB : Hid (wantB d M u v = false) := Lib.hid (by rw [HWR.out]; simp [huv])
            clear huv
            go_wp2_with fail
            go_roundw
            case rel =>
              obtain ⟨hb, ho, hg, hwr, hL0, hL, hs⟩ := HX.out
              refine ⟨v + 1, .slice av L.length cv, by omega, by go_num, hb, ?_, hg⟩
              rw [hwr, HWB.out, if_neg (by simp), List.append_nil, ← hL0, ← hL]
              exact ho
            case measure => simp [intOf]; omega
          · have e1 : ((u : Int) == (v : Int)) = false := by simp; omega
            have e2 : ((u : Int) != (v : Int)) = true := by simp; omega
            have hnb : (u == v) = false := by simpa using huv
            cases s
            · cases d
              · by_cases hlt : u < v
                · have q1 : decide ((u : Int) < (v : Int)) = true := by simp; omega
                  have q2 : (u : Int) < (v : Int) := by omega
                  have HWB : Hid (wantB false M u v = true) := Lib.hid (by rw [HWR.out, hnb]; simp [hlt])
                  clear hnb huv hlt
                  have HO := Lib.hid (HX.out.2.1.alloc (.cells #[.int .i64 y1, .int .i64 y2, .int .i64 0] edgT))
                  have HO2 := Lib.hid (heap_alloc_new wr (.cells #[.int .i64 y1, .int .i64 y2, .int .i64 0] edgT))
                  have HO3 := Lib.hid (And.intro (grown_block (grown_alloc wr (.cells #[.int .i64 y1, .int .i64 y2, .int .i64 0] edgT)) HX.out.1 (by simp)) (row_ne_cells HX.out.2.1 HX.out.1 (by decide)))
                  have hgs : g ≤ wr.heap.size := by omega
                  go_wp2_with fail
                  go_region_law (refine stepx_app1 elE rfl (.tmp 65) (.tmp 77) rfl g (.slice av L.length cv) L.length _ rfl (own_heap HO.out rfl) wr.heap.size #[.int .i64 y1, .int .i64 y2, .int .i64 0] HO2.out (wr.heap.size + 1) (by simp) 1 rfl rfl (by simp [Value.oneCell']) (by omega) (by unfold maxLen; omega) (by omega) ?_; intro g5 c5' w9 ho5 hg5 hat5 hlt5 hsz5; have hb9 := grown_block hg5 HO3.out.1 HO3.out.2; have hf9 : w9.frozen? ⟨g, 2, none⟩ = false := free_at hb9; have hc9 : w9.cell? ⟨g, 2, none⟩ = some (.slice av L.length cv) := cell_at hb9; have hgr := grown_own1 HX.out.2.2.1 HX.out.2.1 (Nat.le_of_eq HG6.out.1) hg5 rfl rfl rfl rfl)
                  all_goals
                    obtain ⟨hb, ho, hg, hwr, hL0, hL, hs⟩ := HX.out
                    have ho9 := own_edge ho5 rfl
                    have HREL := Lib.hid (show CwIn false ids M (.slice (some ⟨bn, on, none⟩) ids.length c5) g u w6 (.int .i64 ((v : Int) + 1)) (w9.setCell ⟨g, 2, none⟩ (.slice (some ⟨g5, 0, none⟩) (L.length + 1) c5')) from ⟨v + 1, _, by omega, by go_num, block_set hb9 2 _, by rw [hwr, HWB.out, if_pos rfl, ← hL0, ← List.append_assoc, ← hL]; exact ho9.kept (grown_setCell w9 g 2 _) (.inr (row_ne_cells ho9 hb9 (by decide)).symm), grown_new hgr (grown_setCell w9 g 2 _) (fun b hb' => by cases hb'; exact Nat.le_of_eq HG6.out.1)⟩)
                    clear hb ho hg hwr hL0 hL hs hgr ho9 hb9 ho5 hg5 hat5 HX HO HO2 HO3
                  all_goals go_wp2_with fail
                  all_goals go_roundw
                  all_goals first | (simp [intOf]; omega) | exact HREL.out | exact HREL.out.drew
                · have q1 : decide ((u : Int) < (v : Int)) = false := by simp; omega
                  have q2 : ¬ (u : Int) < (v : Int) := by omega
                  have HWB : Hid (wantB false M u v = false) := Lib.hid (by rw [HWR.out, hnb]; simp; omega)
                  clear hnb huv hlt
                  go_wp2_with fail
                  go_roundw
                  case rel =>
                    obtain ⟨hb, ho, hg, hwr, hL0, hL, hs⟩ := HX.out
                    refine ⟨v + 1, .slice av L.length cv, by omega, by go_num, hb, ?_, hg⟩
                    rw [hwr, HWB.out, if_neg (by simp), List.append_nil, ← hL0, ← hL]
                    exact ho
                  case measure => simp [intOf]; omega
              · have HWB : Hid (wantB true M u v = true) := Lib.hid (by rw [HWR.out, hnb]; simp)
                clear hnb huv
                have HO := Lib.hid (HX.out.2.1.alloc (.cells #[.int .i64 y1, .int .i64 y2, .int .i64 0] edgT))
                have HO2 := Lib.hid (heap_alloc_new wr (.cells #[.int .i64 y1, .int .i64 y2, .int .i64 0] edgT))
                have HO3 := Lib.hid (And.intro (grown_block (grown_alloc wr (.cells #[.int .i64 y1, .int .i64 y2, .int .i64 0] edgT)) HX.out.1 (by simp)) (row_ne_cells HX.out.2.1 HX.out.1 (by decide)))
                have hgs : g ≤ wr.heap.size := by omega
                go_wp2_with fail
                go_region_law (refine stepx_app1 elE rfl (.tmp 65) (.tmp 77) rfl g (.slice av L.length cv) L.length _ rfl (own_heap HO.out rfl) wr.heap.size #[.int .i64 y1, .int .i64 y2, .int .i64 0] HO2.out (wr.heap.size + 1) (by simp) 1 rfl rfl (by simp [Value.oneCell']) (by omega) (by unfold maxLen; omega) (by omega) ?_; intro g5 c5' w9 ho5 hg5 hat5 hlt5 hsz5; have hb9 := grown_block hg5 HO3.out.1 HO3.out.2; have hf9 : w9.frozen? ⟨g, 2, none⟩ = false := free_at hb9; have hc9 : w9.cell? ⟨g, 2, none⟩ = some (.slice av L.length cv) := cell_at hb9; have hgr := grown_own1 HX.out.2.2.1 HX.out.2.1 (Nat.le_of_eq HG6.out.1) hg5 rfl rfl rfl rfl)
                all_goals
                  obtain ⟨hb, ho, hg, hwr, hL0, hL, hs⟩ := HX.out
                  have ho9 := own_edge ho5 rfl
                  have HREL := Lib.hid (show CwIn true ids M (.slice (some ⟨bn, on, none⟩) ids.length c5) g u w6 (.int .i64 ((v : Int) + 1)) (w9.setCell ⟨g, 2, none⟩ (.slice (some ⟨g5, 0, none⟩) (L.length + 1) c5')) from ⟨v + 1, _, by omega, by go_num, block_set hb9 2 _, by rw [hwr, HWB.out, if_pos rfl, ← hL0, ← List.append_assoc, ← hL]; exact ho9.kept (grown_setCell w9 g 2 _) (.inr (row_ne_cells ho9 hb9 (by decide)).symm), grown_new hgr (grown_setCell w9 g 2 _) (fun b hb' => by cases hb'; exact Nat.le_of_eq HG6.out.1)⟩)
                  clear hb ho hg hwr hL0 hL hs hgr ho9 hb9 ho5 hg5 hat5 HX HO HO2 HO3
                all_goals go_wp2_with fail
                all_goals go_roundw
                all_goals first | (simp [intOf]; omega) | exact HREL.out | exact HREL.out.drew
            · have HWB : Hid (wantB d M u v = false) := Lib.hid (by rw [HWR.out]; simp)
              clear hnb huv
              go_wp2_with fail
              go_roundw
              case rel =>
                obtain ⟨hb, ho, hg, hwr, hL0, hL, hs⟩ := HX.out
                refine ⟨v + 1, .slice av L.length cv, by omega, by go_num, hb, ?_, hg⟩
                rw [hwr, HWB.out, if_neg (by simp), List.append_nil, ← hL0, ← hL]
                exact ho
              case measure => simp [intOf]; omega
        · have hvn' : ¬ (v : Int) < ids.length := by omega
          have hve : v = ids.length := by omega
          have HX := Lib.hid (And.intro hb (And.intro ho (And.intro hg hve)))
          clear hb ho hg hve
          go_wp2_with fail
          go_roundw
          case rel =>
            obtain ⟨hb, ho, hg, hve⟩ := HX.out
            refine ⟨u + 1, _, by omega, by go_num, hb, ?_, hg⟩
            rw [wantE_snoc, ← hve]
            exact ho
          case measure => simp [intOf]; omega
    · have hun' : ¬ (u : Int) < ids.length := by omega
      have hue : u = ids.length := by omega
      rw [hue, ← HE.out.1] at ho
      obtain ⟨av, cv, rfl⟩ := own_slice ho
      have HX := Lib.hid (And.intro hb (And.intro ho hg))
      clear hb ho hg hue
      go_wp2_with fail
      obtain ⟨hb, ho, hg⟩ := HX.out
      obtain ⟨ro, re, rt⟩ := HFR.out wr hg
      have rE : EdgesR wr (.slice av E.length cv) E := .of_own ho
      have hEl := HLN.out.2
      have hidl := HLN.out.1
      obtain ⟨o0, o1, o2⟩ := HFO.out wr hg
      have m0 : wr.cell? ⟨g, 0, none⟩ = some (.bool d) := cell_at hb
      have m1 : wr.cell? ⟨g, 1, none⟩ = some (.slice a5 ids.length c5) := cell_at hb
      have m2 : wr.cell? ⟨g, 2, none⟩ = some (.slice av E.length cv) := cell_at hb
      have HSS : Hid (∀ W, wr.grownBy W none → W.cell? ⟨w3.heap.size, 0, none⟩ = some (.bool d) ∧ W.cell? ⟨w3.heap.size, 1, none⟩ = some (.slice ao ids.length co) ∧ W.cell? ⟨w3.heap.size, 2, none⟩ = some (.slice ax E.length cx) ∧ W.cell? ⟨g, 0, none⟩ = some (.bool d) ∧ W.cell? ⟨g, 1, none⟩ = some (.slice a5 ids.length c5) ∧ W.cell? ⟨g, 2, none⟩ = some (.slice av E.length cv)) := Lib.hid (fun W hW => by
        obtain ⟨k0, k1, k2⟩ := HFO.out W (grown_tr hg hW)
        have hb' := grown_block hW hb (by simp)
        exact ⟨k0, k1, k2, cell_at hb', cell_at hb', cell_at hb'⟩)
      have HSH : Hid (∀ W, wr.grownBy W none → Calls Tryz.prog 11 #[.agg #[.bool d, .slice ao ids.length co, .slice ax E.length cx]] W (ShPost d (.slice ao ids.length co) E W)) := Lib.hid (fun W hW => shape_any (ro.grown hW) (re.grown hW) (by omega))
      have HSG : Hid (∀ W ve, wr.grownBy W none → EdgesR W ve E → Calls Tryz.prog 10 #[.agg #[.bool d, .slice ao ids.length co, ve], .agg #[.bool d, .slice a5 ids.length c5, .slice av E.length cv]] W (fun e w' => e = .returned (.bool true) ∧ W.grownBy w' none)) := Lib.hid (fun W ve hW hE => sameGraph_same (ro.grown hW) hE (rt.grown hW) (rE.grown hW) (by omega) (by omega))
      have HGG : Hid (w.grownBy wr none) := Lib.hid (grown_tr HGW.out hg)
      clear hb ho hg ro re rt rE HX hn25 hEl hidl hun'
      go_region_held3 (fun W => W.cell? ⟨w3.heap.size, 0, none⟩ = some (.bool d) ∧ W.cell? ⟨w3.heap.size, 1, none⟩ = some (.slice ao ids.length co) ∧ W.cell? ⟨w3.heap.size, 2, none⟩ = some (.slice ax E.length cx) ∧ W.cell? ⟨g, 0, none⟩ = some (.bool d) ∧ W.cell? ⟨g, 1, none⟩ = some (.slice a5 ids.length c5) ∧ W.cell? ⟨g, 2, none⟩ = some (.slice av E.length cv))
        (first | go_keep | exact HSS.out _ hC | exact HSS.out _ hB | exact HSS.out _ hA)
        (first
          | (go_at_call 11; refine (HSH.out _ (by first | exact grown_refl _ | exact grown_drew _)).mono ?_; intro e wa hp; obtain ⟨vs, rfl, hse, hga⟩ := hp; rw [HE.out.2] at hse; obtain ⟨a9, c9, rfl, -⟩ := id hse; have hA : wr.grownBy wa none := (by first | exact hga | exact grown_tr (grown_drew _) hga))
          | (go_at_call 10; refine (HSG.out _ _ (by first | exact hA | exact grown_tr hA (grown_drew _)) (by first | exact hse | exact hse.grown (grown_drew _))).mono ?_; rintro e wb ⟨rfl, hgb⟩; have hB : wr.grownBy wb none := (by first | exact grown_tr hA hgb | exact grown_tr (grown_tr hA (grown_drew _)) hgb))
          | (go_at_call 12; refine (builds_any _).mono ?_; rintro e wc ⟨rfl, hgc⟩; have hC : wr.grownBy wc none := (by first | exact grown_tr hB hgc | exact grown_tr (grown_tr hB (grown_drew _)) hgc)))
      go_wp2_with fail
      go_ret
      exact ⟨rfl, grown_tr HGG.out hC⟩
end Go.Proofs.YtcbkalppclilfaaGreat
