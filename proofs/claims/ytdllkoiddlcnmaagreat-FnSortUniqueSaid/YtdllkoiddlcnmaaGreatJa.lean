/- The laws' own: arc, at a directed graph; slices.Equal at one list of slots. -/
import Derived.Test.YtdllkoiddlcnmaaGreatJs
import Derived.Test.YtdllkoiddlcnmaaGreatLe
import Derived.Laws.StructEq
namespace Go.Proofs.YtdllkoiddlcnmaaGreat
open Go.MapKept Go.RowKit

def ArcPost (G : Gr) (u v : Int) (w : World) (e : Ending) (w' : World) : Prop := ∃ b : Bool, e = .returned (.bool b) ∧ (b = true → edgeOf G.ids G.mat u v) ∧ w.grownBy w' none

theorem edge_in {G : Gr} (hW : G.Well) {e : E3} (he : e ∈ G.edges) : edgeOf G.ids G.mat e.1 e.2.1 :=
  ⟨(hW.in_ids he).1, (hW.in_ids he).2, mat_some.2 ⟨e, he, .inl ⟨rfl, rfl⟩⟩⟩

set_option maxHeartbeats 1000000 in
set_option maxRecDepth 100000 in
theorem arc_any {G : Gr} {vg : Value} {u v : Int} {w : World} (h : GrR w vg G) (hd : G.dir = true) (hW : G.Well) (hel : G.edges.length ≤ 10000) :
    Calls Tryz.prog 21 #[vg, .int .i64 u, .int .i64 v] w (ArcPost G u v w) := by
  obtain ⟨vn, ve, rfl, ⟨an, cn, rfl, _⟩, ⟨ae, ce, rfl, he⟩⟩ := h.parts
  rw [hd]
  have HE : Hid (∀ W, w.grownBy W none → ∀ i, (hi : i < G.edges.length) → ∃ b o, ae = some ⟨b, o, none⟩ ∧ W.cell? ⟨b, o + i * 3, none⟩ = some (.int .i64 G.edges[i].1) ∧ W.cell? ⟨b, o + i * 3 + 1, none⟩ = some (.int .i64 G.edges[i].2.1) ∧ W.cell? ⟨b, o + i * 3 + 2, none⟩ = some (.int .i64 G.edges[i].2.2)) := Lib.hid (fun W hg i hi => by
    obtain ⟨b, o, rfl, hb, hc⟩ := he (by omega)
    obtain ⟨c0, c1, c2⟩ := hc i hi
    exact ⟨b, o, rfl, (grown_cell hg hb (by simp)).trans c0, (grown_cell hg hb (by simp)).trans c1, (grown_cell hg hb (by simp)).trans c2⟩)
  have HB : Hid (∀ wx, (w.alloc (.cells #[.bool true, .slice an G.nodes.length cn, .slice ae G.edges.length ce] 25)).grownBy wx none → wx.cell? ⟨w.heap.size, 0, none⟩ = some (.bool true) ∧ wx.cell? ⟨w.heap.size, 2, none⟩ = some (.slice ae G.edges.length ce)) := Lib.hid (fun wx hg => ⟨by rw [box_at hg 0]; rfl, by rw [box_at hg 2]; rfl⟩)
  have HW := Lib.hid hW
  clear h he hd hW
  go_enter Tryz.func21, Tryz.ntmps21
  go_wp2_with fail
  go_loopw [7, 8] (fun i _ wr => ∃ k : Nat, k ≤ G.edges.length ∧ i = .int .i64 k ∧ (w.alloc (.cells #[.bool true, .slice an G.nodes.length cn, .slice ae G.edges.length ce] 25)).grownBy wr none) (fun i _ _ => G.edges.length - (intOf i).toNat)
  case atStart => exact ⟨0, Nat.zero_le _, rfl, grown_refl _⟩
  case round =>
    obtain ⟨k, hk, rfl, hg⟩ := hrel
    obtain ⟨b0, b2⟩ := HB.out wr hg
    have b0a := fun O => (HB.out (wr.alloc O) (grown_tr hg (grown_alloc _ _))).1
    by_cases hlt : k < G.edges.length
    · have hlt' : (k : Int) < G.edges.length := by omega
      obtain ⟨b, o, rfl, c0, c1, c2⟩ := HE.out wr (grown_tr (grown_alloc _ _) hg) k hlt
      have hmem : G.edges[k] ∈ G.edges := List.getElem_mem hlt
      obtain ⟨e, hee⟩ : ∃ e, e = G.edges[k] := ⟨_, rfl⟩
      rw [← hee] at c0 c1 c2 hmem
      obtain ⟨x, y, z⟩ := e
      simp only at c0 c1 c2
      have HX := Lib.hid (And.intro hmem hg)
      clear hmem hg hee
      by_cases hx : x = u
      · have hxb : (x == u) = true := by rw [beq_iff_eq]; exact hx
        by_cases hy : y = v
        · have hyb : (y == v) = true := by rw [beq_iff_eq]; exact hy
          have HY := Lib.hid (And.intro hx hy)
          clear hx hy
          go_wp2_with fail
          go_ret
          refine ⟨true, rfl, fun _ => ?_, grown_tr (grown_alloc _ _) (grown_tr HX.out.2 (grown_alloc _ _))⟩
          have := edge_in HW.out HX.out.1
          rw [← HY.out.1, ← HY.out.2]
          exact this
        · have hyb : (y == v) = false := by rw [beq_eq_false_iff_ne]; exact hy
          clear hx hy
          go_wp2_with fail
          go_roundw
          case rel => exact ⟨k + 1, by omega, by go_num, grown_tr HX.out.2 (grown_alloc _ _)⟩
          case measure => simp [intOf]; omega
      · have hxb : (x == u) = false := by rw [beq_eq_false_iff_ne]; exact hx
        clear hx
        go_wp2_with fail
        go_roundw
        case rel => exact ⟨k + 1, by omega, by go_num, grown_tr HX.out.2 (grown_alloc _ _)⟩
        case measure => simp [intOf]; omega
    · have hlt' : ¬ (k : Int) < G.edges.length := by omega
      have HX := Lib.hid hg
      clear hg
      go_wp2_with fail
      go_ret
      exact ⟨false, rfl, fun h => absurd h (by simp), grown_tr (grown_alloc _ _) HX.out⟩

/-- v reads as places of an order -/
def SlotsR (w : World) (v : Value) (l : List (Option Int)) : Prop :=
  ∃ a c, v = .slice a l.length c ∧ (0 < l.length → ∃ b, a = some ⟨b, 0, none⟩ ∧ b < w.heap.size ∧ ∀ i, (h : i < l.length) → w.cell? ⟨b, i * 2, none⟩ = some (.bool l[i].isNone) ∧ w.cell? ⟨b, i * 2 + 1, none⟩ = some (.int .i64 (l[i].getD 0)))
theorem SlotsR.grown {w w' : World} {v : Value} {l : List (Option Int)} (h : SlotsR w v l) (hg : w.grownBy w' none) : SlotsR w' v l := by
  obtain ⟨a, c, rfl, h⟩ := h
  refine ⟨a, c, rfl, fun hl => ?_⟩
  obtain ⟨b, rfl, hb, hc⟩ := h hl
  exact ⟨b, rfl, Nat.lt_of_lt_of_le hb hg.size, fun i hi => by rw [grown_cell hg hb (by simp), grown_cell hg hb (by simp)]; exact hc i hi⟩
theorem encSl_eq (o : Option Int) : encSl o = [.bool o.isNone, .int .i64 (o.getD 0)] := by cases o <;> rfl
theorem sl_get : ∀ (l : List (Option Int)) (j : Nat) (h : j < l.length), (l.flatMap encSl)[j * 2]? = some (.bool l[j].isNone) ∧ (l.flatMap encSl)[j * 2 + 1]? = some (.int .i64 (l[j].getD 0))
  | o :: l, 0, _ => by rw [List.flatMap_cons, encSl_eq]; exact ⟨rfl, rfl⟩
  | o :: l, j + 1, h => by
    have := sl_get l j (by simpa using h)
    rw [List.flatMap_cons, encSl_eq, show (j + 1) * 2 = j * 2 + 1 + 1 by omega, show j * 2 + 1 + 1 + 1 = (j * 2 + 1) + 1 + 1 by omega]
    simpa using this
theorem SlotsR.of_own {w : World} {base : Nat} {v : Value} {l : List (Option Int)} (h : w.ownsRow base slotT 2 v l.length (l.flatMap encSl)) : SlotsR w v l := by
  obtain ⟨a, c, rfl⟩ := own_slice h
  refine ⟨a, c, rfl, fun hl => ?_⟩
  obtain ⟨g, cap, e1, _, hg, _⟩ := own_row h hl
  simp only [Value.slice.injEq] at e1
  obtain ⟨rfl, _, rfl⟩ := e1
  refine ⟨g, rfl, hg, fun i hi => ?_⟩
  obtain ⟨h1, h2⟩ := sl_get l i hi
  have k1 := h.cells (g := g) rfl (i * 2) _ h1
  have k2 := h.cells (g := g) rfl (i * 2 + 1) _ h2
  rw [addr_add, Nat.zero_add] at k1 k2
  exact ⟨k1, k2⟩

set_option maxHeartbeats 1000000 in
set_option maxRecDepth 100000 in
theorem equalSl_same {E : List (Option Int)} {v1 v2 : Value} {w : World} (h1 : SlotsR w v1 E) (h2 : SlotsR w v2 E) (hl : E.length ≤ 1000000) :
    Calls Tryz.prog 22 #[v1, v2] w (fun e w' => e = .returned (.bool true) ∧ w.grownBy w' none) := by
  obtain ⟨a1, c1, rfl, h1⟩ := h1
  obtain ⟨a2, c2, rfl, h2⟩ := h2
  have H1 := Lib.hid h1
  have H2 := Lib.hid h2
  clear h1 h2
  go_enter Tryz.func22, Tryz.ntmps22
  go_wp2_with fail
  go_loopw [5, 13] (fun _ i wr => ∃ k : Nat, k ≤ E.length ∧ i = .int .i64 k ∧ w.grownBy wr none) (fun _ i _ => E.length - (intOf i).toNat)
  case atStart => exact ⟨0, Nat.zero_le _, rfl, grown_refl _⟩
  case round =>
    obtain ⟨k, hk, rfl, hg⟩ := hrel
    by_cases hlt : k < E.length
    · have hlt' : (k : Int) < E.length := by omega
      obtain ⟨b1, rfl, hb1, q1⟩ := H1.out (by omega)
      obtain ⟨b2, rfl, hb2, q2⟩ := H2.out (by omega)
      obtain ⟨q10, q11⟩ := q1 k hlt
      obtain ⟨q20, q21⟩ := q2 k hlt
      have m10 := (grown_cell hg hb1 (by simp)).trans q10
      have m11 := (grown_cell hg hb1 (by simp)).trans q11
      have m20 := (grown_cell hg hb2 (by simp)).trans q20
      have m21 := (grown_cell hg hb2 (by simp)).trans q21
      obtain ⟨d, hd⟩ : ∃ d, d = E[k].isNone := ⟨_, rfl⟩
      obtain ⟨x, hx⟩ : ∃ x, x = E[k].getD 0 := ⟨_, rfl⟩
      rw [← hd] at m10 m20
      rw [← hx] at m11 m21
      have HG := Lib.hid hg
      clear hg hd hx q1 q2 q10 q11 q20 q21
      go_wp2_with fail
      go_quiet (fail)
      go_wp2_with fail
      exact ⟨⟨k + 1, by omega, by go_num, grown_tr HG.out (grown_drewN _ _)⟩, by simp [intOf]; omega⟩
    · have hlt' : ¬ (k : Int) < E.length := by omega
      have HG := Lib.hid hg
      clear hg
      go_wp2_with fail
      go_ret
      exact ⟨rfl, HG.out⟩
end Go.Proofs.YtdllkoiddlcnmaaGreat
