/- impl.SCC: the components as lists of numbers. -/
import Derived.Test.YtcbkalppclilfaaGreatTc
import Derived.Test.YtcbkalppclilfaaGreatSc
import Derived.Test.YtcbkalppclilfaaGreatLl
namespace Go.Proofs.YtcbkalppclilfaaGreat
open Go.MapKept Go.RowKit

set_option maxHeartbeats 400000 in
theorem tarjanSCC_any {p0 : Nat} {ids : List Int} {M : Mat} {w : World} (h : PlnR w p0 ids M) (hl : ids.length ≤ 1000) (ha : ids.Pairwise (· < ·)) (hclo : ∀ x ∈ ids, ∀ y ∈ outs ids M x, y ∈ ids) :
    Calls Tryz.prog 29 #[.iface dirT (dirV p0)] w (ListsPost (tall (outs ids M) ids.length ids).out.reverse w) := by
  have hcall := tarjan_any h hl ha hclo
  clear h ha hclo
  go_enter Tryz.func29, Tryz.ntmps29
  go_wp2_with (go_at_call 45; refine hcall.mono ?_; intro e w1 hp; obtain ⟨vo, vals, rfl, hp2⟩ := hp)
  go_ret
  exact ⟨vo, vals, rfl, hp2⟩

def SccRel (L : List (List Int)) (w1 : World) (v i : Value) (wr : World) : Prop :=
  ∃ (k : Nat) (vals : List Value), k ≤ L.length ∧ i = .int .i64 k ∧ wr.ownsRow w1.heap.size intsT 1 v k vals ∧ LLs wr w1.heap.size vals ((L.take k).map srt) ∧ w1.grownBy wr none

def SccPost (L : List (List Int)) (w : World) (e : Ending) (w' : World) : Prop := ∃ v, e = .returned (.tuple #[v, .bool false]) ∧ RowsR w' v L ∧ w.grownBy w' none

set_option maxHeartbeats 2000000 in
set_option maxRecDepth 100000 in
theorem scc_any {G : Gr} {v : Value} {w : World} (h : GrR w v G) (hG : G.Well) (hd : G.dir = true) (hnl : G.nodes.length ≤ 1000) (hel : G.edges.length ≤ 8000) :
    Calls Tryz.prog 14 #[v] w (SccPost ((tall (outs G.ids G.mat) G.ids.length G.ids).out.reverse.map srt) w) := by
  have hone : ∀ O, Calls Tryz.prog 28 #[v] (w.alloc O) (fun e w' => ∃ p0, e = .returned (.tuple #[dirV p0, .bool true]) ∧ PlnR w' p0 G.ids G.mat ∧ (w.alloc O).grownBy w' none) := fun O =>
    (oneWay_any (h.grown (grown_alloc w O)) hG hnl (by omega)).mono (fun e w' ⟨p0, h1, h2⟩ => ⟨p0, by rw [h1, hd], h2⟩)
  have hids : G.ids.length ≤ 1000 := by rw [Gr.length_ids]; exact hnl
  have htar : ∀ W p0, PlnR W p0 G.ids G.mat → _ := fun W p0 hp => tarjanSCC_any (w := W) (p0 := p0) hp hids hG.ids (fun x _ y hy => outs_in hy)
  obtain ⟨hf, hfl⟩ : ((tall (outs G.ids G.mat) G.ids.length G.ids).out.reverse.length ≤ 1000) ∧ ∀ c ∈ (tall (outs G.ids G.mat) G.ids.length G.ids).out.reverse, c.length ≤ 1000 := by
    have hk := scc_ok (succ := outs G.ids G.mat) (ids := G.ids) (fun x _ y hy => outs_in hy) (hG.ids.imp (fun hab e => by omega))
    have e1 := hk.perm.length_eq
    have e2 : ((tall (outs G.ids G.mat) G.ids.length G.ids).out.reverse.map srt).length ≤ _ := len_of_flat hk.ne
    have e3 : ∀ c ∈ (tall (outs G.ids G.mat) G.ids.length G.ids).out.reverse.map srt, c.length ≤ 1000 := len_in_flat (by omega)
    refine ⟨by simpa using Nat.le_trans e2 (by omega), fun c hc => ?_⟩
    have := e3 (srt c) (List.mem_map.2 ⟨c, hc, rfl⟩)
    rwa [length_srt] at this
  obtain ⟨L, hL⟩ : ∃ L, L = (tall (outs G.ids G.mat) G.ids.length G.ids).out.reverse := ⟨_, rfl⟩
  rw [← hL] at htar hf hfl ⊢
  have HFL := Lib.hid hfl
  have HT := Lib.hid htar
  obtain ⟨vn, ve, rfl, ⟨an, cn, rfl, _⟩, ⟨ae, ce, rfl, _⟩⟩ := h.parts
  clear h hL hfl htar hG hel hnl hids hd
  go_enter Tryz.func14, Tryz.ntmps14
  go_wp2_with (first
    | (go_at_call 28; refine (hone _).mono ?_; intro e w1 hp; obtain ⟨p0, rfl, hp1, hg1⟩ := hp; replace hp1 := Lib.hid hp1; replace hg1 := Lib.hid hg1)
    | (go_at_call 29; refine (HT.out _ _ (by have := hp1.out; exact this.grown (grown_alloc _ _))).mono ?_; intro e w2 hp; obtain ⟨vo, vals, rfl, hvo, hvl, hvs, hg2⟩ := hp; obtain ⟨ao, co, rfl⟩ := own_slice hvo))
  have hgw : w.grownBy w2 none := by
    have h1 := hg1.out
    exact grown_tr (grown_tr (grown_tr (grown_alloc _ _) h1) (by first | exact grown_alloc _ _ | go_grown)) hg2
  have HC : Hid (∀ i, (hi : i < L.length) → ∃ g, ao = some ⟨g, 0, none⟩ ∧ ∀ W, w2.grownBy W none → ∃ u, W.cell? ⟨g, i, none⟩ = some u ∧ NodesR W u L[i]) := Lib.hid (fun i hi => by
    obtain ⟨g, cap, e1, _, hg, _⟩ := own_row hvo (by omega)
    simp only [Value.slice.injEq] at e1
    obtain ⟨rfl, _, rfl⟩ := e1
    have hv : vals[i]? = some vals[i] := List.getElem?_eq_getElem (show i < vals.length by omega)
    refine ⟨g, rfl, fun W hW => ⟨vals[i], ?_, ?_⟩⟩
    · rw [grown_cell hW hg (by simp)]
      have := hvo.cells (g := g) rfl i _ hv
      rwa [addr_add, Nat.zero_add] at this
    · exact (NodesR.of_own (hvs i _ _ hv (List.getElem?_eq_getElem hi))).grown hW)
  have HGW := Lib.hid hgw
  clear hgw hvo hvl hvs hg2 hp1 hg1 hone HT
  go_loopw [2, 7, 8, 20] (fun v _ _ i wr => SccRel L w2 v i wr) (fun _ _ _ i _ => L.length - (intOf i).toNat)
  case atStart => exact ⟨0, [], Nat.zero_le _, rfl, ⟨rfl, .inl ⟨rfl, rfl⟩⟩, ⟨rfl, fun i v c hv => by simp at hv⟩, grown_refl _⟩
  case round =>
    obtain ⟨k, vals, hk, rfl, hown, hll, hg⟩ := hrel
    by_cases hlt : k < L.length
    · have hlt' : (k : Int) < L.length := by omega
      obtain ⟨g, rfl, hcell⟩ := HC.out k hlt
      obtain ⟨u, c1, hu⟩ := hcell wr hg
      have hcl : L[k].length ≤ 1000 := HFL.out _ (List.getElem_mem hlt)
      have hts : ((L.take (k + 1)).map srt) = (L.take k).map srt ++ [srt L[k]] := by rw [List.take_succ_eq_append_getElem hlt, List.map_append]; rfl
      obtain ⟨c, hc⟩ : ∃ c, c = L[k] := ⟨_, rfl⟩
      rw [← hc] at hu hcl hts
      have hnum := numbers_any hu (by omega)
      have HX := Lib.hid (And.intro hts (And.intro hown (And.intro hll hg)))
      clear hts hown hll hg hc hcell hu
      go_wp2_with fail
      refine hnum.mono ?_
      rintro e w3 ⟨x3, rfl, ho3, hg3⟩
      obtain ⟨a3, c3, rfl⟩ := own_slice ho3
      have hso := sort_int ho3 (by omega)
      have HO3 := Lib.hid (And.intro ho3 hg3)
      clear ho3 hg3 hnum
      go_wp2_with fail
      refine hso.mono ?_
      rintro e w4 ⟨rfl, ho4, hg4⟩
      have HV4 : Hid (wr.grownBy w4 none ∧ w4.ownsRow w2.heap.size intsT 1 u2 k vals) := by
        obtain ⟨ho3, hg3⟩ := HO3.out
        obtain ⟨hts, hown, hll, hg⟩ := HX.out
        have h34 : wr.grownBy w4 none := grown_new hg3 hg4 (fun j hj => (ho3.lt j hj).1)
        exact Lib.hid ⟨h34, own_new hown h34⟩
      have HO4 := Lib.hid ho4
      clear ho4 hg4 hso
      go_wp2_with (at_builtin; refine wpx_app1 elLL rfl (.tmp 28) (.tmp 30) rfl w2.heap.size u2 k _ rfl (HV4.out.2.alloc _) w4.heap.size #[.slice a3 c.length c3] (heap_alloc_new w4 _) (w4.heap.size + 1) (by simp) 1 rfl rfl (by simp [Value.oneCell']) (by omega) (by unfold maxLen; omega) (by have := HV4.out.1.size; have := HX.out.2.2.2.size; omega) ?_; intro g5 c5 w5 ho5 hg5 hat hlt2 hsz)
      go_roundw
      case rel =>
        obtain ⟨hts, hown, hll, hg⟩ := HX.out
        obtain ⟨h34, hv4⟩ := HV4.out
        have hlen : ((L.take k).map srt).length = k := by rw [List.length_map, List.length_take]; omega
        have hall : w2.grownBy w5 none := grown_own (grown_tr hg h34) hv4 hg5
        refine ⟨k + 1, vals ++ [.slice a3 c.length c3], by omega, by go_num, ho5, ?_, hall⟩
        rw [hts]
        have hv' := hv4.alloc (.cells #[.slice a3 c.length c3] intsT)
        refine LLs.snoc (e := intsT) (by decide) hll h34 (own_mono (by rw [length_srt]; exact HO4.out) (Nat.le_trans hg.size (Nat.le_refl _))) (grown_alloc _ _) (by rw [hlen]; exact hv') hg5
      case measure => simp [intOf]; omega
    · have hlt' : ¬ (k : Int) < L.length := by omega
      obtain rfl : k = L.length := by omega
      rw [List.take_length] at hll
      have HX := Lib.hid (And.intro hown (And.intro hll hg))
      clear hown hll hg
      go_wp2_with fail
      go_ret2
      obtain ⟨hown, hll, hg⟩ := HX.out
      exact ⟨_, rfl, LLs.rows (by rw [List.length_map]; exact hown) hll, grown_tr HGW.out hg⟩
end Go.Proofs.YtcbkalppclilfaaGreat
