/- The reference's own: Nodes, From. -/
import Derived.Test.YtcbkalppclilfaaGreatWt
import Derived.Test.YtcbkalppclilfaaGreatSi
import Derived.Test.YtcbkalppclilfaaGreatNo
namespace Go.Proofs.YtcbkalppclilfaaGreat
open Go.MapKept Go.RowKit

theorem boxG {w wr : World} {d : Bool} {vn ve : Value} {T : TypeId} (h : (w.alloc (.cells #[.bool d, vn, ve] T)).grownBy wr none) : wr.cell? ⟨w.heap.size, 0, none⟩ = some (.bool d) ∧ wr.cell? ⟨w.heap.size, 1, none⟩ = some vn ∧ wr.cell? ⟨w.heap.size, 2, none⟩ = some ve :=
  ⟨box_at h 0, box_at h 1, box_at h 2⟩

theorem nodes_any {G : Gr} {vg : Value} {w : World} (h : GrR w vg G) (hl : G.nodes.length ≤ 1000000) :
    Calls Tryz.prog 38 #[vg] w (SiPost G.nodes w) := by
  obtain ⟨vn, ve, rfl, hn, ⟨ae, ce, rfl, _⟩⟩ := h.parts
  have hcall := fun O => sortInts_any (w := w.alloc O) (hn.grown (grown_alloc w O)) hl
  obtain ⟨an, cn, rfl, _⟩ := hn
  clear h
  go_enter Tryz.func38, Tryz.ntmps38
  go_wp2_with (go_at_call 49; refine (hcall _).mono ?_; rintro e w2 ⟨v2, rfl, ho2, hg2⟩)
  go_ret
  exact ⟨_, rfl, own_mono ho2 (by simp), grown_tr (grown_alloc _ _) hg2⟩

/-- the nodes to which an edge leads -/
def nbs (G : Gr) (u : Int) : List Int := G.ids.filter (G.joins u)
def FrPost (G : Gr) (u : Int) (w : World) (e : Ending) (w' : World) : Prop := ∃ v, e = .returned v ∧ w'.ownsRow w.heap.size 3 1 v (nbs G u).length ((nbs G u).map (Value.int .i64)) ∧ w.grownBy w' none
def FrRel (G : Gr) (u : Int) (w1 : World) (v i : Value) (wr : World) : Prop := ∃ k : Nat, k ≤ G.nodes.length ∧ i = .int .i64 k ∧ wr.ownsRow w1.heap.size 3 1 v ((G.ids.take k).filter (G.joins u)).length (((G.ids.take k).filter (G.joins u)).map (Value.int .i64)) ∧ w1.grownBy wr none

theorem filter_take {l : List Int} {p : Int → Bool} {k : Nat} (hk : k < l.length) : (l.take (k + 1)).filter p = (l.take k).filter p ++ if p l[k] then [l[k]] else [] := by
  rw [List.take_succ_eq_append_getElem hk, List.filter_append, List.filter_cons, List.filter_nil]
theorem filter_len (l : List Int) (p : Int → Bool) (k : Nat) : ((l.take k).filter p).length ≤ l.length :=
  Nat.le_trans (List.length_filter_le _ _) (by rw [List.length_take]; exact Nat.min_le_right _ _)

set_option maxHeartbeats 2000000 in
theorem from_any {G : Gr} {u : Int} {vg : Value} {w : World} (h : GrR w vg G) (hnl : G.nodes.length ≤ 1000000) (hel : G.edges.length ≤ 1000000) :
    Calls Tryz.prog 50 #[vg, .int .i64 u] w (FrPost G u w) := by
  have hnod := fun W hg => nodes_any (w := W) (h.grown hg) hnl
  have HJ := Lib.hid (fun W hg v => joined_any (u := u) (v := v) (w := W) (h.grown hg) hel)
  obtain ⟨vn, ve, rfl, ⟨an, cn, rfl, _⟩, ⟨ae, ce, rfl, _⟩⟩ := h.parts
  clear h
  go_enter Tryz.func50, Tryz.ntmps50
  go_wp2_with (go_at_call 38; refine (hnod _ (grown_alloc _ _)).mono ?_; rintro e w1 ⟨v1, rfl, ho1, hg1⟩; obtain ⟨a1, c1, rfl⟩ := own_slice ho1)
  have hids : (srt G.nodes).length = G.nodes.length := length_srt _
  have HB : Hid (∀ wr, w1.grownBy wr none → wr.cell? ⟨w.heap.size, 0, none⟩ = some (.bool G.dir) ∧ wr.cell? ⟨w.heap.size, 1, none⟩ = some (.slice an G.nodes.length cn) ∧ wr.cell? ⟨w.heap.size, 2, none⟩ = some (.slice ae G.edges.length ce)) := Lib.hid (fun wr hg => boxG (grown_tr hg1 hg))
  have HR : Hid (IntsR w1 (.slice a1 (srt G.nodes).length c1) (srt G.nodes)) := Lib.hid (IntsR.of_own (base := (w.alloc (.cells #[.bool G.dir, .slice an G.nodes.length cn, .slice ae G.edges.length ce] 25)).heap.size) (by rw [hids]; exact ho1))
  have HG : Hid (w.grownBy w1 none) := Lib.hid (grown_tr (grown_alloc _ _) hg1)
  have HI := Lib.hid hids
  clear hnod ho1 hg1 hids
  go_loopw [5, 7, 11] (fun v _ i wr => FrRel G u w1 v i wr) (fun _ _ i _ => G.nodes.length - (intOf i).toNat)
  case atStart => exact ⟨0, Nat.zero_le _, rfl, ⟨rfl, .inl ⟨rfl, rfl⟩⟩, grown_refl _⟩
  case round =>
    obtain ⟨k, hk, rfl, hown, hg⟩ := hrel
    by_cases hlt : k < G.nodes.length
    · have hlt' : (k : Int) < G.nodes.length := by omega
      have hki : k < G.ids.length := by have := HI.out; unfold Gr.ids; omega
      obtain ⟨a, c, e1, hr⟩ := HR.out
      obtain ⟨b, o, rfl, hb, hcell⟩ := hr (by have := HI.out; omega)
      have e1' := congrArg (fun v => match v with | Value.slice a _ _ => a | _ => none) e1
      simp only at e1'
      subst e1'
      have c1 := (grown_cell hg hb (by simp)).trans (hcell k (by have := HI.out; omega))
      have hts := filter_take (p := G.joins u) hki
      have hfl := filter_len G.ids (G.joins u) k
      rw [Gr.length_ids] at hfl
      obtain ⟨x, hx⟩ : ∃ x, x = G.ids[k] := ⟨_, rfl⟩
      rw [← hx] at hts
      rw [show (srt G.nodes)[k]'(by have := HI.out; omega) = x from hx.symm] at c1
      obtain ⟨l, hl⟩ : ∃ l, l = (G.ids.take k).filter (G.joins u) := ⟨_, rfl⟩
      rw [← hl] at hts hown hfl
      have hfl2 : l.length ≤ 1000000 := Nat.le_trans hfl hnl
      obtain ⟨b0, b1, b2⟩ := HB.out wr hg
      have hj := HJ.out wr (grown_tr HG.out hg) x
      have HX := Lib.hid (And.intro hts (And.intro hown hg))
      clear hts hown hg hcell hr e1 hx hl hfl
      obtain ⟨p, hp⟩ : ∃ p, p = G.joins u x := ⟨_, rfl⟩
      unfold JndPost at hj
      rw [← hp] at hj
      have HP := Lib.hid hp
      clear hp
      cases p
      · go_wp2_with (go_at_call 72; refine hj.mono ?_; rintro e w2 ⟨rfl, hg2⟩)
        go_roundw
        case rel =>
          obtain ⟨hts, hown, hg⟩ := HX.out
          refine ⟨k + 1, by omega, by go_num, ?_, grown_tr hg hg2⟩
          rw [hts, ← HP.out, if_neg (by simp), List.append_nil]
          exact own_new hown hg2
        case measure => simp [intOf]; omega
      · have HO : Hid (∀ w2, wr.grownBy w2 none → w2.ownsRow w1.heap.size 3 1 u5 l.length (l.map (Value.int .i64)) ∧ w1.heap.size ≤ w2.heap.size) := Lib.hid (fun w2 hg2 => ⟨own_new HX.out.2.1 hg2, Nat.le_trans HX.out.2.2.size hg2.size⟩)
        go_wp2_with (first
          | (go_at_call 72; refine hj.mono ?_; rintro e w2 ⟨rfl, hg2⟩)
          | (at_builtin; refine wpx_app1 elI rfl (.tmp 19) (.tmp 21) rfl w1.heap.size u5 l.length _ rfl ((HO.out _ hg2).1.alloc _) w2.heap.size #[.int .i64 x] (heap_alloc_new w2 _) (w2.heap.size + 1) (by simp) 1 rfl rfl (by simp [Value.oneCell']) (by omega) (by unfold maxLen; omega) (by have := (HO.out _ hg2).2; omega) ?_; intro g5 c5 w5 ho5 hg5 hat hlt2 hsz))
        go_roundw
        case rel =>
          obtain ⟨hts, hown, hg⟩ := HX.out
          refine ⟨k + 1, by omega, by go_num, ?_, grown_own (grown_tr hg hg2) (HO.out _ hg2).1 hg5⟩
          rw [hts, ← HP.out, if_pos rfl, List.length_append, List.map_append]
          exact ho5
        case measure => simp [intOf]; omega
    · have hlt' : ¬ (k : Int) < G.nodes.length := by omega
      obtain rfl : k = G.nodes.length := by omega
      have HX := Lib.hid (And.intro hown hg)
      clear hown hg
      go_wp2_with fail
      go_ret
      have e : G.ids.take G.nodes.length = G.ids := List.take_of_length_le (by rw [Gr.length_ids]; exact Nat.le_refl _)
      obtain ⟨hown, hg⟩ := HX.out
      rw [e] at hown
      exact ⟨_, rfl, own_mono hown HG.out.size, grown_tr HG.out hg⟩
end Go.Proofs.YtcbkalppclilfaaGreat
