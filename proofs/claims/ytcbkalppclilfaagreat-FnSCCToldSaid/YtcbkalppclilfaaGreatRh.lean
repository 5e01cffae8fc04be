/- The reference's own: reached, Reaches. -/
import Derived.Test.YtcbkalppclilfaaGreatFo
import Derived.Test.YtcbkalppclilfaaGreatBf
import Derived.Test.YtcbkalppclilfaaGreatSh
import Derived.Deep.RegionHeld3
namespace Go.Proofs.YtcbkalppclilfaaGreat
open Go.MapKept Go.RowKit

def EN (G : Gr) : Int → Int → Prop := fun x y => y ∈ nbs G x
def TT : Int → Prop := fun _ => True
theorem nbs_sub {G : Gr} {x y : Int} (h : y ∈ nbs G x) : y ∈ G.ids := (List.mem_filter.1 h).1
theorem enrch_in {G : Gr} {u x : Int} (h : Rch (EN G) u x) : x ∈ u :: G.ids := by
  cases h with
  | refl => simp
  | tail _ r => exact List.mem_cons_of_mem _ (nbs_sub r)

def RhPost (G : Gr) (u : Int) (w : World) (e : Ending) (w' : World) : Prop :=
  ∃ (V : List Int) (v : Value), e = .returned v ∧ V.Nodup ∧ (∀ x, x ∈ V ↔ Rch (EN G) u x) ∧ w'.ownsRow w.heap.size 3 1 v V.length ((srt V).map (Value.int .i64)) ∧ w.grownBy w' none
def RhRel (G : Gr) (u : Int) (w0 : World) (v i : Value) (wr : World) : Prop :=
  ∃ (k : Nat) (V : List Int), k ≤ V.length ∧ i = .int .i64 k ∧ wr.ownsRow w0.heap.size 3 1 v V.length (V.map (Value.int .i64)) ∧ 0 < V.length ∧ Bfs (EN G) u TT V (V.drop k) ∧ w0.grownBy wr none
def RhIn (G : Gr) (u : Int) (w0 : World) (t : Int) (k : Nat) (N : List Int) (vN : Value) (v i : Value) (wr : World) : Prop :=
  ∃ (m : Nat) (V : List Int), m ≤ N.length ∧ i = .int .i64 m ∧ wr.ownsRow w0.heap.size 3 1 v V.length (V.map (Value.int .i64)) ∧ k < V.length ∧ BfsAt (EN G) u TT t V (V.drop (k + 1)) (N.drop m) ∧
    wr.ownsRow w0.heap.size 3 1 vN N.length (N.map (Value.int .i64)) ∧ v.ownBlock ≠ vN.ownBlock ∧ w0.grownBy wr none

theorem bfs_len {G : Gr} {u : Int} {V Q : List Int} (h : Bfs (EN G) u TT V Q) : V.length ≤ G.nodes.length + 1 := by
  have := (h.len (I := u :: G.ids) (fun x hx => enrch_in hx)).1
  rw [List.length_cons, Gr.length_ids] at this
  exact this
theorem bfsAt_len {G : Gr} {u t : Int} {V Q S : List Int} (h : BfsAt (EN G) u TT t V Q S) : V.length ≤ G.nodes.length + 1 := by
  have := (h.len (I := u :: G.ids) (fun x hx => enrch_in hx)).1
  rw [List.length_cons, Gr.length_ids] at this
  exact this

theorem bfs_len2 {G : Gr} {u : Int} {V : List Int} (hn : V.Nodup) (hm : ∀ x, x ∈ V ↔ Rch (EN G) u x) : V.length ≤ G.nodes.length + 1 := by
  have := List.Nodup.length_le_of_subset hn (l₂ := u :: G.ids) (fun x hx => enrch_in ((hm x).1 hx))
  rw [List.length_cons, Gr.length_ids] at this
  exact this

set_option maxHeartbeats 4000000 in
set_option maxRecDepth 100000 in
theorem reached_any {G : Gr} {u : Int} {vg : Value} {w : World} (h : GrR w vg G) (hnl : G.nodes.length ≤ 1000) (hel : G.edges.length ≤ 1000000) :
    Calls Tryz.prog 40 #[vg, .int .i64 u] w (RhPost G u w) := by
  have HF := Lib.hid (fun W hg t => from_any (u := t) (w := W) (h.grown hg) (by omega) hel)
  obtain ⟨vn, ve, rfl, ⟨an, cn, rfl, _⟩, ⟨ae, ce, rfl, _⟩⟩ := h.parts
  clear h
  go_enter Tryz.func40, Tryz.ntmps40
  go_wp2_with fail
  obtain ⟨w0, hw0⟩ : ∃ w0, w0 = w.alloc (.cells #[.bool G.dir, .slice an G.nodes.length cn, .slice ae G.edges.length ce] 25) := ⟨_, rfl⟩
  have HB : Hid (∀ wr, w0.grownBy wr none → wr.cell? ⟨w.heap.size, 0, none⟩ = some (.bool G.dir) ∧ wr.cell? ⟨w.heap.size, 1, none⟩ = some (.slice an G.nodes.length cn) ∧ wr.cell? ⟨w.heap.size, 2, none⟩ = some (.slice ae G.edges.length ce)) := Lib.hid (fun wr hg => by rw [hw0] at hg; exact boxG hg)
  have HW0 : Hid (w.grownBy w0 none ∧ w0.heap.size = w.heap.size + 1) := Lib.hid (by rw [hw0]; exact ⟨grown_alloc _ _, by simp⟩)
  rw [← hw0]
  clear hw0
  go_loopw [5, 6] (fun v i wr => RhRel G u w0 v i wr) (fun _ i _ => G.nodes.length + 2 - (intOf i).toNat)
  case atStart =>
    refine ⟨0, [u], by simp, rfl, ?_, by simp, Bfs.start _ _ _, grown_alloc _ _⟩
    have := lit_own w0 #[.int .i64 u] 3 (show 1 ≤ maxLen by decide)
    rw [HW0.out.2] at this ⊢
    exact this
  case round =>
    obtain ⟨k, V, hk, rfl, hown, hpos, hbf, hg⟩ := hrel
    obtain ⟨gv, cv, rfl, -, hgl, -⟩ := own_row hown hpos
    have hVl := bfs_len hbf
    by_cases hlt : k < V.length
    · have hlt' : (k : Int) < V.length := by omega
      have cv0 : wr.cell? ⟨gv, k, none⟩ = some (.int .i64 V[k]) := by
        rw [hown.cellAt k (by omega)]
        simp [hlt]
      have hdr : V.drop k = V[k] :: V.drop (k + 1) := List.drop_eq_getElem_cons hlt
      obtain ⟨t, ht⟩ : ∃ t, t = V[k] := ⟨_, rfl⟩
      rw [← ht] at cv0 hdr
      rw [hdr] at hbf
      have hat := hbf.take (S := nbs G t) trivial (fun y => Iff.rfl)
      obtain ⟨b0, b1, b2⟩ := HB.out wr hg
      have hfrom := fun W (hW : wr.grownBy W none) => HF.out W (grown_tr HW0.out.1 (grown_tr hg hW)) t
      have HX := Lib.hid (And.intro hown (And.intro hat hg))
      obtain ⟨n, hn⟩ : ∃ n, n = V.length := ⟨_, rfl⟩
      rw [← hn] at hlt' hlt ⊢
      have HN := Lib.hid hn
      clear hown hbf hat hg ht hdr hpos hk hVl hn
      go_wp2_with fail
      go_region_held3 (fun w' => w'.cell? ⟨w.heap.size, 0, none⟩ = some (.bool G.dir) ∧ w'.cell? ⟨w.heap.size, 1, none⟩ = some (.slice an G.nodes.length cn) ∧ w'.cell? ⟨w.heap.size, 2, none⟩ = some (.slice ae G.edges.length ce) ∧ w'.cell? ⟨gv, k, none⟩ = some (.int .i64 t))
        (first | go_keep | exact ⟨(grown_cell hg3 (by have := HW0.out.2; have := HX.out.2.2.size; simp; omega) (by simp)).trans b0, (grown_cell hg3 (by have := HW0.out.2; have := HX.out.2.2.size; simp; omega) (by simp)).trans b1, (grown_cell hg3 (by have := HW0.out.2; have := HX.out.2.2.size; simp; omega) (by simp)).trans b2, (grown_cell hg3 hgl (by simp)).trans cv0⟩)
        (first
          | (go_at_call 50; refine (hfrom _ (by first | exact grown_drew _ | exact grown_drewN _ _)).mono ?_; rintro e w3 ⟨v3, rfl, ho3, hg3⟩; obtain ⟨a3, c3, rfl⟩ := own_slice ho3))
      have hNl : (nbs G t).length ≤ 1000 := by
        have := List.length_filter_le (G.joins t) G.ids
        rw [Gr.length_ids] at this
        exact Nat.le_trans this hnl
      have HI0 : Hid (RhIn G u w0 t k (nbs G t) (.slice a3 (nbs G t).length c3) (.slice (some ⟨gv, 0, none⟩) n cv) (.int .i64 0) w3) := by
        obtain ⟨hown, hat, hg⟩ := HX.out
        have hw3 : wr.grownBy w3 none := grown_tr (grown_drew wr) hg3
        refine Lib.hid ⟨0, V, Nat.zero_le _, rfl, ?_, by have := HN.out; omega, hat, ?_, ?_, grown_tr hg hw3⟩
        · rw [HN.out]; exact own_new hown hw3
        · exact own_mono ho3 (by have := hg.size; simp; omega)
        · intro e
          have := (ho3.lt gv (by rw [← e]; rfl)).1
          simp at this
          omega
      obtain ⟨N, hN⟩ : ∃ N, N = nbs G t := ⟨_, rfl⟩
      rw [← hN] at HI0 hNl ⊢
      clear hN ho3 hg3 HX HN cv0 b0 b1 b2 hfrom
      go_wp2_with fail
      go_loopw [5, 24] (fun v i wr => RhIn G u w0 t k N (.slice a3 N.length c3) v i wr) (fun _ i _ => N.length - (intOf i).toNat)
      case atStart => exact HI0.out
      case round =>
        clear HI0
        obtain ⟨m, V2, hm, rfl, hown, hkV, hat, hNo, hne, hg⟩ := hrel
        have hVl := bfsAt_len hat
        obtain ⟨g2, cv2, rfl, -, hg2l, -⟩ := own_row hown (by omega)
        by_cases hmlt : m < N.length
        · have hmlt' : (m : Int) < N.length := by omega
          obtain ⟨gN, cN, e, -, -, -⟩ := own_row hNo (by omega)
          simp only [Value.slice.injEq, true_and] at e
          obtain ⟨rfl, rfl⟩ := e
          have cN0 : wr.cell? ⟨gN, m, none⟩ = some (.int .i64 N[m]) := by
            rw [hNo.cellAt m (by omega)]
            simp [hmlt]
          have hdr : N.drop m = N[m] :: N.drop (m + 1) := List.drop_eq_getElem_cons hmlt
          obtain ⟨y, hy⟩ : ∃ y, y = N[m] := ⟨_, rfl⟩
          rw [← hy] at cN0 hdr
          rw [hdr] at hat
          have hhas := hasInt_any y (IntsR.of_own hown) (by omega)
          obtain ⟨p, hp⟩ : ∃ p, p = decide (y ∈ V2) := ⟨_, rfl⟩
          rw [← hp] at hhas
          have HZ := Lib.hid (And.intro hown (And.intro hkV (And.intro hat (And.intro hNo (And.intro hne (And.intro hg hp))))))
          clear hown hkV hat hNo hne hg hp hdr hy
          cases p
          · have HO := HZ.out.1
            replace HO := Lib.hid HO
            go_wp2_with (first
              | (go_at_call 39; refine hhas.mono ?_; rintro e w' ⟨rfl, rfl⟩)
              | (at_builtin; refine wpx_app1 elI rfl (.tmp 32) (.tmp 34) rfl w0.heap.size (.slice (some ⟨g2, 0, none⟩) V2.length cv2) V2.length _ rfl (HO.out.alloc _) wr.heap.size #[.int .i64 y] (heap_alloc_new wr _) (wr.heap.size + 1) (by simp) 1 rfl rfl (by simp [Value.oneCell']) (by omega) (by unfold maxLen; omega) (by have := HZ.out.2.2.2.2.2.1.size; omega) ?_; intro g5 c5 w5 ho5 hg5 hat5 hlt2 hsz))
            go_roundw
            case rel =>
              obtain ⟨hown, hkV, hat, hNo, hne, hg, hp⟩ := HZ.out
              have hyn : y ∉ V2 := of_decide_eq_false hp.symm
              refine ⟨m + 1, V2 ++ [y], by omega, by go_num, ?_, by simp; omega, ?_, (own_new hNo (grown_alloc wr _)).kept hg5 (.inr hne.symm), ?_, grown_own hg hown hg5⟩
              · rw [List.length_append, List.map_append]; exact ho5
              · have h1 := hat.new hyn
                rw [← List.drop_append_of_le_length (by omega)] at h1
                exact h1
              · intro e
                rcases hat5 with h | h
                · exact hne (by rw [h]; exact e)
                · have := (hNo.lt g5 (by rw [← e]; rfl)).2
                  omega
            case measure => simp [intOf]; omega
          · go_wp2_with (go_at_call 39; refine hhas.mono ?_; rintro e w' ⟨rfl, rfl⟩)
            go_roundw
            case rel =>
              obtain ⟨hown, hkV, hat, hNo, hne, hg, hp⟩ := HZ.out
              exact ⟨m + 1, V2, by omega, by go_num, hown, hkV, hat.old (of_decide_eq_true hp.symm), hNo, hne, hg⟩
            case measure => simp [intOf]; omega
        · have hmlt' : ¬ (m : Int) < N.length := by omega
          have HZ := Lib.hid (And.intro hown (And.intro hat hg))
          clear hown hat hNo hne hg
          go_wp2_with fail
          go_roundw
          case rel =>
            obtain ⟨hown, hat, hg⟩ := HZ.out
            have e : N.drop m = [] := List.drop_eq_nil_of_le (by omega)
            rw [e] at hat
            exact ⟨k + 1, V2, by omega, by go_num, hown, by omega, hat.over, hg⟩
          case measure => simp [intOf]; omega
    · have hlt' : ¬ (k : Int) < V.length := by omega
      have hkV : k = V.length := by omega
      have hsi := sortInts_any (IntsR.of_own hown) (by omega)
      have HX := Lib.hid (And.intro hkV (And.intro hbf hg))
      clear hown hbf hg hkV
      go_wp2_with (go_at_call 49; refine hsi.mono ?_; rintro e w5 ⟨v5, rfl, ho5, hg5⟩)
      go_ret
      obtain ⟨hkV, hbf, hg⟩ := HX.out
      rw [hkV, List.drop_length] at hbf
      refine ⟨V, _, rfl, hbf.nd, fun x => hbf.all, own_mono ho5 ?_, grown_tr HW0.out.1 (grown_tr hg hg5)⟩
      have := HW0.out.2
      have := hg.size
      omega

/-- whether there is a path, as a Bool -/
noncomputable def rcB (G : Gr) (u v : Int) : Bool := @decide (Rch (EN G) u v) (Classical.propDecidable _)
theorem rcB_iff {G : Gr} {u v : Int} : rcB G u v = true ↔ Rch (EN G) u v := by unfold rcB; exact @decide_eq_true_iff _ (Classical.propDecidable _)
def RsPost (G : Gr) (u v : Int) (w : World) (e : Ending) (w' : World) : Prop := e = .returned (.bool (rcB G u v)) ∧ w.grownBy w' none

set_option maxHeartbeats 1000000 in
theorem reaches_any {G : Gr} {u v : Int} {vg : Value} {w : World} (h : GrR w vg G) (hnl : G.nodes.length ≤ 1000) (hel : G.edges.length ≤ 1000000) :
    Calls Tryz.prog 41 #[vg, .int .i64 u, .int .i64 v] w (RsPost G u v w) := by
  have HR := Lib.hid (fun W hg => reached_any (u := u) (w := W) (h.grown hg) hnl hel)
  obtain ⟨vn, ve, rfl, ⟨an, cn, rfl, _⟩, ⟨ae, ce, rfl, _⟩⟩ := h.parts
  clear h
  go_enter Tryz.func41, Tryz.ntmps41
  go_wp2_with (first
    | (go_at_call 40; refine (HR.out _ (grown_alloc _ _)).mono ?_; rintro e w2 ⟨V, v2, rfl, hn2, hm2, ho2, hg2⟩; have hl2 := bfs_len2 hn2 hm2; have ho3 := IntsR.of_own (l := srt V) (by rw [length_srt]; exact ho2); have hm3 := Lib.hid hm2; have hg3 := Lib.hid hg2; clear hm2 hn2 ho2 hg2)
    | (go_at_call 39; refine (hasInt_any v ho3 (by rw [length_srt]; omega)).mono ?_; rintro e w4 ⟨rfl, rfl⟩))
  go_ret
  refine ⟨?_, grown_tr (grown_alloc _ _) hg3.out⟩
  have e : decide (v ∈ srt V) = rcB G u v := by
    rw [Bool.eq_iff_iff, decide_eq_true_iff, mem_srt, hm3.out, rcB_iff]
  exact congrArg (fun b => Ending.returned (.bool b)) e
end Go.Proofs.YtcbkalppclilfaaGreat
