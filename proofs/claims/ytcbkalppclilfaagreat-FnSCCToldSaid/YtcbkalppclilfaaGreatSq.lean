/- The reference's own: SCC. -/
import Derived.Test.YtcbkalppclilfaaGreatRh
import Derived.Test.YtcbkalppclilfaaGreatLl
import Derived.Test.YtcbkalppclilfaaGreatSp
namespace Go.Proofs.YtcbkalppclilfaaGreat
open Go.MapKept Go.RowKit

theorem en_edge {G : Gr} (hG : G.Well) : EN G = edgeOf G.ids G.mat := by
  funext x y
  refine propext ?_
  unfold EN nbs
  rw [List.mem_filter, joins_iff hG]
  exact ⟨fun h => h.2, fun h => ⟨h.2.1, h⟩⟩

/-- rows of the call's own, none of them in the block of v -/
def Far (v : Value) (vals : List Value) : Prop := ∀ x ∈ vals, x.ownBlock = none ∨ x.ownBlock ≠ v.ownBlock

/-- another row of numbers grows -/
theorem LLs.kept {w w2 : World} {B : Nat} {v : Value} {vals : List Value} {L : List (List Int)} (h : LLs w B vals L) (hf : Far v vals) (hg : w.grownBy w2 v.ownBlock) : LLs w2 B vals L :=
  ⟨h.1, fun i x c hx hc => (h.2 i x c hx hc).kept hg (hf x (List.mem_of_getElem? hx))⟩
theorem LLs.new {w w2 : World} {B : Nat} {vals : List Value} {L : List (List Int)} (h : LLs w B vals L) (hg : w.grownBy w2 none) : LLs w2 B vals L :=
  ⟨h.1, fun i x c hx hc => own_new (h.2 i x c hx hc) hg⟩
theorem LLs.lt {w : World} {B : Nat} {vals : List Value} {L : List (List Int)} (h : LLs w B vals L) : ∀ x ∈ vals, ∀ k, x.ownBlock = some k → k < w.heap.size := fun x hx k hk => by
  obtain ⟨i, hi, rfl⟩ := List.getElem_of_mem hx
  have hi2 : i < L.length := by rw [← h.1]; exact hi
  exact ((h.2 i _ _ (List.getElem?_eq_getElem hi) (List.getElem?_eq_getElem hi2)).lt k hk).2

def SqPost (G : Gr) (w : World) (e : Ending) (w' : World) : Prop := ∃ (v : Value) (out : List (List Int)), e = .returned v ∧ SccOk (edgeOf G.ids G.mat) G.ids out ∧ RowsR w' v out ∧ w.grownBy w' none
def SqRel (G : Gr) (w1 : World) (v3 v4 i : Value) (wr : World) : Prop :=
  ∃ (k : Nat) (out : List (List Int)) (vals : List Value), k ≤ G.nodes.length ∧ i = .int .i64 k ∧ out.length ≤ k ∧ wr.ownsRow w1.heap.size intsT 1 v3 out.length vals ∧ LLs wr w1.heap.size vals out ∧
    wr.ownsRow w1.heap.size intT 1 v4 out.flatten.length (out.flatten.map (Value.int .i64)) ∧ Far v4 vals ∧ SpInv (EN G) G.ids (G.ids.take k) out ∧ w1.grownBy wr none
def SqIn (G : Gr) (u : Int) (V : List Int) (w3 : World) (v i : Value) (wr : World) : Prop :=
  ∃ m : Nat, m ≤ V.length ∧ i = .int .i64 m ∧ wr.ownsRow w3.heap.size intT 1 v ((V.take m).filter (fun x => rcB G x u)).length (((V.take m).filter (fun x => rcB G x u)).map (Value.int .i64)) ∧ w3.grownBy wr none

theorem spInv_flat {G : Gr} {seen : List Int} {out : List (List Int)} (h : SpInv (EN G) G.ids seen out) : out.flatten.length ≤ G.nodes.length := by
  have := List.Nodup.length_le_of_subset h.nd (l₂ := G.ids) (fun x hx => by
    obtain ⟨c, hc, hxc⟩ := List.mem_flatten.1 hx
    obtain ⟨t, ht, hk⟩ := h.cls c hc
    exact ((hk.iff x).1 hxc).1)
  rw [Gr.length_ids] at this
  exact this

set_option maxHeartbeats 4000000 in
set_option maxRecDepth 100000 in
theorem specSCC_any {G : Gr} {vg : Value} {w : World} (h : GrR w vg G) (hG : G.Well) (hnl : G.nodes.length ≤ 1000) (hel : G.edges.length ≤ 1000000) :
    Calls Tryz.prog 20 #[vg] w (SqPost G w) := by
  have hnod := fun W hg => nodes_any (w := W) (h.grown hg) (by omega)
  have HRe := Lib.hid (fun W hg u => reached_any (u := u) (w := W) (h.grown hg) hnl hel)
  have HRs := Lib.hid (fun W hg u v => reaches_any (u := u) (v := v) (w := W) (h.grown hg) hnl hel)
  have HWell := Lib.hid hG
  obtain ⟨vn, ve, rfl, ⟨an, cn, rfl, _⟩, ⟨ae, ce, rfl, _⟩⟩ := h.parts
  clear h hG
  go_enter Tryz.func20, Tryz.ntmps20
  go_wp2_with (go_at_call 38; refine (hnod _ (grown_alloc _ _)).mono ?_; rintro e w1 ⟨v1, rfl, ho1, hg1⟩; obtain ⟨a1, c1, rfl⟩ := own_slice ho1)
  have hids : (srt G.nodes).length = G.nodes.length := length_srt _
  have HB : Hid (∀ wr, w1.grownBy wr none → wr.cell? ⟨w.heap.size, 0, none⟩ = some (.bool G.dir) ∧ wr.cell? ⟨w.heap.size, 1, none⟩ = some (.slice an G.nodes.length cn) ∧ wr.cell? ⟨w.heap.size, 2, none⟩ = some (.slice ae G.edges.length ce)) := Lib.hid (fun wr hg => boxG (grown_tr hg1 hg))
  have HR : Hid (∀ k, (hk : k < G.ids.length) → ∃ b o, a1 = some ⟨b, o, none⟩ ∧ ∀ wr, w1.grownBy wr none → wr.cell? ⟨b, o + k, none⟩ = some (.int .i64 G.ids[k])) := by
    have h1 := IntsR.of_own (l := srt G.nodes) (by rw [hids]; exact ho1)
    obtain ⟨a, c, e1, hr⟩ := h1
    simp only [Value.slice.injEq] at e1
    obtain ⟨rfl, _, rfl⟩ := e1
    refine Lib.hid (fun k hk => ?_)
    obtain ⟨b, o, rfl, hb, hcell⟩ := hr (by unfold Gr.ids at hk; omega)
    exact ⟨b, o, rfl, fun wr hg => (grown_cell hg hb (by simp)).trans (hcell k hk)⟩
  have HG : Hid (w.grownBy w1 none) := Lib.hid (grown_tr (grown_alloc _ _) hg1)
  clear hnod ho1 hg1 hids
  go_loopw [3, 4, 6, 7, 13] (fun v3 v4 _ _ i wr => SqRel G w1 v3 v4 i wr) (fun _ _ _ _ i _ => G.nodes.length - (intOf i).toNat)
  case atStart => exact ⟨0, [], [], Nat.zero_le _, rfl, Nat.le_refl _, ⟨rfl, .inl ⟨rfl, rfl⟩⟩, ⟨rfl, fun i v c hv => by simp at hv⟩, ⟨rfl, .inl ⟨rfl, rfl⟩⟩, fun x hx => (by cases hx), SpInv.nil _ _, grown_refl _⟩
  case round =>
    obtain ⟨k, out, vals, hk, rfl, hol, hov, hll, hod, hfar, hsp, hg⟩ := hrel
    by_cases hlt : k < G.nodes.length
    · have hlt' : (k : Int) < G.nodes.length := by omega
      have hki : k < G.ids.length := by rw [Gr.length_ids]; exact hlt
      obtain ⟨b, o, rfl, hcell⟩ := HR.out k hki
      have c0 := hcell wr hg
      have hts : G.ids.take (k + 1) = G.ids.take k ++ [G.ids[k]] := List.take_succ_eq_append_getElem hki
      have hui : G.ids[k] ∈ G.ids := List.getElem_mem hki
      obtain ⟨u, hu⟩ : ∃ u, u = G.ids[k] := ⟨_, rfl⟩
      rw [← hu] at c0 hts hui
      have hfl := spInv_flat hsp
      have hhas := hasInt_any u (IntsR.of_own hod) (by omega)
      obtain ⟨p, hp⟩ : ∃ p, p = decide (u ∈ out.flatten) := ⟨_, rfl⟩
      rw [← hp] at hhas
      have HX := Lib.hid (And.intro hov (And.intro hll (And.intro hod (And.intro hfar (And.intro hsp (And.intro hg (And.intro hts (And.intro hui hp))))))))
      clear hov hll hod hfar hsp hts hui hp hu hcell
      cases p
      · have hrch := HRe.out wr (grown_tr HG.out hg) u
        obtain ⟨b0, b1, b2⟩ := HB.out wr hg
        replace hg := Lib.hid hg
        go_wp2_with (first
          | (go_at_call 39; refine hhas.mono ?_; rintro e w' ⟨rfl, rfl⟩)
          | (go_at_call 40; refine hrch.mono ?_; rintro e w3 ⟨V, vR, rfl, hVn, hVm, hoR, hgR⟩; obtain ⟨aR, cR, rfl⟩ := own_slice hoR))
        have hVl := bfs_len2 hVn hVm
        have hNl : (srt V).length = V.length := length_srt _
        have HRr : Hid (∀ m, (hm : m < (srt V).length) → ∃ b o, aR = some ⟨b, o, none⟩ ∧ ∀ W, w3.grownBy W none → W.cell? ⟨b, o + m, none⟩ = some (.int .i64 (srt V)[m])) := by
          have h1 := IntsR.of_own (l := srt V) (by rw [hNl]; exact hoR)
          obtain ⟨a, c, e1, hr⟩ := h1
          simp only [Value.slice.injEq] at e1
          obtain ⟨rfl, _, rfl⟩ := e1
          refine Lib.hid (fun m hm => ?_)
          obtain ⟨b, o, rfl, hb, hcell⟩ := hr (by omega)
          exact ⟨b, o, rfl, fun wr hg => (grown_cell hg hb (by simp)).trans (hcell m hm)⟩
        have hcls := cls_filter (p := fun x => rcB G x u) HX.out.2.2.2.2.2.2.2.1 (fun x _ y hy => nbs_sub hy) hVm hVn (fun v _ => rcB_iff)
        have HV := Lib.hid (And.intro hcls (And.intro hgR hg.out))
        obtain ⟨N, hN⟩ : ∃ N, N = srt V := ⟨_, rfl⟩
        obtain ⟨n, hn⟩ : ∃ n, n = V.length := ⟨_, rfl⟩
        rw [← hN] at HRr HV hNl
        rw [← hn] at hNl hVl ⊢
        have HNl := Lib.hid hNl
        clear hVn hVm hoR hgR hcls hN hn hhas hrch hg b0 b1 b2 hNl c0
        go_wp2_with fail
        go_loopw [7, 9, 24] (fun v _ i wr => SqIn G u N w3 v i wr) (fun _ _ i _ => n - (intOf i).toNat)
        case atStart => exact ⟨0, Nat.zero_le _, rfl, ⟨rfl, .inl ⟨rfl, rfl⟩⟩, grown_refl _⟩
        case round =>
          obtain ⟨m, hm, rfl, hown, hg⟩ := hrel
          have hNl := HNl.out
          by_cases hmlt : m < n
          · have hmlt' : (m : Int) < n := by omega
            have hmN : m < N.length := by omega
            obtain ⟨b, o, rfl, hcell⟩ := HRr.out m hmN
            have c0 := hcell wr hg
            have hts := filter_take (p := fun x => rcB G x u) hmN
            have hfl2 := filter_len N (fun x => rcB G x u) m
            obtain ⟨x, hx⟩ : ∃ x, x = N[m] := ⟨_, rfl⟩
            rw [← hx] at hts c0
            obtain ⟨l, hl⟩ : ∃ l, l = (N.take m).filter (fun x => rcB G x u) := ⟨_, rfl⟩
            rw [← hl] at hts hown hfl2
            have hw1 : w1.grownBy wr none := grown_tr (grown_tr HV.out.2.2 HV.out.2.1) hg
            obtain ⟨b0, b1, b2⟩ := HB.out wr hw1
            have hrs := HRs.out wr (grown_tr HG.out hw1) x u
            obtain ⟨p, hp⟩ : ∃ p, p = rcB G x u := ⟨_, rfl⟩
            unfold RsPost at hrs
            rw [← hp] at hrs hts
            have hlb : l.length ≤ 1001 := by omega
            have HZ := Lib.hid (And.intro hts (And.intro hown hg))
            clear hts hown hg hcell hx hl hp hw1 hNl hmN hfl2
            cases p
            · go_wp2_with (go_at_call 41; refine hrs.mono ?_; rintro e w2 ⟨rfl, hg2⟩)
              go_roundw
              case rel =>
                obtain ⟨hts, hown, hg⟩ := HZ.out
                refine ⟨m + 1, by have := HNl.out; omega, by go_num, ?_, grown_tr hg hg2⟩
                rw [hts, if_neg (by simp), List.append_nil]
                exact own_new hown hg2
              case measure => simp [intOf]; omega
            · have HO : Hid (∀ w2, wr.grownBy w2 none → w2.ownsRow w3.heap.size intT 1 u7 l.length (l.map (Value.int .i64)) ∧ w3.heap.size ≤ w2.heap.size) := Lib.hid (fun w2 hg2 => ⟨own_new HZ.out.2.1 hg2, Nat.le_trans HZ.out.2.2.size hg2.size⟩)
              go_wp2_with (first
                | (go_at_call 41; refine hrs.mono ?_; rintro e w2 ⟨rfl, hg2⟩)
                | (at_builtin; refine wpx_app1 elI rfl (.tmp 32) (.tmp 34) rfl w3.heap.size u7 l.length _ rfl ((HO.out _ hg2).1.alloc _) w2.heap.size #[.int .i64 x] (heap_alloc_new w2 _) (w2.heap.size + 1) (by simp) 1 rfl rfl (by simp [Value.oneCell']) (by omega) (by unfold maxLen; omega) (by have := (HO.out _ hg2).2; omega) ?_; intro g5 c5 w5 ho5 hg5 hat hlt2 hsz))
              go_roundw
              case rel =>
                obtain ⟨hts, hown, hg⟩ := HZ.out
                refine ⟨m + 1, by have := HNl.out; omega, by go_num, ?_, grown_own (grown_tr hg hg2) (HO.out _ hg2).1 hg5⟩
                rw [hts, if_pos trivial, List.length_append, List.map_append]
                exact ho5
              case measure => simp [intOf]; omega
          · have hmlt' : ¬ (m : Int) < n := by omega
            obtain rfl : m = N.length := by omega
            rw [List.take_length] at hown
            obtain ⟨hcls, hgR, hg0⟩ := HV.out
            obtain ⟨c, hc⟩ : ∃ c, c = N.filter (fun x => rcB G x u) := ⟨_, rfl⟩
            rw [← hc] at hown hcls
            have huc : u ∈ c := (hcls.iff u).2 ⟨HX.out.2.2.2.2.2.2.2.1, .refl _, .refl _⟩
            have hc0 : 0 < c.length := List.length_pos_of_mem huc
            have hcl : c.length ≤ 1001 := by rw [hc]; exact Nat.le_trans (List.length_filter_le _ _) (by omega)
            obtain ⟨gl, cl, rfl, hgl, hgl2, -⟩ := own_row hown hc0
            have HY : Hid (wr.ownsRow w1.heap.size intsT 1 u3 out.length vals ∧ LLs wr w1.heap.size vals out ∧ wr.ownsRow w1.heap.size intT 1 u4 out.flatten.length (out.flatten.map (Value.int .i64)) ∧ Far u4 vals ∧ (∀ k, u4.ownBlock = some k → w1.heap.size ≤ k ∧ k < gl) ∧ w1.grownBy wr none) := by
              obtain ⟨hov, hll, hod, hfar, -, hg0, -⟩ := HX.out
              have h3 := grown_tr hgR hg
              exact Lib.hid ⟨own_new hov h3, hll.new h3, own_new hod h3, hfar, fun k hk => ⟨(hod.lt k hk).1, by have := (hod.lt k hk).2; have := hgR.size; omega⟩, grown_tr hg0 h3⟩
            have HC : Hid (∀ j x, (c.map (Value.int .i64))[j]? = some x → wr.cell? ((⟨gl, 0, none⟩ : Addr).add j) = some x) := Lib.hid (hown.cells (g := gl) rfl)
            have HK : Hid (w1.heap.size ≤ gl ∧ wr.ownsRow w1.heap.size intT 1 (.slice (some ⟨gl, 0, none⟩) c.length cl) c.length (c.map (Value.int .i64))) := Lib.hid ⟨by have := hg0.size; have := hgR.size; omega, own_mono hown (by have := hg0.size; have := hgR.size; omega)⟩
            have HCL := Lib.hid hcls
            have hfl2 := spInv_flat HX.out.2.2.2.2.1
            have HN2 := Lib.hid (And.intro hc huc)
            clear hcls hgR hg0 hown hg hc huc hgl hNl
            go_wp2_with (first
              | (at_builtin; refine wpx_append elI _ rfl (.tmp 37) (.tmp 38) rfl w1.heap.size u4 out.flatten.length _ rfl HY.out.2.2.1 ⟨gl, 0, none⟩ c.length cl (c.map (Value.int .i64)) rfl (by simp) HC.out (si_one c) (by omega) (by unfold maxLen; omega) (by have := HY.out.2.2.2.2.2.size; omega) ?_; intro v4 w4 ho4 hg4 hnil4 hat4)
              | (at_builtin; refine wpx_app1 elLL rfl (.tmp 40) (.tmp 42) rfl w1.heap.size u3 out.length vals rfl (((HY.out.1.kept hg4 (row_ne_row HY.out.1 HY.out.2.2.1 (by decide)))).alloc _) w4.heap.size #[.slice (some ⟨gl, 0, none⟩) c.length cl] (heap_alloc_new w4 _) (w4.heap.size + 1) (by simp) 1 rfl rfl (by simp [Value.oneCell']) (by omega) (by unfold maxLen; omega) (by have := HY.out.2.2.2.2.2.size; have := hg4.size; omega) ?_; intro g5 c5 w5 ho5 hg5 hat5 hlt5 hsz5))
            go_roundw
            case rel =>
              obtain ⟨hov, hll, hod, hfar, hlt4, hg1⟩ := HY.out
              obtain ⟨-, -, -, -, hsp, -, hts, hui, hp⟩ := HX.out
              obtain ⟨hBl, hlo⟩ := HK.out
              have hne : (Value.slice (some ⟨gl, 0, none⟩) c.length cl).ownBlock ≠ u4.ownBlock := fun e => by
                have := (hlt4 gl e.symm).2
                omega
              have hl4 : w4.ownsRow w1.heap.size intT 1 (.slice (some ⟨gl, 0, none⟩) c.length cl) c.length (c.map (Value.int .i64)) := hlo.kept hg4 (.inr hne)
              have hv4 := hov.kept hg4 (row_ne_row hov hod (by decide))
              have hv4a := hv4.alloc (.cells #[.slice (some ⟨gl, 0, none⟩) c.length cl] intsT)
              have hll4 := hll.kept hfar hg4
              have hfl : (out ++ [c]).flatten = out.flatten ++ c := by simp
              refine ⟨k + 1, out ++ [c], vals ++ [.slice (some ⟨gl, 0, none⟩) c.length cl], by omega, by go_num, by simp; omega, ?_, LLs.snoc (e := intsT) (by decide) hll4 (grown_refl _) hl4 (grown_alloc _ _) hv4a hg5, ?_, ?_, ?_, ?_⟩
              · rw [List.length_append]; exact ho5
              · rw [hfl, List.length_append, List.map_append]
                exact (own_new ho4 (grown_alloc w4 _)).kept hg5 (row_ne_row (own_new ho4 (grown_alloc w4 _)) hv4a (by decide))
              · intro x hx
                rcases List.mem_append.1 hx with hx | hx
                · rcases hfar x hx with h | h
                  · exact .inl h
                  · rcases hat4 with h4 | h4
                    · rw [h4]; exact .inr h
                    · rw [h4]
                      by_cases hk : x.ownBlock = none
                      · exact .inl hk
                      · refine .inr (fun e => ?_)
                        have := hll.lt x hx _ e
                        omega
                · rw [List.mem_singleton.1 hx]
                  refine .inr (fun e => ?_)
                  rcases hat4 with h4 | h4
                  · rw [h4] at e; exact hne e
                  · rw [h4] at e
                    have e' : some gl = some wr.heap.size := e
                    cases e'
                    omega
              · rw [hts]
                exact hsp.more hui (of_decide_eq_false hp.symm) HCL.out
              · refine grown_new (grown_tr (grown_new hg1 hg4 (fun k hk => (hlt4 k hk).1)) (grown_alloc w4 _)) hg5 (fun k hk => (hov.lt k hk).1)
            case measure => simp [intOf]; omega
      · clear hg
        go_wp2_with (go_at_call 39; refine hhas.mono ?_; rintro e w' ⟨rfl, rfl⟩)
        go_roundw
        case rel =>
          obtain ⟨hov, hll, hod, hfar, hsp, hg, hts, hui, hp⟩ := HX.out
          refine ⟨k + 1, out, vals, by omega, by go_num, by omega, hov, hll, hod, hfar, ?_, hg⟩
          rw [hts]
          exact hsp.skip (of_decide_eq_true hp.symm)
        case measure => simp [intOf]; omega
    · have hlt' : ¬ (k : Int) < G.nodes.length := by omega
      obtain rfl : k = G.nodes.length := by omega
      have HX := Lib.hid (And.intro hov (And.intro hll (And.intro hsp hg)))
      clear hov hll hod hfar hsp hg
      go_wp2_with fail
      go_ret
      obtain ⟨hov, hll, hsp, hg⟩ := HX.out
      have e : G.ids.take G.nodes.length = G.ids := List.take_of_length_le (by rw [Gr.length_ids]; exact Nat.le_refl _)
      rw [e] at hsp
      refine ⟨_, out, rfl, ?_, LLs.rows hov hll, grown_tr HG.out hg⟩
      rw [← en_edge HWell.out]
      exact hsp.ok (HWell.out.ids.imp (fun hab e => by omega))
end Go.Proofs.YtcbkalppclilfaaGreat
