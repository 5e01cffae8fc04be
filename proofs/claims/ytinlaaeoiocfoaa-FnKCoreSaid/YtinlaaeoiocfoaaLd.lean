/- The laws' own: zzFits1, well, few, fewOf. -/
import Derived.Test.YtinlaaeoiocfoaaLc
import Derived.Handy
namespace Go.Proofs.Ytinlaaeoiocfoaa
open Go.RowKit Go.MapKept

/-- a graph's value -/
structure GrR (w : World) (v : Value) (G : Gr) : Prop where
  parts : ∃ vn ve, v = .agg #[.bool G.dir, vn, ve] ∧ IntsR w vn G.nodes ∧ EdgesR w ve G.edges
theorem GrR.grown {w w' : World} {v : Value} {G : Gr} (h : GrR w v G) (hg : w.grownBy w' none) : GrR w' v G := by
  obtain ⟨vn, ve, h1, h2, h3⟩ := h.parts
  exact ⟨vn, ve, h1, h2.grown hg, h3.grown hg⟩

theorem box_at {w wr : World} {c : Array Value} {T : TypeId} (h : (w.alloc (.cells c T)).grownBy wr none) (j : Nat) : wr.cell? ⟨w.heap.size, j, none⟩ = c[j]? := by
  have h1 : (w.alloc (.cells c T)).heap[w.heap.size]? = some (.cells c T) := heap_alloc_new w _
  exact cell_at (grown_block h h1 (by simp))

set_option maxHeartbeats 400000 in
theorem fits_any {G : Gr} {v : Value} {w : World} (h : GrR w v G) : Calls Try.prog 4 #[v] w (fun e w' => w.grownBy w' none ∧ e = .returned (.bool (decide (G.nodes.length ≤ 2147483647 ∧ G.edges.length ≤ 2147483647)))) := by
  obtain ⟨vn, ve, rfl, ⟨an, cn, rfl, _⟩, ⟨ae, ce, rfl, _⟩⟩ := h.parts
  obtain ⟨n, hn⟩ : ∃ n, n = G.nodes.length := ⟨_, rfl⟩
  obtain ⟨m, hm⟩ : ∃ m, m = G.edges.length := ⟨_, rfl⟩
  rw [← hn, ← hm]
  clear hn hm h
  by_cases h1 : n ≤ 2147483647
  · by_cases h2 : m ≤ 2147483647
    · have hd : decide (n ≤ 2147483647 ∧ m ≤ 2147483647) = true := by simp [h1, h2]
      rw [hd]
      clear hd
      go_enter Try.func4, Try.ntmps4
      go_wp2_with fail
      go_ret
      exact ⟨Below.asGrown (by go_grown), rfl⟩
    · have hd : decide (n ≤ 2147483647 ∧ m ≤ 2147483647) = false := by simp [h2]
      rw [hd]
      clear hd
      go_enter Try.func4, Try.ntmps4
      go_wp2_with fail
      go_ret
      exact ⟨Below.asGrown (by go_grown), rfl⟩
  · have hd : decide (n ≤ 2147483647 ∧ m ≤ 2147483647) = false := by simp [h1]
    rw [hd]
    clear hd
    go_enter Try.func4, Try.ntmps4
    go_wp2_with fail
    go_ret
    exact ⟨Below.asGrown (by go_grown), rfl⟩

/-- what is asked of an edge -/
def EdOk (nodes : List Int) (e : E3) : Prop := e.1 ≠ e.2.1 ∧ e.1 ∈ nodes ∧ e.2.1 ∈ nodes ∧ e.2.2 ≤ 1099511627776 ∧ -1099511627776 ≤ e.2.2

def WellPost (G : Gr) (w : World) (e : Ending) (w' : World) : Prop := ∃ d : Bool, (d = true ↔ G.Well) ∧ e = .returned (.bool d) ∧ w.grownBy w' none

def WellRel (G : Gr) (w : World) (c : Array Value) (i : Value) (wr : World) : Prop := ∃ k : Nat, k ≤ G.edges.length ∧ i = .int .i64 k ∧ (w.alloc (.cells c 25)).grownBy wr none ∧ ∀ j, (h : j < G.edges.length) → j < k → EdOk G.nodes G.edges[j]

theorem nodup_srt {l : List Int} : (srt l).Pairwise (· < ·) ↔ l.Nodup :=
  ⟨fun h => (srt_perm l).nodup_iff.1 (h.imp (by intro a b hab hh; omega)), srt_nodup⟩

set_option maxHeartbeats 1000000 in
theorem well_any {G : Gr} {v : Value} {w : World} (h : GrR w v G) (hnl : G.nodes.length ≤ 1000000) (hel : G.edges.length ≤ 1000000) : Calls Try.prog 17 #[v] w (WellPost G w) := by
  obtain ⟨vn, ve, rfl, hn, he⟩ := h.parts
  clear h
  by_cases hnd : (srt G.nodes).Pairwise (· < ·)
  · have hd : decide ((srt G.nodes).Pairwise (· < ·)) = true := by simp [hnd]
    have HND := Lib.hid (nodup_srt.1 hnd)
    clear hnd
    go_enter Try.func17, Try.ntmps17
    go_wp2_with (first
      | (go_at_call 9; refine (sorted_any hnl (hn.grown (grown_alloc w _))).mono ?_; rintro e w1 ⟨v1, rfl, ho1, hg1⟩)
      | (go_at_call 23; refine (rising_any (l := srt G.nodes) (by rw [length_srt]; exact hnl) (IntsR.of_own (by rw [length_srt]; exact ho1))).mono ?_; rintro e w2 ⟨rfl, hg2⟩; rw [hd]))
    try go_frame
    have hgw2 := grown_tr hg1 hg2
    clear hg1 hg2 ho1 hd
    obtain ⟨c, hc⟩ : ∃ c : Array Value, c = #[.bool G.dir, vn, ve] := ⟨_, rfl⟩
    have HC := Lib.hid hc
    rw [← hc] at hgw2
    clear hc
    obtain ⟨ae, ce, rfl, hec⟩ := he
    have HE := Lib.hid hec
    clear hec
    go_loopw [3, 4] (fun i _ wr => WellRel G w c i wr) (fun i _ _ => G.edges.length - (intOf i).toNat)
    case atStart => exact ⟨0, Nat.zero_le _, rfl, hgw2, fun j h1 h2 => absurd h2 (by omega)⟩
    case round =>
      clear hgw2
      obtain ⟨k, hk, rfl, hgw, hok⟩ := hrel
      have hb1 : wr.cell? ⟨w.heap.size, 1, none⟩ = some vn := by rw [box_at hgw, HC.out]; rfl
      have hb2 : wr.cell? ⟨w.heap.size, 2, none⟩ = some (.slice ae G.edges.length ce) := by rw [box_at hgw, HC.out]; rfl
      have HO := Lib.hid hok
      clear hok
      have hBs : w.heap.size < wr.heap.size := by have := hgw.size; simp at this; omega
      have hb1' : ∀ o : Obj, (wr.alloc o).cell? ⟨w.heap.size, 1, none⟩ = some vn := fun o => by rw [World.cell?_alloc_past _ _ _ hBs]; exact hb1
      by_cases hlt : k < G.edges.length
      · obtain ⟨be, oe, hae, hbe, hcell⟩ := HE.out (by omega)
        subst hae
        have hcells := hcell k hlt
        have hge : (w.alloc (.cells c 25)).heap.size > be := by simp; omega
        rw [← grown_cell (grown_tr (grown_alloc w _) hgw) hbe (by simp), ← grown_cell (grown_tr (grown_alloc w _) hgw) hbe (by simp), ← grown_cell (grown_tr (grown_alloc w _) hgw) hbe (by simp)] at hcells
        obtain ⟨q, hq⟩ : ∃ q, q = G.edges[k] := ⟨_, rfl⟩
        rw [← hq] at hcells
        obtain ⟨u, x, z⟩ := q
        obtain ⟨c0, c1, c2⟩ := hcells
        simp only at c0 c1 c2
        have hN : IntsR wr vn G.nodes := (hn.grown (grown_alloc w _)).grown hgw
        have HQ := Lib.hid hq
        clear hq hcell hge hbe
        by_cases t1 : u = x
        · have hb : (u == x) = true := by simpa using t1
          have HB := Lib.hid (show ¬ G.Well from fun hw => (hw.2 (u, x, z) (HQ.out ▸ List.getElem_mem hlt)).1 t1)
          clear t1
          go_wp2_with (go_at_call 24; refine (has_any _ hnl (hN.grown (Below.asGrown (by go_grown)))).mono ?_; rintro e w2 ⟨rfl, rfl⟩; skip)
          go_ret
          refine ⟨false, ⟨nofun, fun h => ?_⟩, rfl, ?_⟩
          · exact absurd h HB.out
          · exact grown_tr (grown_tr (grown_alloc w _) hgw) (Below.asGrown (by go_grown))
        · have hb : (u == x) = false := by simpa using t1
          by_cases t2 : u ∈ G.nodes
          · have hd2 : decide (u ∈ G.nodes) = true := by simpa using t2
            by_cases t3 : x ∈ G.nodes
            · have hd3 : decide (x ∈ G.nodes) = true := by simpa using t3
              by_cases t4 : 1099511627776 < z
              · have HB := Lib.hid (show ¬ G.Well from fun hw => absurd (hw.2 (u, x, z) (HQ.out ▸ List.getElem_mem hlt)).2.2.2.1 (by simp only; omega))
                have hd4 : decide (1099511627776 < z) = true := by simpa using t4
                clear t1 t2 t3
                go_wp2_with (go_at_call 24; refine (has_any _ hnl (hN.grown (Below.asGrown (by go_grown)))).mono ?_; rintro e w2 ⟨rfl, rfl⟩; simp only [hd2, hd3])
                go_ret
                refine ⟨false, ⟨nofun, fun h => ?_⟩, rfl, ?_⟩
                · exact absurd h HB.out
                · exact grown_tr (grown_tr (grown_alloc w _) hgw) (Below.asGrown (by go_grown))
              · have hd4 : decide (1099511627776 < z) = false := by simpa using t4
                by_cases t5 : z < -1099511627776
                · have HB := Lib.hid (show ¬ G.Well from fun hw => absurd (hw.2 (u, x, z) (HQ.out ▸ List.getElem_mem hlt)).2.2.2.2 (by simp only; omega))
                  have hd5 : decide (z < -1099511627776) = true := by simpa using t5
                  clear t1 t2 t3
                  go_wp2_with (go_at_call 24; refine (has_any _ hnl (hN.grown (Below.asGrown (by go_grown)))).mono ?_; rintro e w2 ⟨rfl, rfl⟩; simp only [hd2, hd3])
                  go_ret
                  refine ⟨false, ⟨nofun, fun h => ?_⟩, rfl, ?_⟩
                  · exact absurd h HB.out
                  · exact grown_tr (grown_tr (grown_alloc w _) hgw) (Below.asGrown (by go_grown))
                · have hd5 : decide (z < -1099511627776) = false := by simpa using t5
                  have HT := Lib.hid (And.intro t1 (And.intro t2 t3))
                  clear t1 t2 t3
                  go_wp2_with (go_at_call 24; refine (has_any _ hnl (hN.grown (Below.asGrown (by go_grown)))).mono ?_; rintro e w2 ⟨rfl, rfl⟩; simp only [hd2, hd3])
                  go_roundw
                  case rel =>
                    refine ⟨k + 1, by omega, by go_num, grown_tr hgw (Below.asGrown (by go_grown)), fun j h h' => ?_⟩
                    by_cases hj : j = k
                    · subst hj
                      obtain ⟨t1, t2, t3⟩ := HT.out
                      rw [← HQ.out]
                      exact ⟨t1, t2, t3, by simp only; omega, by simp only; omega⟩
                    · exact HO.out j h (by omega)
                  case measure => simp [intOf]; omega
            · have hd3 : decide (x ∈ G.nodes) = false := by simpa using t3
              have HB := Lib.hid (show ¬ G.Well from fun hw => t3 (hw.2 (u, x, z) (HQ.out ▸ List.getElem_mem hlt)).2.2.1)
              clear t1 t2 t3
              go_wp2_with (go_at_call 24; refine (has_any _ hnl (hN.grown (Below.asGrown (by go_grown)))).mono ?_; rintro e w2 ⟨rfl, rfl⟩; simp only [hd2, hd3])
              go_ret
              refine ⟨false, ⟨nofun, fun h => ?_⟩, rfl, ?_⟩
              · exact absurd h HB.out
              · exact grown_tr (grown_tr (grown_alloc w _) hgw) (Below.asGrown (by go_grown))
          · have hd2 : decide (u ∈ G.nodes) = false := by simpa using t2
            have HB := Lib.hid (show ¬ G.Well from fun hw => t2 (hw.2 (u, x, z) (HQ.out ▸ List.getElem_mem hlt)).2.1)
            clear t1 t2
            go_wp2_with (go_at_call 24; refine (has_any _ hnl (hN.grown (Below.asGrown (by go_grown)))).mono ?_; rintro e w2 ⟨rfl, rfl⟩; simp only [hd2])
            go_ret
            refine ⟨false, ⟨nofun, fun h => ?_⟩, rfl, ?_⟩
            · exact absurd h HB.out
            · exact grown_tr (grown_tr (grown_alloc w _) hgw) (Below.asGrown (by go_grown))
      · have hkl : ¬ (k : Int) < G.edges.length := by omega
        go_wp2_with fail
        go_ret
        refine ⟨true, ⟨fun _ => ⟨HND.out, fun e he => ?_⟩, fun _ => rfl⟩, rfl, grown_tr (grown_alloc w _) hgw⟩
        obtain ⟨j, hj, rfl⟩ := List.getElem_of_mem he
        exact HO.out j hj (by omega)
  · have hd : decide ((srt G.nodes).Pairwise (· < ·)) = false := by simp [hnd]
    have HND := Lib.hid (fun hh => hnd (nodup_srt.2 hh))
    clear hnd
    go_enter Try.func17, Try.ntmps17
    go_wp2_with (first
      | (go_at_call 9; refine (sorted_any hnl (hn.grown (grown_alloc w _))).mono ?_; rintro e w1 ⟨v1, rfl, ho1, hg1⟩)
      | (go_at_call 23; refine (rising_any (l := srt G.nodes) (by rw [length_srt]; exact hnl) (IntsR.of_own (by rw [length_srt]; exact ho1))).mono ?_; rintro e w2 ⟨rfl, hg2⟩; rw [hd]))
    go_ret
    exact ⟨false, ⟨nofun, fun h => absurd h.1 HND.out⟩, rfl, grown_tr (grown_tr (grown_alloc w _) hg1) hg2⟩
end Go.Proofs.Ytinlaaeoiocfoaa
