/- The law FnSortByAscending, walked. -/
import Derived.Test.YtdllkoiddlcnmaaGreatKt
import Derived.Test.YtdllkoiddlcnmaaGreatKw
import Derived.Test.YtdllkoiddlcnmaaGreatJa
import Derived.Test.YtdllkoiddlcnmaaGreatSm
namespace Go.Proofs.YtdllkoiddlcnmaaGreat
open Go.MapKept Go.RowKit

theorem by_ord {P ids : List Int} {vp : Value} {bp : Nat} {w : World} (hP : IntsR w vp P) (hb : w.cell? ⟨bp, 0, none⟩ = some vp) (hbl : bp < w.heap.size) (hpl : P.length ≤ 1000) (hin : ∀ x ∈ ids, x ∈ P) :
    ∀ W B e v l, w.grownBy W none → w.heap.size ≤ B → W.ownsRow B e 1 v l.length (l.map nodeV) → l.length ≤ 1000 → (∀ y ∈ l, y ∈ ids) → Calls Tryz.prog 44 #[v, .pointer (some ⟨bp, 0, none⟩)] W (KPost (byP P) l B e v W) :=
  fun W B e v l hW hB ho hl hm => by_any hpl (fun x hx => hin x (hm x hx)) (fun W' hW' => by
    have hg : w.grownBy W' none := grown_new hW hW' (fun k hk => Nat.le_trans hB (ho.lt k hk).1)
    exact ⟨hP.grown hg, (grown_cell hg hbl (by simp)).trans hb⟩) ho (by omega)

set_option maxHeartbeats 4000000 in
set_option maxRecDepth 100000 in
theorem isortBy_ok {G : Gr} {P : List Int} {vg vp : Value} {w : World} (h : GrR w vg G) (hp : IntsR w vp P) (hG : G.Well) (hd : G.dir = true) (hnl : G.nodes.length ≤ 1000) (hel : G.edges.length ≤ 8000) (hPn : P.Nodup) (hPl : P.length = G.ids.length) (hPm : ∀ x, x ∈ P ↔ x ∈ G.ids) (ha : AllOne (compK (byP P) G.ids G.mat)) :
    Calls Tryz.prog 23 #[vg, vp] w (StOk (compK (byP P) G.ids G.mat)  w) := by
  have hone : ∀ O O2, Calls Tryz.prog 38 #[vg] ((w.alloc O).alloc O2) (fun e w' => ∃ p0, e = .returned (.tuple #[dirV p0, .bool true]) ∧ PlnR w' p0 G.ids G.mat ∧ ((w.alloc O).alloc O2).grownBy w' none) := fun O O2 =>
    (oneWay_any (h.grown (grown_tr (grown_alloc w O) (grown_alloc _ O2))) hG hnl (by omega)).mono (fun e w' ⟨p0, h1, h2⟩ => ⟨p0, by rw [h1, hd], h2⟩)
  have hids : G.ids.length ≤ 1000 := by rw [Gr.length_ids]; exact hnl
  have hclo : ∀ x ∈ G.ids, ∀ y ∈ outs G.ids G.mat x, y ∈ G.ids := fun x _ y hy => outs_in hy
  have hnd : G.ids.Nodup := hG.ids.imp (by intro a b h; omega)
  have hok := (compK_ok (byP_perm P) hclo).comp hnd hids
  have HD := Lib.hid (cycL_len (byP_perm P) hok)
  have htp : ∀ W p0 bp, w.grownBy W none → W.cell? ⟨bp, 0, none⟩ = some vp → bp < W.heap.size → PlnR W p0 G.ids G.mat → Calls Tryz.prog 41 #[.iface dirT (dirV p0), byV bp] W (TOk (compK (byP P) G.ids G.mat)  W) := fun W p0 bp hW hb hbl hpl =>
    (sortKst_by (w := W) (p0 := p0) (byP_perm P) (by_ord (hp.grown hW) hb hbl (by omega) (fun x hx => (hPm x).2 hx)) hpl hids hG.ids hclo).mono (fun _ _ k => SkPost.good ha k)
  have htw := fun W (hW : w.grownBy W none) => twice_any (hp.grown hW) hPn (by omega)
  have HLEN : Hid ((ord (compK (byP P) G.ids G.mat)).length ≤ 1000) := Lib.hid (by have := hok.len; unfold ord; rw [List.length_map]; simpa using this)
  obtain ⟨C, hC⟩ : ∃ C, C = compK (byP P) G.ids G.mat := ⟨_, rfl⟩
  rw [← hC] at HLEN HD htp ⊢
  have HT := Lib.hid htp
  have hidx : ∀ W p0, PlnR W p0 G.ids G.mat → ∀ x ∈ P, Calls Tryz.prog 43 #[.pointer (some ⟨p0, 0, none⟩), .int .i64 x] W (fun e w' => ∃ m : Int, e = .returned (.tuple #[.int .i64 m, .bool true]) ∧ W = w') := fun W p0 hpl x hx => by
    obtain ⟨vids, hc, hint, hp⟩ := hpl.ids
    exact (plain_index (x := x) hc hint hG.ids (by omega)).mono (fun e w' ⟨m, h1, h2, h3⟩ => ⟨m, by rw [h2, decide_eq_true ((hPm x).1 hx)], h3.symm⟩)
  have HI := Lib.hid hidx
  obtain ⟨vn, ve, rfl, ⟨an, cn, rfl, _⟩, ⟨ae, ce, rfl, _⟩⟩ := h.parts
  obtain ⟨ap, cp, rfl, hpc⟩ := hp
  obtain ⟨n, hn⟩ : ∃ n, n = P.length := ⟨_, rfl⟩
  have HP : Hid (0 < n → ∃ b o, ap = some ⟨b, o, none⟩ ∧ ∀ W, w.grownBy W none → ∀ i, (hi : i < P.length) → W.cell? ⟨b, o + i, none⟩ = some (.int .i64 P[i])) := Lib.hid (fun h0 => by
    obtain ⟨b, o, rfl, hb, hc⟩ := hpc (by omega)
    exact ⟨b, o, rfl, fun W hW i hi => (grown_cell hW hb (by simp)).trans (hc i hi)⟩)
  rw [← hn] at htw HT hPl ⊢
  have HTW := Lib.hid htw
  have hn1000 : n ≤ 1000 := by omega
  have HPL : Hid (∀ W p0, PlnR W p0 G.ids G.mat → ∃ ai ci, W.cell? ⟨p0, 0, none⟩ = some (.slice ai n ci)) := Lib.hid (fun W p0 hpl => by
    obtain ⟨vids, hc, ⟨ai, ci, e, -⟩, -⟩ := hpl.ids
    exact ⟨ai, ci, by rw [hc, e, hPl]⟩)
  have HBX : Hid (∀ wx, ((w.alloc (.cells #[.bool G.dir, .slice an G.nodes.length cn, .slice ae G.edges.length ce] 25)).alloc (.cells #[.slice ap n cp] 22)).grownBy wx none → wx.cell? ⟨w.heap.size + 1, 0, none⟩ = some (.slice ap n cp) ∧ w.heap.size + 1 < wx.heap.size ∧ w.grownBy wx none) := Lib.hid (fun wx hg => by
    have b1 := grown_block hg (heap_alloc2 w (.cells #[.bool G.dir, .slice an G.nodes.length cn, .slice ae G.edges.length ce] 25) (.cells #[.slice ap n cp] 22)) (by simp)
    exact ⟨cell_at b1, block_lt b1, grown_tr (grown_tr (grown_alloc _ _) (grown_alloc _ _)) hg⟩)
  have HN := Lib.hid hn
  clear h hC htp hok ha hclo hnd hG hel hnl hids hd hPm hPn hpc htw hidx hPl hn
  go_enter Tryz.func23, Tryz.ntmps23
  go_wp2_with (go_at_call 38; refine (hone _ _).mono ?_; intro e w1 hp; obtain ⟨p0, rfl, hp1, hg1⟩ := hp; replace hp1 := Lib.hid hp1; replace hg1 := Lib.hid hg1)
  obtain ⟨W2, hW2⟩ : ∃ W2, W2 = w1.alloc (.cells #[.pointer (some ⟨p0, 0, none⟩)] dirT) := ⟨_, rfl⟩
  have h12 : w1.grownBy W2 none := by rw [hW2]; exact grown_alloc _ _
  have hbd : W2.heap[w1.heap.size]? = some (.cells #[.pointer (some ⟨p0, 0, none⟩)] dirT (0, 0)) := by rw [hW2]; exact heap_alloc_new w1 _
  have hpl2 := hp1.out.grown h12
  obtain ⟨ai, ci, hci⟩ := HPL.out W2 p0 hpl2
  have hp0 : p0 < W2.heap.size := by obtain ⟨_, _, _, h9⟩ := hpl2.ids; exact h9
  have HS : Hid (∀ W, W2.grownBy W none → (W.cell? ⟨w.heap.size + 1, 0, none⟩ = some (.slice ap n cp) ∧ W.cell? ⟨w1.heap.size, 0, none⟩ = some (.pointer (some ⟨p0, 0, none⟩)) ∧ W.cell? ⟨p0, 0, none⟩ = some (.slice ai n ci)) ∧ w.grownBy W none ∧ PlnR W p0 G.ids G.mat ∧ w.heap.size + 1 < W.heap.size) := Lib.hid (fun W hW => by
    obtain ⟨k1, k2, k3⟩ := HBX.out W (grown_tr hg1.out (grown_tr h12 hW))
    exact ⟨⟨k1, cell_at (grown_block hW hbd (by simp)), (grown_cell hW hp0 (by simp)).trans hci⟩, k3, hpl2.grown hW, k2⟩)
  obtain ⟨⟨s0, s1, s2⟩, hgW2, -, -⟩ := HS.out W2 (grown_refl _)
  have HGW2 := Lib.hid hgW2
  rw [← hW2]
  clear hW2 h12 hbd hpl2 hci hp0 hgW2 HPL HBX hone
  go_region_held3 (fun w' => w'.cell? ⟨w.heap.size + 1, 0, none⟩ = some (.slice ap n cp) ∧ w'.cell? ⟨w1.heap.size, 0, none⟩ = some (.pointer (some ⟨p0, 0, none⟩)) ∧ w'.cell? ⟨p0, 0, none⟩ = some (.slice ai n ci)) (first | go_keep | exact (HS.out _ (grown_tr (grown_drew _) hg3)).1) (first
    | (go_at_call 42; refine (HTW.out _ (grown_tr HGW2.out (grown_drew _))).mono ?_; rintro e w3 ⟨rfl, hg3⟩))
  have HG3 := Lib.hid (grown_tr (grown_drew W2) hg3 : W2.grownBy w3 none)
  obtain ⟨⟨t0, t1, t2⟩, -⟩ := HS.out w3 HG3.out
  clear hg3 s0 s1 s2
  go_wp2_with fail
  go_loopw [11, 12, 13, 40] (fun _ _ _ i wr => ∃ k : Nat, k ≤ n ∧ i = .int .i64 k ∧ w3.grownBy wr none) (fun _ _ _ i _ => n - (intOf i).toNat)
  case atStart => exact ⟨0, Nat.zero_le _, rfl, grown_refl _⟩
  case round =>
    clear t0 t1 t2
    obtain ⟨k, hk, rfl, hg⟩ := hrel
    obtain ⟨⟨t0, t1, t2⟩, hgw, hpl, hlt9⟩ := HS.out wr (grown_tr HG3.out hg)
    by_cases hlt : k < n
    · have hlt' : (k : Int) < n := by omega
      obtain ⟨b, o, rfl, hc⟩ := HP.out (by omega)
      have hkP : k < P.length := by rw [← HN.out]; exact hlt
      have c1 := hc wr hgw k hkP
      have hix := HI.out wr p0 hpl P[k] (List.getElem_mem hkP)
      obtain ⟨x, hx⟩ : ∃ x, x = P[k] := ⟨_, rfl⟩
      rw [← hx] at c1 hix
      have HG := Lib.hid hg
      clear hx hc hg hgw hpl
      go_wp2_with (go_at_call 43; refine hix.mono ?_; rintro e w' ⟨m, rfl, rfl⟩)
      go_roundw
      case rel => exact ⟨k + 1, by omega, by go_num, HG.out⟩
      case measure => simp [intOf]; omega
    · have hlt' : ¬ (k : Int) < n := by omega
      have htp := HT.out wr p0 (w.heap.size + 1) hgw t0 hlt9 hpl
      have HGW := Lib.hid hgw
      clear hg hgw hpl hlt9
      go_wp2_with (first
        | (go_at_call 41; refine htp.mono ?_; intro e w4 hp; obtain ⟨v6, rfl, o6, hg4⟩ := hp; have hsl := slots_ok o6 HLEN.out; unfold SlOk at hsl; have hgw : Hid (w.grownBy w4 none) := Lib.hid (grown_tr HGW.out hg4); clear o6 hg4)
        | (go_at_call 40; refine hsl.mono ?_; intro e w5 hp; obtain ⟨vo, rfl, o9, hg5⟩ := hp; replace o9 := Lib.hid o9))
      refine bodyPost_ret (v := .tuple #[vo, .slice none 0 0, .bool true, .bool false]) (by simp [results, Tryz.results23, go_sem]) rfl ⟨vo, rfl, own_mono o9.out (hgw.out).size, grown_tr hgw.out hg5⟩
set_option maxHeartbeats 4000000 in
set_option maxRecDepth 100000 in
theorem isortBy_bad {G : Gr} {P : List Int} {vg vp : Value} {w : World} (h : GrR w vg G) (hp : IntsR w vp P) (hG : G.Well) (hd : G.dir = true) (hnl : G.nodes.length ≤ 1000) (hel : G.edges.length ≤ 8000) (hPn : P.Nodup) (hPl : P.length = G.ids.length) (hPm : ∀ x, x ∈ P ↔ x ∈ G.ids) (ha : ¬ AllOne (compK (byP P) G.ids G.mat)) :
    Calls Tryz.prog 23 #[vg, vp] w (StCyc (compK (byP P) G.ids G.mat) (cycL (byP P) (compK (byP P) G.ids G.mat)) w) := by
  have hone : ∀ O O2, Calls Tryz.prog 38 #[vg] ((w.alloc O).alloc O2) (fun e w' => ∃ p0, e = .returned (.tuple #[dirV p0, .bool true]) ∧ PlnR w' p0 G.ids G.mat ∧ ((w.alloc O).alloc O2).grownBy w' none) := fun O O2 =>
    (oneWay_any (h.grown (grown_tr (grown_alloc w O) (grown_alloc _ O2))) hG hnl (by omega)).mono (fun e w' ⟨p0, h1, h2⟩ => ⟨p0, by rw [h1, hd], h2⟩)
  have hids : G.ids.length ≤ 1000 := by rw [Gr.length_ids]; exact hnl
  have hclo : ∀ x ∈ G.ids, ∀ y ∈ outs G.ids G.mat x, y ∈ G.ids := fun x _ y hy => outs_in hy
  have hnd : G.ids.Nodup := hG.ids.imp (by intro a b h; omega)
  have hok := (compK_ok (byP_perm P) hclo).comp hnd hids
  have HD := Lib.hid (cycL_len (byP_perm P) hok)
  have htp : ∀ W p0 bp, w.grownBy W none → W.cell? ⟨bp, 0, none⟩ = some vp → bp < W.heap.size → PlnR W p0 G.ids G.mat → Calls Tryz.prog 41 #[.iface dirT (dirV p0), byV bp] W (TCyc (compK (byP P) G.ids G.mat) (cycL (byP P) (compK (byP P) G.ids G.mat)) W) := fun W p0 bp hW hb hbl hpl =>
    (sortKst_by (w := W) (p0 := p0) (byP_perm P) (by_ord (hp.grown hW) hb hbl (by omega) (fun x hx => (hPm x).2 hx)) hpl hids hG.ids hclo).mono (fun _ _ k => SkPost.bad ha k)
  have htw := fun W (hW : w.grownBy W none) => twice_any (hp.grown hW) hPn (by omega)
  have HLEN : Hid ((ord (compK (byP P) G.ids G.mat)).length ≤ 1000) := Lib.hid (by have := hok.len; unfold ord; rw [List.length_map]; simpa using this)
  obtain ⟨C, hC⟩ : ∃ C, C = compK (byP P) G.ids G.mat := ⟨_, rfl⟩
  rw [← hC] at HLEN HD htp ⊢
  have HT := Lib.hid htp
  have hidx : ∀ W p0, PlnR W p0 G.ids G.mat → ∀ x ∈ P, Calls Tryz.prog 43 #[.pointer (some ⟨p0, 0, none⟩), .int .i64 x] W (fun e w' => ∃ m : Int, e = .returned (.tuple #[.int .i64 m, .bool true]) ∧ W = w') := fun W p0 hpl x hx => by
    obtain ⟨vids, hc, hint, hp⟩ := hpl.ids
    exact (plain_index (x := x) hc hint hG.ids (by omega)).mono (fun e w' ⟨m, h1, h2, h3⟩ => ⟨m, by rw [h2, decide_eq_true ((hPm x).1 hx)], h3.symm⟩)
  have HI := Lib.hid hidx
  obtain ⟨vn, ve, rfl, ⟨an, cn, rfl, _⟩, ⟨ae, ce, rfl, _⟩⟩ := h.parts
  obtain ⟨ap, cp, rfl, hpc⟩ := hp
  obtain ⟨n, hn⟩ : ∃ n, n = P.length := ⟨_, rfl⟩
  have HP : Hid (0 < n → ∃ b o, ap = some ⟨b, o, none⟩ ∧ ∀ W, w.grownBy W none → ∀ i, (hi : i < P.length) → W.cell? ⟨b, o + i, none⟩ = some (.int .i64 P[i])) := Lib.hid (fun h0 => by
    obtain ⟨b, o, rfl, hb, hc⟩ := hpc (by omega)
    exact ⟨b, o, rfl, fun W hW i hi => (grown_cell hW hb (by simp)).trans (hc i hi)⟩)
  rw [← hn] at htw HT hPl ⊢
  have HTW := Lib.hid htw
  have hn1000 : n ≤ 1000 := by omega
  have HPL : Hid (∀ W p0, PlnR W p0 G.ids G.mat → ∃ ai ci, W.cell? ⟨p0, 0, none⟩ = some (.slice ai n ci)) := Lib.hid (fun W p0 hpl => by
    obtain ⟨vids, hc, ⟨ai, ci, e, -⟩, -⟩ := hpl.ids
    exact ⟨ai, ci, by rw [hc, e, hPl]⟩)
  have HBX : Hid (∀ wx, ((w.alloc (.cells #[.bool G.dir, .slice an G.nodes.length cn, .slice ae G.edges.length ce] 25)).alloc (.cells #[.slice ap n cp] 22)).grownBy wx none → wx.cell? ⟨w.heap.size + 1, 0, none⟩ = some (.slice ap n cp) ∧ w.heap.size + 1 < wx.heap.size ∧ w.grownBy wx none) := Lib.hid (fun wx hg => by
    have b1 := grown_block hg (heap_alloc2 w (.cells #[.bool G.dir, .slice an G.nodes.length cn, .slice ae G.edges.length ce] 25) (.cells #[.slice ap n cp] 22)) (by simp)
    exact ⟨cell_at b1, block_lt b1, grown_tr (grown_tr (grown_alloc _ _) (grown_alloc _ _)) hg⟩)
  have HN := Lib.hid hn
  clear h hC htp hok ha hclo hnd hG hel hnl hids hd hPm hPn hpc htw hidx hPl hn
  go_enter Tryz.func23, Tryz.ntmps23
  go_wp2_with (go_at_call 38; refine (hone _ _).mono ?_; intro e w1 hp; obtain ⟨p0, rfl, hp1, hg1⟩ := hp; replace hp1 := Lib.hid hp1; replace hg1 := Lib.hid hg1)
  obtain ⟨W2, hW2⟩ : ∃ W2, W2 = w1.alloc (.cells #[.pointer (some ⟨p0, 0, none⟩)] dirT) := ⟨_, rfl⟩
  have h12 : w1.grownBy W2 none := by rw [hW2]; exact grown_alloc _ _
  have hbd : W2.heap[w1.heap.size]? = some (.cells #[.pointer (some ⟨p0, 0, none⟩)] dirT (0, 0)) := by rw [hW2]; exact heap_alloc_new w1 _
  have hpl2 := hp1.out.grown h12
  obtain ⟨ai, ci, hci⟩ := HPL.out W2 p0 hpl2
  have hp0 : p0 < W2.heap.size := by obtain ⟨_, _, _, h9⟩ := hpl2.ids; exact h9
  have HS : Hid (∀ W, W2.grownBy W none → (W.cell? ⟨w.heap.size + 1, 0, none⟩ = some (.slice ap n cp) ∧ W.cell? ⟨w1.heap.size, 0, none⟩ = some (.pointer (some ⟨p0, 0, none⟩)) ∧ W.cell? ⟨p0, 0, none⟩ = some (.slice ai n ci)) ∧ w.grownBy W none ∧ PlnR W p0 G.ids G.mat ∧ w.heap.size + 1 < W.heap.size) := Lib.hid (fun W hW => by
    obtain ⟨k1, k2, k3⟩ := HBX.out W (grown_tr hg1.out (grown_tr h12 hW))
    exact ⟨⟨k1, cell_at (grown_block hW hbd (by simp)), (grown_cell hW hp0 (by simp)).trans hci⟩, k3, hpl2.grown hW, k2⟩)
  obtain ⟨⟨s0, s1, s2⟩, hgW2, -, -⟩ := HS.out W2 (grown_refl _)
  have HGW2 := Lib.hid hgW2
  rw [← hW2]
  clear hW2 h12 hbd hpl2 hci hp0 hgW2 HPL HBX hone
  go_region_held3 (fun w' => w'.cell? ⟨w.heap.size + 1, 0, none⟩ = some (.slice ap n cp) ∧ w'.cell? ⟨w1.heap.size, 0, none⟩ = some (.pointer (some ⟨p0, 0, none⟩)) ∧ w'.cell? ⟨p0, 0, none⟩ = some (.slice ai n ci)) (first | go_keep | exact (HS.out _ (grown_tr (grown_drew _) hg3)).1) (first
    | (go_at_call 42; refine (HTW.out _ (grown_tr HGW2.out (grown_drew _))).mono ?_; rintro e w3 ⟨rfl, hg3⟩))
  have HG3 := Lib.hid (grown_tr (grown_drew W2) hg3 : W2.grownBy w3 none)
  obtain ⟨⟨t0, t1, t2⟩, -⟩ := HS.out w3 HG3.out
  clear hg3 s0 s1 s2
  go_wp2_with fail
  go_loopw [11, 12, 13, 40] (fun _ _ _ i wr => ∃ k : Nat, k ≤ n ∧ i = .int .i64 k ∧ w3.grownBy wr none) (fun _ _ _ i _ => n - (intOf i).toNat)
  case atStart => exact ⟨0, Nat.zero_le _, rfl, grown_refl _⟩
  case round =>
    clear t0 t1 t2
    obtain ⟨k, hk, rfl, hg⟩ := hrel
    obtain ⟨⟨t0, t1, t2⟩, hgw, hpl, hlt9⟩ := HS.out wr (grown_tr HG3.out hg)
    by_cases hlt : k < n
    · have hlt' : (k : Int) < n := by omega
      obtain ⟨b, o, rfl, hc⟩ := HP.out (by omega)
      have hkP : k < P.length := by rw [← HN.out]; exact hlt
      have c1 := hc wr hgw k hkP
      have hix := HI.out wr p0 hpl P[k] (List.getElem_mem hkP)
      obtain ⟨x, hx⟩ : ∃ x, x = P[k] := ⟨_, rfl⟩
      rw [← hx] at c1 hix
      have HG := Lib.hid hg
      clear hx hc hg hgw hpl
      go_wp2_with (go_at_call 43; refine hix.mono ?_; rintro e w' ⟨m, rfl, rfl⟩)
      go_roundw
      case rel => exact ⟨k + 1, by omega, by go_num, HG.out⟩
      case measure => simp [intOf]; omega
    · have hlt' : ¬ (k : Int) < n := by omega
      have htp := HT.out wr p0 (w.heap.size + 1) hgw t0 hlt9 hpl
      have HGW := Lib.hid hgw
      clear hg hgw hpl hlt9
      go_wp2_with (first
        | (go_at_call 41; refine htp.mono ?_; intro e w4 hp; obtain ⟨v6, s7, rfl, o6, hcy, hg4⟩ := hp; have hsl := slots_cyc o6 HLEN.out hcy HD.out.1 HD.out.2; unfold SlCyc at hsl; clear hcy; have hgw : Hid (w.grownBy w4 none) := Lib.hid (grown_tr HGW.out hg4); clear o6 hg4)
        | (go_at_call 40; refine hsl.mono ?_; intro e w5 hp; obtain ⟨vo, vc, rfl, o9, r9, hg5⟩ := hp; replace o9 := Lib.hid (And.intro o9 r9); clear r9))
      refine bodyPost_ret (v := .tuple #[vo, vc, .bool false, .bool false]) (by simp [results, Tryz.results23, go_sem]) rfl ⟨vo, vc, rfl, own_mono o9.out.1 (hgw.out).size, o9.out.2, grown_tr hgw.out hg5⟩
end Go.Proofs.YtdllkoiddlcnmaaGreat
namespace Go.Proofs.YtdllkoiddlcnmaaGreat

/-- by ascending places: as by numbers -/
theorem compK_asc {G : Gr} (hG : G.Well) : compK (byP G.ids) G.ids G.mat = compK srt G.ids G.mat := by
  unfold compK
  have h1 : (fun x => (byP G.ids (outs G.ids G.mat x)).reverse) = fun x => (srt (outs G.ids G.mat x)).reverse := by
    funext x
    rw [byP_srt hG.ids (fun y hy => outs_in hy)]
  rw [h1, byP_srt hG.ids (fun y hy => hy)]
theorem cycL_asc {G : Gr} (hG : G.Well) : cycL (byP G.ids) (compK srt G.ids G.mat) = cycL srt (compK srt G.ids G.mat) := by
  unfold cycL cycs
  congr 1
  refine List.map_congr_left (fun i hi => byP_srt hG.ids (fun x hx => ?_))
  have hiL := (bigs_lt hi).1
  have e : (compK srt G.ids G.mat).reverse.getD i [] = (compK srt G.ids G.mat).reverse[i] := by rw [List.getD_eq_getElem?_getD, List.getElem?_eq_getElem hiL]; rfl
  rw [e] at hx
  have hclo : ∀ x ∈ G.ids, ∀ y ∈ outs G.ids G.mat x, y ∈ G.ids := fun x _ y hy => outs_in hy
  exact ((compK_ok srt_perm' hclo).mem x).1 (List.mem_flatten.2 ⟨_, by simp, hx⟩)

def G79 : Gr := ⟨true, [7, 9], []⟩
theorem G79_well : G79.Well := ⟨by decide, fun e he => by cases he⟩
theorem G79_ids : G79.ids = [7, 9] := (srt_eq (ns := [7, 9]) (by decide) (.refl _)).symm
theorem outs_none (ids : List Int) (x : Int) : outs ids Mat.none x = [] := by
  unfold outs
  show (arcsOf ids.length (fun _ => none)).map _ = []
  rw [arcsOf_none]
  rfl
theorem by97 : byP [9, 7] [7, 9] = [9, 7] := (SortedBy.byP (P := [9, 7]) (l := [7, 9]) (out := [9, 7]) ⟨List.Perm.swap _ _ _, by decide⟩ (by decide)).symm
theorem comp79 : compK (byP [9, 7]) G79.ids G79.mat = [[9], [7]] := by
  have hm : G79.mat = Mat.none := rfl
  rw [G79_ids, hm]
  unfold compK
  have h1 : (fun x => (byP [9, 7] (outs [7, 9] Mat.none x)).reverse) = fun _ => [] := by
    funext x
    rw [outs_none]
    simp [byP]
  rw [h1, by97]
  rfl
theorem one79 : AllOne (compK (byP [9, 7]) G79.ids G79.mat) := by
  rw [comp79]
  intro c hc
  simp at hc
  rcases hc with rfl | rfl <;> rfl
theorem ord79 : ord (compK (byP [9, 7]) G79.ids G79.mat) = [some 9, some 7] := by rw [comp79]; rfl
theorem in79 (x : Int) : x ∈ ([9, 7] : List Int) ↔ x ∈ G79.ids := by
  rw [G79_ids]
  simp [or_comm]
end Go.Proofs.YtdllkoiddlcnmaaGreat
namespace Go.Proofs.YtdllkoiddlcnmaaGreat
open Go.MapKept Go.RowKit

def TrueB (w : World) (e : Ending) (w' : World) : Prop := e = .returned (.bool true) ∧ w.grownBy w' none
def StRes (ok : Bool) (os : List (Option Int)) (D : List (List Int)) (w : World) (e : Ending) (w' : World) : Prop := ∃ vo vc, e = .returned (.tuple #[vo, vc, .bool ok, .bool false]) ∧ SlotsR w' vo os ∧ RowsR w' vc D ∧ w.grownBy w' none
theorem rows_nil (w : World) : RowsR w (.slice none 0 0) [] := ⟨none, 0, fun _ => .nilIface, rfl, fun h => absurd h (by simp), fun i h => absurd h (by simp)⟩
theorem StOk.res {C : List (List Int)} {w : World} {e : Ending} {w' : World} (h : StOk C w e w') : StRes true (ord C) [] w e w' := by
  obtain ⟨vo, h1, h2, h3⟩ := h
  exact ⟨vo, _, h1, .of_own h2, rows_nil _, h3⟩
theorem StCyc.res {C D : List (List Int)} {w : World} {e : Ending} {w' : World} (h : StCyc C D w e w') : StRes false (ord C) D w e w' := by
  obtain ⟨vo, vc, h1, h2, h3, h4⟩ := h
  exact ⟨vo, vc, h1, .of_own h2, h3, h4⟩

theorem lit79 (W : World) : SlotsR (W.alloc (.cells #[.bool false, .int .i64 9, .bool false, .int .i64 7] slotT)) (.slice (some ⟨W.heap.size, 0, none⟩) 2 2) [some 9, some 7] := by
  have k := heap_alloc_new W (.cells #[.bool false, .int .i64 9, .bool false, .int .i64 7] slotT)
  refine ⟨_, _, rfl, fun _ => ⟨_, rfl, block_lt k, fun i hi => ?_⟩⟩
  match i, hi with
  | 0, _ => exact ⟨cell_at k, cell_at k⟩
  | 1, _ => exact ⟨cell_at k, cell_at k⟩

set_option maxHeartbeats 1000000 in
set_option maxRecDepth 100000 in
theorem arranges_any (w : World) : Calls Tryz.prog 26 #[] w (TrueB w) := by
  obtain ⟨W, hW⟩ : ∃ W, W = (w.alloc (.cells #[.int .i64 7, .int .i64 9] 3)).alloc (.cells #[.int .i64 9, .int .i64 7] 3) := ⟨_, rfl⟩
  have hgW : w.grownBy W none := by rw [hW]; exact grown_tr (grown_alloc _ _) (grown_alloc _ _)
  have k0 : W.heap[w.heap.size]? = some (.cells #[.int .i64 7, .int .i64 9] 3 (0, 0)) := by rw [hW]; exact grown_block (grown_alloc _ _) (heap_alloc_new w _) (by simp)
  have k1 : W.heap[w.heap.size + 1]? = some (.cells #[.int .i64 9, .int .i64 7] 3 (0, 0)) := by rw [hW]; exact heap_alloc2 w _ _
  have hn : IntsR W (.slice (some ⟨w.heap.size, 0, none⟩) 2 2) [7, 9] := ⟨_, _, rfl, fun _ => ⟨_, _, rfl, block_lt k0, fun i hi => by
    match i, hi with
    | 0, _ => exact cell_at k0
    | 1, _ => exact cell_at k0⟩⟩
  have hp : IntsR W (.slice (some ⟨w.heap.size + 1, 0, none⟩) 2 2) [9, 7] := ⟨_, _, rfl, fun _ => ⟨_, _, rfl, block_lt k1, fun i hi => by
    match i, hi with
    | 0, _ => exact cell_at k1
    | 1, _ => exact cell_at k1⟩⟩
  have hG : GrR W (.agg #[.bool true, .slice (some ⟨w.heap.size, 0, none⟩) 2 2, .slice none 0 0]) G79 := ⟨⟨_, _, rfl, hn, ⟨none, 0, rfl, fun h => absurd h (by decide)⟩⟩⟩
  have hby := isortBy_ok hG hp G79_well rfl (by decide) (by decide) (by decide) (by rw [G79_ids]; rfl) in79 one79
  unfold StOk at hby
  rw [ord79, hW] at hby
  have HG := Lib.hid hgW
  rw [hW] at HG
  clear hG hn hp k0 k1 hgW hW
  go_enter Tryz.func26, Tryz.ntmps26
  go_wp2_with (first
    | (go_at_call 23; refine hby.mono ?_; intro e w2 hp; obtain ⟨vo, rfl, ho, hg2⟩ := hp; have HO := Lib.hid (SlotsR.of_own ho); clear ho)
    | (go_at_call 22; refine (equalSl_same (HO.out.grown (grown_alloc _ _)) (lit79 w2) (by decide)).mono ?_; rintro e w3 ⟨rfl, hg3⟩))
  go_ret
  exact ⟨rfl, grown_tr HG.out (grown_tr hg2 (grown_tr (grown_alloc _ _) hg3))⟩


set_option maxHeartbeats 1000000 in
set_option maxRecDepth 100000 in
theorem lawSortBy_any {G : Gr} {vg : Value} {w : World} (h : GrR w vg G) : Calls Tryz.prog 6 #[vg] w (TrueB w) := by
  have hfit := fun O => fits_any (h.grown (grown_alloc w O))
  by_cases hF : G.nodes.length ≤ 2147483647 ∧ G.edges.length ≤ 2147483647
  case neg =>
    rw [decide_eq_false hF] at hfit
    obtain ⟨vn, ve, rfl, ⟨an, cn, rfl, _⟩, ⟨ae, ce, rfl, _⟩⟩ := h.parts
    clear h hF
    go_enter Tryz.func6, Tryz.ntmps6
    go_wp2_with (go_at_call 7; refine (hfit _).mono ?_; rintro e w1 ⟨hg1, rfl⟩)
    go_ret
    exact ⟨rfl, grown_tr (grown_alloc _ _) hg1⟩
  case pos =>
  rw [decide_eq_true hF] at hfit
  have hfew : ∀ W, w.grownBy W none → Calls Tryz.prog 8 #[vg, .bool true, .int .i64 30] W (FewPost (G.dir = true ∧ G.Few 30) W) := fun W hg => fewOf_any true 30 (by omega) (h.grown hg)
  by_cases hP : G.dir = true ∧ G.Few 30
  case neg =>
    have hfew' : ∀ W, w.grownBy W none → Calls Tryz.prog 8 #[vg, .bool true, .int .i64 30] W (fun e w' => e = .returned (.bool false) ∧ W.grownBy w' none) := fun W hg => (hfew W hg).mono (fun e w' ⟨d, h1, h2, h3⟩ => by
      cases d
      · exact ⟨h2, h3⟩
      · exact absurd (h1.1 rfl) hP)
    obtain ⟨vn, ve, rfl, ⟨an, cn, rfl, _⟩, ⟨ae, ce, rfl, _⟩⟩ := h.parts
    have HB : Hid (∀ wx, (w.alloc (.cells #[.bool G.dir, .slice an G.nodes.length cn, .slice ae G.edges.length ce] 25)).grownBy wx none → wx.cell? ⟨w.heap.size, 0, none⟩ = some (.bool G.dir) ∧ wx.cell? ⟨w.heap.size, 1, none⟩ = some (.slice an G.nodes.length cn) ∧ wx.cell? ⟨w.heap.size, 2, none⟩ = some (.slice ae G.edges.length ce)) := Lib.hid (fun wx hg => ⟨by rw [box_at hg 0]; rfl, by rw [box_at hg 1]; rfl, by rw [box_at hg 2]; rfl⟩)
    clear h hF hfew hP
    go_enter Tryz.func6, Tryz.ntmps6
    go_wp2_with (first
      | (go_at_call 7; refine (hfit _).mono ?_; rintro e w1 ⟨hg1, rfl⟩; obtain ⟨b0, b1, b2⟩ := HB.out w1 hg1)
      | (go_at_call 8; refine (hfew' _ (grown_tr (grown_alloc _ _) hg1)).mono ?_; rintro e w2 ⟨rfl, hg2⟩))
    go_ret
    exact ⟨rfl, grown_tr (grown_tr (grown_alloc _ _) hg1) hg2⟩
  case pos =>
  have hfew' : ∀ W, w.grownBy W none → Calls Tryz.prog 8 #[vg, .bool true, .int .i64 30] W (fun e w' => e = .returned (.bool true) ∧ W.grownBy w' none) := fun W hg => (hfew W hg).mono (fun e w' ⟨d, h1, h2, h3⟩ => by
    cases d
    · exact absurd (h1.2 hP) (by decide)
    · exact ⟨h2, h3⟩)
  obtain ⟨hdir, hn30, he30, hG⟩ := hP
  have hclo : ∀ x ∈ G.ids, ∀ y ∈ outs G.ids G.mat x, y ∈ G.ids := fun x _ y hy => outs_in hy
  have hnd : G.ids.Nodup := hG.ids.imp (by intro a b h; omega)
  have hidl : G.ids.length ≤ 1000 := by rw [Gr.length_ids]; exact Nat.le_trans hn30 (by omega)
  have hcok := (compK_ok srt_perm' hclo).comp hnd hidl
  have hres : ∃ ok D, D.length ≤ 1000 ∧ (∀ d ∈ D, d.length ≤ 1000) ∧ (∀ W vp, w.grownBy W none → IntsR W vp G.ids → Calls Tryz.prog 23 #[vg, vp] W (StRes ok (ord (compK srt G.ids G.mat)) D W)) ∧
      ∀ W, w.grownBy W none → Calls Tryz.prog 20 #[vg] W (StRes ok (ord (compK srt G.ids G.mat)) D W) := by
    by_cases ho : AllOne (compK srt G.ids G.mat)
    · refine ⟨true, [], by simp, by simp, fun W vp hW hp => ?_, fun W hW => ?_⟩
      · have k := isortBy_ok (h.grown hW) hp hG hdir (by omega) (by omega) hnd rfl (fun _ => Iff.rfl) (by rw [compK_asc hG]; exact ho)
        rw [compK_asc hG] at k
        exact k.mono (fun _ _ k => k.res)
      · exact (isortSt_ok (h.grown hW) hG hdir (by omega) (by omega) ho).mono (fun _ _ k => StOk.res k)
    · obtain ⟨d1, d2⟩ := cycL_len srt_perm' hcok
      refine ⟨false, cycL srt (compK srt G.ids G.mat), d1, d2, fun W vp hW hp => ?_, fun W hW => ?_⟩
      · have k := isortBy_bad (h.grown hW) hp hG hdir (by omega) (by omega) hnd rfl (fun _ => Iff.rfl) (by rw [compK_asc hG]; exact ho)
        rw [compK_asc hG, cycL_asc hG] at k
        exact k.mono (fun _ _ k => k.res)
      · exact (isortStK_bad (h.grown hW) hG hdir (by omega) (by omega) ho).mono (fun _ _ k => k.res)
  obtain ⟨ok, D, hD1, hD2, hby, hst⟩ := hres
  have hlen : (ord (compK srt G.ids G.mat)).length ≤ 1000 := by
    have := hcok.len
    unfold ord
    rw [List.length_map]
    simpa using this
  obtain ⟨os, hos⟩ : ∃ os, os = ord (compK srt G.ids G.mat) := ⟨_, rfl⟩
  rw [← hos] at hby hst hlen
  unfold StRes at hby hst
  obtain ⟨vn, ve, rfl, hn, ⟨ae, ce, rfl, _⟩⟩ := h.parts
  have hsrt := fun W (hW : w.grownBy W none) => sorted_any (l := G.nodes) (by omega) (hn.grown hW)
  obtain ⟨an, cn, rfl, _⟩ := hn
  have HB : Hid (∀ wx, (w.alloc (.cells #[.bool G.dir, .slice an G.nodes.length cn, .slice ae G.edges.length ce] 25)).grownBy wx none → wx.cell? ⟨w.heap.size, 0, none⟩ = some (.bool G.dir) ∧ wx.cell? ⟨w.heap.size, 1, none⟩ = some (.slice an G.nodes.length cn) ∧ wx.cell? ⟨w.heap.size, 2, none⟩ = some (.slice ae G.edges.length ce)) := Lib.hid (fun wx hg => ⟨by rw [box_at hg 0]; rfl, by rw [box_at hg 1]; rfl, by rw [box_at hg 2]; rfl⟩)
  have HBY := Lib.hid hby
  have HST := Lib.hid hst
  have HSRT := Lib.hid hsrt
  have HD := Lib.hid (And.intro hD1 (And.intro hD2 hlen))
  clear h hF hfew hn30 he30 hG hclo hnd hidl hcok hby hst hsrt hD1 hD2 hlen hos hdir
  go_enter Tryz.func6, Tryz.ntmps6
  go_wp2_with (first
    | (go_at_call 7; refine (hfit _).mono ?_; rintro e w1 ⟨hg1, rfl⟩; obtain ⟨b0, b1, b2⟩ := HB.out w1 hg1)
    | (go_at_call 8; refine (hfew' _ (grown_tr (grown_alloc _ _) hg1)).mono ?_; rintro e w2 ⟨rfl, hg2⟩; have hg12 := grown_tr hg1 hg2; clear b0 b1 b2; obtain ⟨b0, b1, b2⟩ := HB.out w2 hg12))
  have HG2 := Lib.hid (grown_tr (grown_alloc _ _) hg12 : w.grownBy w2 none)
  have HBW : Hid (∀ W, w2.grownBy W none → W.cell? ⟨w.heap.size, 0, none⟩ = some (.bool G.dir) ∧ W.cell? ⟨w.heap.size, 1, none⟩ = some (.slice an G.nodes.length cn) ∧ W.cell? ⟨w.heap.size, 2, none⟩ = some (.slice ae G.edges.length ce)) := Lib.hid (fun W hW => HB.out W (grown_tr hg12 hW))
  clear hg1 hg2 hg12 hfit hfew' HB
  go_region_held3 (fun w' => w'.cell? ⟨w.heap.size, 0, none⟩ = some (.bool G.dir) ∧ w'.cell? ⟨w.heap.size, 1, none⟩ = some (.slice an G.nodes.length cn) ∧ w'.cell? ⟨w.heap.size, 2, none⟩ = some (.slice ae G.edges.length ce)) (first | go_keep | exact HBW.out _ (grown_tr (grown_drew _) (grown_tr hg3 hg4)) | exact HBW.out _ (grown_tr (grown_drew _) hg3)) (first
    | (go_at_call 24; refine (HSRT.out _ (grown_tr HG2.out (grown_drew _))).mono ?_; rintro e w3 ⟨v3, rfl, o3, hg3⟩; have hi3 : IntsR w3 v3 G.ids := (by have := o3; rw [← length_srt G.nodes] at this; exact IntsR.of_own this); have hby3 := HBY.out w3 v3 (grown_tr HG2.out (grown_tr (grown_drew _) hg3)) hi3; clear o3 hi3)
    | (go_at_call 23; refine hby3.mono ?_; intro e w4 hp; obtain ⟨v4, c4, rfl, q4, r4, hg4⟩ := hp; replace q4 := Lib.hid (And.intro q4 r4); clear r4))
  obtain ⟨d0, d1, d2⟩ := HBW.out w4 (grown_tr (grown_drew _) (grown_tr hg3 hg4))
  have hgw4 : w.grownBy w4 none := grown_tr HG2.out (grown_tr (grown_drew _) (grown_tr hg3 hg4))
  have HG4 := Lib.hid hgw4
  have hst4 := HST.out w4 hgw4
  clear hgw4 hg3 hg4
  go_wp2_with (first
    | (go_at_call 20; refine hst4.mono ?_; intro e w5 hp; obtain ⟨v5, c5, rfl, q5, r5, hg5⟩ := hp; have heq := equalSl_same (q4.out.1.grown hg5) q5 (Nat.le_trans HD.out.2.2 (by omega)); have Q5 := Lib.hid (And.intro (q4.out.2.grown hg5) r5); clear q5 r5)
    | (go_at_call 22; refine heq.mono ?_; rintro e w6 ⟨rfl, hg6⟩; have hsl := sameLists_same (Q5.out.1.grown hg6) (Q5.out.2.grown hg6) (Nat.le_trans HD.out.1 (by omega)) (fun c hc => Nat.le_trans (HD.out.2.1 c hc) (by omega)))
    | (go_at_call 25; refine hsl.mono ?_; rintro e w7 ⟨rfl, hg7⟩)
    | (go_at_call 26; refine (arranges_any _).mono ?_; rintro e w8 ⟨rfl, hg8⟩))
  go_ret
  exact ⟨rfl, grown_tr HG4.out (grown_tr (grown_tr (grown_tr hg5 hg6) hg7) hg8)⟩
end Go.Proofs.YtdllkoiddlcnmaaGreat
