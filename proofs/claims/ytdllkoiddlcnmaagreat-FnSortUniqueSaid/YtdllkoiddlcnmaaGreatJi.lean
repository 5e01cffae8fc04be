/- impl.Sort, impl.SortStabilized. -/
import Derived.Test.YtdllkoiddlcnmaaGreatJs
import Derived.Test.YtdllkoiddlcnmaaGreatOu
namespace Go.Proofs.YtdllkoiddlcnmaaGreat
open Go.MapKept Go.RowKit

/-- the order's places -/
def ord (C : List (List Int)) : List (Option Int) := C.map slotO
def TOk (C : List (List Int)) (w : World) (e : Ending) (w' : World) : Prop := ∃ v6, e = .returned (.tuple #[v6, .nilIface]) ∧ w'.ownsRow w.heap.size nodT 1 v6 (ord C).length ((ord C).map encO) ∧ w.grownBy w' none
def TBad (C : List (List Int)) (w : World) (e : Ending) (w' : World) : Prop := ∃ v6 s7, e = .returned (.tuple #[v6, .iface unoT s7]) ∧ w'.ownsRow w.heap.size nodT 1 v6 (ord C).length ((ord C).map encO) ∧ Cyc w' w.heap.size 1000 s7 ∧ w.grownBy w' none
def StOk (C : List (List Int)) (w : World) (e : Ending) (w' : World) : Prop := ∃ vo, e = .returned (.tuple #[vo, .slice none 0 0, .bool true, .bool false]) ∧ w'.ownsRow w.heap.size slotT 2 vo (ord C).length ((ord C).flatMap encSl) ∧ w.grownBy w' none
def StBad (C : List (List Int)) (w : World) (e : Ending) (w' : World) : Prop := ∃ vo vc, e = .returned (.tuple #[vo, vc, .bool false, .bool false]) ∧ w'.ownsRow w.heap.size slotT 2 vo (ord C).length ((ord C).flatMap encSl) ∧ w.grownBy w' none

theorem ord_eq (C : List (List Int)) : C.reverse.reverse.map (fun c => encO (slotO c)) = (ord C).map encO := by unfold ord; simp
theorem SdPost.good {C : List (List Int)} {w : World} {e : Ending} {w' : World} (ha : AllOne C) (h : SdPost w C.reverse w e w') : TOk C w e w' := by
  obtain ⟨v6, err, h1, h2, h3, -, h5⟩ := h
  rw [h3 (fun c hc => ha c (by simpa using hc))] at h1
  rw [ord_eq, List.length_reverse] at h2
  exact ⟨v6, h1, by unfold ord at *; rw [List.length_map]; exact h2, h5⟩
theorem SdPost.bad {C : List (List Int)} {w : World} {e : Ending} {w' : World} (ok : CompOk C.reverse) (ha : ¬ AllOne C) (h : SdPost w C.reverse w e w') : TBad C w e w' := by
  obtain ⟨v6, err, h1, h2, -, h4, h5⟩ := h
  obtain ⟨s7, cv, e7, k1, k2, k3⟩ := h4 (fun hh => ha (fun c hc => hh c (by simpa using hc)))
  rw [e7] at h1
  rw [ord_eq, List.length_reverse] at h2
  have := ok.len
  exact ⟨v6, s7, h1, by unfold ord at *; rw [List.length_map]; exact h2, ⟨cv, k1, by omega, k3⟩, h5⟩

set_option maxHeartbeats 2000000 in
set_option maxRecDepth 100000 in
theorem isort_ok {G : Gr} {v : Value} {w : World} (h : GrR w v G) (hG : G.Well) (hd : G.dir = true) (hnl : G.nodes.length ≤ 1000) (hel : G.edges.length ≤ 8000) (ha : AllOne (compA G.ids G.mat)) :
    Calls Tryz.prog 19 #[v] w (StOk (compA G.ids G.mat) w) := by
  have hone : ∀ O, Calls Tryz.prog 38 #[v] (w.alloc O) (fun e w' => ∃ p0, e = .returned (.tuple #[dirV p0, .bool true]) ∧ PlnR w' p0 G.ids G.mat ∧ (w.alloc O).grownBy w' none) := fun O =>
    (oneWay_any (h.grown (grown_alloc w O)) hG hnl (by omega)).mono (fun e w' ⟨p0, h1, h2⟩ => ⟨p0, by rw [h1, hd], h2⟩)
  have hids : G.ids.length ≤ 1000 := by rw [Gr.length_ids]; exact hnl
  have hclo : ∀ x ∈ G.ids, ∀ y ∈ outs G.ids G.mat x, y ∈ G.ids := fun x _ y hy => outs_in hy
  have hnd : G.ids.Nodup := hG.ids.imp (by intro a b h; omega)
  have hok := (compA_ok hclo).comp hnd hids
  have htar : ∀ W p0, PlnR W p0 G.ids G.mat → _ := fun W p0 hp => sort_any (w := W) (p0 := p0) hp hids hG.ids hclo
  have HLEN : Hid ((ord (compA G.ids G.mat)).length ≤ 1000) := Lib.hid (by have := hok.len; unfold ord; rw [List.length_map]; simpa using this)
  obtain ⟨C, hC⟩ : ∃ C, C = compA G.ids G.mat := ⟨_, rfl⟩
  rw [← hC] at HLEN
  have htp : ∀ W p0, PlnR W p0 G.ids G.mat → Calls Tryz.prog 39 #[.iface dirT (dirV p0)] W (TOk C W) := fun W p0 hp => by rw [hC]; exact (htar W p0 hp).mono (fun _ _ k => SdPost.good ha k)
  rw [← hC]
  have HT := Lib.hid htp
  obtain ⟨vn, ve, rfl, ⟨an, cn, rfl, _⟩, ⟨ae, ce, rfl, _⟩⟩ := h.parts
  clear h hC htp htar hok ha hclo hnd hG hel hnl hids hd
  go_enter Tryz.func19, Tryz.ntmps19
  go_wp2_with (first
    | (go_at_call 38; refine (hone _).mono ?_; intro e w1 hp; obtain ⟨p0, rfl, hp1, hg1⟩ := hp; replace hp1 := Lib.hid hp1; replace hg1 := Lib.hid hg1)
    | (go_at_call 39; refine (HT.out _ _ (by have := hp1.out; exact this.grown (grown_alloc _ _))).mono ?_; intro e w2 hp; obtain ⟨v6, rfl, o6, hg2⟩ := hp; have hsl := slots_ok o6 HLEN.out; have hgw : Hid (w.grownBy w2 none) := Lib.hid (grown_tr (grown_tr (grown_tr (grown_alloc _ _) hg1.out) (grown_alloc _ _)) hg2); clear o6 hg2)
    | (go_at_call 40; refine hsl.mono ?_; intro e w3 hp; obtain ⟨vo, rfl, o9, hg3⟩ := hp; replace o9 := Lib.hid o9))
  refine bodyPost_ret (v := .tuple #[vo, .slice none 0 0, .bool true, .bool false]) (by simp [results, Tryz.results19, go_sem]) rfl ⟨vo, rfl, own_mono o9.out (hgw.out).size, grown_tr hgw.out hg3⟩
set_option maxHeartbeats 2000000 in
set_option maxRecDepth 100000 in
theorem isort_bad {G : Gr} {v : Value} {w : World} (h : GrR w v G) (hG : G.Well) (hd : G.dir = true) (hnl : G.nodes.length ≤ 1000) (hel : G.edges.length ≤ 8000) (ha : ¬ AllOne (compA G.ids G.mat)) :
    Calls Tryz.prog 19 #[v] w (StBad (compA G.ids G.mat) w) := by
  have hone : ∀ O, Calls Tryz.prog 38 #[v] (w.alloc O) (fun e w' => ∃ p0, e = .returned (.tuple #[dirV p0, .bool true]) ∧ PlnR w' p0 G.ids G.mat ∧ (w.alloc O).grownBy w' none) := fun O =>
    (oneWay_any (h.grown (grown_alloc w O)) hG hnl (by omega)).mono (fun e w' ⟨p0, h1, h2⟩ => ⟨p0, by rw [h1, hd], h2⟩)
  have hids : G.ids.length ≤ 1000 := by rw [Gr.length_ids]; exact hnl
  have hclo : ∀ x ∈ G.ids, ∀ y ∈ outs G.ids G.mat x, y ∈ G.ids := fun x _ y hy => outs_in hy
  have hnd : G.ids.Nodup := hG.ids.imp (by intro a b h; omega)
  have hok := (compA_ok hclo).comp hnd hids
  have htar : ∀ W p0, PlnR W p0 G.ids G.mat → _ := fun W p0 hp => sort_any (w := W) (p0 := p0) hp hids hG.ids hclo
  have HLEN : Hid ((ord (compA G.ids G.mat)).length ≤ 1000) := Lib.hid (by have := hok.len; unfold ord; rw [List.length_map]; simpa using this)
  obtain ⟨C, hC⟩ : ∃ C, C = compA G.ids G.mat := ⟨_, rfl⟩
  rw [← hC] at HLEN
  have htp : ∀ W p0, PlnR W p0 G.ids G.mat → Calls Tryz.prog 39 #[.iface dirT (dirV p0)] W (TBad C W) := fun W p0 hp => by rw [hC]; exact (htar W p0 hp).mono (fun _ _ k => SdPost.bad hok ha k)
  rw [← hC]
  have HT := Lib.hid htp
  obtain ⟨vn, ve, rfl, ⟨an, cn, rfl, _⟩, ⟨ae, ce, rfl, _⟩⟩ := h.parts
  clear h hC htp htar hok ha hclo hnd hG hel hnl hids hd
  go_enter Tryz.func19, Tryz.ntmps19
  go_wp2_with (first
    | (go_at_call 38; refine (hone _).mono ?_; intro e w1 hp; obtain ⟨p0, rfl, hp1, hg1⟩ := hp; replace hp1 := Lib.hid hp1; replace hg1 := Lib.hid hg1)
    | (go_at_call 39; refine (HT.out _ _ (by have := hp1.out; exact this.grown (grown_alloc _ _))).mono ?_; intro e w2 hp; obtain ⟨v6, s7, rfl, o6, hcy, hg2⟩ := hp; have hsl := slots_bad o6 HLEN.out hcy; clear hcy; have hgw : Hid (w.grownBy w2 none) := Lib.hid (grown_tr (grown_tr (grown_tr (grown_alloc _ _) hg1.out) (grown_alloc _ _)) hg2); clear o6 hg2)
    | (go_at_call 40; refine hsl.mono ?_; intro e w3 hp; obtain ⟨vo, vc, rfl, o9, hg3⟩ := hp; replace o9 := Lib.hid o9))
  refine bodyPost_ret (v := .tuple #[vo, vc, .bool false, .bool false]) (by simp [results, Tryz.results19, go_sem]) rfl ⟨vo, vc, rfl, own_mono o9.out (hgw.out).size, grown_tr hgw.out hg3⟩
set_option maxHeartbeats 2000000 in
set_option maxRecDepth 100000 in
theorem isortSt_ok {G : Gr} {v : Value} {w : World} (h : GrR w v G) (hG : G.Well) (hd : G.dir = true) (hnl : G.nodes.length ≤ 1000) (hel : G.edges.length ≤ 8000) (ha : AllOne (compB G.ids G.mat)) :
    Calls Tryz.prog 20 #[v] w (StOk (compB G.ids G.mat) w) := by
  have hone : ∀ O, Calls Tryz.prog 38 #[v] (w.alloc O) (fun e w' => ∃ p0, e = .returned (.tuple #[dirV p0, .bool true]) ∧ PlnR w' p0 G.ids G.mat ∧ (w.alloc O).grownBy w' none) := fun O =>
    (oneWay_any (h.grown (grown_alloc w O)) hG hnl (by omega)).mono (fun e w' ⟨p0, h1, h2⟩ => ⟨p0, by rw [h1, hd], h2⟩)
  have hids : G.ids.length ≤ 1000 := by rw [Gr.length_ids]; exact hnl
  have hclo : ∀ x ∈ G.ids, ∀ y ∈ outs G.ids G.mat x, y ∈ G.ids := fun x _ y hy => outs_in hy
  have hnd : G.ids.Nodup := hG.ids.imp (by intro a b h; omega)
  have hok := (compB_ok hclo).comp hnd hids
  have htar : ∀ W p0, PlnR W p0 G.ids G.mat → _ := fun W p0 hp => sortSt_any (w := W) (p0 := p0) hp hids hG.ids hclo
  have HLEN : Hid ((ord (compB G.ids G.mat)).length ≤ 1000) := Lib.hid (by have := hok.len; unfold ord; rw [List.length_map]; simpa using this)
  obtain ⟨C, hC⟩ : ∃ C, C = compB G.ids G.mat := ⟨_, rfl⟩
  rw [← hC] at HLEN
  have htp : ∀ W p0, PlnR W p0 G.ids G.mat → Calls Tryz.prog 41 #[.iface dirT (dirV p0), .nilFunc] W (TOk C W) := fun W p0 hp => by rw [hC]; exact (htar W p0 hp).mono (fun _ _ k => SdPost.good ha k)
  rw [← hC]
  have HT := Lib.hid htp
  obtain ⟨vn, ve, rfl, ⟨an, cn, rfl, _⟩, ⟨ae, ce, rfl, _⟩⟩ := h.parts
  clear h hC htp htar hok ha hclo hnd hG hel hnl hids hd
  go_enter Tryz.func20, Tryz.ntmps20
  go_wp2_with (first
    | (go_at_call 38; refine (hone _).mono ?_; intro e w1 hp; obtain ⟨p0, rfl, hp1, hg1⟩ := hp; replace hp1 := Lib.hid hp1; replace hg1 := Lib.hid hg1)
    | (go_at_call 41; refine (HT.out _ _ (by have := hp1.out; exact this.grown (grown_alloc _ _))).mono ?_; intro e w2 hp; obtain ⟨v6, rfl, o6, hg2⟩ := hp; have hsl := slots_ok o6 HLEN.out; have hgw : Hid (w.grownBy w2 none) := Lib.hid (grown_tr (grown_tr (grown_tr (grown_alloc _ _) hg1.out) (grown_alloc _ _)) hg2); clear o6 hg2)
    | (go_at_call 40; refine hsl.mono ?_; intro e w3 hp; obtain ⟨vo, rfl, o9, hg3⟩ := hp; replace o9 := Lib.hid o9))
  refine bodyPost_ret (v := .tuple #[vo, .slice none 0 0, .bool true, .bool false]) (by simp [results, Tryz.results20, go_sem]) rfl ⟨vo, rfl, own_mono o9.out (hgw.out).size, grown_tr hgw.out hg3⟩
set_option maxHeartbeats 2000000 in
set_option maxRecDepth 100000 in
theorem isortSt_bad {G : Gr} {v : Value} {w : World} (h : GrR w v G) (hG : G.Well) (hd : G.dir = true) (hnl : G.nodes.length ≤ 1000) (hel : G.edges.length ≤ 8000) (ha : ¬ AllOne (compB G.ids G.mat)) :
    Calls Tryz.prog 20 #[v] w (StBad (compB G.ids G.mat) w) := by
  have hone : ∀ O, Calls Tryz.prog 38 #[v] (w.alloc O) (fun e w' => ∃ p0, e = .returned (.tuple #[dirV p0, .bool true]) ∧ PlnR w' p0 G.ids G.mat ∧ (w.alloc O).grownBy w' none) := fun O =>
    (oneWay_any (h.grown (grown_alloc w O)) hG hnl (by omega)).mono (fun e w' ⟨p0, h1, h2⟩ => ⟨p0, by rw [h1, hd], h2⟩)
  have hids : G.ids.length ≤ 1000 := by rw [Gr.length_ids]; exact hnl
  have hclo : ∀ x ∈ G.ids, ∀ y ∈ outs G.ids G.mat x, y ∈ G.ids := fun x _ y hy => outs_in hy
  have hnd : G.ids.Nodup := hG.ids.imp (by intro a b h; omega)
  have hok := (compB_ok hclo).comp hnd hids
  have htar : ∀ W p0, PlnR W p0 G.ids G.mat → _ := fun W p0 hp => sortSt_any (w := W) (p0 := p0) hp hids hG.ids hclo
  have HLEN : Hid ((ord (compB G.ids G.mat)).length ≤ 1000) := Lib.hid (by have := hok.len; unfold ord; rw [List.length_map]; simpa using this)
  obtain ⟨C, hC⟩ : ∃ C, C = compB G.ids G.mat := ⟨_, rfl⟩
  rw [← hC] at HLEN
  have htp : ∀ W p0, PlnR W p0 G.ids G.mat → Calls Tryz.prog 41 #[.iface dirT (dirV p0), .nilFunc] W (TBad C W) := fun W p0 hp => by rw [hC]; exact (htar W p0 hp).mono (fun _ _ k => SdPost.bad hok ha k)
  rw [← hC]
  have HT := Lib.hid htp
  obtain ⟨vn, ve, rfl, ⟨an, cn, rfl, _⟩, ⟨ae, ce, rfl, _⟩⟩ := h.parts
  clear h hC htp htar hok ha hclo hnd hG hel hnl hids hd
  go_enter Tryz.func20, Tryz.ntmps20
  go_wp2_with (first
    | (go_at_call 38; refine (hone _).mono ?_; intro e w1 hp; obtain ⟨p0, rfl, hp1, hg1⟩ := hp; replace hp1 := Lib.hid hp1; replace hg1 := Lib.hid hg1)
    | (go_at_call 41; refine (HT.out _ _ (by have := hp1.out; exact this.grown (grown_alloc _ _))).mono ?_; intro e w2 hp; obtain ⟨v6, s7, rfl, o6, hcy, hg2⟩ := hp; have hsl := slots_bad o6 HLEN.out hcy; clear hcy; have hgw : Hid (w.grownBy w2 none) := Lib.hid (grown_tr (grown_tr (grown_tr (grown_alloc _ _) hg1.out) (grown_alloc _ _)) hg2); clear o6 hg2)
    | (go_at_call 40; refine hsl.mono ?_; intro e w3 hp; obtain ⟨vo, vc, rfl, o9, hg3⟩ := hp; replace o9 := Lib.hid o9))
  refine bodyPost_ret (v := .tuple #[vo, vc, .bool false, .bool false]) (by simp [results, Tryz.results20, go_sem]) rfl ⟨vo, vc, rfl, own_mono o9.out (hgw.out).size, grown_tr hgw.out hg3⟩

/-! ### two roads to an order, plainly: where each step of the one is an edge, the other is the same -/
theorem sortS_mem {ids : List Int} {M : Mat} {x y : Int} : y ∈ sortS ids M x ↔ y ∈ outs ids M x := by simp [sortS, mem_srt]
theorem one_same {ids : List Int} {M : Mat} (hclo : ∀ x ∈ ids, ∀ y ∈ outs ids M x, y ∈ ids) : AllOne (compB ids M) ↔ AllOne (compA ids M) := by
  have hr : ∀ u v, Rch (SE (sortS ids M)) u v ↔ Rch (SE (outs ids M)) u v := fun u v => ⟨fun h => h.mono (fun a b r => sortS_mem.1 r), fun h => h.mono (fun a b r => sortS_mem.2 r)⟩
  rw [(compA_ok hclo).one_iff, (compB_ok hclo).one_iff]
  simp only [hr]
theorem one_nil {M : Mat} : AllOne (compA [] M) := by
  have hclo : ∀ x ∈ ([] : List Int), ∀ y ∈ outs [] M x, y ∈ ([] : List Int) := fun x hx => by simp at hx
  rw [(compA_ok hclo).one_iff]
  intro u hu
  simp at hu

theorem ord_one : ∀ {C : List (List Int)}, AllOne C → ord C = C.flatten.map some
  | [], _ => rfl
  | c :: C, h => by
    obtain ⟨x, rfl⟩ := List.length_eq_one_iff.1 (h c (List.mem_cons_self ..))
    have := ord_one (C := C) (fun d hd => h d (List.mem_cons_of_mem _ hd))
    unfold ord at this ⊢
    rw [List.map_cons, this]
    rfl

theorem order_only {G : Gr} (hG : G.Well) (h1 : AllOne (compA G.ids G.mat)) (h2 : AllOne (compB G.ids G.mat))
    (hc : ∀ j (h : j + 1 < (ord (compA G.ids G.mat)).length), edgeOf G.ids G.mat ((ord (compA G.ids G.mat))[j].getD 0) ((ord (compA G.ids G.mat))[j + 1].getD 0)) :
    ord (compB G.ids G.mat) = ord (compA G.ids G.mat) := by
  have hclo : ∀ x ∈ G.ids, ∀ y ∈ outs G.ids G.mat x, y ∈ G.ids := fun x _ y hy => outs_in hy
  have a1 := compA_ok hclo
  have b1 := compB_ok hclo
  have e1 := ord_one h1
  have e2 := ord_one h2
  have hl : (ord (compA G.ids G.mat)).length = (compA G.ids G.mat).flatten.length := by rw [e1, List.length_map]
  have hg : ∀ j (h : j < (compA G.ids G.mat).flatten.length), ((ord (compA G.ids G.mat))[j]'(by omega)).getD 0 = (compA G.ids G.mat).flatten[j] := fun j h => by
    simp only [e1, List.getElem_map, Option.getD_some]
  have hch : Chain (edgeOf G.ids G.mat) (compA G.ids G.mat).flatten := fun j h => by
    have := hc j (by omega)
    rw [hg j (by omega), hg (j + 1) h] at this
    exact this
  have hf := ok_fwd b1.ok b1.nd h2
  have hf2 : (compB G.ids G.mat).flatten.Pairwise (fun a b => ¬ edgeOf G.ids G.mat b a) := hf.imp (fun {a b} hab he => hab (sortS_mem.2 ((outs_iff hG.ids he.1).2 he)))
  have hp : (compA G.ids G.mat).flatten.Perm (compB G.ids G.mat).flatten := (List.perm_ext_iff_of_nodup a1.nd b1.nd).2 (fun x => (a1.mem x).trans (b1.mem x).symm)
  have := chain_only (fun a b he hab => by
    subst hab
    exact (hG.mat_lt he.2.2).2.2 rfl) hp a1.nd hch hf2
  rw [e1, e2, this]
end Go.Proofs.YtdllkoiddlcnmaaGreat
