/- topo.SortStabilized over an order, with what is in no order; impl.SortStabilized where a part is in no order. -/
import Derived.Test.YtdllkoiddlcnmaaGreatJa
import Derived.Test.YtdllkoiddlcnmaaGreatLl
import Derived.Test.YtdllkoiddlcnmaaGreatKj
namespace Go.Proofs.YtdllkoiddlcnmaaGreat
open Go.MapKept Go.RowKit

def CycK (w : World) (B : Nat) (D : List (List Int)) (s7 : Value) : Prop := ∃ cv : List Value, w.ownsRow B nodsT 1 s7 cv.length cv ∧ cv.length = D.length ∧ ∀ (i : Nat) (v : Value) (d : List Int), cv[i]? = some v → D[i]? = some d → w.ownsRow B nodT 1 v d.length (d.map nodeV)
def SlCyc (os : List (Option Int)) (D : List (List Int)) (w : World) (e : Ending) (w' : World) : Prop := ∃ vo vc, e = .returned (.tuple #[vo, vc, .bool false]) ∧ w'.ownsRow w.heap.size slotT 2 vo os.length (os.flatMap encSl) ∧ RowsR w' vc D ∧ w.grownBy w' none


set_option maxHeartbeats 2000000 in
set_option maxRecDepth 100000 in
theorem slots_cyc {os : List (Option Int)} {D : List (List Int)} {v6 s7 : Value} {B : Nat} {w : World} (o6 : w.ownsRow B nodT 1 v6 os.length (os.map encO)) (hl : os.length ≤ 1000) (hcy : CycK w B D s7) (hDl : D.length ≤ 1000) (hDe : ∀ d ∈ D, d.length ≤ 1000) :
    Calls Tryz.prog 40 #[v6, .iface unoT s7] w (SlCyc os D w) := by
  obtain ⟨a6, c6, rfl⟩ := own_slice o6
  have HC : Hid (∀ W, w.grownBy W none → ∀ i, (hi : i < os.length) → ∃ b, a6 = some ⟨b, 0, none⟩ ∧ W.cell? ⟨b, i, none⟩ = some (encO os[i])) := Lib.hid (fun W hW i hi => by
    obtain ⟨b, cap, e, -, hb, -⟩ := own_row o6 (by omega)
    simp only [Value.slice.injEq] at e
    obtain ⟨rfl, -, rfl⟩ := e
    refine ⟨b, rfl, ?_⟩
    rw [grown_cell hW hb (by simp)]
    have := o6.cells (g := b) rfl i (encO os[i]) (by simp [hi])
    rwa [addr_add, Nat.zero_add] at this)
  clear o6
  have HY := Lib.hid hcy
  have HDE := Lib.hid hDe
  clear hcy hDe
  go_enter Tryz.func40, Tryz.ntmps40
  go_wp2_with fail
  go_loopw [4, 8, 15] (fun a4 _ i wr => SlRel os w a4 i wr) (fun _ _ i _ => os.length - (intOf i).toNat)
  case atStart => exact ⟨0, Nat.zero_le _, rfl, ⟨rfl, .inl ⟨rfl, rfl⟩⟩, grown_refl w⟩
  case round =>
    obtain ⟨k, hk, rfl, hown, hg⟩ := hrel
    by_cases hlt : k < os.length
    · have hlt' : (k : Int) < os.length := by omega
      obtain ⟨b, rfl, c1⟩ := HC.out wr hg k hlt
      obtain ⟨o, ho⟩ : ∃ o, o = os[k] := ⟨_, rfl⟩
      rw [← ho] at c1
      have HX := Lib.hid (And.intro ho (And.intro hown hg))
      have hsz := hg.size
      clear ho hown hg
      cases o with
      | none =>
        have c1' : wr.cell? ⟨b, k, none⟩ = some .nilIface := c1
        have heq := nil_eql wr
        clear c1
        go_wp2_with (at_builtin; refine wpx_app1 elSl rfl (.tmp 21) (.tmp 23) rfl w.heap.size u4 k _ rfl (HX.out.2.1.alloc _) wr.heap.size #[.bool true, .int .i64 0] (heap_alloc_new wr _) (wr.heap.size + 1) (by simp) 1 rfl rfl (by simp [Value.oneCell']) (by omega) (by unfold maxLen; omega) (by omega) ?_; intro g cap w' ho' hg' hat hlt2 hsz2)
        go_roundw
        case rel =>
          obtain ⟨hx, hown, hg⟩ := HX.out
          exact ⟨k + 1, by omega, by go_num, sl_snoc hlt (by rw [← hx]; exact ho'), grown_own2' hg hown hg'⟩
        case measure => simp [intOf]; omega
      | some x =>
        have c1' : wr.cell? ⟨b, k, none⟩ = some (nodeV x) := c1
        have heq := node_eql x wr
        clear c1
        go_wp2_with (first
          | (go_at_call 48; refine (number_any _ _).mono ?_; rintro e w' ⟨rfl, rfl⟩)
          | (at_builtin; refine wpx_app1 elSl rfl (.tmp 25) (.tmp 29) rfl w.heap.size u4 k _ rfl (HX.out.2.1.alloc _) wr.heap.size #[.bool false, .int .i64 x] (heap_alloc_new wr _) (wr.heap.size + 1) (by simp) 1 rfl rfl (by simp [Value.oneCell']) (by omega) (by unfold maxLen; omega) (by omega) ?_; intro g cap w' ho' hg' hat hlt2 hsz2))
        go_roundw
        case rel =>
          obtain ⟨hx, hown, hg⟩ := HX.out
          exact ⟨k + 1, by omega, by go_num, sl_snoc hlt (by rw [← hx]; exact ho'), grown_own2' hg hown hg'⟩
        case measure => simp [intOf]; omega
    · have hlt' : ¬ (k : Int) < os.length := by omega
      obtain rfl : k = os.length := by omega
      rw [List.take_length] at hown
      obtain ⟨wa, rfl⟩ : ∃ wa : World, wa = wr := ⟨_, rfl⟩
      obtain ⟨cv, o7, hl7, hea⟩ := HY.out
      obtain ⟨a7, c7, rfl⟩ := own_slice o7
      have HX := Lib.hid (And.intro hown hg)
      have heq := err_some (.slice a7 cv.length c7) wa
      have hta := as_uno (.slice a7 cv.length c7) wa
      have HC7 : Hid (∀ W, w.grownBy W none → ∀ i, (hi : i < cv.length) → ∃ b, a7 = some ⟨b, 0, none⟩ ∧ W.cell? ⟨b, i, none⟩ = some cv[i] ∧ ∃ c : List Int, D[i]? = some c ∧ c.length ≤ 1000 ∧ NodesR W cv[i] c) := Lib.hid (fun W hW i hi => by
        obtain ⟨b, cap, e, -, hb, -⟩ := own_row o7 (by omega)
        simp only [Value.slice.injEq] at e
        obtain ⟨rfl, -, rfl⟩ := e
        refine ⟨b, rfl, ?_, ?_⟩
        · rw [grown_cell hW hb (by simp)]
          have := o7.cells (g := b) rfl i cv[i] (by simp [hi])
          rwa [addr_add, Nat.zero_add] at this
        · have hiD : i < D.length := by omega
          have k2 := hea i cv[i] D[i] (List.getElem?_eq_getElem hi) (List.getElem?_eq_getElem hiD)
          exact ⟨D[i], List.getElem?_eq_getElem hiD, HDE.out _ (List.getElem_mem hiD), (NodesR.of_own k2).grown hW⟩)
      have hw0 := hg.size
      have HL7 := Lib.hid hl7
      have hcv9 : cv.length ≤ 1000 := by omega
      clear hown hg o7 hea HC hl7
      go_wp2_with fail
      go_loopw [5, 12, 42] (fun a5 _ i wr => ∃ k : Nat, k ≤ cv.length ∧ i = .int .i64 k ∧ (∃ vs, wr.ownsRow wa.heap.size intsT 1 a5 k vs ∧ LLs wr wa.heap.size vs (D.take k)) ∧ wa.grownBy wr none) (fun _ _ i _ => cv.length - (intOf i).toNat)
      case atStart => exact ⟨0, Nat.zero_le _, rfl, ⟨[], ⟨rfl, .inl ⟨rfl, rfl⟩⟩, by simp [LLs]⟩, grown_refl _⟩
      case round =>
        obtain ⟨k, hk, rfl, ⟨vs, hvs, hll⟩, hg⟩ := hrel
        by_cases hlt : k < cv.length
        · have hlt' : (k : Int) < cv.length := by omega
          obtain ⟨b, rfl, c1, c, hDk, hc, hn⟩ := HC7.out wr (grown_tr HX.out.2 hg) k hlt
          obtain ⟨v, hv⟩ : ∃ v, v = cv[k] := ⟨_, rfl⟩
          rw [← hv] at c1 hn
          have hnum := numbers_any hn (by omega)
          obtain ⟨av, cc, rfl, -⟩ := hn
          have HV := Lib.hid (And.intro hvs (And.intro hg (And.intro hll hDk)))
          have hsz := hg.size
          clear hvs hg hv hll hDk
          go_wp2_with (first
            | (go_at_call 63; refine hnum.mono ?_; intro e w1 hp; obtain ⟨v1, rfl, o1, hg1⟩ := hp; have hvs1 := own_new HV.out.1 hg1; have hsz1 := hg1.size; obtain ⟨av1, cv1, rfl⟩ := own_slice o1; replace o1 := Lib.hid o1; replace hvs1 := Lib.hid hvs1)
            | (at_builtin; refine wpx_app1 elLL rfl (.tmp 46) (.tmp 49) rfl wa.heap.size u5 k vs rfl (hvs1.out.alloc _) w1.heap.size #[.slice av1 c.length cv1] (heap_alloc_new w1 _) (w1.heap.size + 1) (by simp) 1 rfl rfl (by simp [Value.oneCell']) (by omega) (by unfold maxLen; omega) (by omega) ?_; intro g cap w' ho' hg' hat hlt2 hsz2))
          go_roundw
          case rel =>
            obtain ⟨hvs, hg, hll, hDk⟩ := HV.out
            obtain ⟨hkD, rfl⟩ := List.getElem?_eq_some_iff.1 hDk
            have hlen : (D.take k).length = k := by rw [List.length_take]; omega
            refine ⟨k + 1, by omega, by go_num, ⟨_, ho', ?_⟩, grown_own2' (grown_tr hg hg1) hvs1.out hg'⟩
            rw [List.take_succ_eq_append_getElem hkD]
            exact LLs.snoc (e := intsT) (by decide) hll hg1 (own_mono o1.out (Nat.le_trans hg.size (Nat.le_refl _))) (grown_alloc _ _) (by rw [hlen]; exact hvs1.out.alloc _) hg'
          case measure => simp [intOf]; omega
        · have hlt' : ¬ (k : Int) < cv.length := by omega
          obtain rfl : k = cv.length := by omega
          rw [HL7.out, List.take_length] at hll
          have HV := Lib.hid (And.intro hvs (And.intro hg hll))
          clear hvs hg hll
          go_wp2_with fail
          refine bodyPost_ret (v := .tuple #[u4, u5, .bool false]) (by simp [results, Tryz.results40, go_sem]) rfl ⟨u4, u5, rfl, own_new HX.out.1 HV.out.2.1, LLs.rows (by rw [← HL7.out]; exact HV.out.1) HV.out.2.2, grown_tr HX.out.2 HV.out.2.1⟩
end Go.Proofs.YtdllkoiddlcnmaaGreat
namespace Go.Proofs.YtdllkoiddlcnmaaGreat
open Go.MapKept Go.RowKit

def compK (K : List Int → List Int) (ids : List Int) (M : Mat) : List (List Int) := (tall (fun x => (K (outs ids M x)).reverse) ids.length (K ids).reverse).out
theorem compK_ok {K : List Int → List Int} {ids : List Int} {M : Mat} (hK : ∀ l, (K l).Perm l) (hclo : ∀ x ∈ ids, ∀ y ∈ outs ids M x, y ∈ ids) : TallOk (fun x => (K (outs ids M x)).reverse) ids (compK K ids M) :=
  tall_is (fun x hx y hy => hclo x hx y ((hK _).mem_iff.1 (List.mem_reverse.1 hy))) (fun x => by rw [List.mem_reverse, (hK _).mem_iff])

set_option maxHeartbeats 1000000 in
set_option maxRecDepth 100000 in
theorem sortKst_lex {K : List Int → List Int} {p0 : Nat} {ids : List Int} {M : Mat} {w : World} (hK : ∀ l, (K l).Perm l)
    (hord : ∀ W B e v l, w.grownBy W none → w.heap.size ≤ B → W.ownsRow B e 1 v l.length (l.map nodeV) → l.length ≤ 1000 → (∀ y ∈ l, y ∈ ids) → Calls Tryz.prog 62 #[v] W (KPost K l B e v W))
    (h : PlnR w p0 ids M) (hl : ids.length ≤ 1000) (ha : ids.Pairwise (· < ·)) (hclo : ∀ x ∈ ids, ∀ y ∈ outs ids M x, y ∈ ids) :
    Calls Tryz.prog 41 #[.iface dirT (dirV p0), .nilFunc] w (SkPost K w (compK K ids M).reverse w) := by
  have hnd : ids.Nodup := ha.imp (by intro a b h; omega)
  have hcall : Calls Tryz.prog 64 #[.iface dirT (dirV p0), lexV] w (ListsPost (compK K ids M).reverse w) :=
    tarjan_lex (K := K) (fun l => (hK l).length_eq) (fun l x => (hK l).mem_iff) hord fun_neq h hl ha hclo
  have tok := compK_ok hK hclo
  have HOK := Lib.hid (tok.comp hnd hl)
  have HIN : Hid (∀ c ∈ (compK K ids M).reverse, ∀ y ∈ c, y ∈ ids) := Lib.hid (fun c hc y hy => (tok.mem y).1 (List.mem_flatten.2 ⟨c, by simpa using hc, hy⟩))
  have HO := Lib.hid hord
  have HK := Lib.hid hK
  clear h ha hclo hnd hl tok hord hK
  obtain ⟨L, hL⟩ : ∃ L, L = (compK K ids M).reverse := ⟨_, rfl⟩
  rw [← hL] at hcall HOK HIN ⊢
  clear hL
  have hfn := fun W => fun_nil W
  go_enter Tryz.func41, Tryz.ntmps41
  go_wp2_with (first
    | (go_at_call 64; refine hcall.mono ?_; intro e w1 hp; obtain ⟨vo, vals, rfl, o1, o2, o3, o4⟩ := hp; have hs := sortedK_lex HOK.out HK.out HIN.out HO.out o1 o2 o3 o4; unfold SkPost at hs; replace o1 := Lib.hid o1)
    | (go_at_call 61; refine hs.mono ?_; intro e w2 hp; obtain ⟨v6, err, rfl, hp⟩ := hp; replace hp := Lib.hid hp))
  go_ret2
  exact ⟨v6, err, rfl, hp.out⟩
theorem by_neq (bp : Nat) (W : World) : (binOp .eql 90 (byV bp) .nilFunc).run Tryz.prog W = .ok (.bool false) W := by kernel_rfl
set_option maxHeartbeats 1000000 in
set_option maxRecDepth 100000 in
theorem sortKst_by {bp : Nat}{K : List Int → List Int} {p0 : Nat} {ids : List Int} {M : Mat} {w : World} (hK : ∀ l, (K l).Perm l)
    (hord : ∀ W B e v l, w.grownBy W none → w.heap.size ≤ B → W.ownsRow B e 1 v l.length (l.map nodeV) → l.length ≤ 1000 → (∀ y ∈ l, y ∈ ids) → Calls Tryz.prog 44 #[v, .pointer (some ⟨bp, 0, none⟩)] W (KPost K l B e v W))
    (h : PlnR w p0 ids M) (hl : ids.length ≤ 1000) (ha : ids.Pairwise (· < ·)) (hclo : ∀ x ∈ ids, ∀ y ∈ outs ids M x, y ∈ ids) :
    Calls Tryz.prog 41 #[.iface dirT (dirV p0), (byV bp)] w (SkPost K w (compK K ids M).reverse w) := by
  have hnd : ids.Nodup := ha.imp (by intro a b h; omega)
  have hcall : Calls Tryz.prog 64 #[.iface dirT (dirV p0), (byV bp)] w (ListsPost (compK K ids M).reverse w) :=
    tarjan_by (K := K) (fun l => (hK l).length_eq) (fun l x => (hK l).mem_iff) hord (by_neq bp) h hl ha hclo
  have tok := compK_ok hK hclo
  have HOK := Lib.hid (tok.comp hnd hl)
  have HIN : Hid (∀ c ∈ (compK K ids M).reverse, ∀ y ∈ c, y ∈ ids) := Lib.hid (fun c hc y hy => (tok.mem y).1 (List.mem_flatten.2 ⟨c, by simpa using hc, hy⟩))
  have HO := Lib.hid hord
  have HK := Lib.hid hK
  clear h ha hclo hnd hl tok hord hK
  obtain ⟨L, hL⟩ : ∃ L, L = (compK K ids M).reverse := ⟨_, rfl⟩
  rw [← hL] at hcall HOK HIN ⊢
  clear hL
  have hfn := fun W => (by_neq bp) W
  go_enter Tryz.func41, Tryz.ntmps41
  go_wp2_with (first
    | (go_at_call 64; refine hcall.mono ?_; intro e w1 hp; obtain ⟨vo, vals, rfl, o1, o2, o3, o4⟩ := hp; have hs := sortedK_by HOK.out HK.out HIN.out HO.out o1 o2 o3 o4; unfold SkPost at hs; replace o1 := Lib.hid o1)
    | (go_at_call 61; refine hs.mono ?_; intro e w2 hp; obtain ⟨v6, err, rfl, hp⟩ := hp; replace hp := Lib.hid hp))
  go_ret2
  exact ⟨v6, err, rfl, hp.out⟩

def TCyc (C D : List (List Int)) (w : World) (e : Ending) (w' : World) : Prop := ∃ v6 s7, e = .returned (.tuple #[v6, .iface unoT s7]) ∧ w'.ownsRow w.heap.size nodT 1 v6 (ord C).length ((ord C).map encO) ∧ CycK w' w.heap.size D s7 ∧ w.grownBy w' none
def StCyc (C D : List (List Int)) (w : World) (e : Ending) (w' : World) : Prop := ∃ vo vc, e = .returned (.tuple #[vo, vc, .bool false, .bool false]) ∧ w'.ownsRow w.heap.size slotT 2 vo (ord C).length ((ord C).flatMap encSl) ∧ RowsR w' vc D ∧ w.grownBy w' none
/-- what is in no order, as it is told -/
def cycL (K : List Int → List Int) (C : List (List Int)) : List (List Int) := (cycs K C.reverse).reverse
theorem cycL_len {K : List Int → List Int} {C : List (List Int)} (hK : ∀ l, (K l).Perm l) (ok : CompOk C.reverse) : (cycL K C).length ≤ 1000 ∧ ∀ d ∈ cycL K C, d.length ≤ 1000 := by
  unfold cycL cycs
  refine ⟨by rw [List.length_reverse, List.length_map]; exact Nat.le_trans (bigs_len _ _) ok.len, fun d hd => ?_⟩
  rw [List.mem_reverse, List.mem_map] at hd
  obtain ⟨i, hi, rfl⟩ := hd
  have hiL := (bigs_lt hi).1
  rw [(hK _).length_eq]
  have e : C.reverse.getD i [] = C.reverse[i] := by rw [List.getD_eq_getElem?_getD, List.getElem?_eq_getElem hiL]; rfl
  rw [e]
  exact ok.each _ (List.getElem_mem hiL)
theorem SkPost.good {K : List Int → List Int} {C : List (List Int)} {w : World} {e : Ending} {w' : World} (ha : AllOne C) (h : SkPost K w C.reverse w e w') : TOk C w e w' := by
  obtain ⟨v6, err, h1, h2, h3, -, h5⟩ := h
  rw [h3 (fun c hc => ha c (by simpa using hc))] at h1
  rw [ord_eq, List.length_reverse] at h2
  exact ⟨v6, h1, by unfold ord at *; rw [List.length_map]; exact h2, h5⟩
theorem SkPost.bad {K : List Int → List Int} {C : List (List Int)} {w : World} {e : Ending} {w' : World} (ha : ¬ AllOne C) (h : SkPost K w C.reverse w e w') : TCyc C (cycL K C) w e w' := by
  obtain ⟨v6, err, h1, h2, -, h4, h5⟩ := h
  obtain ⟨s7, cv, e7, k1, k2, k3⟩ := h4 (fun hh => ha (fun c hc => hh c (by simpa using hc)))
  rw [e7] at h1
  rw [ord_eq, List.length_reverse] at h2
  exact ⟨v6, s7, h1, by unfold ord at *; rw [List.length_map]; exact h2, ⟨cv, k1, by unfold cycL; rw [List.length_reverse]; exact k2, k3⟩, h5⟩

theorem srt_perm' (l : List Int) : (srt l).Perm l := srt_perm l
set_option maxHeartbeats 2000000 in
set_option maxRecDepth 100000 in
theorem isortStK_bad {G : Gr} {v : Value} {w : World} (h : GrR w v G) (hG : G.Well) (hd : G.dir = true) (hnl : G.nodes.length ≤ 1000) (hel : G.edges.length ≤ 8000) (ha : ¬ AllOne (compK srt G.ids G.mat)) :
    Calls Tryz.prog 20 #[v] w (StCyc (compK srt G.ids G.mat) (cycL srt (compK srt G.ids G.mat)) w) := by
  have hone : ∀ O, Calls Tryz.prog 38 #[v] (w.alloc O) (fun e w' => ∃ p0, e = .returned (.tuple #[dirV p0, .bool true]) ∧ PlnR w' p0 G.ids G.mat ∧ (w.alloc O).grownBy w' none) := fun O =>
    (oneWay_any (h.grown (grown_alloc w O)) hG hnl (by omega)).mono (fun e w' ⟨p0, h1, h2⟩ => ⟨p0, by rw [h1, hd], h2⟩)
  have hids : G.ids.length ≤ 1000 := by rw [Gr.length_ids]; exact hnl
  have hclo : ∀ x ∈ G.ids, ∀ y ∈ outs G.ids G.mat x, y ∈ G.ids := fun x _ y hy => outs_in hy
  have hnd : G.ids.Nodup := hG.ids.imp (by intro a b h; omega)
  have hok := (compK_ok srt_perm' hclo).comp hnd hids
  have HD := Lib.hid (cycL_len srt_perm' hok)
  have htp : ∀ W p0, PlnR W p0 G.ids G.mat → Calls Tryz.prog 41 #[.iface dirT (dirV p0), .nilFunc] W (TCyc (compK srt G.ids G.mat) (cycL srt (compK srt G.ids G.mat)) W) := fun W p0 hp =>
    (sortKst_lex (w := W) (p0 := p0) srt_perm' (fun W' B e v l _ _ ho hl _ => lex_call ho hl) hp hids hG.ids hclo).mono (fun _ _ k => SkPost.bad ha k)
  have HLEN : Hid ((ord (compK srt G.ids G.mat)).length ≤ 1000) := Lib.hid (by have := hok.len; unfold ord; rw [List.length_map]; simpa using this)
  obtain ⟨C, hC⟩ : ∃ C, C = compK srt G.ids G.mat := ⟨_, rfl⟩
  rw [← hC] at HLEN HD htp ⊢
  obtain ⟨D, hDD⟩ : ∃ D, D = cycL srt C := ⟨_, rfl⟩
  rw [← hDD] at HD htp ⊢
  have HT := Lib.hid htp
  obtain ⟨vn, ve, rfl, ⟨an, cn, rfl, _⟩, ⟨ae, ce, rfl, _⟩⟩ := h.parts
  clear h hC htp hok ha hclo hnd hG hel hnl hids hd hDD
  go_enter Tryz.func20, Tryz.ntmps20
  go_wp2_with (first
    | (go_at_call 38; refine (hone _).mono ?_; intro e w1 hp; obtain ⟨p0, rfl, hp1, hg1⟩ := hp; replace hp1 := Lib.hid hp1; replace hg1 := Lib.hid hg1)
    | (go_at_call 41; refine (HT.out _ _ (by have := hp1.out; exact this.grown (grown_alloc _ _))).mono ?_; intro e w2 hp; obtain ⟨v6, s7, rfl, o6, hcy, hg2⟩ := hp; have hsl := slots_cyc o6 HLEN.out hcy HD.out.1 HD.out.2; unfold SlCyc at hsl; have hgw : Hid (w.grownBy w2 none) := Lib.hid (grown_tr (grown_tr (grown_tr (grown_alloc _ _) hg1.out) (grown_alloc _ _)) hg2); clear o6 hg2 hcy)
    | (go_at_call 40; refine hsl.mono ?_; intro e w3 hp; obtain ⟨vo, vc, rfl, o9, r9, hg3⟩ := hp; replace o9 := Lib.hid (And.intro o9 r9); clear r9))
  refine bodyPost_ret (v := .tuple #[vo, vc, .bool false, .bool false]) (by simp [results, Tryz.results20, go_sem]) rfl ⟨vo, vc, rfl, own_mono o9.out.1 (hgw.out).size, o9.out.2, grown_tr hgw.out hg3⟩
end Go.Proofs.YtdllkoiddlcnmaaGreat
