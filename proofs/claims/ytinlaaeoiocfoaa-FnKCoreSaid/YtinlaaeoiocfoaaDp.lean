/- topo.degeneracyOrdering, walked: its two first loops (degrees, neighbours, buckets), the main loop. -/
import Derived.Test.YtinlaaeoiocfoaaDr
import Derived.Test.YtinlaaeoiocfoaaUn
import Derived.Test.YtinlaaeoiocfoaaOu
import Derived.BigRegion
namespace Go.Proofs.Ytinlaaeoiocfoaa
open Go.MapKept Go.RowKit

abbrev numT : TypeId := 81
abbrev nbT : TypeId := 82
theorem undDv : Try.prog.underlying numT = some (.map 2 3) := Try.underlying81
theorem undNb : Try.prog.underlying nbT = some (.map 2 bkT) := Try.underlying82
def DlPost (l : List Int) (w : World) (e : Ending) (w' : World) : Prop := ∃ v, e = .returned v ∧ w'.ownsRow w.heap.size nodT 1 v l.length (l.map nodeV) ∧ w.grownBy w' none
theorem DlPost.of {l : List Int} {w w1 : World} {q : Nat} {e : Ending} {w2 : World} (hq : w.heap.size ≤ q) (hg : w.grownBy w1 none) (h : NofPost l w.heap.size q w1 e w2) : DlPost l w e w2 := by
  obtain ⟨v, h1, h2, h3⟩ := h
  exact ⟨v, h1, h2, grown_new hg h3 (fun k hk => by cases hk; exact hq)⟩

theorem mk_bk (n : Nat) (hn : n ≤ 1000000) (w : World) : (Instr.makeSlice 47 (.int .i64 (n : Int)) (.int .i64 (n : Int))).run Try.prog w = .ok (.slice (some ⟨w.heap.size, 0, none⟩) n n) (w.alloc (.cells (madeCells #[.slice none 0 0] n) bkT)) := run_make_row' (P := Try.prog) 47 bkT (.slice none 0 0) 24 Try.underlying47 (by kernel_rfl) rfl .i64 .i64 n (by omega) (by omega) w
theorem rowIs_madeD {w : World} {b n : Nat} (h : w.heap[b]? = some (.cells (madeCells #[.slice none 0 0] n) bkT (0, 0))) : w.rowIs b bkT n (fun _ => .slice none 0 0) := by
  obtain ⟨c, hc, h1, h2⟩ := World.rowIs_made default (.slice none 0 0) n bkT
  have e := heap_alloc_new (default : World) (.cells (madeCells #[.slice none 0 0] n) bkT)
  rw [e] at hc
  simp at hc
  subst hc
  exact ⟨_, h, h1, h2⟩
/-- buckets that are made: all empty -/
theorem RowsD.made (w : World) (n : Nat) : RowsD (w.alloc (.cells (madeCells #[.slice none 0 0] n) bkT)) w.heap.size w.heap.size n (fun _ => .slice none 0 0) (fun _ => []) :=
  ⟨rowIs_madeD (heap_alloc_new w _), fun _ _ => ⟨rfl, .inl ⟨rfl, rfl⟩⟩, fun _ _ _ _ _ => .inl rfl, Nat.le_refl _⟩
theorem take_mem {l : List Int} {k : Nat} (hk : k < l.length) (y : Int) : y ∈ l.take (k + 1) ↔ y = l[k] ∨ y ∈ l.take k := by
  rw [List.take_succ_eq_append_getElem hk, List.mem_append, List.mem_singleton, or_comm]

/-- the first loop: the degrees and the neighbours of the nodes that are past -/
def Dg1 (N : Int → List Int) (ids : List Int) (w : World) (mv mn : Nat) (a6 i : Value) (wr : World) : Prop :=
  ∃ (k mx : Nat) (nbv : Int → Value), k ≤ ids.length ∧ i = .int .i64 k ∧ a6 = .int .i64 mx ∧ mx ≤ 1000 ∧ (∀ x ∈ ids.take k, (N x).length ≤ mx) ∧
    VMap wr mv (fun x => if x ∈ ids.take k then some (.int .i64 (N x).length) else none) ∧ VMap wr mn (fun x => if x ∈ ids.take k then some (nbv x) else none) ∧
    (∀ x ∈ ids.take k, wr.ownsRow w.heap.size nodT 1 (nbv x) (N x).length ((N x).map nodeV)) ∧ w.grownBy wr none

theorem Dg1.next {N : Int → List Int} {ids : List Int} {w wr w4 w5 w6 : World} {mv mn k mx mx' : Nat} {nbv : Int → Value} {x : Int} {v : Value} (hk : k < ids.length) (hx : x = ids[k]) (hmx : mx' ≤ 1000) (hle : ∀ y ∈ ids.take k, (N y).length ≤ mx) (h1 : mx ≤ mx') (h2 : (N x).length ≤ mx')
    (hmv : VMap wr mv (fun y => if y ∈ ids.take k then some (.int .i64 (N y).length) else none)) (hmn : VMap wr mn (fun y => if y ∈ ids.take k then some (nbv y) else none)) (hnb : ∀ y ∈ ids.take k, wr.ownsRow w.heap.size nodT 1 (nbv y) (N y).length ((N y).map nodeV)) (hg : w.grownBy wr none)
    (o4 : w4.ownsRow wr.heap.size nodT 1 v (N x).length ((N x).map nodeV)) (g4 : wr.grownBy w4 none) (m5 : VMap w5 mn (updO (fun y => if y ∈ ids.take k then some (nbv y) else none) x (some v))) (g5 : w4.grownBy w5 (some mn))
    (m6 : VMap w6 mv (updO (fun y => if y ∈ ids.take k then some (.int .i64 (N y).length) else none) x (some (.int .i64 (N x).length)))) (g6 : w5.grownBy w6 (some mv)) (hne : mv ≠ mn) (hb1 : w.heap.size ≤ mv) (hb2 : w.heap.size ≤ mn) :
    Dg1 N ids w mv mn (.int .i64 mx') (.int .i64 ((k : Int) + 1)) w6 := by
  have tk := fun y => take_mem hk y
  rw [← hx] at tk
  have keep : ∀ {b n : Nat} {u : Value} {xs : List Value}, w4.ownsRow b nodT 1 u n xs → w6.ownsRow b nodT 1 u n xs := fun hu => by
    have h5 := hu.kept g5 (.inr ((hmn.grown g4 (by simp)).row hu).symm)
    exact h5.kept g6 (.inr ((((hmv.grown g4 (by simp)).grown g5 (by simpa using hne))).row h5).symm)
  refine ⟨k + 1, mx', fun y => if y = x then v else nbv y, by omega, by go_num, rfl, hmx, fun y hy => ?_, m6.congr (fun y => ?_), ((m5.grown g6 (by simpa using (Ne.symm hne))).congr (fun y => ?_)), fun y hy => ?_, ?_⟩
  · rcases (tk y).1 hy with rfl | h
    · exact h2
    · exact Nat.le_trans (hle y h) h1
  · unfold updO
    by_cases e : y = x
    · subst e
      rw [if_pos rfl, if_pos ((tk y).2 (.inl rfl))]
    · rw [if_neg e]
      have : (y ∈ ids.take (k + 1)) ↔ y ∈ ids.take k := (tk y).trans ⟨fun h => h.resolve_left e, .inr⟩
      simp only [this]
  · unfold updO
    by_cases e : y = x
    · subst e
      rw [if_pos rfl, if_pos ((tk y).2 (.inl rfl))]
      simp only [if_true]
    · rw [if_neg e]
      simp only [if_neg e]
      have : (y ∈ ids.take (k + 1)) ↔ y ∈ ids.take k := (tk y).trans ⟨fun h => h.resolve_left e, .inr⟩
      simp only [this]
  · by_cases e : y = x
    · subst e
      simp only [if_true]
      exact keep (own_mono o4 hg.size)
    · simp only [if_neg e]
      exact keep (own_new (hnb y (((tk y).1 hy).resolve_left e)) g4)
  · exact grown_new (grown_new (grown_tr hg g4) g5 (fun j hj => by cases hj; exact hb2)) g6 (fun j hj => by cases hj; exact hb1)


/-- the second loop: the nodes that are past lie in their buckets -/
def bkOf (N : Int → List Int) (l : List Int) : Nat → List Int := fun j => l.filter (fun x => decide ((N x).length = j))
def Dg2 (N : Int → List Int) (ids : List Int) (wa : World) (H m : Nat) (i : Value) (wr : World) : Prop :=
  ∃ (k : Nat) (V : Nat → Value), k ≤ ids.length ∧ i = .int .i64 k ∧ RowsD wr H H m V (bkOf N (ids.take k)) ∧ wa.grownBy wr none
theorem bkOf_snoc (N : Int → List Int) (l : List Int) (x : Int) : bkOf N (l ++ [x]) = updN (bkOf N l) (N x).length (bkOf N l (N x).length ++ [x]) := by
  funext j
  unfold bkOf updN
  rw [List.filter_append]
  by_cases e : j = (N x).length
  · subst e
    simp
  · rw [if_neg e, List.filter_cons_of_neg (by simpa using fun h : (N x).length = j => e h.symm)]
    simp
theorem zeroInt (w : World) : (zeroValue 3).run Try.prog w = .ok (.int .i64 0) w := by kernel_rfl

theorem zeroNb (w : World) : (zeroValue bkT).run Try.prog w = .ok (.slice none 0 0) w := by kernel_rfl

set_option maxHeartbeats 16000000 in
set_option maxRecDepth 100000 in
theorem degOrd_any {p0 : Nat} {ids : List Int} {M : Mat} {w : World} (h : PlnR w p0 ids M) (hl : ids.length ≤ 1000) (ha : ids.Pairwise (· < ·)) (hsy : Sym (outs ids M) ids) (hcl : ∀ x ∈ ids, ∀ y ∈ outs ids M x, y ∈ ids) :
    Calls Try.prog 20 #[.iface undT (dirV p0)] w (DegPost (outs ids M) ids w) := by
  have hnodes := und_nodes h hl
  have HSY := Lib.hid (And.intro hsy (And.intro hcl (ha.imp (fun h => Int.ne_of_lt h) : ids.Nodup)))
  clear hsy hcl
  have hmh : ∀ (n : Int) (w : World), (Instr.makeMap numT (some (.int .i64 n))).run Try.prog w = .ok (.map (some w.heap.size)) (w.alloc (.map #[] 0)) := fun n w => by simp [Instr.makeMap, run_underlying undDv, asInt, asIntOf, Result.andThen]
  have hmm := @run_makeMap Try.prog
  go_enter Try.func20, Try.ntmps20
  go_wp2_with (first
    | (go_at_call 80; refine hnodes.mono ?_; intro e w1 hp; obtain ⟨q, vs, rfl, hp1, hp2, hp3, hp4⟩ := hp)
    | (go_at_call 30; refine (nodesOf_it hp1 hp2 (by omega)).mono ?_; intro e w2 hn; have hn' := DlPost.of hp3 hp4 hn; obtain ⟨vn, rfl, hn2, hn3⟩ := hn'; clear hn; obtain ⟨an, cn, hvn⟩ := own_slice hn2; subst hvn))
  have HC : Hid (∀ i, (hi : i < ids.length) → ∃ g, an = some ⟨g, 0, none⟩ ∧ ∀ W, w2.grownBy W none → W.cell? ⟨g, i, none⟩ = some (nodeV ids[i])) := Lib.hid (fun i hi => by
    obtain ⟨g, cap, e1, _, hg, _⟩ := own_row hn2 (by omega)
    simp only [Value.slice.injEq] at e1
    obtain ⟨rfl, _, rfl⟩ := e1
    refine ⟨g, rfl, fun W hW => ?_⟩
    rw [grown_cell hW hg (by simp)]
    have := hn2.cells (g := g) rfl i (nodeV ids[i]) (by simp [hi])
    rwa [addr_add, Nat.zero_add] at this)
  have HPL := Lib.hid (And.intro (h.grown hn3) ha)
  have HG2 := Lib.hid hn3
  have HS0 : Hid (Dg1 (outs ids M) ids w2 w2.heap.size (w2.heap.size + 1) (.int .i64 0) (.int .i64 0) ((w2.alloc (.map #[] 0)).alloc (.map #[] 0))) := Lib.hid ⟨0, 0, fun _ => .nilIface, Nat.zero_le _, rfl, rfl, by omega, by simp, ((VMap.made w2).grown (grown_alloc _ _) (by simp)).congr (fun x => by simp), by
    have := VMap.made (w2.alloc (.map #[] 0))
    rw [World.size_alloc] at this
    exact this.congr (fun x => by simp), by simp, grown_tr (grown_alloc _ _) (grown_alloc _ _)⟩
  clear hn2 hn3 h ha hp1 hp2 hp3 hp4 hnodes hmh hmm
  go_loopw [6, 9, 10, 11, 35] (fun a6 _ _ _ i wr => Dg1 (outs ids M) ids w2 w2.heap.size (w2.heap.size + 1) a6 i wr) (fun _ _ _ _ i _ => ids.length - (intOf i).toNat)
  case atStart => exact HS0.out
  case round => as_aux_lemma =>
    clear HS0
    obtain ⟨k, mx, nbv, hk, rfl, rfl, hmx, hle, hmv, hmn, hnb, hg⟩ := hrel
    by_cases hlt : k < ids.length
    · as_aux_lemma =>
        have hlt' : (k : Int) < ids.length := by omega
        obtain ⟨g, rfl, hcell⟩ := HC.out k hlt
        have c1 := hcell wr hg
        have hmem : ids[k] ∈ ids := List.getElem_mem hlt
        have hfr := und_from (HPL.out.1.grown hg) hl hmem HPL.out.2
        have hol : (outs ids M ids[k]).length ≤ 1000 := Nat.le_trans (length_outs ids M _) hl
        obtain ⟨x, hx⟩ : ∃ x, x = ids[k] := ⟨_, rfl⟩
        obtain ⟨L, hL⟩ : ∃ L, L = outs ids M x := ⟨_, rfl⟩
        rw [← hx] at c1 hfr hol
        rw [← hL] at hfr hol
        have HX := Lib.hid (And.intro hx (And.intro hL (And.intro hle (And.intro hmv (And.intro hmn (And.intro hnb hg))))))
        have hm0 : (mx : Int) ≤ 1000 := by omega
        clear hx hL hle hmv hmn hnb hg hcell hmem
        by_cases hmb : mx < L.length
        all_goals
          have hmb' := hmb
          have hcmp : decide ((mx : Int) < (L.length : Int)) = decide (mx < L.length) := by rw [Bool.eq_iff_iff, decide_eq_true_eq, decide_eq_true_eq]; omega
          clear hmb'
          go_wp2_with (first
            | (go_at_call 92; refine (id_node _ _).mono ?_; rintro e w' ⟨rfl, rfl⟩)
            | (go_at_call 78; refine hfr.mono ?_; intro e w3 hp; obtain ⟨q, vs, rfl, hp1, hp2, hp3, hp4⟩ := hp)
            | (go_at_call 30; refine (nodesOf_it hp1 hp2 (by omega)).mono ?_; intro e w4 hn; have hn' := DlPost.of hp3 hp4 hn; obtain ⟨v4, rfl, o4, hg4⟩ := hn'; clear hn hp1 hp2 hp3 hp4; obtain ⟨a4, c4, hv4⟩ := own_slice o4; subst hv4; obtain ⟨w5, r5, m5, g5⟩ := (HX.out.2.2.2.2.1.grown hg4 (by simp)).upd undNb undK x (.slice a4 L.length c4); obtain ⟨w6, r6, m6, g6⟩ := ((HX.out.2.2.2.1.grown hg4 (by simp)).grown g5 (by simp)).upd undDv undK x (.int .i64 L.length); replace m5 := Lib.hid m5; replace m6 := Lib.hid m6; replace o4 := Lib.hid o4))
          obtain ⟨hx, hL, hle, hmv, hmn, hnb, hg⟩ := HX.out
          refine ⟨Dg1.next hlt hx (by omega) hle (by omega) (by rw [← hL]; omega) hmv hmn hnb hg (by rw [← hL]; exact o4.out) hg4 m5.out g5 (by rw [← hL]; exact m6.out) g6 (by omega) (by omega) (by omega), by simp [intOf]; omega⟩
    · have hlt' : ¬ (k : Int) < ids.length := by omega
      obtain rfl : k = ids.length := by omega
      have HX := Lib.hid (And.intro hle (And.intro hmv (And.intro hmn (And.intro hnb hg))))
      have hmk := mk_bk (mx + 1) (by omega) wr
      have e1 : ((mx + 1 : Nat) : Int) = (mx : Int) + 1 := by omega
      rw [e1] at hmk
      have hw1 : IntKind.i64.wrap ((mx : Int) + 1) = (mx : Int) + 1 := by rw [IntKind.wrap_i64]; omega
      clear hle hmv hmn hnb hg e1
      obtain ⟨wa, rfl⟩ : ∃ wa : World, wa = wr := ⟨_, rfl⟩
      have HD0 : Hid (Dg2 (outs ids M) ids wa wa.heap.size (mx + 1) (.int .i64 0) (wa.alloc (.cells (madeCells #[.slice none 0 0] (mx + 1)) bkT))) := Lib.hid ⟨0, _, Nat.zero_le _, rfl, RowsD.made wa (mx + 1), grown_alloc _ _⟩
      go_wp2_with fail
      clear hmk hw1
      go_loopw [14, 15, 64] (fun _ _ i wr => Dg2 (outs ids M) ids wa wa.heap.size (mx + 1) i wr) (fun _ _ i _ => ids.length - (intOf i).toNat)
      case atStart => exact HD0.out
      case round => as_aux_lemma =>
        clear HD0
        obtain ⟨k, V, hk2, rfl, hrd, hg2⟩ := hrel
        by_cases hlt2 : k < ids.length
        · as_aux_lemma =>
            have hlt2' : (k : Int) < ids.length := by omega
            obtain ⟨hle, hmv, hmn, hnb, hg⟩ := HX.out
            rw [List.take_length] at hle hmv
            obtain ⟨g, rfl, hcell⟩ := HC.out k hlt2
            have c1 := hcell wr (grown_tr hg hg2)
            have hmem : ids[k] ∈ ids := List.getElem_mem hlt2
            have hlk := (hmv.grown hg2 (by simp)).look (P := Try.prog) undDv undK (zeroInt wr) ids[k] false
            rw [if_pos hmem] at hlk
            obtain ⟨x, hx⟩ : ∃ x, x = ids[k] := ⟨_, rfl⟩
            rw [← hx] at c1 hlk hmem
            obtain ⟨dg, hdg⟩ : ∃ dg, dg = (outs ids M x).length := ⟨_, rfl⟩
            have hdm : dg < mx + 1 := by have := hle x hmem; omega
            rw [← hdg] at hlk
            have hlk2 : (Instr.lookup numT (.map (some w2.heap.size)) (.int .i64 x) false).run Try.prog wr = .ok (.int .i64 dg) wr := hlk
            have c2 : wr.cell? ⟨wa.heap.size, dg, none⟩ = some (V dg) := hrd.ro.cell hdm
            have hbl : (bkOf (outs ids M) (ids.take k) dg).length ≤ 1000 := by
              unfold bkOf
              refine Nat.le_trans (List.length_filter_le _ _) ?_
              rw [List.length_take]
              omega
            obtain ⟨av, cv, hVd⟩ := own_slice (hrd.own dg hdm)
            rw [hVd] at c2
            have HR := Lib.hid (And.intro hrd (And.intro hg2 (And.intro hx (And.intro hdg hVd))))
            have hd0 : (0 : Int) ≤ (dg : Int) := by omega
            have hd1 : (dg : Int) < (mx : Int) + 1 := by omega
            have hsz := hg2.size
            clear hle hmv hmn hnb hg hcell hmem hlk hrd hg2 hx hdg hVd
            have HOWN : Hid (wr.ownsRow wa.heap.size nodT 1 (.slice av (bkOf (outs ids M) (ids.take k) dg).length cv) (bkOf (outs ids M) (ids.take k) dg).length ((bkOf (outs ids M) (ids.take k) dg).map nodeV)) := Lib.hid (by
              have h9 := HR.out.1.own dg hdm
              rw [HR.out.2.2.2.2] at h9
              exact h9)
            have HRO : Hid (∀ W, wr.grownBy W (V dg).ownBlock → W.cell? ⟨wa.heap.size, dg, none⟩ = some (V dg) ∧ W.frozen? ⟨wa.heap.size, dg, none⟩ = false) := Lib.hid (fun W hW => by
              have h9 := rowIs_grown HR.out.1.ro hW (HR.out.1.ne hdm)
              obtain ⟨c, k9, _⟩ := id h9
              exact ⟨h9.cell hdm, free_at k9⟩)
            go_wp2_with (first
              | (go_at_call 92; refine (id_node _ _).mono ?_; rintro e w' ⟨rfl, rfl⟩)
              | (at_builtin; refine wpx_app1 elN rfl (.tmp 77) (.tmp 79) rfl wa.heap.size (.slice av (bkOf (outs ids M) (ids.take k) dg).length cv) (bkOf (outs ids M) (ids.take k) dg).length _ rfl (HOWN.out.alloc _) wr.heap.size #[nodeV x] (heap_alloc_new wr _) (wr.heap.size + 1) (by simp) 1 rfl rfl (by simp [Value.oneCell']) (by omega) (by unfold maxLen; omega) (by omega) ?_; intro g8 cap8 w5 ho8 hg8 hat8 hlt8 hsz8; obtain ⟨c5, f5⟩ := HRO.out w5 (grown_opt (grown_alloc _ _) (by rw [HR.out.2.2.2.2]; exact hg8))))
            go_roundw
            case rel =>
              obtain ⟨hrd, hg2, hx, hdg, hVd⟩ := HR.out
              have hp := hrd.put hdm (w1 := w5) (grown_opt (grown_alloc _ _) (by rw [hVd]; exact hg8)) (L := bkOf (outs ids M) (ids.take k) dg ++ [x]) (v' := .slice (some ⟨g8, 0, none⟩) ((bkOf (outs ids M) (ids.take k) dg).length + 1) cap8) (by
                rw [List.length_append, List.map_append]
                exact ho8) (by
                rw [hVd]
                rcases hat8 with h9 | h9
                · exact .inl h9.symm
                · exact .inr ⟨g8, rfl, by omega⟩)
              refine ⟨k + 1, updN V dg (.slice (some ⟨g8, 0, none⟩) ((bkOf (outs ids M) (ids.take k) dg).length + 1) cap8), by omega, by go_num, ?_, ?_⟩
              · rw [List.take_succ_eq_append_getElem hlt2, ← hx, bkOf_snoc, ← hdg]
                exact hp
              · refine grown_new (grown_new (grown_tr hg2 (grown_alloc _ _)) hg8 (fun j hj => (HOWN.out.lt j hj).1)) (grown_setCell w5 wa.heap.size dg _) (fun j hj => by cases hj; exact Nat.le_refl _)
            case measure => simp [intOf]; omega
        · have hlt2' : ¬ (k : Int) < ids.length := by omega
          obtain rfl : k = ids.length := by omega
          obtain ⟨hle, hmv, hmn, hnb, hg⟩ := HX.out
          rw [List.take_length] at hle hmv hmn hnb hrd
          obtain ⟨N, hN⟩ : ∃ N, N = outs ids M := ⟨_, rfl⟩
          obtain ⟨hsy, hcl, hnd⟩ := HSY.out
          rw [← hN] at hle hmv hnb hrd hsy hcl
          have hsz := hg2.size
          have hsz0 := hg.size
          have hlow : ∀ x ∈ ids, ∀ g, (nbv x).ownBlock = some g → g < wa.heap.size := fun x hx g hg3 => ((hnb x hx).lt g hg3).2
          have hD0 : bkOf N ids = fun j => ids.filter (fun x => decide ((N x).length = j)) := rfl
          have HM0 : Hid (Dg3 N ids w2 wa.heap.size w2.heap.size (w2.heap.size + 1) (mx + 1) nbv (.slice none 0 0) (.slice (some ⟨wr.heap.size, 0, none⟩) 1 1) (.int .i64 0) (.int .i64 0) (wr.alloc (.cells #[.int .i64 0] 3))) := Lib.hid (by
            refine ⟨[], [0], 0, V, bkOf N ids, rfl, rfl, Nat.zero_le _, ⟨hrd.grown (grown_alloc _ _), ?_, ?_, fun x hx => own_new (own_new (hnb x hx) hg2) (grown_alloc _ _), ⟨by simp, .inl ⟨rfl, rfl⟩⟩, ?_, fun i hi => flip_or (.inl rfl), grown_tr (grown_tr hg hg2) (grown_alloc _ _), hlow, by omega, Nat.le_refl _, hsz0⟩, ⟨DgOk.start N ids, Buck.init hnd hcl (fun x hx => by have := hle x hx; omega), List.nodup_nil, by simp, by omega⟩⟩
            · refine ((hmv.grown hg2 (by simp)).grown (grown_alloc _ _) (by simp)).congr (fun x => ?_)
              unfold dv0
              by_cases hx : x ∈ ids
              · rw [if_pos hx, if_pos ((left_iff ids).2 ⟨hx, by simp⟩), deg_full hcl hx]
              · rw [if_neg hx, if_neg (fun h1 => hx ((left_iff ids).1 h1).1)]
            · exact (hmn.grown hg2 (by simp)).grown (grown_alloc _ _) (by simp)
            · exact ⟨by simp, .inr ⟨wr.heap.size, 1, _, rfl, hsz, heap_alloc_new wr _, Nat.le_refl _, by decide, rfl, rfl⟩⟩)
          have HN := Lib.hid hN
          clear hle hmv hmn hnb hg hrd hsy hcl hnd hsz hsz0 hlow hD0 hg2 HX HC hN
          go_wp2_with fail
          go_loopw [2, 3, 16, 17, 18, 19, 21, 22, 23, 24, 25, 86] (fun a2 a3 a16 _ _ _ _ _ _ _ _ i wr => Dg3 N ids w2 wa.heap.size w2.heap.size (w2.heap.size + 1) (mx + 1) nbv a2 a3 a16 i wr) (fun _ _ _ _ _ _ _ _ _ _ _ i _ => ids.length - (intOf i).toNat)
          case atStart => exact HM0.out
          case round => as_aux_lemma =>
            clear HM0
            obtain ⟨l, s, k, V, D, rfl, rfl, hll, hm, hp⟩ := hrel
            by_cases hlt3 : l.length < ids.length
            · have hlt3' : (l.length : Int) < ids.length := by omega
              have HMP := Lib.hid (And.intro hm hp)
              clear hm hp
              obtain ⟨wb, rfl⟩ : ∃ wb : World, wb = wr := ⟨_, rfl⟩
              go_wp2_with fail
              go_loopw [17, 18, 90] (fun _ _ i4 w' => w' = wb ∧ ∃ j : Nat, j ≤ mx + 1 ∧ i4 = .int .i64 j ∧ ∀ j', j' < j → D j' = []) (fun _ _ i4 _ => mx + 1 - (intOf i4).toNat)
              case atStart => exact ⟨rfl, 0, by omega, rfl, by omega⟩
              case round => as_aux_lemma =>
                obtain ⟨rfl, j, hj, rfl, hlo⟩ := hrel
                by_cases hj2 : j < mx + 1
                · have hj3 : (j : Int) < (mx : Int) + 1 := by omega
                  have hown := HMP.out.1.rows.own j hj2
                  have c2 : wr.cell? ⟨wa.heap.size, j, none⟩ = some (V j) := HMP.out.1.rows.ro.cell hj2
                  by_cases he : D j = []
                  · as_aux_lemma =>
                      rw [he] at hown
                      obtain ⟨av, cv, hVj⟩ := own_slice hown
                      rw [hVj] at c2
                      have HJ := Lib.hid (And.intro hlo he)
                      clear hown hVj hlo he
                      go_wp2_with fail
                      go_roundw
                      case rel =>
                        refine ⟨by trivial, j + 1, by omega, by go_num, fun j' hj' => ?_⟩
                        obtain ⟨hlo, he⟩ := HJ.out
                        rcases Nat.lt_or_ge j' j with h9 | h9
                        · exact hlo j' h9
                        · obtain rfl : j' = j := by omega
                          exact he
                      case measure => simp [intOf]; omega
                  · obtain ⟨L, v, hD⟩ : ∃ L v, D j = L ++ [v] := by
                      rcases List.eq_nil_or_concat (D j) with h9 | ⟨L, v, h9⟩
                      · exact absurd h9 he
                      · exact ⟨L, v, by rw [h9, List.concat_eq_append]⟩
                    obtain ⟨q, hq⟩ : ∃ q, q = L.length := ⟨_, rfl⟩
                    have hln : (D j).length = q + 1 := by rw [hD, hq]; simp
                    have hq1 : q + 1 ≤ 1000 := by
                      rw [← hln]
                      exact Nat.le_trans (nodup_len (HMP.out.2.bk.nd j) (fun x hx => ((left_iff ids).1 ((HMP.out.2.bk.mem j x).1 hx).1).1)) hl
                    rw [hln] at hown
                    obtain ⟨gv, cv, hVj, _, _, _⟩ := own_row hown (by omega)
                    have cv1 : wr.cell? ⟨gv, q, none⟩ = some (nodeV v) := by
                      have h9 := hown
                      rw [hVj] at h9
                      have h8 := h9.cells (g := gv) rfl q (nodeV v) (by rw [hD]; simp [hq])
                      rwa [addr_add, Nat.zero_add] at h8
                    rw [hVj] at c2
                    have hsl := HMP.out.2.ok.len
                    obtain ⟨gs, cs, hsv, _, _, _⟩ := own_row HMP.out.1.so (by omega)
                    rw [hsl] at hsv
                    have HJ := Lib.hid (And.intro hlo (And.intro hD (And.intro hq (And.intro hVj hsl))))
                    have hkm := HMP.out.2.km
                    clear hlo hD hq hVj hsl hown hln he
                    subst hsv
                    go_upto_if 101 with fail
                    go_cut [3, 16] (fun a3 a16 wx => Dg4 N ids l w2 wa.heap.size w2.heap.size (w2.heap.size + 1) (mx + 1) j nbv u2 V D a3 a16 wx)
                    case first =>
                      · as_aux_lemma =>
                          by_cases hkj : k < j
                          · have hkj1 : (k : Int) < (j : Int) := by omega
                            have hsz9 : wa.heap.size ≤ wr.heap.size := by
                              obtain ⟨c9, h9, _⟩ := HMP.out.1.rows.ro
                              have := (Array.getElem?_eq_some_iff.1 h9).1
                              omega
                            have hso := HMP.out.1.so
                            obtain ⟨hlo, hD, hq, hVj, hsl⟩ := HJ.out
                            rw [hsl] at hso
                            obtain ⟨g9, c9, w9, hrun, ho9, hg9, _⟩ := run_append_zeros (P := Try.prog) (t := 22) (tn := 3) elI rfl wr 22 .i64 hso (k := j - k) (by omega) (by omega) hsz9
                            have e9 : ((j - k : Nat) : Int) = (j : Int) - ((k : Int) + 1) + 1 := by omega
                            rw [e9] at hrun
                            have ew1 : IntKind.i64.wrap ((j : Int) - ((k : Int) + 1)) = (j : Int) - ((k : Int) + 1) := by rw [IntKind.wrap_i64]; omega
                            have ew2 : IntKind.i64.wrap ((j : Int) - ((k : Int) + 1) + 1) = (j : Int) - ((k : Int) + 1) + 1 := by rw [IntKind.wrap_i64]; omega
                            replace ho9 := Lib.hid ho9
                            clear hso hlo hD hq hVj hsl e9 hsz9
                            go_wp2_with (at_builtin; refine Lib.wpList_append_run wr rfl (.tmp 103) (.tmp 108) 22 3 rfl _ _ rfl rfl _ w9 hrun ?_)
                            go_meet
                            refine ⟨s ++ List.replicate (j - k) 0, j, rfl, HMP.out.1.setS hg9 ?_, HMP.out.2.ok.raise N ids hkj (fun x hx => HMP.out.2.bk.least HJ.out.1 x hx), Nat.le_refl _, hj2⟩
                            have h9 := ho9.out
                            rw [List.length_append, List.length_replicate, HJ.out.2.2.2.2, List.map_append, List.map_replicate]
                            exact h9
                          · have hkj1 : ¬ (k : Int) < (j : Int) := by omega
                            go_wp2_with fail
                            go_meet
                            exact ⟨s, k, rfl, HMP.out.1, HMP.out.2.ok, by omega, hkm⟩
                    case rest => as_aux_lemma =>
                      obtain ⟨s4, k4, rfl, HM4, hok4, hjk, hkm4⟩ := hcut
                      have hok5 := hok4.len
                      obtain ⟨g4, c4, hs4, _, _, _⟩ := own_row HM4.so (by omega)
                      rw [hok5] at hs4
                      subst hs4
                      obtain ⟨hlo, hD, hq, hVj, hsl⟩ := HJ.out
                      have cv2 := HM4.last hj2 hD hVj
                      rw [← hq] at cv2
                      obtain ⟨b2, f2⟩ := HM4.lay hj2
                      have HP := Lib.hid (HM4.pop hj2 hD (by rw [← hq]; exact hVj))
                      rw [← hq] at HP
                      have HOK := Lib.hid hok4
                      obtain ⟨wd, rfl⟩ : ∃ wd : World, wd = wc := ⟨_, rfl⟩
                      clear c2 cv1 hlo hD hq hVj hsl HM4 hok4 hok5
                      go_wp2_with fail
                      go_cut [19] (fun a19 wx => a19 = nodeV v ∧ DMem N ids w2 wa.heap.size w2.heap.size (w2.heap.size + 1) (mx + 1) nbv (dv0 N ids l) u2 l (.slice (some ⟨g4, 0, none⟩) (k4 + 1) c4) s4 (updN V j (.slice (some ⟨gv, 0, none⟩) q cv)) (updN D j L) wx)
                      case first =>
                        · as_aux_lemma =>
                            go_region
                            all_goals (try go_wp2_with fail)
                            all_goals go_meet
                            all_goals exact ⟨rfl, HP.out.grown (grown_drew _)⟩
                      case rest => as_aux_lemma =>
                        obtain ⟨rfl, HM5⟩ := hcut
                        replace HM5 := Lib.hid HM5
                        obtain ⟨we, rfl⟩ : ∃ we : World, we = wc := ⟨_, rfl⟩
                        have hl2 : l.length + 1 ≤ 1000 := by omega
                        have hH5 := HM5.out.Hle
                        clear b2 f2 cv2 HP
                        go_upto_region 38 with fail
                        go_cut [2] (fun a2 wx => ∃ g2 c2', a2 = .slice (some ⟨g2, 0, none⟩) (l.length + 1) c2' ∧ DMem N ids w2 wa.heap.size w2.heap.size (w2.heap.size + 1) (mx + 1) nbv (dv0 N ids l) a2 (l ++ [v]) (.slice (some ⟨g4, 0, none⟩) (k4 + 1) c4) s4 (updN V j (.slice (some ⟨gv, 0, none⟩) q cv)) (updN D j L) wx)
                        case first =>
                          · as_aux_lemma =>
                              go_wp2_with (at_builtin; refine wpx_app1 elN rfl (.tmp 124) (.tmp 126) rfl wa.heap.size u2 l.length _ rfl (HM5.out.lo.alloc _) we.heap.size #[nodeV v] (heap_alloc_new we _) (we.heap.size + 1) (by simp) 1 rfl rfl (by simp [Value.oneCell']) (by omega) (by unfold maxLen; omega) (by omega) ?_; intro g8 cap8 w5 ho8 hg8 hat8 hlt8 hsz8; replace ho8 := Lib.hid ho8)
                              go_meet
                              exact ⟨g8, cap8, rfl, HM5.out.push (grown_alloc _ _) hg8 ho8.out (hat8.imp id (fun h9 => by rw [h9, World.size_alloc]))⟩
                        case rest => as_aux_lemma =>
                          obtain ⟨g2, c2', rfl, HM6⟩ := hcut
                          have hk4 : k4 < s4.length := by rw [HOK.out.len]; omega
                          obtain ⟨b3, f3⟩ := HM6.sAt hk4
                          have hs5 : s4.getD k4 0 ≤ 1000 := by
                            have h9 := HOK.out.sum
                            have h8 := getD_le_sum s4 k4
                            omega
                          have HP := Lib.hid (HM6.count hk4 (s4.getD k4 0 + 1))
                          obtain ⟨z4, hz4⟩ : ∃ z4, z4 = s4.getD k4 0 := ⟨_, rfl⟩
                          rw [← hz4] at b3 hs5 HP
                          have HZ4 := Lib.hid hz4
                          have hw4 : IntKind.i64.wrap ((z4 : Int) + 1) = (z4 : Int) + 1 := by rw [IntKind.wrap_i64]; omega
                          obtain ⟨wf, rfl⟩ : ∃ wf : World, wf = wc := ⟨_, rfl⟩
                          clear hz4 HM6 HM5 hH5 hk4
                          go_upto_region 39 with fail
                          go_cut [] (fun wx => DMem N ids w2 wa.heap.size w2.heap.size (w2.heap.size + 1) (mx + 1) nbv (dv0 N ids l) (.slice (some ⟨g2, 0, none⟩) (l.length + 1) c2') (l ++ [v]) (.slice (some ⟨g4, 0, none⟩) (k4 + 1) c4) (s4.set k4 (z4 + 1)) (updN V j (.slice (some ⟨gv, 0, none⟩) q cv)) (updN D j L) wx)
                          case first =>
                            · as_aux_lemma =>
                                have hk5 : (0 : Int) ≤ (k4 : Int) := by omega
                                have hk6 : (k4 : Int) < (k4 : Int) + 1 := by omega
                                clear hjk hkm4 hs5 HZ4 hl2 hq1 hkm hj hj2 hj3 hll hlt3 hlt3'
                                go_wp2_with fail
                                go_meet
                                exact HP.out
                          case rest => as_aux_lemma =>
                            have hvD : v ∈ D j := by rw [HJ.out.2.1]; simp
                            have hvl := (HMP.out.2.bk.mem j v).1 hvD
                            have hvi := ((left_iff ids).1 hvl.1).1
                            obtain ⟨w6, hrun6, hv6, hg6⟩ := hcut.dv.del (P := Try.prog) undDv undK v 2 0
                            have HM6 := Lib.hid (hcut.setV hg6 (hv6.congr (dvOf_start hvl.1)))
                            have hlk := HM6.out.nb.look (P := Try.prog) undNb undK (zeroNb w6) v false
                            rw [if_pos hvi] at hlk
                            obtain ⟨anb, cnb, hnbv⟩ := own_slice (HM6.out.nbr v hvi)
                            have hlk2 : (Instr.lookup nbT (.map (some (w2.heap.size + 1))) (.int .i64 v) false).run Try.prog w6 = .ok (nbv v) w6 := hlk
                            rw [hnbv] at hlk2
                            have HN0 : Hid (NbOk N ids l v (mx + 1) [] (updN D j L)) := Lib.hid (NbOk.start HMP.out.2.bk HJ.out.2.1)
                            obtain ⟨s5, hs5⟩ : ∃ s5, s5 = s4.set k4 (z4 + 1) := ⟨_, rfl⟩
                            have hok6 : DgOk N ids (l ++ [v]) k4 s5 := by
                              rw [hs5, HZ4.out]
                              exact HOK.out.more N ids (by rw [hvl.2]; exact hjk)
                            rw [← hs5] at HM6
                            have HV := Lib.hid (And.intro hvl (And.intro hvi (And.intro hnbv (And.intro hok6 (And.intro HMP.out.2 hkm4)))))
                            obtain ⟨V6, hV6⟩ : ∃ V6, V6 = updN V j (.slice (some ⟨gv, 0, none⟩) q cv) := ⟨_, rfl⟩
                            rw [← hV6] at HM6
                            obtain ⟨D6, hD6⟩ : ∃ D6, D6 = updN D j L := ⟨_, rfl⟩
                            rw [← hD6] at HM6 HN0
                            have hNl : (N v).length ≤ 1000 := by rw [HN.out]; exact Nat.le_trans (length_outs ids M _) hl
                            clear hs5 hV6 hD6 HOK HZ4 HJ HMP hcut hv6 hg6 hvD hvl hvi hlk hnbv hok6 hw4 b3 f3
                            go_wp2_with (go_at_call 92; refine (id_node _ _).mono ?_; rintro e w' ⟨rfl, rfl⟩)
                            go_loopw [21, 22, 23, 24, 25, 142] (fun _ _ _ _ _ i wr => Dg5 N ids l v w2 wa.heap.size w2.heap.size (w2.heap.size + 1) (mx + 1) nbv (.slice (some ⟨g2, 0, none⟩) (l.length + 1) c2') (.slice (some ⟨g4, 0, none⟩) (k4 + 1) c4) s5 i wr) (fun _ _ _ _ _ i _ => (N v).length - (intOf i).toNat)
                            case atStart => exact ⟨0, V6, D6, Nat.zero_le _, rfl, HM6.out, HN0.out⟩
                            case round => as_aux_lemma =>
                              clear HM6 HN0
                              obtain ⟨jn, V6, D6, hjn, rfl, hM, hNb⟩ := hrel
                              have hsy := HSY.out.1
                              rw [← HN.out] at hsy
                              by_cases hlt5 : jn < (N v).length
                              · have hlt5' : (jn : Int) < (N v).length := by omega
                                obtain ⟨gn, rfl, hcn⟩ := hM.nbAt HV.out.2.1 HV.out.2.2.1 hlt5
                                have hxv : (N v)[jn] ∈ N v := List.getElem_mem hlt5
                                have hxt := nodup_take (hsy.nd v) hlt5
                                obtain ⟨x, hx⟩ : ∃ x, x = (N v)[jn] := ⟨_, rfl⟩
                                rw [← hx] at hcn hxv hxt
                                have hlk := hM.dv.look (P := Try.prog) undDv undK (zeroInt wr) x true
                                obtain ⟨wh, rfl⟩ : ∃ wh : World, wh = wr := ⟨_, rfl⟩
                                by_cases hxl : left ids (l ++ [v]) x = true
                                · obtain ⟨d, p, hp, hpx, hdeg, hNb2⟩ := hNb.step hsy HV.out.1.1 hxl hxv hxt
                                  have e9 : dvOf N ids l v ((N v).take jn) x = some (.int .i64 ((d + 1 : Nat) : Int)) := by unfold dvOf; rw [if_pos hxl, hdeg, if_neg hxt, Nat.sub_zero]
                                  rw [e9] at hlk
                                  obtain ⟨dw, hdw⟩ : ∃ dw, dw = d + 1 := ⟨_, rfl⟩
                                  obtain ⟨c9, hbk, _⟩ := hNb
                                  have hdm : dw < mx + 1 := by
                                    apply Classical.byContradiction
                                    intro h9
                                    have h8 := hbk.lt dw (by omega)
                                    rw [hdw] at h8
                                    rw [h8] at hp
                                    exact absurd hp (Nat.not_lt_zero _)
                                  have hnd6 := hbk.nd dw
                                  have hsub6 : ∀ y ∈ D6 dw, y ∈ ids := fun y hy => ((left_iff ids).1 ((hbk.mem dw y).1 hy).1).1
                                  have hl6 := Nat.le_trans (nodup_len hnd6 hsub6) hl
                                  have hnd7 := hbk.nd d
                                  have hsub7 : ∀ y ∈ D6 d, y ∈ ids := fun y hy => ((left_iff ids).1 ((hbk.mem d y).1 hy).1).1
                                  have hl7 := Nat.le_trans (nodup_len hnd7 hsub7) hl
                                  rw [← hdw] at hlk
                                  have hlk3 : (Instr.lookup numT (.map (some w2.heap.size)) (.int .i64 x) true).run Try.prog wh = .ok (.tuple #[.int .i64 dw, .bool true]) wh := hlk
                                  have hp6 : p < (D6 dw).length := by rw [hdw]; exact hp
                                  have hpx6 : ∃ h : p < (D6 dw).length, (D6 dw)[p]'h = x := by
                                    have : ∀ k (e : k = d + 1) (h : p < (D6 k).length), (D6 k)[p] = x := fun k e h => by subst e; exact hpx
                                    exact ⟨hp6, this dw hdw hp6⟩
                                  obtain ⟨n, hn⟩ : ∃ n, (D6 dw).length = n := ⟨_, rfl⟩
                                  have ho6 := hM.rows.own dw hdm
                                  rw [hn] at ho6
                                  obtain ⟨gd, cd, hVd, _, _, _⟩ := own_row ho6 (by omega)
                                  have c2 := (hM.lay hdm).1
                                  rw [hVd] at c2
                                  have hd3 : (dw : Int) < (mx : Int) + 1 := by omega
                                  have HX := Lib.hid (And.intro hx (And.intro hdw (And.intro hNb2 (And.intro hn (And.intro hVd (And.intro hM (And.intro hnd6 (And.intro hpx6 (And.intro hdeg hxl)))))))))
                                  rw [hn] at hl6
                                  have hpn : p < n := by rw [← hn]; exact hp6
                                  clear hx hdw hNb2 hn hVd hM hnd6 hp6 hpx6 hp hpx hdeg hbk hsub6 hnd7 hsub7 hlk e9 ho6 hxl hxv hxt hsy
                                  go_wp2_with (go_at_call 92; refine (id_node _ _).mono ?_; rintro e w' ⟨rfl, rfl⟩)
                                  go_loopw [22, 24, 25, 160] (fun a22 _ _ i w' => w' = wh ∧ a22 = .int .i64 dw ∧ ∃ p' : Nat, p' ≤ p ∧ i = .int .i64 p') (fun _ _ _ i _ => n - (intOf i).toNat)
                                  case atStart => exact ⟨rfl, rfl, 0, Nat.zero_le _, rfl⟩
                                  case round => as_aux_lemma =>
                                    obtain ⟨rfl, rfl, p', hp', rfl⟩ := hrel
                                    have hlt6 : (p' : Int) < (n : Int) := by omega
                                    have hpl6 : p' < (D6 dw).length := by rw [HX.out.2.2.2.1]; omega
                                    have cn6 := HX.out.2.2.2.2.2.1.node hdm HX.out.2.2.2.2.1 hpl6
                                    obtain ⟨y, hy⟩ : ∃ y, y = (D6 dw)[p'] := ⟨_, rfl⟩
                                    rw [← hy] at cn6
                                    by_cases hyx : y = x
                                    · obtain ⟨hx, hdw, hNb2, hn, hVd, hM, hnd6, hpx6, hdeg, hxl⟩ := HX.out
                                      have hpp : p' = p := nodup_at hnd6 hpl6 hpx6.1 (by rw [← hy, hyx]; exact hpx6.2.symm)
                                      subst hpp
                                      rw [hyx] at cn6
                                      obtain ⟨n0, rfl⟩ : ∃ n0, n = n0 + 1 := ⟨n - 1, by omega⟩
                                      obtain ⟨z, hz⟩ : ∃ z, z = (D6 dw).getLastD 0 := ⟨_, rfl⟩
                                      have cl6 : wr.cell? ⟨gd, n0, none⟩ = some (nodeV z) := by
                                        have h9 := hM.node hdm hVd (p := n0) (by omega)
                                        rw [h9, hz, last_at hn (by omega)]
                                      obtain ⟨hgd, f6⟩ := hM.block_ne hdm hVd (p := p')
                                      have hgd2 := hgd.symm
                                      have f7 := (hM.lay hdm).2
                                      have hSW := Lib.hid (hM.swap hdm hpl6 hn hVd)
                                      rw [← hz] at hSW
                                      have hw2 : IntKind.i64.wrap ((dw : Int) - 1) = (d : Int) := by rw [IntKind.wrap_i64]; omega
                                      clear hx hdw hNb2 hn hVd hM hnd6 hpx6 hdeg hxl hpl6 hz hy hyx
                                      go_upto_region 50 with (go_at_call 92; refine (id_node _ _).mono ?_; rintro e w' ⟨rfl, rfl⟩)
                                      go_cut [] (fun wx => DMem N ids w2 wa.heap.size w2.heap.size (w2.heap.size + 1) (mx + 1) nbv (dvOf N ids l v ((N v).take jn)) (.slice (some ⟨g2, 0, none⟩) (l.length + 1) c2') (l ++ [v]) (.slice (some ⟨g4, 0, none⟩) (k4 + 1) c4) s5 (updN V6 dw (.slice (some ⟨gd, 0, none⟩) n0 cd)) (updN D6 dw (swp (D6 dw) p')) wx)
                                      case first =>
                                        · as_aux_lemma =>
                                            go_region
                                            all_goals (try go_wp2_with fail)
                                            all_goals go_meet
                                            all_goals exact hSW.out.grown (grown_drew _)
                                      case rest => as_aux_lemma =>
                                        obtain ⟨hx, hdw, hNb2, hn, hVd, hM, hnd6, hpx6, hdeg, hxl⟩ := HX.out
                                        obtain ⟨wi, rfl⟩ : ∃ wi : World, wi = wc := ⟨_, rfl⟩
                                        have hdm2 : d < mx + 1 := by omega
                                        have hdd : d ≠ dw := by omega
                                        have hDq : updN (updN D6 dw (swp (D6 dw) p')) d (updN D6 dw (swp (D6 dw) p') d ++ [x]) = fun j => if j = d + 1 then swp (D6 (d + 1)) p' else if j = d then D6 d ++ [x] else D6 j := by
                                          rw [hdw]
                                          exact down_eq
                                        obtain ⟨D7, hD7⟩ : ∃ D7, D7 = updN D6 dw (swp (D6 dw) p') := ⟨_, rfl⟩
                                        have hl8 : (D7 d).length ≤ 1000 := by rw [hD7, updN_ne _ _ hdd]; exact hl7
                                        rw [← hD7] at hcut hDq
                                        obtain ⟨V7, hV7⟩ : ∃ V7, V7 = updN V6 dw (.slice (some ⟨gd, 0, none⟩) n0 cd) := ⟨_, rfl⟩
                                        rw [← hV7] at hcut
                                        obtain ⟨nd, hnd⟩ : ∃ nd, (D7 d).length = nd := ⟨_, rfl⟩
                                        have ho7 := hcut.rows.own d hdm2
                                        rw [hnd] at ho7 hl8
                                        obtain ⟨ad, cd2, hVd2⟩ := own_slice ho7
                                        rw [hVd2] at ho7
                                        have cw7 := (hcut.lay hdm2).1
                                        rw [hVd2] at cw7
                                        have HRO : Hid (∀ W, wi.grownBy W (Value.slice ad nd cd2).ownBlock → W.cell? ⟨wa.heap.size, d, none⟩ = some (.slice ad nd cd2) ∧ W.frozen? ⟨wa.heap.size, d, none⟩ = false) := Lib.hid (fun W hW => by
                                          rw [← hVd2] at hW ⊢
                                          have h9 := rowIs_grown hcut.rows.ro hW (hcut.rows.ne hdm2)
                                          obtain ⟨c, k9, _⟩ := id h9
                                          exact ⟨h9.cell hdm2, free_at k9⟩)
                                        have hH7 := hcut.Hle
                                        have HM7 := Lib.hid (And.intro hcut (And.intro hVd2 hnd))
                                        have HX2 := Lib.hid (And.intro hx (And.intro hNb2 (And.intro hdeg (And.intro hxl hDq))))
                                        replace ho7 := Lib.hid ho7
                                        have hd4 : (d : Int) < (mx : Int) + 1 := by omega
                                        clear hx hdw hNb2 hn hVd hM hnd6 hpx6 hdeg hxl hDq hD7 hV7 hcut hVd2 hnd c2 cn6 cl6 f6 f7 hSW HX hd3 hlk3
                                        go_upto_region 52 with fail
                                        go_cut [] (fun wx => ∃ V8, DMem N ids w2 wa.heap.size w2.heap.size (w2.heap.size + 1) (mx + 1) nbv (dvOf N ids l v ((N v).take jn)) (.slice (some ⟨g2, 0, none⟩) (l.length + 1) c2') (l ++ [v]) (.slice (some ⟨g4, 0, none⟩) (k4 + 1) c4) s5 V8 (updN D7 d (D7 d ++ [x])) wx)
                                        case first =>
                                          · as_aux_lemma =>
                                              go_wp2_with (at_builtin; refine wpx_app1 elN rfl (.tmp 209) (.tmp 211) rfl wa.heap.size (.slice ad nd cd2) nd _ rfl (ho7.out.alloc _) wi.heap.size #[nodeV x] (heap_alloc_new wi _) (wi.heap.size + 1) (by simp) 1 rfl rfl (by simp [Value.oneCell']) (by omega) (by unfold maxLen; omega) (by omega) ?_; intro g8 cap8 w5 ho8 hg8 hat8 hlt8 hsz8; obtain ⟨c5, f5⟩ := HRO.out w5 (grown_opt (grown_alloc _ _) hg8); replace ho8 := Lib.hid ho8)
                                              go_meet
                                              exact ⟨_, HM7.out.1.pushD hdm2 HM7.out.2.1 HM7.out.2.2 (grown_alloc _ _) hg8 ho8.out (hat8.imp id (fun h9 => by rw [h9, World.size_alloc]))⟩
                                        case rest => as_aux_lemma =>
                                          obtain ⟨V8, HM8⟩ := hcut
                                          obtain ⟨wj, rfl⟩ : ∃ wj : World, wj = wc := ⟨_, rfl⟩
                                          obtain ⟨w9, hr9, hv9, hg9⟩ := HM8.dv.upd (P := Try.prog) undDv undK x (.int .i64 (d : Int))
                                          have HM9 := Lib.hid (HM8.setV hg9 (hv9.congr (dvOf_step HX2.out.2.2.2.1 HX2.out.2.2.1)))
                                          clear HM8 hv9 hg9 cw7 ho7 HRO HM7
                                          go_wp2_with (go_at_call 92; refine (id_node _ _).mono ?_; rintro e w' ⟨rfl, rfl⟩)
                                          go_roundw
                                          case rel =>
                                            obtain ⟨hx, hNb2, hdeg, hxl, hDq⟩ := HX2.out
                                            have h9 := HM9.out
                                            have e9 : (N v).take (jn + 1) = (N v).take jn ++ [x] := by rw [List.take_succ_eq_append_getElem hlt5, ← hx]
                                            rw [← e9] at h9 hNb2
                                            rw [← hDq] at hNb2
                                            exact Dg5.mk hlt5 h9 hNb2
                                          case measure => simp [intOf]; omega
                                    · as_aux_lemma =>
                                        have hne6 : (y == x) = false := by simpa using hyx
                                        have hpp : p' ≠ p := fun e => hyx (by
                                          subst e
                                          rw [hy]
                                          exact HX.out.2.2.2.2.2.2.2.1.2)
                                        clear hy hyx
                                        go_wp2_with (go_at_call 92; refine (id_node _ _).mono ?_; rintro e w' ⟨rfl, rfl⟩)
                                        go_roundw
                                        case rel => refine ⟨by trivial, by trivial, p' + 1, by omega, by go_num⟩
                                        case measure => simp [intOf]; omega
                                · as_aux_lemma =>
                                    have hxf : left ids (l ++ [v]) x = false := by simpa using hxl
                                    have e9 : dvOf N ids l v ((N v).take jn) x = none := by unfold dvOf; rw [if_neg hxl]
                                    rw [e9] at hlk
                                    have hlk3 : (Instr.lookup numT (.map (some w2.heap.size)) (.int .i64 x) true).run Try.prog wh = .ok (.tuple #[.int .i64 0, .bool false]) wh := hlk
                                    have HS := Lib.hid (And.intro hxf (And.intro hx (And.intro hM hNb)))
                                    clear hxf hx hM hNb hxl e9 hlk hxv hxt hsy
                                    go_wp2_with (go_at_call 92; refine (id_node _ _).mono ?_; rintro e w' ⟨rfl, rfl⟩)
                                    go_roundw
                                    case rel =>
                                      obtain ⟨hxf, hx, hM, hNb⟩ := HS.out
                                      refine ⟨jn + 1, V6, D6, by omega, by go_num, ?_, ?_⟩
                                      · rw [List.take_succ_eq_append_getElem hlt5, ← hx]
                                        exact hM.congr (dvOf_skip hxf)
                                      · rw [List.take_succ_eq_append_getElem hlt5, ← hx]
                                        exact hNb.skip hxf
                                    case measure => simp [intOf]; omega
                              · as_aux_lemma =>
                                  have hlt5' : ¬ (jn : Int) < (N v).length := by omega
                                  obtain rfl : jn = (N v).length := by omega
                                  rw [List.take_length] at hM hNb
                                  obtain ⟨hvl, hvi, hnbv, hok6, hpl, hkm4⟩ := HV.out
                                  have HE : Hid (Dg3 N ids w2 wa.heap.size w2.heap.size (w2.heap.size + 1) (mx + 1) nbv (.slice (some ⟨g2, 0, none⟩) (l.length + 1) c2') (.slice (some ⟨g4, 0, none⟩) (k4 + 1) c4) (.int .i64 k4) (.int .i64 ((l.length : Int) + 1)) wr) := Lib.hid (by
                                    refine ⟨l ++ [v], s5, k4, V6, D6, by simp, rfl, by simp; omega, hM.congr (dvOf_end hsy hvl.1), ⟨hok6, hNb.fin hsy hvl.1, ?_, ?_, hkm4⟩⟩
                                    · rw [List.nodup_append]
                                      refine ⟨hpl.nd, by simp, fun a ha b hb hab => ?_⟩
                                      obtain rfl : b = v := by simpa using hb
                                      subst hab
                                      exact ((left_iff ids).1 hvl.1).2 ha
                                    · intro y hy
                                      rcases List.mem_append.1 hy with h9 | h9
                                      · exact hpl.sub y h9
                                      · obtain rfl : y = v := by simpa using h9
                                        exact hvi)
                                  clear hM hNb hvl hvi hnbv hok6 hpl hkm4 hsy
                                  go_wp2_with fail
                                  go_roundw
                                  case rel => exact HE.out
                                  case measure => simp [intOf]; omega
                · obtain ⟨i9, h8, h9⟩ := HMP.out.2.some HSY.out.2.2 hlt3
                  exact absurd (hlo i9 (by omega)) h9
            · as_aux_lemma =>
                have hlt3' : ¬ (l.length : Int) < ids.length := by omega
                have hE : DegPost N ids w (.returned (.tuple #[u2, u3])) wr := ⟨u2, u3, l, s, k, rfl, own_mono hm.lo (Nat.le_trans HG2.out.size hm.hge), own_mono hm.so (Nat.le_trans HG2.out.size hm.hge), grown_tr HG2.out hm.gr, hp.ok, hp.nd, hp.sub, hp.all (by omega), by have := hp.km; omega⟩
                rw [HN.out] at hE
                replace hE := Lib.hid hE
                clear hm hp
                go_wp2_with fail
                refine bodyPost_ret (v := .tuple #[u2, u3]) (by simp [results, Try.results20, go_sem]) rfl ?_
                exact hE.out
end Go.Proofs.Ytinlaaeoiocfoaa
