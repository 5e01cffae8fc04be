/- topo.tarjanSCCstabilized with an order, over a plain graph. -/
import Derived.Test.YtdllkoiddlcnmaaGreatSf
import Derived.Test.YtdllkoiddlcnmaaGreatTv
import Derived.Test.YtdllkoiddlcnmaaGreatTc
namespace Go.Proofs.YtdllkoiddlcnmaaGreat
open Go.MapKept Go.RowKit

def tfoldS (ids ns : List Int) (S : Int → List Int) (k : Nat) : TSt := (ns.take k).foldl (fun s v => if s.tab v = 0 then tvisit S ids.length v s else s) TSt.init
def TRelS (ids ns : List Int) (S : Int → List Int) (w2 : World) (bt m1 m2 m3 : Nat) (fv i : Value) (wr : World) : Prop :=
  ∃ (k : Nat) (vs vo : Value) (vals : List Value), k ≤ ns.length ∧ i = .int .i64 k ∧ TarB wr w2.heap.size bt m1 m2 m3 fv vs vo vals (tfoldS ids ns S k) (tfoldS ids ns S k).stk (fun j => j < w2.heap.size) ∧
    TInv S [] (tfoldS ids ns S k) ∧ whites ids (tfoldS ids ns S k) + (tfoldS ids ns S k).idx ≤ 1000 ∧ (tfoldS ids ns S k).out.length ≤ (tfoldS ids ns S k).idx ∧ w2.grownBy wr none
theorem tfoldS_succ (ids ns : List Int) (S : Int → List Int) {k : Nat} (hk : k < ns.length) : tfoldS ids ns S (k + 1) = if (tfoldS ids ns S k).tab ns[k] = 0 then tvisit S ids.length ns[k] (tfoldS ids ns S k) else tfoldS ids ns S k := by
  unfold tfoldS
  rw [List.take_succ_eq_append_getElem hk, List.foldl_append]
  rfl
theorem tfoldS_all (ids ns : List Int) (S : Int → List Int) : tfoldS ids ns S ns.length = tall S ids.length ns := by
  unfold tfoldS tall
  rw [List.take_length]

set_option maxHeartbeats 4000000 in
set_option maxRecDepth 100000 in
theorem tarjan_lex {p0 : Nat} {ids : List Int} {M : Mat} {w : World} {K : List Int → List Int} (hKl : ∀ l, (K l).length = l.length) (hKm : ∀ l x, x ∈ K l ↔ x ∈ l)
    (hord : ∀ W B e v l, w.grownBy W none → w.heap.size ≤ B → W.ownsRow B e 1 v l.length (l.map nodeV) → l.length ≤ 1000 → (∀ y ∈ l, y ∈ ids) → Calls Tryz.prog 62 #[v] W (KPost K l B e v W))
    (hnf : ∀ W, (binOp .eql 90 lexV .nilFunc).run Tryz.prog W = .ok (.bool false) W)
    (h : PlnR w p0 ids M) (hl : ids.length ≤ 1000) (ha : ids.Pairwise (· < ·)) (hclo : ∀ x ∈ ids, ∀ y ∈ outs ids M x, y ∈ ids) :
    Calls Tryz.prog 64 #[.iface dirT (dirV p0), lexV] w (ListsPost (tall (fun x => (K (outs ids M x)).reverse) ids.length (K ids).reverse).out.reverse w) := by
  have hnodes := fun O O2 => dir_nodes (h.grown (grown_tr (grown_alloc w O) (grown_alloc _ O2))) hl
  have HZ : Hid (∀ w2, ((w.alloc (.cells #[.iface dirT (dirV p0)] 108)).alloc (.cells #[lexV] 90)).grownBy w2 none → w.grownBy w2 none ∧ w.heap.size + 1 < w2.heap.size ∧ w2.cell? ⟨w.heap.size, 0, none⟩ = some (.iface dirT (dirV p0)) ∧ w2.cell? ⟨w.heap.size + 1, 0, none⟩ = some lexV) := Lib.hid (fun w2 hg => by
    have b1 := grown_block hg (heap_alloc2 w (.cells #[.iface dirT (dirV p0)] 108) (.cells #[lexV] 90)) (by simp)
    have b0 := box_at (grown_tr (grown_alloc _ _) hg) 0
    exact ⟨grown_tr (grown_tr (grown_alloc _ _) (grown_alloc _ _)) hg, block_lt b1, by rw [b0]; rfl, cell_at b1⟩)
  have hmm := @run_makeMap Tryz.prog
  have hsf := fun (W : World) (a : Addr) => run_store Tryz.prog W a (Ord.succV w.heap.size) .plain rfl
  unfold Ord.succV at hsf
  have hmh : ∀ (n : Int) (w : World), (Instr.makeMap 126 (some (.int .i64 n))).run Tryz.prog w = .ok (.map (some w.heap.size)) (w.alloc (.map #[] 0)) := fun n w => make_hint rfl n w
  obtain ⟨ns, hns⟩ : ∃ ns, ns = (K ids).reverse := ⟨_, rfl⟩
  have hnsl : ns.length = ids.length := by rw [hns, List.length_reverse, hKl]
  have hnm : ∀ x ∈ ns, x ∈ ids := fun x hx => by rw [hns, List.mem_reverse, hKm] at hx; exact hx
  obtain ⟨S, hS⟩ : ∃ S : Int → List Int, S = fun x => (K (outs ids M x)).reverse := ⟨_, rfl⟩
  rw [show tall (fun x => (K (outs ids M x)).reverse) ids.length (K ids).reverse = tall S ids.length ns by rw [hns, hS]]
  have HNS := Lib.hid (And.intro hns hS)
  have HNM := Lib.hid (And.intro hnsl hnm)
  clear hns hS hnsl hnm
  have HO := Lib.hid hord
  have HKL := Lib.hid (And.intro hKl hKm)
  have HP := Lib.hid (And.intro h (And.intro ha hclo))
  clear hord hKl hKm h ha hclo
  go_enter Tryz.func64, Tryz.ntmps64
  go_wp2_with (first
    | (go_at_call 175; refine (hnodes _ _).mono ?_; intro e w1 hp; obtain ⟨q, vs, rfl, hp1, hp2, hp3, hp4⟩ := hp)
    | (go_at_call 89; refine (nodesOf_it hp1 hp2 (by omega)).mono ?_; intro e w2 hn; obtain ⟨vn, rfl, hn2, hn3⟩ := hn; obtain ⟨an, cn, hvn⟩ := own_slice hn2; subst hvn; have hg02 := grown_new hp4 hn3 (fun k hk => by cases hk; exact hp3); obtain ⟨hgw2, hs2, z0, z1⟩ := HZ.out w2 hg02; have hord2 := HO.out w2 _ _ _ ids hgw2 (by simp only [World.size_alloc]; omega) hn2 (by omega) (fun _ h => h))
    | (go_at_call 62; refine hord2.mono ?_; rintro e w3 ⟨rfl, ho3, hg3⟩; have hg03 := grown_new hg02 hg3 (fun k hk => by have := (hn2.lt k hk).1; exact this); obtain ⟨hgw3, hs3, y0, y1⟩ := HZ.out w3 hg03; rw [← HKL.out.1 ids] at ho3; have hrev := rev_call ho3 (by rw [HKL.out.1]; omega); rw [HKL.out.1] at hrev)
    | (go_at_call 87; (refine hrev.mono ?_; rintro e w4 ⟨rfl, ho4, hg4⟩; have hg04 := grown_new hg03 hg4 (fun k hk => (hn2.lt k hk).1); obtain ⟨hgw4, hs4, x0, x1⟩ := HZ.out w4 hg04)))
  rw [← HNS.out.1] at ho4
  have HN := Lib.hid (And.intro ho4 hgw4)
  clear hn2 hn3 hp1 hp2 hp3 hp4 hnodes hg02 hg03 hg04 hgw2 hgw3 hgw4 hg3 hg4 hs2 hs3 z0 z1 y0 y1 ho3 ho4 hord2 hrev
  go_cut [7] (fun x wx => TStart w4.heap.size (Ord.succV w.heap.size) w4 x wx)
  case first =>
    go_region
    all_goals (try go_wp2_with fail)
    all_goals go_meet
    all_goals
      apply TStart.of
      all_goals first | exact lk4_0 _ _ _ _ _ | exact lk4_1 _ _ _ _ _ | exact lk4_2 _ _ _ _ _ | exact lk4_3 _ _ _ _ _ | omega
  case rest =>
    obtain ⟨bt, m1, m2, m3, rfl, T0, hg0⟩ := hcut
    obtain ⟨ho4, hgw4⟩ := HN.out
    obtain ⟨hnsl, hnm⟩ := HNM.out
    obtain ⟨h, ha, hclo⟩ := HP.out
    have hcloS : ∀ x ∈ ids, ∀ y ∈ S x, y ∈ ids := fun x hx y hy => by
      rw [HNS.out.2] at hy
      exact hclo x hx y ((HKL.out.2 _ y).1 (List.mem_reverse.1 hy))
    have hfew : ∀ x, (S x).length ≤ 1000 := fun x => by
      rw [HNS.out.2]
      show (K (outs ids M x)).reverse.length ≤ 1000
      rw [List.length_reverse, HKL.out.1]
      unfold outs
      rw [List.length_map]
      exact Nat.le_trans (length_arcsOf _ _) hl
    have X : Ord.Ctx w4 w.heap.size w4.heap.size ids S := ⟨hl, hcloS, hfew, fun W x hW hx => by
      rw [HNS.out.2]
      exact succ_lex (M := M) HKL.out.1 (fun W' B e v l hW' hB ho hll hm => HO.out W' B e v l (grown_tr (grown_tr hgw4 hW) hW') (Nat.le_trans (grown_tr hgw4 hW).size hB) ho hll hm) (h.grown (grown_tr hgw4 hW)) hl hx ha ((grown_cell hW (by omega) (by simp)).trans x0) (by have := hW.size; omega) ((grown_cell hW hs4 (by simp)).trans x1) (fun y hy => hclo x hx y hy), Nat.le_refl _⟩
    have HS := Lib.hid (fun (W : World) (gray : List Int) (vs vo : Value) (vals : List Value) (s : TSt) (v : Int) (R : Nat → Prop) => @Ord.strong_any w4 w.heap.size w4.heap.size bt m1 m2 m3 ids S X ids.length W gray vs vo vals s v R)
    have HC : Hid (∀ i, (hi : i < ns.length) → ∃ g, an = some ⟨g, 0, none⟩ ∧ ∀ W, w4.grownBy W none → W.cell? ⟨g, i, none⟩ = some (nodeV ns[i])) := Lib.hid (fun i hi => by
      obtain ⟨g, cap, e1, _, hg, _⟩ := own_row ho4 (by have := HKL.out.1 ids; omega)
      simp only [Value.slice.injEq] at e1
      obtain ⟨rfl, _, rfl⟩ := e1
      refine ⟨g, rfl, fun W hW => ?_⟩
      rw [grown_cell hW hg (by simp)]
      have := ho4.cells (g := g) rfl i (nodeV ns[i]) (by simp [hi])
      rwa [addr_add, Nat.zero_add] at this)
    have HT0 : Hid (TRelS ids ns S w4 bt m1 m2 m3 (Ord.succV w.heap.size) (.int .i64 0) wc) := Lib.hid ⟨0, _, _, _, Nat.zero_le _, rfl, T0, TInv.init, by
      have : whites ids TSt.init ≤ ids.length := List.length_filter_le _ _
      show whites ids TSt.init + 0 ≤ 1000
      omega, Nat.le_refl _, hg0⟩
    have HGW := Lib.hid hgw4
    have HCL := Lib.hid hcloS
    clear X ho4 T0 hg0 HN x0 x1 HZ hmm hnf hsf hmh h ha hclo hcloS hfew HO HP hgw4 hs4 HNS
    go_wp2_with fail
    go_loopw [9, 33] (fun _ i wr => TRelS ids ns S w4 bt m1 m2 m3 (Ord.succV w.heap.size) i wr) (fun _ i _ => ids.length - (intOf i).toNat)
    case atStart => exact HT0.out
    case round =>
      clear HT0
      obtain ⟨k, vs, vo, vals, hk, rfl, T, hI, hsum, hout, hg⟩ := hrel
      by_cases hlt : k < ids.length
      · have hlt' : (k : Int) < ids.length := by omega
        have hltn : k < ns.length := by omega
        obtain ⟨g, rfl, hcell⟩ := HC.out k hltn
        have c1 := hcell wr hg
        have hsu := tfoldS_succ ids ns S hltn
        have hmem : ns[k] ∈ ids := hnm _ (List.getElem_mem hltn)
        obtain ⟨x, hx⟩ : ∃ x, x = ns[k] := ⟨_, rfl⟩
        rw [← hx] at c1 hsu hmem
        have c2 : wr.cell? ⟨bt, 2, none⟩ = some (.map (some m1)) := T.c 2
        have hlk := fun q => (T.grown (grown_drewN wr q)).tab.look x
        have hlk0 := (T.grown (grown_drew wr)).tab.look x
        obtain ⟨n, hn⟩ : ∃ n, n = (tfoldS ids ns S k).tab x := ⟨_, rfl⟩
        rw [← hn] at hlk hlk0
        have HX := Lib.hid (And.intro hx (And.intro T (And.intro hI (And.intro hsum (And.intro hout (And.intro hg (And.intro hsu (And.intro hn hmem))))))))
        clear hx T hI hsum hout hg hsu hn hcell hmem
        by_cases h0 : n = 0
        · have hb : (((n : Nat) : Int) == 0) = true := by rw [beq_iff_eq]; omega
          have HST : Hid (∀ nq, Calls Tryz.prog 92 #[.pointer (some ⟨bt, 0, none⟩), nodeV x] (wr.drewN nq) (Ord.StrongPost w4.heap.size bt m1 m2 m3 (Ord.succV w.heap.size) (tvisit S ids.length x (tfoldS ids ns S k)) (fun j => j < w4.heap.size) (wr.drewN nq))) := Lib.hid (fun nq => by
            obtain ⟨hx, T, hI, hsum, hout, hg, hsu, hn, hmem⟩ := HX.out
            exact HS.out _ [] _ _ _ _ _ _ (T.grown (grown_drewN wr nq)) hI hmem (by omega) (by simp) (List.length_filter_le _ _) hsum (fun y hy => by rw [hI.empty] at hy; cases hy) hout (grown_tr hg (grown_drewN wr nq)) (fun _ h => h))
          have H0 := Lib.hid h0
          clear h0
          go_wp2_with fail
          go_cut [42] (fun y wx => y = .bool true ∧ ∃ q, wx = wr.drewN q)
          case first =>
            go_region_with (go_at_call 181; refine (id_node _ _).mono ?_; rintro e w' ⟨rfl, rfl⟩)
            all_goals (try go_wp2_with fail)
            all_goals go_meet
            all_goals exact ⟨rfl, _, rfl⟩
          case rest =>
          obtain ⟨rfl, nq, rfl⟩ := hcut
          go_wp2_with (go_at_call 92; refine (HST.out _).mono ?_; rintro e w' hp; obtain ⟨rfl, ⟨vs', vo', vals', T'⟩, hk'⟩ := hp; replace T' := Lib.hid (And.intro T' hk'); clear hk')
          go_roundw
          case rel =>
            obtain ⟨hx, T, hI, hsum, hout, hg, hsu, hn, hmem⟩ := HX.out
            obtain ⟨T', hk'⟩ := T'.out
            rw [if_pos (by rw [← hn]; exact H0.out)] at hsu
            refine ⟨k + 1, vs', vo', vals', by omega, by go_num, by rw [hsu]; exact T', ?_, ?_, ?_, ?_⟩
            · rw [hsu]
              exact (tvisit_post HCL.out _ [] x _ hI hmem (by rw [← hn]; exact H0.out) (by simp) (List.length_filter_le _ _)).inv
            · rw [hsu]
              have := tvisit_sum HCL.out ids.length x (tfoldS ids ns S k) hmem (by rw [← hn]; exact H0.out)
              omega
            · rw [hsu]
              have := tvisit_outs (succ := S) ids.length x (tfoldS ids ns S k)
              omega
            · exact Kp.grown (grown_tr hg (grown_drewN wr _)) (fun _ h => h) hk'
          case measure => simp [intOf]; omega
        · have hb : (((n : Nat) : Int) == 0) = false := by rw [beq_eq_false_iff_ne]; omega
          have H0 := Lib.hid h0
          clear h0
          go_wp2_with fail
          go_cut [42] (fun y wx => y = .bool false ∧ ∃ q, wx = wr.drewN q)
          case first =>
            go_region_with (go_at_call 181; refine (id_node _ _).mono ?_; rintro e w' ⟨rfl, rfl⟩)
            all_goals (try go_wp2_with fail)
            all_goals go_meet
            all_goals exact ⟨rfl, _, rfl⟩
          case rest =>
          obtain ⟨rfl, nq, rfl⟩ := hcut
          go_wp2_with fail
          go_roundw
          case rel =>
            obtain ⟨hx, T, hI, hsum, hout, hg, hsu, hn, hmem⟩ := HX.out
            rw [if_neg (by rw [← hn]; exact H0.out)] at hsu
            refine ⟨k + 1, vs, vo, vals, by omega, by go_num, by rw [hsu]; exact T.grown (grown_drewN wr _), by rw [hsu]; exact hI, by rw [hsu]; exact hsum, by rw [hsu]; exact hout, grown_tr hg (grown_drewN wr _)⟩
          case measure => simp [intOf]; omega
      · have hlt' : ¬ (k : Int) < ids.length := by omega
        obtain rfl : k = ns.length := by omega
        have c6 : wr.cell? ⟨bt, 6, none⟩ = some vo := T.c 6
        have HX := Lib.hid (And.intro T hg)
        clear T hI hsum hout hg
        go_wp2_with fail
        go_ret
        obtain ⟨T, hg⟩ := HX.out
        rw [tfoldS_all] at T
        have hmono : w.heap.size ≤ w4.heap.size := HGW.out.size
        refine ⟨vo, vals, rfl, ?_, ?_, fun i v c hv hc => ?_, grown_tr HGW.out hg⟩
        · rw [List.length_reverse]
          exact own_mono T.out hmono
        · exact T.cmp.1
        · exact own_mono (T.cmp.2 i v c hv hc).1 hmono
set_option maxHeartbeats 4000000 in
set_option maxRecDepth 100000 in
theorem tarjan_by {bp : Nat}{p0 : Nat} {ids : List Int} {M : Mat} {w : World} {K : List Int → List Int} (hKl : ∀ l, (K l).length = l.length) (hKm : ∀ l x, x ∈ K l ↔ x ∈ l)
    (hord : ∀ W B e v l, w.grownBy W none → w.heap.size ≤ B → W.ownsRow B e 1 v l.length (l.map nodeV) → l.length ≤ 1000 → (∀ y ∈ l, y ∈ ids) → Calls Tryz.prog 44 #[v, .pointer (some ⟨bp, 0, none⟩)] W (KPost K l B e v W))
    (hnf : ∀ W, (binOp .eql 90 (byV bp) .nilFunc).run Tryz.prog W = .ok (.bool false) W)
    (h : PlnR w p0 ids M) (hl : ids.length ≤ 1000) (ha : ids.Pairwise (· < ·)) (hclo : ∀ x ∈ ids, ∀ y ∈ outs ids M x, y ∈ ids) :
    Calls Tryz.prog 64 #[.iface dirT (dirV p0), (byV bp)] w (ListsPost (tall (fun x => (K (outs ids M x)).reverse) ids.length (K ids).reverse).out.reverse w) := by
  have hnodes := fun O O2 => dir_nodes (h.grown (grown_tr (grown_alloc w O) (grown_alloc _ O2))) hl
  have HZ : Hid (∀ w2, ((w.alloc (.cells #[.iface dirT (dirV p0)] 108)).alloc (.cells #[(byV bp)] 90)).grownBy w2 none → w.grownBy w2 none ∧ w.heap.size + 1 < w2.heap.size ∧ w2.cell? ⟨w.heap.size, 0, none⟩ = some (.iface dirT (dirV p0)) ∧ w2.cell? ⟨w.heap.size + 1, 0, none⟩ = some (byV bp)) := Lib.hid (fun w2 hg => by
    have b1 := grown_block hg (heap_alloc2 w (.cells #[.iface dirT (dirV p0)] 108) (.cells #[(byV bp)] 90)) (by simp)
    have b0 := box_at (grown_tr (grown_alloc _ _) hg) 0
    exact ⟨grown_tr (grown_tr (grown_alloc _ _) (grown_alloc _ _)) hg, block_lt b1, by rw [b0]; rfl, cell_at b1⟩)
  have hmm := @run_makeMap Tryz.prog
  have hsf := fun (W : World) (a : Addr) => run_store Tryz.prog W a (Ord.succV w.heap.size) .plain rfl
  unfold Ord.succV at hsf
  have hmh : ∀ (n : Int) (w : World), (Instr.makeMap 126 (some (.int .i64 n))).run Tryz.prog w = .ok (.map (some w.heap.size)) (w.alloc (.map #[] 0)) := fun n w => make_hint rfl n w
  obtain ⟨ns, hns⟩ : ∃ ns, ns = (K ids).reverse := ⟨_, rfl⟩
  have hnsl : ns.length = ids.length := by rw [hns, List.length_reverse, hKl]
  have hnm : ∀ x ∈ ns, x ∈ ids := fun x hx => by rw [hns, List.mem_reverse, hKm] at hx; exact hx
  obtain ⟨S, hS⟩ : ∃ S : Int → List Int, S = fun x => (K (outs ids M x)).reverse := ⟨_, rfl⟩
  rw [show tall (fun x => (K (outs ids M x)).reverse) ids.length (K ids).reverse = tall S ids.length ns by rw [hns, hS]]
  have HNS := Lib.hid (And.intro hns hS)
  have HNM := Lib.hid (And.intro hnsl hnm)
  clear hns hS hnsl hnm
  have HO := Lib.hid hord
  have HKL := Lib.hid (And.intro hKl hKm)
  have HP := Lib.hid (And.intro h (And.intro ha hclo))
  clear hord hKl hKm h ha hclo
  go_enter Tryz.func64, Tryz.ntmps64
  go_wp2_with (first
    | (go_at_call 175; refine (hnodes _ _).mono ?_; intro e w1 hp; obtain ⟨q, vs, rfl, hp1, hp2, hp3, hp4⟩ := hp)
    | (go_at_call 89; refine (nodesOf_it hp1 hp2 (by omega)).mono ?_; intro e w2 hn; obtain ⟨vn, rfl, hn2, hn3⟩ := hn; obtain ⟨an, cn, hvn⟩ := own_slice hn2; subst hvn; have hg02 := grown_new hp4 hn3 (fun k hk => by cases hk; exact hp3); obtain ⟨hgw2, hs2, z0, z1⟩ := HZ.out w2 hg02; have hord2 := HO.out w2 _ _ _ ids hgw2 (by simp only [World.size_alloc]; omega) hn2 (by omega) (fun _ h => h))
    | (go_at_call 44; refine hord2.mono ?_; rintro e w3 ⟨rfl, ho3, hg3⟩; have hg03 := grown_new hg02 hg3 (fun k hk => by have := (hn2.lt k hk).1; exact this); obtain ⟨hgw3, hs3, y0, y1⟩ := HZ.out w3 hg03; rw [← HKL.out.1 ids] at ho3; have hrev := rev_call ho3 (by rw [HKL.out.1]; omega); rw [HKL.out.1] at hrev)
    | (go_at_call 87; (refine hrev.mono ?_; rintro e w4 ⟨rfl, ho4, hg4⟩; have hg04 := grown_new hg03 hg4 (fun k hk => (hn2.lt k hk).1); obtain ⟨hgw4, hs4, x0, x1⟩ := HZ.out w4 hg04)))
  rw [← HNS.out.1] at ho4
  have HN := Lib.hid (And.intro ho4 hgw4)
  clear hn2 hn3 hp1 hp2 hp3 hp4 hnodes hg02 hg03 hg04 hgw2 hgw3 hgw4 hg3 hg4 hs2 hs3 z0 z1 y0 y1 ho3 ho4 hord2 hrev
  go_cut [7] (fun x wx => TStart w4.heap.size (Ord.succV w.heap.size) w4 x wx)
  case first =>
    go_region
    all_goals (try go_wp2_with fail)
    all_goals go_meet
    all_goals
      apply TStart.of
      all_goals first | exact lk4_0 _ _ _ _ _ | exact lk4_1 _ _ _ _ _ | exact lk4_2 _ _ _ _ _ | exact lk4_3 _ _ _ _ _ | omega
  case rest =>
    obtain ⟨bt, m1, m2, m3, rfl, T0, hg0⟩ := hcut
    obtain ⟨ho4, hgw4⟩ := HN.out
    obtain ⟨hnsl, hnm⟩ := HNM.out
    obtain ⟨h, ha, hclo⟩ := HP.out
    have hcloS : ∀ x ∈ ids, ∀ y ∈ S x, y ∈ ids := fun x hx y hy => by
      rw [HNS.out.2] at hy
      exact hclo x hx y ((HKL.out.2 _ y).1 (List.mem_reverse.1 hy))
    have hfew : ∀ x, (S x).length ≤ 1000 := fun x => by
      rw [HNS.out.2]
      show (K (outs ids M x)).reverse.length ≤ 1000
      rw [List.length_reverse, HKL.out.1]
      unfold outs
      rw [List.length_map]
      exact Nat.le_trans (length_arcsOf _ _) hl
    have X : Ord.Ctx w4 w.heap.size w4.heap.size ids S := ⟨hl, hcloS, hfew, fun W x hW hx => by
      rw [HNS.out.2]
      exact succ_by (M := M) HKL.out.1 (fun W' B e v l hW' hB ho hll hm => HO.out W' B e v l (grown_tr (grown_tr hgw4 hW) hW') (Nat.le_trans (grown_tr hgw4 hW).size hB) ho hll hm) (h.grown (grown_tr hgw4 hW)) hl hx ha ((grown_cell hW (by omega) (by simp)).trans x0) (by have := hW.size; omega) ((grown_cell hW hs4 (by simp)).trans x1) (fun y hy => hclo x hx y hy), Nat.le_refl _⟩
    have HS := Lib.hid (fun (W : World) (gray : List Int) (vs vo : Value) (vals : List Value) (s : TSt) (v : Int) (R : Nat → Prop) => @Ord.strong_any w4 w.heap.size w4.heap.size bt m1 m2 m3 ids S X ids.length W gray vs vo vals s v R)
    have HC : Hid (∀ i, (hi : i < ns.length) → ∃ g, an = some ⟨g, 0, none⟩ ∧ ∀ W, w4.grownBy W none → W.cell? ⟨g, i, none⟩ = some (nodeV ns[i])) := Lib.hid (fun i hi => by
      obtain ⟨g, cap, e1, _, hg, _⟩ := own_row ho4 (by have := HKL.out.1 ids; omega)
      simp only [Value.slice.injEq] at e1
      obtain ⟨rfl, _, rfl⟩ := e1
      refine ⟨g, rfl, fun W hW => ?_⟩
      rw [grown_cell hW hg (by simp)]
      have := ho4.cells (g := g) rfl i (nodeV ns[i]) (by simp [hi])
      rwa [addr_add, Nat.zero_add] at this)
    have HT0 : Hid (TRelS ids ns S w4 bt m1 m2 m3 (Ord.succV w.heap.size) (.int .i64 0) wc) := Lib.hid ⟨0, _, _, _, Nat.zero_le _, rfl, T0, TInv.init, by
      have : whites ids TSt.init ≤ ids.length := List.length_filter_le _ _
      show whites ids TSt.init + 0 ≤ 1000
      omega, Nat.le_refl _, hg0⟩
    have HGW := Lib.hid hgw4
    have HCL := Lib.hid hcloS
    clear X ho4 T0 hg0 HN x0 x1 HZ hmm hnf hsf hmh h ha hclo hcloS hfew HO HP hgw4 hs4 HNS
    go_wp2_with fail
    go_loopw [9, 33] (fun _ i wr => TRelS ids ns S w4 bt m1 m2 m3 (Ord.succV w.heap.size) i wr) (fun _ i _ => ids.length - (intOf i).toNat)
    case atStart => exact HT0.out
    case round =>
      clear HT0
      obtain ⟨k, vs, vo, vals, hk, rfl, T, hI, hsum, hout, hg⟩ := hrel
      by_cases hlt : k < ids.length
      · have hlt' : (k : Int) < ids.length := by omega
        have hltn : k < ns.length := by omega
        obtain ⟨g, rfl, hcell⟩ := HC.out k hltn
        have c1 := hcell wr hg
        have hsu := tfoldS_succ ids ns S hltn
        have hmem : ns[k] ∈ ids := hnm _ (List.getElem_mem hltn)
        obtain ⟨x, hx⟩ : ∃ x, x = ns[k] := ⟨_, rfl⟩
        rw [← hx] at c1 hsu hmem
        have c2 : wr.cell? ⟨bt, 2, none⟩ = some (.map (some m1)) := T.c 2
        have hlk := fun q => (T.grown (grown_drewN wr q)).tab.look x
        have hlk0 := (T.grown (grown_drew wr)).tab.look x
        obtain ⟨n, hn⟩ : ∃ n, n = (tfoldS ids ns S k).tab x := ⟨_, rfl⟩
        rw [← hn] at hlk hlk0
        have HX := Lib.hid (And.intro hx (And.intro T (And.intro hI (And.intro hsum (And.intro hout (And.intro hg (And.intro hsu (And.intro hn hmem))))))))
        clear hx T hI hsum hout hg hsu hn hcell hmem
        by_cases h0 : n = 0
        · have hb : (((n : Nat) : Int) == 0) = true := by rw [beq_iff_eq]; omega
          have HST : Hid (∀ nq, Calls Tryz.prog 92 #[.pointer (some ⟨bt, 0, none⟩), nodeV x] (wr.drewN nq) (Ord.StrongPost w4.heap.size bt m1 m2 m3 (Ord.succV w.heap.size) (tvisit S ids.length x (tfoldS ids ns S k)) (fun j => j < w4.heap.size) (wr.drewN nq))) := Lib.hid (fun nq => by
            obtain ⟨hx, T, hI, hsum, hout, hg, hsu, hn, hmem⟩ := HX.out
            exact HS.out _ [] _ _ _ _ _ _ (T.grown (grown_drewN wr nq)) hI hmem (by omega) (by simp) (List.length_filter_le _ _) hsum (fun y hy => by rw [hI.empty] at hy; cases hy) hout (grown_tr hg (grown_drewN wr nq)) (fun _ h => h))
          have H0 := Lib.hid h0
          clear h0
          go_wp2_with fail
          go_cut [42] (fun y wx => y = .bool true ∧ ∃ q, wx = wr.drewN q)
          case first =>
            go_region_with (go_at_call 181; refine (id_node _ _).mono ?_; rintro e w' ⟨rfl, rfl⟩)
            all_goals (try go_wp2_with fail)
            all_goals go_meet
            all_goals exact ⟨rfl, _, rfl⟩
          case rest =>
          obtain ⟨rfl, nq, rfl⟩ := hcut
          go_wp2_with (go_at_call 92; refine (HST.out _).mono ?_; rintro e w' hp; obtain ⟨rfl, ⟨vs', vo', vals', T'⟩, hk'⟩ := hp; replace T' := Lib.hid (And.intro T' hk'); clear hk')
          go_roundw
          case rel =>
            obtain ⟨hx, T, hI, hsum, hout, hg, hsu, hn, hmem⟩ := HX.out
            obtain ⟨T', hk'⟩ := T'.out
            rw [if_pos (by rw [← hn]; exact H0.out)] at hsu
            refine ⟨k + 1, vs', vo', vals', by omega, by go_num, by rw [hsu]; exact T', ?_, ?_, ?_, ?_⟩
            · rw [hsu]
              exact (tvisit_post HCL.out _ [] x _ hI hmem (by rw [← hn]; exact H0.out) (by simp) (List.length_filter_le _ _)).inv
            · rw [hsu]
              have := tvisit_sum HCL.out ids.length x (tfoldS ids ns S k) hmem (by rw [← hn]; exact H0.out)
              omega
            · rw [hsu]
              have := tvisit_outs (succ := S) ids.length x (tfoldS ids ns S k)
              omega
            · exact Kp.grown (grown_tr hg (grown_drewN wr _)) (fun _ h => h) hk'
          case measure => simp [intOf]; omega
        · have hb : (((n : Nat) : Int) == 0) = false := by rw [beq_eq_false_iff_ne]; omega
          have H0 := Lib.hid h0
          clear h0
          go_wp2_with fail
          go_cut [42] (fun y wx => y = .bool false ∧ ∃ q, wx = wr.drewN q)
          case first =>
            go_region_with (go_at_call 181; refine (id_node _ _).mono ?_; rintro e w' ⟨rfl, rfl⟩)
            all_goals (try go_wp2_with fail)
            all_goals go_meet
            all_goals exact ⟨rfl, _, rfl⟩
          case rest =>
          obtain ⟨rfl, nq, rfl⟩ := hcut
          go_wp2_with fail
          go_roundw
          case rel =>
            obtain ⟨hx, T, hI, hsum, hout, hg, hsu, hn, hmem⟩ := HX.out
            rw [if_neg (by rw [← hn]; exact H0.out)] at hsu
            refine ⟨k + 1, vs, vo, vals, by omega, by go_num, by rw [hsu]; exact T.grown (grown_drewN wr _), by rw [hsu]; exact hI, by rw [hsu]; exact hsum, by rw [hsu]; exact hout, grown_tr hg (grown_drewN wr _)⟩
          case measure => simp [intOf]; omega
      · have hlt' : ¬ (k : Int) < ids.length := by omega
        obtain rfl : k = ns.length := by omega
        have c6 : wr.cell? ⟨bt, 6, none⟩ = some vo := T.c 6
        have HX := Lib.hid (And.intro T hg)
        clear T hI hsum hout hg
        go_wp2_with fail
        go_ret
        obtain ⟨T, hg⟩ := HX.out
        rw [tfoldS_all] at T
        have hmono : w.heap.size ≤ w4.heap.size := HGW.out.size
        refine ⟨vo, vals, rfl, ?_, ?_, fun i v c hv hc => ?_, grown_tr HGW.out hg⟩
        · rw [List.length_reverse]
          exact own_mono T.out hmono
        · exact T.cmp.1
        · exact own_mono (T.cmp.2 i v c hv hc).1 hmono
end Go.Proofs.YtdllkoiddlcnmaaGreat
