/- topo.tarjanSCCstabilized without an order, over a plain graph. -/
import Derived.Test.YtdllkoiddlcnmaaGreatTa
namespace Go.Proofs.YtdllkoiddlcnmaaGreat
open Go.MapKept Go.RowKit

/-- lists of nodes, in rows of the call's own -/
def ListsPost (L : List (List Int)) (w : World) (e : Ending) (w' : World) : Prop :=
  ∃ vo vals, e = .returned vo ∧ w'.ownsRow w.heap.size nodsT 1 vo L.length vals ∧ vals.length = L.length ∧ (∀ (i : Nat) (v : Value) (c : List Int), vals[i]? = some v → L[i]? = some c → w'.ownsRow w.heap.size nodT 1 v c.length (c.map nodeV)) ∧ w.grownBy w' none

def tfold (ids : List Int) (M : Mat) (k : Nat) : TSt := (ids.take k).foldl (fun s v => if s.tab v = 0 then tvisit (outs ids M) ids.length v s else s) TSt.init

def TStart (B : Nat) (fv : Value) (w1 : World) (v7 : Value) (wx : World) : Prop := ∃ bt m1 m2 m3, v7 = .pointer (some ⟨bt, 0, none⟩) ∧ TarB wx B bt m1 m2 m3 fv (.slice none 0 0) (.slice none 0 0) [] TSt.init [] (fun k => k < w1.heap.size) ∧ w1.grownBy wx none

theorem NumMap.made (w : World) : NumMap (w.alloc (.map #[] 0)) w.heap.size (fun _ => 0) := ⟨[], MapIs.made w, fun _ => rfl⟩
theorem SetMap.made (w : World) : SetMap (w.alloc (.map #[] 0)) w.heap.size [] := ⟨[], MapIs.made w, fun x => by simp [lkp], fun x => rfl⟩

/-- four blocks more -/
def lk4 (n : Nat) (a b c d : Obj) (k : Nat) : Option Obj := if k = n then some a else if k = n + 1 then some b else if k = n + 1 + 1 then some c else if k = n + 1 + 1 + 1 then some d else none
theorem lk4_0 (n : Nat) (a b c d : Obj) : lk4 n a b c d n = some a := by simp [lk4]
theorem lk4_1 (n : Nat) (a b c d : Obj) : lk4 n a b c d (n + 1) = some b := by unfold lk4; rw [if_neg (by omega), if_pos rfl]
theorem lk4_2 (n : Nat) (a b c d : Obj) : lk4 n a b c d (n + 1 + 1) = some c := by unfold lk4; rw [if_neg (by omega), if_neg (by omega), if_pos rfl]
theorem lk4_3 (n : Nat) (a b c d : Obj) : lk4 n a b c d (n + 1 + 1 + 1) = some d := by unfold lk4; rw [if_neg (by omega), if_neg (by omega), if_neg (by omega), if_pos rfl]
theorem heap_lt1 {w : World} (A : Obj) {b : Nat} {o : Obj} (h : w.heap[b]? = some o) : (w.alloc A).heap[b]? = some o := by
  rw [Below.heap_alloc _ _ _ (block_lt h)]
  exact h
theorem heap_of_lk4 {w : World} {a b c d o : Obj} {k : Nat} (h : lk4 w.heap.size a b c d k = some o) : ((((w.alloc a).alloc b).alloc c).alloc d).drew.heap[k]? = some o ∧ w.heap.size ≤ k := by
  have h0 := heap_alloc_new w a
  have h1 := heap_alloc2 w a b
  have h2 := heap_alloc2 (w.alloc a) b c
  have h3 := heap_alloc2 ((w.alloc a).alloc b) c d
  have e1 : (w.alloc a).heap.size = w.heap.size + 1 := by simp
  have e2 : ((w.alloc a).alloc b).heap.size = w.heap.size + 1 + 1 := by simp
  rw [e1] at h2
  rw [e2] at h3
  show ((((w.alloc a).alloc b).alloc c).alloc d).heap[k]? = some o ∧ _
  unfold lk4 at h
  split at h
  · subst_vars; cases h; exact ⟨heap_lt2 _ _ (heap_lt1 _ h0), Nat.le_refl _⟩
  · split at h
    · subst_vars; cases h; exact ⟨heap_lt2 _ _ h1, by omega⟩
    · split at h
      · subst_vars; cases h; exact ⟨heap_lt1 _ h2, by omega⟩
      · split at h
        · subst_vars; cases h; exact ⟨h3, by omega⟩
        · cases h
theorem TStart.of {w2 : World} {a b c d : Obj} {fv : Value} {bt m1 m2 m3 : Nat} (hb : lk4 w2.heap.size a b c d bt = some (.cells #[fv, .int .i64 0, .map (some m1), .map (some m2), .map (some m3), .slice none 0 0, .slice none 0 0] tjT (0, 0)))
    (h1 : lk4 w2.heap.size a b c d m1 = some (.map #[] 0)) (h2 : lk4 w2.heap.size a b c d m2 = some (.map #[] 0)) (h3 : lk4 w2.heap.size a b c d m3 = some (.map #[] 0)) (hn : m1 ≠ m2 ∧ m1 ≠ m3 ∧ m2 ≠ m3) :
    TStart w2.heap.size fv w2 (.pointer (some ⟨bt, 0, none⟩)) ((((w2.alloc a).alloc b).alloc c).alloc d).drew := by
  obtain ⟨k0, g0⟩ := heap_of_lk4 hb
  obtain ⟨k1, g1⟩ := heap_of_lk4 h1
  obtain ⟨k2, g2⟩ := heap_of_lk4 h2
  obtain ⟨k3, g3⟩ := heap_of_lk4 h3
  have hg : w2.grownBy ((((w2.alloc a).alloc b).alloc c).alloc d).drew none := grown_tr (grown_tr (grown_tr (grown_tr (grown_alloc _ _) (grown_alloc _ _)) (grown_alloc _ _)) (grown_alloc _ _)) (grown_drew _)
  have hs := hg.size
  generalize ((((w2.alloc a).alloc b).alloc c).alloc d).drew = wx at *
  have hm : ∀ m, wx.heap[m]? = some (.map #[] 0) → MapIs wx m [] := fun m h => ⟨#[], 0, h, stamped_empty 0, rfl⟩
  refine ⟨bt, m1, m2, m3, rfl, ⟨k0, ⟨[], hm _ k1, fun x => rfl⟩, ⟨[], hm _ k2, fun x => rfl⟩, ⟨[], hm _ k3, fun x => by simp [lkp], fun x => rfl⟩, ⟨rfl, .inl ⟨rfl, rfl⟩⟩, ⟨rfl, .inl ⟨rfl, rfl⟩⟩, ⟨rfl, fun i v c hv => by simp at hv⟩, hn, ⟨g0, g1, g2, g3⟩, fun k hk => ⟨by omega, by omega, by omega, by omega, by simp [Value.ownBlock], by simp [Value.ownBlock]⟩, fun k hk => Nat.lt_of_lt_of_le hk hs⟩, hg⟩

def TRel (ids : List Int) (M : Mat) (w2 : World) (bt m1 m2 m3 : Nat) (fv i : Value) (wr : World) : Prop :=
  ∃ (k : Nat) (vs vo : Value) (vals : List Value), k ≤ ids.length ∧ i = .int .i64 k ∧ TarB wr w2.heap.size bt m1 m2 m3 fv vs vo vals (tfold ids M k) (tfold ids M k).stk (fun j => j < w2.heap.size) ∧
    TInv (outs ids M) [] (tfold ids M k) ∧ whites ids (tfold ids M k) + (tfold ids M k).idx ≤ 1000 ∧ (tfold ids M k).out.length ≤ (tfold ids M k).idx ∧ w2.grownBy wr none
theorem tfold_succ (ids : List Int) (M : Mat) {k : Nat} (hk : k < ids.length) : tfold ids M (k + 1) = if (tfold ids M k).tab ids[k] = 0 then tvisit (outs ids M) ids.length ids[k] (tfold ids M k) else tfold ids M k := by
  unfold tfold
  rw [List.take_succ_eq_append_getElem hk, List.foldl_append]
  rfl
theorem tfold_all (ids : List Int) (M : Mat) : tfold ids M ids.length = tall (outs ids M) ids.length ids := by
  unfold tfold tall
  rw [List.take_length]

theorem id_same (x : Int) (w : World) : Calls Tryz.prog 181 #[.int .i64 x] w (fun e w' => e = .returned (.int .i64 x) ∧ w' = w) :=
  (id_node x w).mono fun _ _ ⟨h1, h2⟩ => ⟨h1, h2.symm⟩

theorem fnil_eql {P : Program} {t : TypeId} {ps rs vd} (h : P.underlying t = some (.func ps rs vd)) (w : World) : (binOp .eql t .nilFunc .nilFunc).run P w = .ok (.bool true) w := by
  have h1 : ∀ d, (Op.equalIn (d + 1) t .nilFunc .nilFunc).run P w = .ok true w := fun d => by simp [Op.equalIn, run_underlying h]
  have h2 : (Op.equal t .nilFunc .nilFunc).run P w = .ok true w := h1 9999
  simp only [binOp]
  simp [h2]
theorem make_hint {P : Program} {t k e : TypeId} (h : P.underlying t = some (.map k e)) (n : Int) (w : World) : (Instr.makeMap t (some (.int .i64 n))).run P w = .ok (.map (some w.heap.size)) (w.alloc (.map #[] 0)) := by
  simp [Instr.makeMap, run_underlying h, asInt, asIntOf, Result.andThen]

set_option maxHeartbeats 4000000 in
set_option maxRecDepth 100000 in
theorem tarjan_any {p0 : Nat} {ids : List Int} {M : Mat} {w : World} (h : PlnR w p0 ids M) (hl : ids.length ≤ 1000) (ha : ids.Pairwise (· < ·)) (hclo : ∀ x ∈ ids, ∀ y ∈ outs ids M x, y ∈ ids) :
    Calls Tryz.prog 64 #[.iface dirT (dirV p0), .nilFunc] w (ListsPost (tall (outs ids M) ids.length ids).out.reverse w) := by
  have hnodes := fun O O2 => dir_nodes (h.grown (grown_tr (grown_alloc w O) (grown_alloc _ O2))) hl
  have HZ : Hid (∀ w2, ((w.alloc (.cells #[.iface dirT (dirV p0)] 108)).alloc (.cells #[.nilFunc] 90)).grownBy w2 none → ((w.alloc (.cells #[.iface dirT (dirV p0)] 108)).alloc (.cells #[.nilFunc] 90)).grownBy w2 none ∧ w2.cell? ⟨w.heap.size, 0, none⟩ = some (.iface dirT (dirV p0)) ∧ w2.cell? ⟨w.heap.size + 1, 0, none⟩ = some .nilFunc) := Lib.hid (fun w2 hg => by
    have b1 := grown_block hg (heap_alloc2 w (.cells #[.iface dirT (dirV p0)] 108) (.cells #[.nilFunc] 90)) (by simp)
    have b0 := box_at (grown_tr (grown_alloc _ _) hg) 0
    exact ⟨hg, by rw [b0]; rfl, cell_at b1⟩)
  have hmm := @run_makeMap Tryz.prog
  have hnf := @fnil_eql Tryz.prog 90 _ _ _ rfl
  have hsf := fun (W : World) (a : Addr) => run_store Tryz.prog W a (succV w.heap.size) .plain rfl
  unfold succV at hsf
  have hmh : ∀ (n : Int) (w : World), (Instr.makeMap 126 (some (.int .i64 n))).run Tryz.prog w = .ok (.map (some w.heap.size)) (w.alloc (.map #[] 0)) := fun n w => make_hint rfl n w
  go_enter Tryz.func64, Tryz.ntmps64
  go_wp2_with (first
    | (go_at_call 175; refine (hnodes _ _).mono ?_; intro e w1 hp; obtain ⟨q, vs, rfl, hp1, hp2, hp3, hp4⟩ := hp)
    | (go_at_call 89; refine (nodesOf_it hp1 hp2 (by omega)).mono ?_; intro e w2 hn; obtain ⟨vn, rfl, hn2, hn3⟩ := hn; obtain ⟨an, cn, hvn⟩ := own_slice hn2; subst hvn; obtain ⟨hgw2, z0, z1⟩ := HZ.out w2 (grown_new hp4 hn3 (fun k hk => by cases hk; exact hp3))))
  have HN := Lib.hid (And.intro hn2 hgw2)
  clear hn2 hgw2 hn3 hp1 hp2 hp3 hp4 hnodes

  go_cut [7] (fun x wx => TStart w2.heap.size (succV w.heap.size) w2 x wx)
  case first =>
    go_region
    all_goals (try go_wp2_with fail)
    all_goals go_meet
    all_goals
      apply TStart.of
      all_goals first | exact lk4_0 _ _ _ _ _ | exact lk4_1 _ _ _ _ _ | exact lk4_2 _ _ _ _ _ | exact lk4_3 _ _ _ _ _ | omega
  case rest =>
    obtain ⟨bt, m1, m2, m3, rfl, T0, hg0⟩ := hcut
    obtain ⟨hn2, hgw2⟩ := HN.out
    have hgw : w.grownBy w2 none := grown_tr (grown_tr (grown_alloc _ _) (grown_alloc _ _)) hgw2
    have X : Ctx w2 p0 w.heap.size w2.heap.size ids M := ⟨h.grown hgw, hl, ha, hclo, z0, by have := hgw2.size; simp at this; omega, Nat.le_refl _⟩
    have HS := Lib.hid (fun (W : World) (gray : List Int) (vs vo : Value) (vals : List Value) (s : TSt) (v : Int) (R : Nat → Prop) => @strong_any w2 p0 w.heap.size w2.heap.size bt m1 m2 m3 ids M X ids.length W gray vs vo vals s v R)
    have HC : Hid (∀ i, (hi : i < ids.length) → ∃ g, an = some ⟨g, 0, none⟩ ∧ ∀ W, w2.grownBy W none → W.cell? ⟨g, i, none⟩ = some (nodeV ids[i])) := Lib.hid (fun i hi => by
      obtain ⟨g, cap, e1, _, hg, _⟩ := own_row hn2 (by omega)
      simp only [Value.slice.injEq] at e1
      obtain ⟨rfl, _, rfl⟩ := e1
      refine ⟨g, rfl, fun W hW => ?_⟩
      rw [grown_cell hW hg (by simp)]
      have := hn2.cells (g := g) rfl i (nodeV ids[i]) (by simp [hi])
      rwa [addr_add, Nat.zero_add] at this)
    have HT0 : Hid (TRel ids M w2 bt m1 m2 m3 (succV w.heap.size) (.int .i64 0) wc) := Lib.hid ⟨0, _, _, _, Nat.zero_le _, rfl, T0, TInv.init, by
      have : whites ids TSt.init ≤ ids.length := List.length_filter_le _ _
      show whites ids TSt.init + 0 ≤ 1000
      omega, Nat.le_refl _, hg0⟩
    have HGW := Lib.hid hgw
    have HCL := Lib.hid hclo
    clear hgw X hn2 hgw2 T0 hg0 HN z0 z1 HZ hmm hnf hsf hmh h ha hclo
    go_wp2_with fail
    go_loopw [9, 33] (fun _ i wr => TRel ids M w2 bt m1 m2 m3 (succV w.heap.size) i wr) (fun _ i _ => ids.length - (intOf i).toNat)
    case atStart => exact HT0.out
    case round =>
      clear HT0
      obtain ⟨k, vs, vo, vals, hk, rfl, T, hI, hsum, hout, hg⟩ := hrel
      by_cases hlt : k < ids.length
      · have hlt' : (k : Int) < ids.length := by omega
        obtain ⟨g, rfl, hcell⟩ := HC.out k hlt
        have c1 := hcell wr hg
        have hsu := tfold_succ ids M hlt
        have hmem : ids[k] ∈ ids := List.getElem_mem hlt
        obtain ⟨x, hx⟩ : ∃ x, x = ids[k] := ⟨_, rfl⟩
        rw [← hx] at c1 hsu hmem
        have c2 : wr.cell? ⟨bt, 2, none⟩ = some (.map (some m1)) := T.c 2
        have hlk := fun q => (T.grown (grown_drewN wr q)).tab.look x
        have hlk0 := (T.grown (grown_drew wr)).tab.look x
        obtain ⟨n, hn⟩ : ∃ n, n = (tfold ids M k).tab x := ⟨_, rfl⟩
        rw [← hn] at hlk hlk0
        have HX := Lib.hid (And.intro hx (And.intro T (And.intro hI (And.intro hsum (And.intro hout (And.intro hg (And.intro hsu (And.intro hn hmem))))))))
        clear hx T hI hsum hout hg hsu hn hcell hmem
        by_cases h0 : n = 0
        · have hb : (((n : Nat) : Int) == 0) = true := by rw [beq_iff_eq]; omega
          have HST : Hid (∀ nq, Calls Tryz.prog 92 #[.pointer (some ⟨bt, 0, none⟩), nodeV x] (wr.drewN nq) (StrongPost w2.heap.size bt m1 m2 m3 (succV w.heap.size) (tvisit (outs ids M) ids.length x (tfold ids M k)) (fun j => j < w2.heap.size) (wr.drewN nq))) := Lib.hid (fun nq => by
            obtain ⟨hx, T, hI, hsum, hout, hg, hsu, hn, hmem⟩ := HX.out
            exact HS.out _ [] _ _ _ _ _ _ (T.grown (grown_drewN wr nq)) hI hmem (by omega) (by simp) (List.length_filter_le _ _) hsum (fun y hy => by rw [hI.empty] at hy; cases hy) hout (grown_tr hg (grown_drewN wr nq)) (fun _ h => h))
          have H0 := Lib.hid h0
          clear h0
          go_wp2_with fail
          go_cut [42] (fun y wx => y = .bool true ∧ ∃ q, wx = wr.drewN q)
          case first =>
            go_region_with (go_at_call 181; refine (id_node _ _).mono ?_; rintro e w' ⟨rfl, rfl⟩)
            all_goals (try go_wp2_with fail)
            all_goals go_meet
            all_goals exact ⟨rfl, _, rfl⟩
          case rest =>
          obtain ⟨rfl, nq, rfl⟩ := hcut
          go_wp2_with (go_at_call 92; refine (HST.out _).mono ?_; rintro e w' hp; obtain ⟨rfl, ⟨vs', vo', vals', T'⟩, hk'⟩ := hp; replace T' := Lib.hid (And.intro T' hk'); clear hk')
          go_roundw
          case rel =>
            obtain ⟨hx, T, hI, hsum, hout, hg, hsu, hn, hmem⟩ := HX.out
            obtain ⟨T', hk'⟩ := T'.out
            rw [if_pos (by rw [← hn]; exact H0.out)] at hsu
            refine ⟨k + 1, vs', vo', vals', by omega, by go_num, by rw [hsu]; exact T', ?_, ?_, ?_, ?_⟩
            · rw [hsu]
              exact (tvisit_post HCL.out _ [] x _ hI hmem (by rw [← hn]; exact H0.out) (by simp) (List.length_filter_le _ _)).inv
            · rw [hsu]
              have := tvisit_sum HCL.out ids.length x (tfold ids M k) hmem (by rw [← hn]; exact H0.out)
              omega
            · rw [hsu]
              have := tvisit_outs (succ := outs ids M) ids.length x (tfold ids M k)
              omega
            · exact Kp.grown (grown_tr hg (grown_drewN wr _)) (fun _ h => h) hk'
          case measure => simp [intOf]; omega
        · have hb : (((n : Nat) : Int) == 0) = false := by rw [beq_eq_false_iff_ne]; omega
          have H0 := Lib.hid h0
          clear h0
          go_wp2_with fail
          go_cut [42] (fun y wx => y = .bool false ∧ ∃ q, wx = wr.drewN q)
          case first =>
            go_region_with (go_at_call 181; refine (id_node _ _).mono ?_; rintro e w' ⟨rfl, rfl⟩)
            all_goals (try go_wp2_with fail)
            all_goals go_meet
            all_goals exact ⟨rfl, _, rfl⟩
          case rest =>
          obtain ⟨rfl, nq, rfl⟩ := hcut
          go_wp2_with fail
          go_roundw
          case rel =>
            obtain ⟨hx, T, hI, hsum, hout, hg, hsu, hn, hmem⟩ := HX.out
            rw [if_neg (by rw [← hn]; exact H0.out)] at hsu
            refine ⟨k + 1, vs, vo, vals, by omega, by go_num, by rw [hsu]; exact T.grown (grown_drewN wr _), by rw [hsu]; exact hI, by rw [hsu]; exact hsum, by rw [hsu]; exact hout, grown_tr hg (grown_drewN wr _)⟩
          case measure => simp [intOf]; omega
      · have hlt' : ¬ (k : Int) < ids.length := by omega
        obtain rfl : k = ids.length := by omega
        have c6 : wr.cell? ⟨bt, 6, none⟩ = some vo := T.c 6
        have HX := Lib.hid (And.intro T hg)
        clear T hI hsum hout hg
        go_wp2_with fail
        go_ret
        obtain ⟨T, hg⟩ := HX.out
        rw [tfold_all] at T
        have hmono : w.heap.size ≤ w2.heap.size := HGW.out.size
        refine ⟨vo, vals, rfl, ?_, ?_, fun i v c hv hc => ?_, grown_tr HGW.out hg⟩
        · rw [List.length_reverse]
          exact own_mono T.out hmono
        · exact T.cmp.1
        · exact own_mono (T.cmp.2 i v c hv hc).1 hmono
end Go.Proofs.YtdllkoiddlcnmaaGreat
