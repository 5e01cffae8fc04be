/- The laws' own: sortedLists, sameLists. -/
import Derived.Test.YtcbkalppclilfaaGreatBe
import Derived.Test.YtcbkalppclilfaaGreatLl
import Derived.Test.YtcbkalppclilfaaGreatSi
import Derived.Lib.SliceRun
namespace Go.Proofs.YtcbkalppclilfaaGreat
open Go.MapKept Go.RowKit

/-- v reads as the slices of the pairs; each of them as the numbers beside it -/
def PairsR (w : World) (v : Value) (P : List (Value × List Int)) : Prop :=
  (∃ a c, v = .slice a P.length c ∧ (0 < P.length → ∃ b o, a = some ⟨b, o, none⟩ ∧ b < w.heap.size ∧ ∀ i, (h : i < P.length) → w.cell? ⟨b, o + i, none⟩ = some P[i].1)) ∧ ∀ p ∈ P, IntsR w p.1 p.2

theorem RowsR.pairs {w : World} {v : Value} {L : List (List Int)} (h : RowsR w v L) : ∃ P : List (Value × List Int), P.map Prod.snd = L ∧ PairsR w v P := by
  obtain ⟨a, c, vals, rfl, h1, h2⟩ := h
  have hl : (List.ofFn (fun i : Fin L.length => (vals i, L[i]))).length = L.length := by simp
  refine ⟨List.ofFn (fun i : Fin L.length => (vals i, L[i])), ?_, ⟨a, c, by rw [hl], fun h0 => ?_⟩, fun p hp => ?_⟩
  · apply List.ext_getElem
    · simp
    · intro i k1 k2; simp
  · obtain ⟨b, o, rfl, hb, hc⟩ := h1 (by omega)
    refine ⟨b, o, rfl, hb, fun i hi => ?_⟩
    rw [hc i (by omega)]
    simp
  · obtain ⟨i, hi, rfl⟩ := List.getElem_of_mem hp
    have := h2 i (by omega)
    simpa using this

theorem PairsR.rows {w : World} {B n : Nat} {v : Value} {P : List (Value × List Int)} (hn : n = P.length) (ho : w.ownsRow B intsT 1 v n (P.map Prod.fst)) (h : ∀ p ∈ P, IntsR w p.1 p.2) : RowsR w v (P.map Prod.snd) := by
  subst hn
  obtain ⟨a, c, rfl⟩ := own_slice ho
  refine ⟨a, c, fun i => (P.map Prod.fst).getD i (.bool false), by rw [List.length_map], fun hL => ?_, fun i hi => ?_⟩
  · rw [List.length_map] at hL
    obtain ⟨g, cap, e1, _, hg, _⟩ := own_row ho hL
    simp only [Value.slice.injEq] at e1
    obtain ⟨rfl, _, rfl⟩ := e1
    refine ⟨g, 0, rfl, hg, fun i hi => ?_⟩
    rw [List.length_map] at hi
    have := ho.cells (g := g) rfl i ((P.map Prod.fst).getD i (.bool false)) (by simp [List.getD_eq_getElem?_getD, hi])
    rw [addr_add] at this
    exact this
  · rw [List.length_map] at hi
    have := h P[i] (List.getElem_mem hi)
    simpa [List.getD_eq_getElem?_getD, hi] using this

set_option maxHeartbeats 1000000 in
set_option maxRecDepth 100000 in
theorem clone_rows {P : List (Value × List Int)} {v : Value} {w : World} (h : PairsR w v P) (hl : P.length ≤ 1000000) :
    Calls Tryz.prog 36 #[v] w (fun e w' => ∃ v', e = .returned v' ∧ w'.ownsRow w.heap.size intsT 1 v' P.length (P.map Prod.fst) ∧ w.grownBy w' none) := by
  obtain ⟨⟨a, c, rfl, h1⟩, h2⟩ := h
  have heq := fun W => Go.Lib.run_eql_slice_nil (P := Tryz.prog) W 31 22 a P.length c 0 0 Tryz.underlying31
  cases a with
  | none =>
    have h0 : P.length = 0 := by
      by_cases h0 : P.length = 0
      · exact h0
      · obtain ⟨b, o, e, _⟩ := h1 (by omega)
        cases e
    have H0 := Lib.hid h0
    clear h1 h2 h0
    go_enter Tryz.func36, Tryz.ntmps36
    go_wp2_with fail
    go_ret
    exact ⟨_, rfl, ⟨by simp, .inl ⟨rfl, H0.out⟩⟩, grown_refl _⟩
  | some ad =>
    have hc : ∀ W, w.grownBy W none → ∀ j u, (P.map Prod.fst)[j]? = some u → W.cell? (ad.add j) = some u := fun W hW j u hu => by
      obtain ⟨hj, e⟩ := List.getElem?_eq_some_iff.1 hu
      rw [List.length_map] at hj
      obtain ⟨b, o, e2, hb, hcell⟩ := h1 (by omega)
      cases e2
      rw [addr_add, grown_cell hW hb (by simp), hcell j hj, ← e]
      simp
    have hone : ∀ u ∈ P.map Prod.fst, u.oneCell' = true := fun u hu => by
      obtain ⟨p, hp, rfl⟩ := List.mem_map.1 hu
      obtain ⟨a, c, e, _⟩ := h2 p hp
      rw [e]
      rfl
    have HC := Lib.hid hc
    clear h1 h2 hc
    have hmade : (w.alloc (.cells #[] intsT)).ownsRow w.heap.size intsT 1 (.slice (some ⟨w.heap.size, 0, none⟩) 0 0) 0 [] := World.ownsRow_made w #[] 0 (Nat.le_refl _) (by simp) rfl
    go_enter Tryz.func36, Tryz.ntmps36
    go_wp2_with (at_builtin; refine wpx_append elLL _ rfl (.tmp 5) (.tmp 6) rfl w.heap.size (.slice (some ⟨w.heap.size, 0, none⟩) 0 0) 0 [] rfl hmade ad P.length c (P.map Prod.fst) rfl (by simp) (HC.out _ (grown_alloc _ _)) hone (by omega) (by unfold maxLen; omega) (by simp) ?_; intro v1 w1 hown1 hg1 hnil1 hat1; simp only [Nat.zero_add, List.nil_append] at hown1)
    go_ret
    exact ⟨_, rfl, hown1, grown_new (grown_alloc _ _) hg1 (fun k hk => by cases hk; exact Nat.le_refl _)⟩

def SlLe (p q : Value × List Int) : Prop := lexLe p.2 q.2
def SlRel (P0 : List (Value × List Int)) (w : World) (v : Value) (n k : Nat) (wr : World) : Prop := ∃ P : List (Value × List Int), P.length = n ∧ P.Perm P0 ∧ OrdG SlLe P k ∧ wr.ownsRow w.heap.size intsT 1 v n (P.map Prod.fst) ∧ w.grownBy wr none
def SlIn (P0 : List (Value × List Int)) (w : World) (v : Value) (n k i : Nat) (wr : World) : Prop := ∃ P : List (Value × List Int), P.length = n ∧ P.Perm P0 ∧ InnerG SlLe P k i ∧ wr.ownsRow w.heap.size intsT 1 v n (P.map Prod.fst) ∧ w.grownBy wr none
def SlPost (L : List (List Int)) (w : World) (e : Ending) (w' : World) : Prop := ∃ (v : Value) (L' : List (List Int)), e = .returned v ∧ L'.Perm L ∧ L'.Pairwise lexLe ∧ RowsR w' v L' ∧ w.grownBy w' none

theorem own_cell_pair {w : World} {B : Nat} {e : TypeId} {g n cap : Nat} {P : List (Value × List Int)} (h : w.ownsRow B e 1 (.slice (some ⟨g, 0, none⟩) n cap) n (P.map Prod.fst)) {j : Nat} (hj : j < P.length) : w.cell? ⟨g, j, none⟩ = some P[j].1 := by
  have hn := own_of_list h
  rw [List.length_map] at hn
  rw [h.cellAt j (by omega)]
  simp [hj]

set_option maxHeartbeats 4000000 in
set_option maxRecDepth 100000 in
theorem sortedLists_any {L : List (List Int)} {v : Value} {w : World} (h : RowsR w v L) (hl : L.length ≤ 1000000) (hc : ∀ c ∈ L, c.length ≤ 1000000) : Calls Tryz.prog 19 #[v] w (SlPost L w) := by
  obtain ⟨P0, rfl, hp⟩ := h.pairs
  rw [List.length_map] at hl
  have hcall := clone_rows hp hl
  have HR : Hid (∀ p ∈ P0, IntsR w p.1 p.2 ∧ p.2.length ≤ 1000000) := Lib.hid (fun p h => ⟨hp.2 p h, hc _ (List.mem_map.2 ⟨p, h, rfl⟩)⟩)
  obtain ⟨⟨a, c, rfl, -⟩, -⟩ := hp
  clear h hc
  go_enter Tryz.func19, Tryz.ntmps19
  go_wp2_with (go_at_call 36; refine hcall.mono ?_; rintro e w1 ⟨v1, rfl, ho1, hg1⟩; obtain ⟨a1, c1, hv1⟩ := own_slice ho1; subst hv1)
  try go_frame
  clear hcall
  obtain ⟨n, hn⟩ : ∃ n, n = P0.length := ⟨_, rfl⟩
  rw [← hn] at ho1 hl ⊢
  have HN := Lib.hid hn
  clear hn
  go_loopw [4, 5] (fun i _ wr => ∃ k : Nat, 1 ≤ k ∧ k ≤ max n 1 ∧ i = .int .i64 k ∧ SlRel P0 w (.slice a1 n c1) n k wr) (fun i _ _ => n - (intOf i).toNat)
  case atStart => exact ⟨1, by omega, by omega, rfl, P0, HN.out.symm, .refl _, fun a b ha hb hab hbk => by omega, ho1, hg1⟩
  case round =>
    obtain ⟨k, hk1, hk, rfl, ys, hyl, hyp, hyo, hown, hgw⟩ := hrel
    have hrow := fun h => own_row hown h
    by_cases hlt : k < n
    · have hlt' : (k : Int) < n := by omega
      obtain ⟨g, cap, hv, hgb, hgs, _⟩ := hrow (by omega)
      simp only [Value.slice.injEq, true_and] at hv
      obtain ⟨rfl, rfl⟩ := hv
      have HY := Lib.hid (And.intro hyl (And.intro hyp (And.intro hyo (And.intro hown hgw))))
      clear hyl hyp hyo hown hgw hrow hgb hgs ho1 hg1
      go_wp2_with fail
      try go_frame
      obtain ⟨wo, rfl⟩ : ∃ wo : World, wo = wr := ⟨_, rfl⟩
      go_loopw [5] (fun i wr => ∃ j : Nat, i = .int .i64 j ∧ SlIn P0 w (.slice (some ⟨g, 0, none⟩) n c1) n k j wr) (fun i _ => (intOf i).toNat)
      case atStart =>
        obtain ⟨hyl, hyp, hyo, hown, hgw⟩ := HY.out
        exact ⟨k, rfl, ys, hyl, hyp, InnerG.start hyo (by omega), hown, hgw⟩
      case round =>
        clear HY
        obtain ⟨j, rfl, zs, hzl, hzp, hzo, hown, hgw⟩ := hrel
        have hjk : j ≤ k := hzo.1
        by_cases hj0 : j = 0
        · subst hj0
          have HZ := Lib.hid (And.intro hzl (And.intro hzp (And.intro hzo (And.intro hown hgw))))
          clear hzl hzp hzo hown hgw
          go_wp2_with fail
          go_quiet (fail)
          go_wp2_with fail
          go_roundw
          case rel =>
            obtain ⟨hzl, hzp, hzo, hown, hgw⟩ := HZ.out
            exact ⟨k + 1, by omega, by omega, by go_num, zs, hzl, hzp, InnerG.stop (le := SlLe) (fun h1 h2 => lexLe_tr h1 h2) hzo (.inl rfl), hown, grown_tr hgw (grown_drewN _ _)⟩
          case measure => simp [intOf]; omega
        · have hj : (0 : Int) < j := by omega
          have hj1 : 1 ≤ j := by omega
          have hj2 : 0 < j := by omega
          have hjb : j < n := by omega
          have hjc : j - 1 < n := by omega
          have hjl : j < zs.length := by omega
          have hjm : j - 1 < zs.length := by omega
          have hc1 := own_cell_pair hown hjl
          have hc2 := own_cell_pair hown hjm
          have hgl := (hown.lt g rfl).2
          have hji1 : (0 : Int) ≤ ((j - 1 : Nat) : Int) := by omega
          have hji2 : ((j - 1 : Nat) : Int) < n := by omega
          have hji3 : IntKind.i64.wrap ((j : Int) - 1) = ((j - 1 : Nat) : Int) := by rw [IntKind.wrap_i64]; omega
          obtain ⟨hR1, hl1⟩ := HR.out zs[j] (hzp.subset (List.getElem_mem hjl))
          obtain ⟨hR2, hl2⟩ := HR.out zs[j - 1] (hzp.subset (List.getElem_mem hjm))
          obtain ⟨y, hy⟩ : ∃ y, y = zs[j] := ⟨_, rfl⟩
          obtain ⟨z, hz⟩ : ∃ z, z = zs[j - 1] := ⟨_, rfl⟩
          rw [← hy] at hc1 hR1 hl1
          rw [← hz] at hc2 hR2 hl2
          obtain ⟨vy, ly⟩ := y
          obtain ⟨vz, lz⟩ := z
          simp only at hc1 hc2 hR1 hR2 hl1 hl2
          obtain ⟨p, hp⟩ : ∃ p, p = lexB ly lz := ⟨_, rfl⟩
          have hbe : ∀ W, wr.grownBy W none → Calls Tryz.prog 37 #[vy, vz] W (fun e w' => e = .returned (.bool p) ∧ W.grownBy w' none) := fun W hW => by
            rw [hp]
            exact before_any (hR1.grown (grown_tr hgw hW)) (hR2.grown (grown_tr hgw hW)) hl1 hl2
          obtain ⟨ay, cy, rfl, -⟩ := hR1
          obtain ⟨az, cz, rfl, -⟩ := hR2
          have HZ := Lib.hid (And.intro hzl (And.intro hzp (And.intro hzo (And.intro hown (And.intro hgw (And.intro hy (And.intro hz hp)))))))
          clear hzl hzp hzo hown hgw hy hz hp hl1 hl2
          cases p
          · go_wp2_with fail
            go_region_held3 (fun w' => w'.cell? ⟨g, j, none⟩ = some (.slice ay ly.length cy) ∧ w'.cell? ⟨g, j - 1, none⟩ = some (.slice az lz.length cz))
              (first | go_keep | exact ⟨(grown_cell hgb hgl (by simp)).trans hc1, (grown_cell hgb hgl (by simp)).trans hc2⟩)
              (first
                | (go_at_call 37; refine (hbe _ (by first | exact grown_drew _ | exact grown_drewN _ _ | exact grown_refl _)).mono ?_; rintro e w3 ⟨rfl, hgb⟩))
            go_wp2_with fail
            go_roundw
            case rel =>
              obtain ⟨hzl, hzp, hzo, hown, hgw, hy, hz, hp⟩ := HZ.out
              have hw3 := grown_tr (grown_drew wr) hgb
              refine ⟨k + 1, by omega, by omega, by go_num, zs, hzl, hzp, InnerG.stop (le := SlLe) (fun h1 h2 => lexLe_tr h1 h2) hzo (.inr ⟨hjm, hjl, ?_⟩), own_new hown hw3, grown_tr hgw hw3⟩
              rw [← hy, ← hz]
              exact hp.symm
            case measure => simp [intOf]; omega
          · go_wp2_with fail
            go_region_held3 (fun w' => w'.cell? ⟨g, j, none⟩ = some (.slice ay ly.length cy) ∧ w'.cell? ⟨g, j - 1, none⟩ = some (.slice az lz.length cz))
              (first | go_keep | exact ⟨(grown_cell hgb hgl (by simp)).trans hc1, (grown_cell hgb hgl (by simp)).trans hc2⟩)
              (first
                | (go_at_call 37; refine (hbe _ (by first | exact grown_drew _ | exact grown_drewN _ _ | exact grown_refl _)).mono ?_; rintro e w3 ⟨rfl, hgb⟩))
            have hw3 := grown_tr (grown_drew wr) hgb
            have hown3 := own_new HZ.out.2.2.2.1 hw3
            have k1 : w3.cell? ⟨g, j, none⟩ = some (.slice ay ly.length cy) := (grown_cell hw3 hgl (by simp)).trans hc1
            have k2 : w3.cell? ⟨g, j - 1, none⟩ = some (.slice az lz.length cz) := (grown_cell hw3 hgl (by simp)).trans hc2
            have hf1 : w3.frozen? ⟨g, j, none⟩ = false := hown3.frozenAt j
            have hf2 : w3.frozen? ⟨g, j - 1, none⟩ = false := hown3.frozenAt (j - 1)
            have H3 := Lib.hid (And.intro hw3 hown3)
            clear hw3 hown3 hc1 hc2 hgb hbe
            go_wp2_with fail
            go_region
            all_goals go_wp2_with fail
            all_goals go_roundw
            case rel =>
              obtain ⟨hzl, hzp, hzo, hown, hgw, hy, hz, hp⟩ := HZ.out
              obtain ⟨hw3, hown3⟩ := H3.out
              obtain ⟨o1, g1⟩ := hown3.stored j (.slice az lz.length cz)
              obtain ⟨o2, g2⟩ := o1.stored (j - 1) (.slice ay ly.length cy)
              have e1 : ((zs.map Prod.fst).set j (.slice az lz.length cz)).set (j - 1) (.slice ay ly.length cy) = ((zs.set j zs[j - 1]).set (j - 1) zs[j]).map Prod.fst := by rw [List.map_set, List.map_set, ← hy, ← hz]
              rw [e1] at o2
              refine ⟨j - 1, rfl, _, by simp [hzl], (set_swap_perm hjl hjm).trans hzp, InnerG.step (le := SlLe) hzo hj2 hjm hjl ?_, own_new o2 (grown_drew _), ?_⟩
              · rw [← hy, ← hz]
                exact lexLe_of hp.symm
              · exact grown_tr (grown_new (grown_new (grown_tr hgw hw3) g1 (fun k hk => by cases hk; have := (hown.lt g rfl).1; omega)) g2 (fun k hk => by cases hk; have := (hown.lt g rfl).1; omega)) (grown_drew _)
            case measure => simp [intOf]; omega
    · have hkl : ¬ (k : Int) < n := by omega
      have HY := Lib.hid (And.intro hyl (And.intro hyp (And.intro hyo (And.intro hown hgw))))
      clear hyl hyp hyo hown hgw hrow
      go_wp2_with fail
      go_ret
      obtain ⟨hyl, hyp, hyo, hown, hgw⟩ := HY.out
      have hs : ys.Pairwise SlLe := OrdG.all (fun a b ha hb hab _ => hyo a b ha hb hab (by omega))
      refine ⟨_, ys.map Prod.snd, rfl, hyp.map _, List.pairwise_map.2 hs, PairsR.rows hyl.symm hown (fun p hp => ((HR.out p (hyp.subset hp)).1.grown hgw)), hgw⟩
end Go.Proofs.YtcbkalppclilfaaGreat
