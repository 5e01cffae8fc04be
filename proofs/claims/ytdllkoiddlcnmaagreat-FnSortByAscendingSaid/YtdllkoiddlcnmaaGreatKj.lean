/- topo.sortedFrom over an order, with what the other list holds. -/
import Derived.Test.YtdllkoiddlcnmaaGreatSj
namespace Go.Proofs.YtdllkoiddlcnmaaGreat
open Go.MapKept Go.RowKit

/-- a component as it lies: put in order once it is past, if it is no lone node -/
def curK (K : List Int → List Int) (kc i : Nat) (c : List Int) : List Int := if i < kc ∧ c.length ≠ 1 then K c else c
/-- the places of components that are no lone nodes -/
def bigs (L : List (List Int)) (k : Nat) : List Nat := (List.range k).filter (fun i => decide ((L.getD i []).length ≠ 1))
theorem bigs_zero (L : List (List Int)) : bigs L 0 = [] := rfl
theorem bigs_lone {L : List (List Int)} {k : Nat} (hk : k < L.length) (h : L[k].length = 1) : bigs L (k + 1) = bigs L k := by
  unfold bigs
  rw [List.range_succ, List.filter_append]
  have : L.getD k [] = L[k] := by simp [List.getD, hk]
  rw [List.filter_cons_of_neg (by rw [this, h]; decide), List.filter_nil, List.append_nil]
theorem bigs_more {L : List (List Int)} {k : Nat} (hk : k < L.length) (h : L[k].length ≠ 1) : bigs L (k + 1) = bigs L k ++ [k] := by
  unfold bigs
  rw [List.range_succ, List.filter_append]
  have : L.getD k [] = L[k] := by simp [List.getD, hk]
  rw [List.filter_cons_of_pos (by rw [this]; exact decide_eq_true h), List.filter_nil]
theorem bigs_lt {L : List (List Int)} {k i : Nat} (h : i ∈ bigs L k) : i < k ∧ (L.getD i []).length ≠ 1 := by
  unfold bigs at h
  rw [List.mem_filter] at h
  exact ⟨by simpa using h.1, by simpa using h.2⟩
theorem bigs_len (L : List (List Int)) (k : Nat) : (bigs L k).length ≤ k := by
  unfold bigs
  exact Nat.le_trans (List.length_filter_le _ _) (by simp)
theorem bigs_nil {L : List (List Int)} : bigs L L.length = [] ↔ ∀ c ∈ L, c.length = 1 := by
  unfold bigs
  rw [List.filter_eq_nil_iff]
  constructor
  · intro h c hc
    obtain ⟨i, hi, rfl⟩ := List.getElem_of_mem hc
    have := h i (by simpa using hi)
    simpa [List.getD, hi] using this
  · intro h i hi
    have hi' : i < L.length := by simpa using hi
    have : L.getD i [] = L[i] := by simp [List.getD, hi']
    rw [this, h _ (List.getElem_mem hi')]
    decide

structure SdK (K : List Int → List Int) (w0 : World) (H : Nat) (L : List (List Int)) (vo : Value) (vals : List Value) (kc k6 k7 : Nat) (a6 a7 : Value) (wr : World) : Prop where
  out : wr.ownsRow w0.heap.size nodsT 1 vo L.length vals
  vl : vals.length = L.length
  cmp : ∀ (i : Nat) (v : Value) (c : List Int), vals[i]? = some v → L[i]? = some c → wr.ownsRow w0.heap.size nodT 1 v c.length ((curK K kc i c).map nodeV)
  low : ∀ (i : Nat) (v : Value), vals[i]? = some v → ∀ g, v.ownBlock = some g → g < H
  vlow : ∀ g, vo.ownBlock = some g → g < H
  s6 : wr.ownsRow H nodT 1 a6 k6 ((L.take k6).map (fun c => encO (slotO c)))
  s7 : wr.ownsRow H nodsT 1 a7 (bigs L k7).length ((bigs L k7).map (fun i => vals.getD i .nilIface))
  n7 : bigs L k7 = [] → a7 = .slice none 0 0
  gr : w0.grownBy wr none
  hh : w0.heap.size ≤ H ∧ H ≤ wr.heap.size

theorem own_apart2 {w : World} {b1 b2 n1 n2 : Nat} {v1 v2 : Value} {c1 c2 : List Int} (h1 : w.ownsRow b1 nodT 1 v1 n1 (c1.map nodeV)) (h2 : w.ownsRow b2 nodT 1 v2 n2 (c2.map nodeV)) (m1 : c1 ≠ []) (m2 : c2 ≠ []) (hd : ∀ x ∈ c1, x ∉ c2) : v1.ownBlock = none ∨ v1.ownBlock ≠ v2.ownBlock := by
  cases hv : v1.ownBlock with
  | none => exact .inl rfl
  | some g =>
    right
    intro e
    have k1 := h1.cells (g := g) hv
    have k2 := h2.cells (g := g) e.symm
    cases c1 with
    | nil => exact absurd rfl m1
    | cons x c1 =>
      cases c2 with
      | nil => exact absurd rfl m2
      | cons y c2 =>
        have a1 := k1 0 (nodeV x) (by simp)
        have a2 := k2 0 (nodeV y) (by simp)
        rw [a1] at a2
        simp only [Option.some.injEq, Value.iface.injEq, Value.int.injEq, true_and] at a2
        exact hd x (by simp) (by rw [a2]; simp)

theorem far_ne {H : Nat} {v v2 : Value} (h1 : ∀ g, v.ownBlock = some g → g < H) (h2 : ∀ g, v2.ownBlock = some g → H ≤ g) : v.ownBlock = none ∨ v.ownBlock ≠ v2.ownBlock := by
  cases e : v.ownBlock with
  | none => exact .inl rfl
  | some g =>
    right
    intro e2
    have := h1 g e
    have := h2 g e2.symm
    omega
theorem ne_far {H : Nat} {v v2 : Value} (h1 : ∀ g, v.ownBlock = some g → H ≤ g) (h2 : ∀ g, v2.ownBlock = some g → g < H) : v.ownBlock = none ∨ v.ownBlock ≠ v2.ownBlock := by
  cases e : v.ownBlock with
  | none => exact .inl rfl
  | some g =>
    right
    intro e2
    have := h1 g e
    have := h2 g e2.symm
    omega

section
variable {K : List Int → List Int} {w0 wr w' : World} {H kc k6 k7 : Nat} {L : List (List Int)} {vo : Value} {vals : List Value} {a6 a7 : Value}
theorem SdK.grown (r : SdK K w0 H L vo vals kc k6 k7 a6 a7 wr) (hg : wr.grownBy w' none) : SdK K w0 H L vo vals kc k6 k7 a6 a7 w' :=
  ⟨own_new r.out hg, r.vl, fun i v c hv hc => own_new (r.cmp i v c hv hc) hg, r.low, r.vlow, own_new r.s6 hg, own_new r.s7 hg, r.n7, grown_tr r.gr hg, r.hh.1, Nat.le_trans r.hh.2 hg.size⟩
theorem SdK.past (r : SdK K w0 H L vo vals kc k6 k7 a6 a7 wr) (hk : kc < L.length) (h1 : L[kc].length = 1) : SdK K w0 H L vo vals (kc + 1) k6 k7 a6 a7 wr :=
  ⟨r.out, r.vl, fun i v c hv hc => by
    have h := r.cmp i v c hv hc
    have e : curK K (kc + 1) i c = curK K kc i c := by
      unfold curK
      by_cases hi : i = kc
      · subst hi
        rw [List.getElem?_eq_getElem hk] at hc
        cases hc
        rw [if_neg (by simp [h1]), if_neg (by simp [h1])]
      · have : (i < kc + 1) ↔ (i < kc) := by omega
        simp only [this]
    rw [e]
    exact h, r.low, r.vlow, r.s6, r.s7, r.n7, r.gr, r.hh⟩
theorem SdK.lone (r : SdK K w0 H L vo vals kc k6 k7 a6 a7 wr) (hk : k7 < L.length) (h1 : L[k7].length = 1) : SdK K w0 H L vo vals kc k6 (k7 + 1) a6 a7 wr :=
  ⟨r.out, r.vl, r.cmp, r.low, r.vlow, r.s6, by rw [bigs_lone hk h1]; exact r.s7, by rw [bigs_lone hk h1]; exact r.n7, r.gr, r.hh⟩
theorem SdK.app6 (r : SdK K w0 H L vo vals kc k6 k7 a6 a7 wr) (hk : k6 < L.length) {g cap : Nat} {y : Value} (hy : y = encO (slotO L[k6]))
    (ho : w'.ownsRow H nodT 1 (.slice (some ⟨g, 0, none⟩) (k6 + 1) cap) (k6 + 1) ((L.take k6).map (fun c => encO (slotO c)) ++ [y])) (hg : wr.grownBy w' a6.ownBlock) :
    SdK K w0 H L vo vals kc (k6 + 1) k7 (.slice (some ⟨g, 0, none⟩) (k6 + 1) cap) a7 w' := by
  have hgr : ∀ j, a6.ownBlock = some j → H ≤ j := fun j hj => (r.s6.lt j hj).1
  refine ⟨r.out.kept hg (row_ne_row r.out r.s6 (by decide)), r.vl, fun i v c hv hc => (r.cmp i v c hv hc).kept hg (far_ne (r.low i v hv) hgr), r.low, r.vlow, ?_, r.s7.kept hg (row_ne_row r.s7 r.s6 (by decide)), r.n7, grown_new r.gr hg (fun j hj => Nat.le_trans r.hh.1 (hgr j hj)), r.hh.1, Nat.le_trans r.hh.2 hg.size⟩
  rw [List.take_succ_eq_append_getElem hk, List.map_append, List.map_cons, List.map_nil, ← hy]
  exact ho
theorem SdK.app7 (r : SdK K w0 H L vo vals kc k6 k7 a6 a7 wr) (hk : k7 < L.length) (h1 : L[k7].length ≠ 1) {g cap : Nat} {v : Value} (hv : vals[k7]? = some v)
    (ho : w'.ownsRow H nodsT 1 (.slice (some ⟨g, 0, none⟩) ((bigs L k7).length + 1) cap) ((bigs L k7).length + 1) ((bigs L k7).map (fun i => vals.getD i .nilIface) ++ [v])) (hg : wr.grownBy w' a7.ownBlock) :
    SdK K w0 H L vo vals kc k6 (k7 + 1) a6 (.slice (some ⟨g, 0, none⟩) ((bigs L k7).length + 1) cap) w' := by
  have h7 : ∀ j, a7.ownBlock = some j → H ≤ j := fun j hj => (r.s7.lt j hj).1
  refine ⟨r.out.kept hg (far_ne r.vlow h7), r.vl, fun i u c hu hc => (r.cmp i u c hu hc).kept hg (far_ne (r.low i u hu) h7), r.low, r.vlow, r.s6.kept hg (row_ne_row r.s6 r.s7 (by decide)), ?_, ?_, grown_new r.gr hg (fun j hj => Nat.le_trans r.hh.1 (h7 j hj)), r.hh.1, Nat.le_trans r.hh.2 hg.size⟩
  · have e : vals.getD k7 .nilIface = v := by simp [List.getD, hv]
    rw [bigs_more hk h1, List.length_append, List.map_append, List.map_cons, List.map_nil, e]
    exact ho
  · rw [bigs_more hk h1]
    intro h
    simp at h
theorem SdK.sort (r : SdK K w0 H L vo vals kc k6 k7 a6 a7 wr) (ok : CompOk L) (hK : ∀ l, (K l).Perm l) (hk : kc < L.length) (h1 : L[kc].length ≠ 1) {v : Value} (hv : vals[kc]? = some v)
    (ho : w'.ownsRow w0.heap.size nodT 1 v L[kc].length ((K L[kc]).map nodeV)) (hg : wr.grownBy w' v.ownBlock) : SdK K w0 H L vo vals (kc + 1) k6 k7 a6 a7 w' := by
  have hLk : L[kc]? = some L[kc] := List.getElem?_eq_getElem hk
  have o0 := r.cmp kc v _ hv hLk
  have e0 : curK K kc kc L[kc] = L[kc] := by unfold curK; rw [if_neg (by omega)]
  rw [e0] at o0
  have hlow := r.low kc v hv
  refine ⟨r.out.kept hg (row_ne_row r.out o0 (by decide)), r.vl, fun i u d hu hd => ?_, r.low, r.vlow, r.s6.kept hg (ne_far (fun g e => (r.s6.lt g e).1) hlow), r.s7.kept hg (ne_far (fun g e => (r.s7.lt g e).1) hlow), r.n7, grown_new r.gr hg (fun j hj => (o0.lt j hj).1), r.hh.1, Nat.le_trans r.hh.2 hg.size⟩
  by_cases hi : i = kc
  · subst hi
    rw [hv] at hu
    rw [hLk] at hd
    cases hu
    cases hd
    have e1 : curK K (i + 1) i L[i] = K L[i] := by unfold curK; rw [if_pos ⟨by omega, h1⟩]
    rw [e1]
    exact ho
  · have k3 := r.cmp i u d hu hd
    have e1 : curK K (kc + 1) i d = curK K kc i d := by
      unfold curK
      have : (i < kc + 1) ↔ (i < kc) := by omega
      simp only [this]
    rw [e1]
    obtain ⟨hil, rfl⟩ := List.getElem?_eq_some_iff.1 hd
    have hp : (curK K kc i L[i]).Perm L[i] := by
      unfold curK
      split
      · exact hK _
      · exact .refl _
    refine k3.kept hg (own_apart2 k3 o0 ?_ (ok.ne _ (List.getElem_mem hk)) (fun x hx hx2 => ok.dis i kc hil hk hi x (hp.mem_iff.1 hx) hx2))
    intro e
    have := hp.length_eq
    rw [e] at this
    exact ok.ne _ (List.getElem_mem hil) (List.eq_nil_of_length_eq_zero this.symm)
end
end Go.Proofs.YtdllkoiddlcnmaaGreat
namespace Go.Proofs.YtdllkoiddlcnmaaGreat
open Go.MapKept Go.RowKit

def SkRel (K : List Int → List Int) (w0 : World) (H : Nat) (L : List (List Int)) (vo : Value) (vals : List Value) (a6 a7 i : Value) (wr : World) : Prop := ∃ k : Nat, k ≤ L.length ∧ i = .int .i64 k ∧ SdK K w0 H L vo vals k k k a6 a7 wr
/-- what is in no order, as the order lays it -/
def cycs (K : List Int → List Int) (L : List (List Int)) : List (List Int) := (bigs L L.length).map (fun i => K (L.getD i []))
def SkPost (K : List Int → List Int) (w0 : World) (L : List (List Int)) (_w : World) (e : Ending) (w' : World) : Prop :=
  ∃ v6 err, e = .returned (.tuple #[v6, err]) ∧ w'.ownsRow w0.heap.size nodT 1 v6 L.length (L.reverse.map (fun c => encO (slotO c))) ∧
    ((∀ c ∈ L, c.length = 1) → err = .nilIface) ∧
    ((¬ ∀ c ∈ L, c.length = 1) → ∃ s7 cv, err = .iface unoT s7 ∧ w'.ownsRow w0.heap.size nodsT 1 s7 cv.length cv ∧ cv.length = (cycs K L).length ∧ ∀ (i : Nat) (v : Value) (d : List Int), cv[i]? = some v → (cycs K L).reverse[i]? = some d → w'.ownsRow w0.heap.size nodT 1 v d.length (d.map nodeV)) ∧ w0.grownBy w' none

set_option maxHeartbeats 4000000 in
set_option maxRecDepth 100000 in
theorem sortedK_lex {K : List Int → List Int} {ids : List Int} {w0 w : World} {L : List (List Int)} {vo : Value} {vals : List Value} (ok : CompOk L) (hK : ∀ l, (K l).Perm l) (hids : ∀ c ∈ L, ∀ y ∈ c, y ∈ ids)
    (hord : ∀ W B e v l, w0.grownBy W none → w0.heap.size ≤ B → W.ownsRow B e 1 v l.length (l.map nodeV) → l.length ≤ 1000 → (∀ y ∈ l, y ∈ ids) → Calls Tryz.prog 62 #[v] W (KPost K l B e v W)) (hown : w.ownsRow w0.heap.size nodsT 1 vo L.length vals) (hvl : vals.length = L.length)
    (hcmp : ∀ (i : Nat) (v : Value) (c : List Int), vals[i]? = some v → L[i]? = some c → w.ownsRow w0.heap.size nodT 1 v c.length (c.map nodeV)) (hg : w0.grownBy w none) :
    Calls Tryz.prog 61 #[vo, lexV] w (SkPost K w0 L w) := by
  obtain ⟨av, cv, rfl⟩ := own_slice hown
  have hL := ok.len
  have hmk := run_make0 elN L.length (by omega) (by unfold maxLen; omega)
  have HC : Hid (∀ i, (hi : i < L.length) → ∃ b v, av = some ⟨b, 0, none⟩ ∧ vals[i]? = some v) := Lib.hid (fun i hi => by
    obtain ⟨b, cap, e, -, -⟩ := own_row hown (by omega)
    simp only [Value.slice.injEq] at e
    exact ⟨b, vals[i], e.1, List.getElem?_eq_getElem (by omega)⟩)
  have HS : Hid (SdK K w0 w.heap.size L (.slice av L.length cv) vals 0 0 0 (.slice (some ⟨w.heap.size, 0, none⟩) 0 L.length) (.slice none 0 0) (w.alloc (.cells (madeCells #[.nilIface] L.length) nodT))) := Lib.hid
    ⟨own_new hown (grown_alloc _ _), hvl, fun i v c hv hc => by
        have e : curK K 0 i c = c := by unfold curK; rw [if_neg (by omega)]
        rw [e]
        exact own_new (hcmp i v c hv hc) (grown_alloc _ _), fun i v hv g e => by
        have hi : i < L.length := by rw [← hvl]; exact (List.getElem?_eq_some_iff.1 hv).1
        exact ((hcmp i v _ hv (List.getElem?_eq_getElem hi)).lt g e).2, fun g e => (hown.lt g e).2, own_make1 _ L.length (by unfold maxLen; omega) w, ⟨rfl, .inl ⟨rfl, rfl⟩⟩, fun _ => rfl, grown_tr hg (grown_alloc _ _), hg.size, by simp⟩
  have HOK := Lib.hid ok
  have HO := Lib.hid hord
  have HKI := Lib.hid (And.intro hK hids)
  clear hown hvl hcmp hg ok hord hK hids
  obtain ⟨H, hH⟩ : ∃ H, H = w.heap.size := ⟨_, rfl⟩
  go_enter Tryz.func61, Tryz.ntmps61
  go_wp2_with fail
  clear hmk
  rw [← hH] at HS
  go_loopw [6, 7, 9, 16] (fun a6 a7 _ i wr => SkRel K w0 H L (.slice av L.length cv) vals a6 a7 i wr) (fun _ _ _ i _ => L.length - (intOf i).toNat)
  case atStart => exact ⟨0, Nat.zero_le _, rfl, by rw [← hH]; exact HS.out⟩
  case round =>
    clear HS
    obtain ⟨k, hk, rfl, r⟩ := hrel
    by_cases hlt : k < L.length
    · have hlt' : (k : Int) < L.length := by omega
      obtain ⟨b, v, rfl, hv⟩ := HC.out k hlt
      have hLk : L[k]? = some L[k] := List.getElem?_eq_getElem hlt
      have o0 := r.cmp k v _ hv hLk
      have e0 : curK K k k L[k] = L[k] := by unfold curK; rw [if_neg (by omega)]
      rw [e0] at o0
      have c1 : wr.cell? ⟨b, k, none⟩ = some v := by
        have := r.out.cells (g := b) rfl k v hv
        rwa [addr_add, Nat.zero_add] at this
      have hce := HOK.out.each _ (List.getElem_mem hlt)
      obtain ⟨a, c, rfl⟩ := own_slice o0
      obtain ⟨n, hn⟩ : ∃ n, n = L[k].length := ⟨_, rfl⟩
      have hk9 : k ≤ 1000 := by omega
      by_cases h1 : n = 1
      · subst h1
        obtain ⟨x, hx⟩ : ∃ x, L[k] = [x] := by
          match hm : L[k], hn with
          | [x], _ => exact ⟨x, rfl⟩
        obtain ⟨gb, capb, eb, -, -, -⟩ := own_row o0 (by omega)
        rw [← hn] at eb c1
        simp only [Value.slice.injEq] at eb
        obtain ⟨rfl, -, rfl⟩ := eb
        have c2 : wr.cell? ⟨gb, 0, none⟩ = some (nodeV x) := by
          have := o0.cells (g := gb) rfl 0 (nodeV x) (by rw [hx]; simp)
          rwa [addr_add] at this
        have HR := Lib.hid (And.intro r (And.intro hx hn))
        have HO6 := Lib.hid r.s6
        have hhs := r.hh.2
        clear r hv o0 hn hLk e0 hx
        go_wp2_with (at_builtin; refine wpx_app1 elN rfl (.tmp 33) (.tmp 37) rfl H u6 k _ rfl (HO6.out.alloc _) wr.heap.size #[nodeV x] (heap_alloc_new wr _) (wr.heap.size + 1) (by simp) 1 rfl rfl (by simp [Value.oneCell']) (by omega) (by unfold maxLen; omega) (by omega) ?_; intro g6 cap6 w3 ho6 hg6 hat6 hlt6 hsz6)
        go_roundw
        case rel =>
          obtain ⟨r, hx, hn⟩ := HR.out
          refine ⟨k + 1, by omega, by go_num, ?_⟩
          exact ((((r.grown (grown_alloc _ _)).past hlt (by omega)).lone hlt (by omega)).app6 hlt (by rw [hx, slot_one rfl]; rfl) ho6 hg6)
        case measure => simp [intOf]; omega
      · have hn1 : ¬ ((n : Nat) : Int) = 1 := by omega
        have hnb : (((n : Nat) : Int) == 1) = false := by rw [beq_eq_false_iff_ne]; exact hn1
        have hlex := HO.out wr _ _ _ L[k] r.gr (Nat.le_refl _) o0 hce (HKI.out.2 _ (List.getElem_mem hlt))
        have HR := Lib.hid (And.intro r (And.intro hv hn))
        rw [← hn] at hlex c1
        have HLX := Lib.hid hlex
        clear r hv o0 hn hlex hLk e0
        go_wp2_with (first
          | (go_at_call 62; refine HLX.out.mono ?_; rintro e w1 ⟨rfl, ho1, hg1⟩; obtain ⟨r, hv, hn⟩ := HR.out; rw [← hn] at hv; have rs := r.sort HOK.out HKI.out.1 hlt (by rw [← hn]; exact h1) hv ho1 hg1; have hl7 := bigs_len L k; have hhs := rs.hh.2; have HRS := Lib.hid (And.intro rs (And.intro hv hn)); have HO7 := Lib.hid rs.s7; clear r hv hn rs ho1 hg1)
          | (at_builtin; refine wpx_app1 elU rfl (.tmp 26) (.tmp 28) rfl H u7 (bigs L k).length _ rfl (HO7.out.alloc _) w1.heap.size #[.slice a n c] (heap_alloc_new w1 _) (w1.heap.size + 1) (by simp) 1 rfl rfl (by simp [Value.oneCell']) (by omega) (by unfold maxLen; omega) (by omega) ?_; intro g7 cap7 w2 ho7 hg7 hat7 hlt7 hsz7; have HR7 : Hid (SdK K w0 H L (.slice (some ⟨b, 0, none⟩) L.length cv) vals (k + 1) k (k + 1) u6 (.slice (some ⟨g7, 0, none⟩) ((bigs L k).length + 1) cap7) w2) := Lib.hid ((HRS.out.1.grown (grown_alloc _ _)).app7 hlt (by rw [← HRS.out.2.2]; exact h1) HRS.out.2.1 ho7 hg7); have HO6 := Lib.hid HR7.out.s6; have hh2 := HR7.out.hh.2)
          | (at_builtin; refine wpx_app1 elN rfl (.tmp 30) (.tmp 31) rfl H u6 k _ rfl (HO6.out.alloc _) w2.heap.size #[.nilIface] (heap_alloc_new w2 _) (w2.heap.size + 1) (by simp) 1 rfl rfl (by simp [Value.oneCell']) (by omega) (by unfold maxLen; omega) (by omega) ?_; intro g6 cap6 w3 ho6 hg6 hat6 hlt6 hsz6))
        go_roundw
        case rel =>
          refine ⟨k + 1, by omega, by go_num, ?_⟩
          exact ((HR7.out.grown (grown_alloc _ _)).app6 hlt (by rw [slot_more (by rw [← HRS.out.2.2]; exact h1)]; rfl) ho6 hg6)
        case measure => simp [intOf]; omega
    · have hlt' : ¬ (k : Int) < L.length := by omega
      obtain rfl : k = L.length := by omega
      have h6 := r.s6
      rw [List.take_length, ← show (L.map slotO).map encO = L.map (fun c => encO (slotO c)) by simp] at h6
      have hB := r.hh
      have o7 := r.s7
      have hl7 := bigs_len L L.length
      have hnil := r.n7
      obtain ⟨D, hD⟩ : ∃ D, D = bigs L L.length := ⟨_, rfl⟩
      by_cases hall : ∀ c ∈ L, c.length = 1
      · have e7 := hnil (bigs_nil.2 hall)
        have hrev := rev_nodes encO encO_one (l := L.map slotO) (by rw [List.length_map]; exact h6) (by rw [List.length_map]; omega)
        have HRV := Lib.hid hrev
        have HR := Lib.hid (And.intro r (And.intro hall h6))
        clear r h6 o7 hl7 hnil hall hrev hD
        subst e7
        have hne := uno_nil wr
        go_wp2_with (go_at_call 87; refine HRV.out.mono ?_; rintro e w2 ⟨rfl, ho2, hg2⟩)
        go_ret2
        obtain ⟨r, hall, h6⟩ := HR.out
        refine ⟨u6, .nilIface, rfl, ?_, fun _ => rfl, fun h => absurd hall h, grown_new r.gr hg2 (fun j hj => Nat.le_trans r.hh.1 (r.s6.lt j hj).1)⟩
        have := own_mono ho2 hB.1
        rw [List.length_map, ← List.map_reverse, show (L.reverse.map slotO).map encO = L.reverse.map (fun c => encO (slotO c)) by simp] at this
        exact this
      · have hcv : 0 < D.length := by
          rcases Nat.eq_zero_or_pos D.length with h | h
          · exact absurd (bigs_nil.1 (by rw [← hD]; exact List.eq_nil_of_length_eq_zero h)) hall
          · exact h
        rw [← hD] at o7 hl7
        have hDin : ∀ i ∈ D, ∃ v, vals[i]? = some v ∧ vals.getD i .nilIface = v ∧ i < L.length ∧ (L.getD i []).length ≠ 1 := fun i hi => by
          rw [hD] at hi
          obtain ⟨h1, h2⟩ := bigs_lt hi
          have hil : i < vals.length := by rw [r.vl]; exact h1
          have hv : vals[i]? = some vals[i] := List.getElem?_eq_getElem hil
          exact ⟨_, hv, by simp [List.getD, hv], h1, h2⟩
        have hown7 : ∀ i ∈ D, wr.ownsRow w0.heap.size nodT 1 (vals.getD i .nilIface) (K (L.getD i [])).length ((K (L.getD i [])).map nodeV) ∧ ∀ g, (vals.getD i .nilIface).ownBlock = some g → g < H := fun i hi => by
          obtain ⟨v, hv, e, hiL, h1⟩ := hDin i hi
          have eL : L.getD i [] = L[i] := by simp [List.getD, hiL]
          have k := r.cmp i v _ hv (List.getElem?_eq_getElem hiL)
          rw [eL] at h1 ⊢
          have ec : curK K L.length i L[i] = K L[i] := by unfold curK; rw [if_pos ⟨hiL, h1⟩]
          rw [ec] at k
          rw [e, (HKI.out.1 L[i]).length_eq]
          exact ⟨k, r.low i v hv⟩
        obtain ⟨T, hT⟩ := slices_of (cv := D.map (fun i => vals.getD i .nilIface)) (fun v hv => by
          obtain ⟨i, hi, rfl⟩ := List.mem_map.1 hv
          obtain ⟨a, c, e⟩ := own_slice (hown7 i hi).1
          exact ⟨a, _, c, e⟩)
        obtain ⟨g7, c7, e7, hg7, hg7', -⟩ := own_row o7 hcv
        have hTl : T.length = D.length := by
          have := congrArg List.length hT
          simpa using this.symm
        have hrev7 := rev_lists encS (fun _ => rfl) (l := T) (v := u7) (by rw [hTl, ← hT]; exact o7) (by omega)
        have hrev6 : ∀ w2, wr.grownBy w2 u7.ownBlock → _ := fun w2 hg2 => rev_nodes encO encO_one (l := L.map slotO) (w := w2) (v := u6) (by rw [List.length_map]; exact h6.kept hg2 (row_ne_row h6 o7 (by decide))) (by rw [List.length_map]; omega)
        have HRV7 := Lib.hid hrev7
        have HRV6 := Lib.hid hrev6
        have hne := uno_some ⟨g7, 0, none⟩ D.length c7 wr
        have HR := Lib.hid (And.intro r (And.intro hall (And.intro h6 (And.intro o7 (And.intro hown7 (And.intro hT (And.intro hTl hD)))))))
        clear r h6 o7 hl7 hnil hall hrev7 hrev6 hown7 hT hTl hDin hD
        subst e7
        go_wp2_with (first
          | (go_at_call 86; refine HRV7.out.mono ?_; rintro e w2 ⟨rfl, ho2, hg2⟩; have hr6 := HRV6.out w2 hg2)
          | (go_at_call 87; refine hr6.mono ?_; rintro e w3 ⟨rfl, ho3, hg3⟩))
        go_ret2
        obtain ⟨r, hall, h6, o7, hown7, hT, hTl, hD⟩ := HR.out
        have h26 := h6.kept hg2 (row_ne_row h6 o7 (by decide))
        refine ⟨u6, _, rfl, ?_, fun h => absurd h hall, fun _ => ⟨_, (T.reverse.map encS), rfl, ?_, ?_, ?_⟩, grown_new (grown_new r.gr hg2 (fun j hj => Nat.le_trans r.hh.1 (o7.lt j hj).1)) hg3 (fun j hj => Nat.le_trans r.hh.1 (h6.lt j hj).1)⟩
        · have := own_mono ho3 hB.1
          rw [List.length_map, ← List.map_reverse, show (L.reverse.map slotO).map encO = L.reverse.map (fun c => encO (slotO c)) by simp] at this
          exact this
        · have h9 := (own_mono ho2 hB.1).kept hg3 (row_ne_row ho2 h26 (by decide))
          rw [hTl] at h9
          rw [List.length_map, List.length_reverse, hTl]
          exact h9
        · unfold cycs
          rw [List.length_map, List.length_reverse, hTl, List.length_map, hD]
        · intro i v d hv hd
          have e1 : T.reverse.map encS = (D.map (fun i => vals.getD i .nilIface)).reverse := by rw [hT, List.map_reverse]
          unfold cycs at hd
          rw [← hD, ← List.map_reverse, List.getElem?_map] at hd
          rw [e1, ← List.map_reverse, List.getElem?_map] at hv
          cases hi : D.reverse[i]? with
          | none => rw [hi] at hv; cases hv
          | some j =>
            rw [hi] at hv hd
            cases hv
            cases hd
            have hj : j ∈ D := by simpa using List.mem_of_getElem? hi
            obtain ⟨k2, k3⟩ := hown7 j hj
            exact (k2.kept hg2 (row_ne_row k2 o7 (by decide))).kept hg3 (far_ne k3 (fun g e => (h6.lt g e).1))
set_option maxHeartbeats 4000000 in
set_option maxRecDepth 100000 in
theorem sortedK_by {bp : Nat}{K : List Int → List Int} {ids : List Int} {w0 w : World} {L : List (List Int)} {vo : Value} {vals : List Value} (ok : CompOk L) (hK : ∀ l, (K l).Perm l) (hids : ∀ c ∈ L, ∀ y ∈ c, y ∈ ids)
    (hord : ∀ W B e v l, w0.grownBy W none → w0.heap.size ≤ B → W.ownsRow B e 1 v l.length (l.map nodeV) → l.length ≤ 1000 → (∀ y ∈ l, y ∈ ids) → Calls Tryz.prog 44 #[v, .pointer (some ⟨bp, 0, none⟩)] W (KPost K l B e v W)) (hown : w.ownsRow w0.heap.size nodsT 1 vo L.length vals) (hvl : vals.length = L.length)
    (hcmp : ∀ (i : Nat) (v : Value) (c : List Int), vals[i]? = some v → L[i]? = some c → w.ownsRow w0.heap.size nodT 1 v c.length (c.map nodeV)) (hg : w0.grownBy w none) :
    Calls Tryz.prog 61 #[vo, (byV bp)] w (SkPost K w0 L w) := by
  obtain ⟨av, cv, rfl⟩ := own_slice hown
  have hL := ok.len
  have hmk := run_make0 elN L.length (by omega) (by unfold maxLen; omega)
  have HC : Hid (∀ i, (hi : i < L.length) → ∃ b v, av = some ⟨b, 0, none⟩ ∧ vals[i]? = some v) := Lib.hid (fun i hi => by
    obtain ⟨b, cap, e, -, -⟩ := own_row hown (by omega)
    simp only [Value.slice.injEq] at e
    exact ⟨b, vals[i], e.1, List.getElem?_eq_getElem (by omega)⟩)
  have HS : Hid (SdK K w0 w.heap.size L (.slice av L.length cv) vals 0 0 0 (.slice (some ⟨w.heap.size, 0, none⟩) 0 L.length) (.slice none 0 0) (w.alloc (.cells (madeCells #[.nilIface] L.length) nodT))) := Lib.hid
    ⟨own_new hown (grown_alloc _ _), hvl, fun i v c hv hc => by
        have e : curK K 0 i c = c := by unfold curK; rw [if_neg (by omega)]
        rw [e]
        exact own_new (hcmp i v c hv hc) (grown_alloc _ _), fun i v hv g e => by
        have hi : i < L.length := by rw [← hvl]; exact (List.getElem?_eq_some_iff.1 hv).1
        exact ((hcmp i v _ hv (List.getElem?_eq_getElem hi)).lt g e).2, fun g e => (hown.lt g e).2, own_make1 _ L.length (by unfold maxLen; omega) w, ⟨rfl, .inl ⟨rfl, rfl⟩⟩, fun _ => rfl, grown_tr hg (grown_alloc _ _), hg.size, by simp⟩
  have HOK := Lib.hid ok
  have HO := Lib.hid hord
  have HKI := Lib.hid (And.intro hK hids)
  clear hown hvl hcmp hg ok hord hK hids
  obtain ⟨H, hH⟩ : ∃ H, H = w.heap.size := ⟨_, rfl⟩
  go_enter Tryz.func61, Tryz.ntmps61
  go_wp2_with fail
  clear hmk
  rw [← hH] at HS
  go_loopw [6, 7, 9, 16] (fun a6 a7 _ i wr => SkRel K w0 H L (.slice av L.length cv) vals a6 a7 i wr) (fun _ _ _ i _ => L.length - (intOf i).toNat)
  case atStart => exact ⟨0, Nat.zero_le _, rfl, by rw [← hH]; exact HS.out⟩
  case round =>
    clear HS
    obtain ⟨k, hk, rfl, r⟩ := hrel
    by_cases hlt : k < L.length
    · have hlt' : (k : Int) < L.length := by omega
      obtain ⟨b, v, rfl, hv⟩ := HC.out k hlt
      have hLk : L[k]? = some L[k] := List.getElem?_eq_getElem hlt
      have o0 := r.cmp k v _ hv hLk
      have e0 : curK K k k L[k] = L[k] := by unfold curK; rw [if_neg (by omega)]
      rw [e0] at o0
      have c1 : wr.cell? ⟨b, k, none⟩ = some v := by
        have := r.out.cells (g := b) rfl k v hv
        rwa [addr_add, Nat.zero_add] at this
      have hce := HOK.out.each _ (List.getElem_mem hlt)
      obtain ⟨a, c, rfl⟩ := own_slice o0
      obtain ⟨n, hn⟩ : ∃ n, n = L[k].length := ⟨_, rfl⟩
      have hk9 : k ≤ 1000 := by omega
      by_cases h1 : n = 1
      · subst h1
        obtain ⟨x, hx⟩ : ∃ x, L[k] = [x] := by
          match hm : L[k], hn with
          | [x], _ => exact ⟨x, rfl⟩
        obtain ⟨gb, capb, eb, -, -, -⟩ := own_row o0 (by omega)
        rw [← hn] at eb c1
        simp only [Value.slice.injEq] at eb
        obtain ⟨rfl, -, rfl⟩ := eb
        have c2 : wr.cell? ⟨gb, 0, none⟩ = some (nodeV x) := by
          have := o0.cells (g := gb) rfl 0 (nodeV x) (by rw [hx]; simp)
          rwa [addr_add] at this
        have HR := Lib.hid (And.intro r (And.intro hx hn))
        have HO6 := Lib.hid r.s6
        have hhs := r.hh.2
        clear r hv o0 hn hLk e0 hx
        go_wp2_with (at_builtin; refine wpx_app1 elN rfl (.tmp 33) (.tmp 37) rfl H u6 k _ rfl (HO6.out.alloc _) wr.heap.size #[nodeV x] (heap_alloc_new wr _) (wr.heap.size + 1) (by simp) 1 rfl rfl (by simp [Value.oneCell']) (by omega) (by unfold maxLen; omega) (by omega) ?_; intro g6 cap6 w3 ho6 hg6 hat6 hlt6 hsz6)
        go_roundw
        case rel =>
          obtain ⟨r, hx, hn⟩ := HR.out
          refine ⟨k + 1, by omega, by go_num, ?_⟩
          exact ((((r.grown (grown_alloc _ _)).past hlt (by omega)).lone hlt (by omega)).app6 hlt (by rw [hx, slot_one rfl]; rfl) ho6 hg6)
        case measure => simp [intOf]; omega
      · have hn1 : ¬ ((n : Nat) : Int) = 1 := by omega
        have hnb : (((n : Nat) : Int) == 1) = false := by rw [beq_eq_false_iff_ne]; exact hn1
        have hlex := HO.out wr _ _ _ L[k] r.gr (Nat.le_refl _) o0 hce (HKI.out.2 _ (List.getElem_mem hlt))
        have HR := Lib.hid (And.intro r (And.intro hv hn))
        rw [← hn] at hlex c1
        have HLX := Lib.hid hlex
        clear r hv o0 hn hlex hLk e0
        go_wp2_with (first
          | (go_at_call 44; refine HLX.out.mono ?_; rintro e w1 ⟨rfl, ho1, hg1⟩; obtain ⟨r, hv, hn⟩ := HR.out; rw [← hn] at hv; have rs := r.sort HOK.out HKI.out.1 hlt (by rw [← hn]; exact h1) hv ho1 hg1; have hl7 := bigs_len L k; have hhs := rs.hh.2; have HRS := Lib.hid (And.intro rs (And.intro hv hn)); have HO7 := Lib.hid rs.s7; clear r hv hn rs ho1 hg1)
          | (at_builtin; refine wpx_app1 elU rfl (.tmp 26) (.tmp 28) rfl H u7 (bigs L k).length _ rfl (HO7.out.alloc _) w1.heap.size #[.slice a n c] (heap_alloc_new w1 _) (w1.heap.size + 1) (by simp) 1 rfl rfl (by simp [Value.oneCell']) (by omega) (by unfold maxLen; omega) (by omega) ?_; intro g7 cap7 w2 ho7 hg7 hat7 hlt7 hsz7; have HR7 : Hid (SdK K w0 H L (.slice (some ⟨b, 0, none⟩) L.length cv) vals (k + 1) k (k + 1) u6 (.slice (some ⟨g7, 0, none⟩) ((bigs L k).length + 1) cap7) w2) := Lib.hid ((HRS.out.1.grown (grown_alloc _ _)).app7 hlt (by rw [← HRS.out.2.2]; exact h1) HRS.out.2.1 ho7 hg7); have HO6 := Lib.hid HR7.out.s6; have hh2 := HR7.out.hh.2)
          | (at_builtin; refine wpx_app1 elN rfl (.tmp 30) (.tmp 31) rfl H u6 k _ rfl (HO6.out.alloc _) w2.heap.size #[.nilIface] (heap_alloc_new w2 _) (w2.heap.size + 1) (by simp) 1 rfl rfl (by simp [Value.oneCell']) (by omega) (by unfold maxLen; omega) (by omega) ?_; intro g6 cap6 w3 ho6 hg6 hat6 hlt6 hsz6))
        go_roundw
        case rel =>
          refine ⟨k + 1, by omega, by go_num, ?_⟩
          exact ((HR7.out.grown (grown_alloc _ _)).app6 hlt (by rw [slot_more (by rw [← HRS.out.2.2]; exact h1)]; rfl) ho6 hg6)
        case measure => simp [intOf]; omega
    · have hlt' : ¬ (k : Int) < L.length := by omega
      obtain rfl : k = L.length := by omega
      have h6 := r.s6
      rw [List.take_length, ← show (L.map slotO).map encO = L.map (fun c => encO (slotO c)) by simp] at h6
      have hB := r.hh
      have o7 := r.s7
      have hl7 := bigs_len L L.length
      have hnil := r.n7
      obtain ⟨D, hD⟩ : ∃ D, D = bigs L L.length := ⟨_, rfl⟩
      by_cases hall : ∀ c ∈ L, c.length = 1
      · have e7 := hnil (bigs_nil.2 hall)
        have hrev := rev_nodes encO encO_one (l := L.map slotO) (by rw [List.length_map]; exact h6) (by rw [List.length_map]; omega)
        have HRV := Lib.hid hrev
        have HR := Lib.hid (And.intro r (And.intro hall h6))
        clear r h6 o7 hl7 hnil hall hrev hD
        subst e7
        have hne := uno_nil wr
        go_wp2_with (go_at_call 87; refine HRV.out.mono ?_; rintro e w2 ⟨rfl, ho2, hg2⟩)
        go_ret2
        obtain ⟨r, hall, h6⟩ := HR.out
        refine ⟨u6, .nilIface, rfl, ?_, fun _ => rfl, fun h => absurd hall h, grown_new r.gr hg2 (fun j hj => Nat.le_trans r.hh.1 (r.s6.lt j hj).1)⟩
        have := own_mono ho2 hB.1
        rw [List.length_map, ← List.map_reverse, show (L.reverse.map slotO).map encO = L.reverse.map (fun c => encO (slotO c)) by simp] at this
        exact this
      · have hcv : 0 < D.length := by
          rcases Nat.eq_zero_or_pos D.length with h | h
          · exact absurd (bigs_nil.1 (by rw [← hD]; exact List.eq_nil_of_length_eq_zero h)) hall
          · exact h
        rw [← hD] at o7 hl7
        have hDin : ∀ i ∈ D, ∃ v, vals[i]? = some v ∧ vals.getD i .nilIface = v ∧ i < L.length ∧ (L.getD i []).length ≠ 1 := fun i hi => by
          rw [hD] at hi
          obtain ⟨h1, h2⟩ := bigs_lt hi
          have hil : i < vals.length := by rw [r.vl]; exact h1
          have hv : vals[i]? = some vals[i] := List.getElem?_eq_getElem hil
          exact ⟨_, hv, by simp [List.getD, hv], h1, h2⟩
        have hown7 : ∀ i ∈ D, wr.ownsRow w0.heap.size nodT 1 (vals.getD i .nilIface) (K (L.getD i [])).length ((K (L.getD i [])).map nodeV) ∧ ∀ g, (vals.getD i .nilIface).ownBlock = some g → g < H := fun i hi => by
          obtain ⟨v, hv, e, hiL, h1⟩ := hDin i hi
          have eL : L.getD i [] = L[i] := by simp [List.getD, hiL]
          have k := r.cmp i v _ hv (List.getElem?_eq_getElem hiL)
          rw [eL] at h1 ⊢
          have ec : curK K L.length i L[i] = K L[i] := by unfold curK; rw [if_pos ⟨hiL, h1⟩]
          rw [ec] at k
          rw [e, (HKI.out.1 L[i]).length_eq]
          exact ⟨k, r.low i v hv⟩
        obtain ⟨T, hT⟩ := slices_of (cv := D.map (fun i => vals.getD i .nilIface)) (fun v hv => by
          obtain ⟨i, hi, rfl⟩ := List.mem_map.1 hv
          obtain ⟨a, c, e⟩ := own_slice (hown7 i hi).1
          exact ⟨a, _, c, e⟩)
        obtain ⟨g7, c7, e7, hg7, hg7', -⟩ := own_row o7 hcv
        have hTl : T.length = D.length := by
          have := congrArg List.length hT
          simpa using this.symm
        have hrev7 := rev_lists encS (fun _ => rfl) (l := T) (v := u7) (by rw [hTl, ← hT]; exact o7) (by omega)
        have hrev6 : ∀ w2, wr.grownBy w2 u7.ownBlock → _ := fun w2 hg2 => rev_nodes encO encO_one (l := L.map slotO) (w := w2) (v := u6) (by rw [List.length_map]; exact h6.kept hg2 (row_ne_row h6 o7 (by decide))) (by rw [List.length_map]; omega)
        have HRV7 := Lib.hid hrev7
        have HRV6 := Lib.hid hrev6
        have hne := uno_some ⟨g7, 0, none⟩ D.length c7 wr
        have HR := Lib.hid (And.intro r (And.intro hall (And.intro h6 (And.intro o7 (And.intro hown7 (And.intro hT (And.intro hTl hD)))))))
        clear r h6 o7 hl7 hnil hall hrev7 hrev6 hown7 hT hTl hDin hD
        subst e7
        go_wp2_with (first
          | (go_at_call 86; refine HRV7.out.mono ?_; rintro e w2 ⟨rfl, ho2, hg2⟩; have hr6 := HRV6.out w2 hg2)
          | (go_at_call 87; refine hr6.mono ?_; rintro e w3 ⟨rfl, ho3, hg3⟩))
        go_ret2
        obtain ⟨r, hall, h6, o7, hown7, hT, hTl, hD⟩ := HR.out
        have h26 := h6.kept hg2 (row_ne_row h6 o7 (by decide))
        refine ⟨u6, _, rfl, ?_, fun h => absurd h hall, fun _ => ⟨_, (T.reverse.map encS), rfl, ?_, ?_, ?_⟩, grown_new (grown_new r.gr hg2 (fun j hj => Nat.le_trans r.hh.1 (o7.lt j hj).1)) hg3 (fun j hj => Nat.le_trans r.hh.1 (h6.lt j hj).1)⟩
        · have := own_mono ho3 hB.1
          rw [List.length_map, ← List.map_reverse, show (L.reverse.map slotO).map encO = L.reverse.map (fun c => encO (slotO c)) by simp] at this
          exact this
        · have h9 := (own_mono ho2 hB.1).kept hg3 (row_ne_row ho2 h26 (by decide))
          rw [hTl] at h9
          rw [List.length_map, List.length_reverse, hTl]
          exact h9
        · unfold cycs
          rw [List.length_map, List.length_reverse, hTl, List.length_map, hD]
        · intro i v d hv hd
          have e1 : T.reverse.map encS = (D.map (fun i => vals.getD i .nilIface)).reverse := by rw [hT, List.map_reverse]
          unfold cycs at hd
          rw [← hD, ← List.map_reverse, List.getElem?_map] at hd
          rw [e1, ← List.map_reverse, List.getElem?_map] at hv
          cases hi : D.reverse[i]? with
          | none => rw [hi] at hv; cases hv
          | some j =>
            rw [hi] at hv hd
            cases hv
            cases hd
            have hj : j ∈ D := by simpa using List.mem_of_getElem? hi
            obtain ⟨k2, k3⟩ := hown7 j hj
            exact (k2.kept hg2 (row_ne_row k2 o7 (by decide))).kept hg3 (far_ne k3 (fun g e => (h6.lt g e).1))
end Go.Proofs.YtdllkoiddlcnmaaGreat
