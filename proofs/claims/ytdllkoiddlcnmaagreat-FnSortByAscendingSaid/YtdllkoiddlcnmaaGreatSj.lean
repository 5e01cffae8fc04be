/- topo.sortedFrom, walked. -/
import Derived.Test.YtdllkoiddlcnmaaGreatTn
namespace Go.Proofs.YtdllkoiddlcnmaaGreat
open Go.MapKept Go.RowKit

abbrev unoT : TypeId := 112
/-- a component's place in the order: its node, if it has one alone -/
def slotO (c : List Int) : Option Int := if c.length = 1 then c.head? else none
def encO : Option Int → Value
  | none => .nilIface
  | some x => nodeV x
theorem encO_one (o : Option Int) : (encO o).oneCell' = true := by cases o <;> rfl

/-- two rows of nodes that have no node in common lie in different blocks -/
theorem own_apart {w : World} {b1 b2 : Nat} {v1 v2 : Value} {c1 c2 : List Int} (h1 : w.ownsRow b1 nodT 1 v1 c1.length (c1.map nodeV)) (h2 : w.ownsRow b2 nodT 1 v2 c2.length (c2.map nodeV)) (n1 : c1 ≠ []) (n2 : c2 ≠ []) (hd : ∀ x ∈ c1, x ∉ c2) : v1.ownBlock = none ∨ v1.ownBlock ≠ v2.ownBlock := by
  cases hv : v1.ownBlock with
  | none => exact .inl rfl
  | some g =>
    right
    intro e
    have k1 := h1.cells (g := g) hv
    have k2 := h2.cells (g := g) e.symm
    cases c1 with
    | nil => exact absurd rfl n1
    | cons x c1 =>
      cases c2 with
      | nil => exact absurd rfl n2
      | cons y c2 =>
        have a1 := k1 0 (nodeV x) (by simp)
        have a2 := k2 0 (nodeV y) (by simp)
        rw [a1] at a2
        simp only [Option.some.injEq, Value.iface.injEq, Value.int.injEq, true_and] at a2
        exact hd x (by simp) (by rw [a2]; simp)

/-- components: none is empty, none has a node of another one -/
structure CompOk (L : List (List Int)) : Prop where
  ne : ∀ c ∈ L, c ≠ []
  dis : ∀ i j, (hi : i < L.length) → (hj : j < L.length) → i ≠ j → ∀ x ∈ L[i], x ∉ L[j]
  len : L.length ≤ 1000
  each : ∀ c ∈ L, c.length ≤ 1000

/-- the memory of sortedFrom: kc components are past, k6 stand in the order, k7 are looked at for the other list -/
structure SdR (w0 : World) (H : Nat) (L : List (List Int)) (vo : Value) (vals : List Value) (kc k6 k7 : Nat) (a6 a7 : Value) (wr : World) : Prop where
  out : wr.ownsRow w0.heap.size nodsT 1 vo L.length vals
  vl : vals.length = L.length
  cmp : ∀ (i : Nat) (v : Value) (c : List Int), vals[i]? = some v → L[i]? = some c → ∃ c' : List Int, c'.length = c.length ∧ (∀ x ∈ c', x ∈ c) ∧ wr.ownsRow w0.heap.size nodT 1 v c'.length (c'.map nodeV) ∧ (kc ≤ i → c' = c)
  low : ∀ (i : Nat) (v : Value), vals[i]? = some v → ∀ g, v.ownBlock = some g → g < H
  vlow : ∀ g, vo.ownBlock = some g → g < H
  s6 : wr.ownsRow H nodT 1 a6 k6 ((L.take k6).map (fun c => encO (slotO c)))
  s7 : ∃ cv : List Value, wr.ownsRow H nodsT 1 a7 cv.length cv ∧ cv.length ≤ k7 ∧ (∀ v ∈ cv, v ∈ vals) ∧ (cv = [] ↔ ∀ c ∈ L.take k7, c.length = 1) ∧ (cv = [] → a7 = .slice none 0 0)
  gr : w0.grownBy wr none
  hh : w0.heap.size ≤ H ∧ H ≤ wr.heap.size

theorem slot_one {c : List Int} {x : Int} (h : c = [x]) : slotO c = some x := by subst h; rfl
theorem slot_more {c : List Int} (h : c.length ≠ 1) : slotO c = none := by unfold slotO; rw [if_neg h]

section
variable {w0 wr w' : World} {H kc k6 k7 : Nat} {L : List (List Int)} {vo : Value} {vals : List Value} {a6 a7 : Value}
theorem SdR.far (_r : SdR w0 H L vo vals kc k6 k7 a6 a7 wr) {v v2 : Value} (h1 : ∀ g, v.ownBlock = some g → g < H) (h2 : ∀ g, v2.ownBlock = some g → H ≤ g) : v.ownBlock = none ∨ v.ownBlock ≠ v2.ownBlock := by
  cases e : v.ownBlock with
  | none => exact .inl rfl
  | some g =>
    right
    intro e2
    have := h1 g e
    have := h2 g e2.symm
    omega
theorem SdR.grown (r : SdR w0 H L vo vals kc k6 k7 a6 a7 wr) (hg : wr.grownBy w' none) : SdR w0 H L vo vals kc k6 k7 a6 a7 w' :=
  ⟨own_new r.out hg, r.vl, fun i v c hv hc => by
    obtain ⟨c', h1, h2, h3, h4⟩ := r.cmp i v c hv hc
    exact ⟨c', h1, h2, own_new h3 hg, h4⟩, r.low, r.vlow, own_new r.s6 hg, by
    obtain ⟨cv, h1, h2⟩ := r.s7
    exact ⟨cv, own_new h1 hg, h2⟩, grown_tr r.gr hg, r.hh.1, Nat.le_trans r.hh.2 hg.size⟩
theorem SdR.past (r : SdR w0 H L vo vals kc k6 k7 a6 a7 wr) : SdR w0 H L vo vals (kc + 1) k6 k7 a6 a7 wr :=
  ⟨r.out, r.vl, fun i v c hv hc => by
    obtain ⟨c', h1, h2, h3, h4⟩ := r.cmp i v c hv hc
    exact ⟨c', h1, h2, h3, fun h => h4 (by omega)⟩, r.low, r.vlow, r.s6, r.s7, r.gr, r.hh⟩
theorem SdR.lone (r : SdR w0 H L vo vals kc k6 k7 a6 a7 wr) (hk : k7 < L.length) (h1 : L[k7].length = 1) : SdR w0 H L vo vals kc k6 (k7 + 1) a6 a7 wr :=
  ⟨r.out, r.vl, r.cmp, r.low, r.vlow, r.s6, by
    obtain ⟨cv, h2, h3, h4, h5, h6⟩ := r.s7
    refine ⟨cv, h2, by omega, h4, ?_, h6⟩
    rw [h5, List.take_succ_eq_append_getElem hk]
    constructor
    · intro h c hc
      rcases List.mem_append.1 hc with h5 | h5
      · exact h c h5
      · obtain rfl : c = L[k7] := by simpa using h5
        exact h1
    · exact fun h c hc => h c (List.mem_append.2 (.inl hc)), r.gr, r.hh⟩
/-- one place more in the order -/
theorem SdR.app6 (r : SdR w0 H L vo vals kc k6 k7 a6 a7 wr) (hk : k6 < L.length) {g cap : Nat} {y : Value} (hy : y = encO (slotO L[k6]))
    (ho : w'.ownsRow H nodT 1 (.slice (some ⟨g, 0, none⟩) (k6 + 1) cap) (k6 + 1) ((L.take k6).map (fun c => encO (slotO c)) ++ [y])) (hg : wr.grownBy w' a6.ownBlock) :
    SdR w0 H L vo vals kc (k6 + 1) k7 (.slice (some ⟨g, 0, none⟩) (k6 + 1) cap) a7 w' := by
  have hgr : ∀ j, a6.ownBlock = some j → H ≤ j := fun j hj => (r.s6.lt j hj).1
  refine ⟨r.out.kept hg (row_ne_row r.out r.s6 (by decide)), r.vl, fun i v c hv hc => ?_, r.low, r.vlow, ?_, ?_, grown_new r.gr hg (fun j hj => Nat.le_trans r.hh.1 (hgr j hj)), r.hh.1, Nat.le_trans r.hh.2 hg.size⟩
  · obtain ⟨c', h1, h2, h3, h4⟩ := r.cmp i v c hv hc
    exact ⟨c', h1, h2, h3.kept hg (r.far (r.low i v hv) hgr), h4⟩
  · rw [List.take_succ_eq_append_getElem hk, List.map_append, List.map_cons, List.map_nil, ← hy]
    exact ho
  · obtain ⟨cv, h1, h2⟩ := r.s7
    exact ⟨cv, h1.kept hg (row_ne_row h1 r.s6 (by decide)), h2⟩
/-- one component more in the other list -/
theorem SdR.app7 (r : SdR w0 H L vo vals kc k6 k7 a6 a7 wr) (hk : k7 < L.length) (h1 : L[k7].length ≠ 1) {g cap : Nat} {v : Value} {cv : List Value} (hv : v ∈ vals) (hcv : cv.length ≤ k7) (hin : ∀ v ∈ cv, v ∈ vals)
    (hh7 : ∀ j, a7.ownBlock = some j → H ≤ j) (h76 : a6.ownBlock = none ∨ a6.ownBlock ≠ a7.ownBlock) (h7o : ∀ (i : Nat) (v : Value), vals[i]? = some v → v.ownBlock = none ∨ v.ownBlock ≠ a7.ownBlock) (h7v : vo.ownBlock = none ∨ vo.ownBlock ≠ a7.ownBlock)
    (ho : w'.ownsRow H nodsT 1 (.slice (some ⟨g, 0, none⟩) (cv.length + 1) cap) (cv.length + 1) (cv ++ [v])) (hg : wr.grownBy w' a7.ownBlock) :
    SdR w0 H L vo vals kc k6 (k7 + 1) a6 (.slice (some ⟨g, 0, none⟩) (cv.length + 1) cap) w' := by
  refine ⟨r.out.kept hg h7v, r.vl, fun i v c hv hc => ?_, r.low, r.vlow, r.s6.kept hg h76, ⟨cv ++ [v], ?_, by rw [List.length_append]; exact Nat.succ_le_succ hcv, ?_, ?_, fun h => absurd h (by simp)⟩, grown_new r.gr hg (fun j hj => Nat.le_trans r.hh.1 (hh7 j hj)), r.hh.1, Nat.le_trans r.hh.2 hg.size⟩
  · obtain ⟨c', k1, k2, k3, k4⟩ := r.cmp i v c hv hc
    exact ⟨c', k1, k2, k3.kept hg (h7o i v hv), k4⟩
  · rw [List.length_append]
    exact ho
  · intro u hu
    rcases List.mem_append.1 hu with h | h
    · exact hin u h
    · obtain rfl : u = v := by simpa using h
      exact hv
  · constructor
    · intro h
      simp at h
    · intro h
      exact absurd (h L[k7] (by rw [List.take_succ_eq_append_getElem hk]; exact List.mem_append.2 (.inr (List.mem_singleton.2 rfl)))) h1
/-- a component is put in order -/
theorem SdR.sort (r : SdR w0 H L vo vals kc k6 k7 a6 a7 wr) (ok : CompOk L) (hk : kc < L.length) {v : Value} (hv : vals[kc]? = some v) {c : List Int} (hp : c.Perm L[kc])
    (ho : w'.ownsRow w0.heap.size nodT 1 v L[kc].length (c.map nodeV)) (hg : wr.grownBy w' v.ownBlock) : SdR w0 H L vo vals (kc + 1) k6 k7 a6 a7 w' := by
  have hLk : L[kc]? = some L[kc] := List.getElem?_eq_getElem hk
  obtain ⟨c0, -, -, o0, e0⟩ := r.cmp kc v _ hv hLk
  obtain rfl := e0 (Nat.le_refl _)
  have hlow := r.low kc v hv
  refine ⟨r.out.kept hg (row_ne_row r.out o0 (by decide)), r.vl, fun i u d hu hd => ?_, r.low, r.vlow, r.s6.kept hg ?_, ?_, grown_new r.gr hg (fun j hj => (o0.lt j hj).1), r.hh.1, Nat.le_trans r.hh.2 hg.size⟩
  · by_cases hi : i = kc
    · subst hi
      rw [hv] at hu
      rw [hLk] at hd
      cases hu
      cases hd
      exact ⟨c, hp.length_eq, fun x hx => hp.mem_iff.1 hx, by rw [hp.length_eq]; exact ho, fun h => by omega⟩
    · obtain ⟨c', k1, k2, k3, k4⟩ := r.cmp i u d hu hd
      obtain ⟨hil, rfl⟩ := List.getElem?_eq_some_iff.1 hd
      refine ⟨c', k1, k2, k3.kept hg (own_apart k3 o0 ?_ (ok.ne _ (List.getElem_mem hk)) (fun x hx hx2 => ok.dis i kc hil hk hi x (k2 x hx) hx2)), fun h => k4 (by omega)⟩
      intro e
      rw [e] at k1
      exact ok.ne _ (List.getElem_mem hil) (List.eq_nil_of_length_eq_zero k1.symm)
  · cases e : a6.ownBlock with
    | none => exact .inl rfl
    | some g =>
      right
      intro e2
      have h1 := (r.s6.lt g e).1
      have h2 := hlow g e2.symm
      omega
  · obtain ⟨cv, h1, h2⟩ := r.s7
    refine ⟨cv, h1.kept hg ?_, h2⟩
    cases e : a7.ownBlock with
    | none => exact .inl rfl
    | some g =>
      right
      intro e2
      have h1 := (h1.lt g e).1
      have h2 := hlow g e2.symm
      omega
end
end Go.Proofs.YtdllkoiddlcnmaaGreat
namespace Go.Proofs.YtdllkoiddlcnmaaGreat
open Go.MapKept Go.RowKit

def SdRel (w0 : World) (H : Nat) (L : List (List Int)) (vo : Value) (vals : List Value) (a6 a7 i : Value) (wr : World) : Prop := ∃ k : Nat, k ≤ L.length ∧ i = .int .i64 k ∧ SdR w0 H L vo vals k k k a6 a7 wr
/-- the order, and what is in no order -/
def SdPost (w0 : World) (L : List (List Int)) (_w : World) (e : Ending) (w' : World) : Prop :=
  ∃ v6 err, e = .returned (.tuple #[v6, err]) ∧ w'.ownsRow w0.heap.size nodT 1 v6 L.length (L.reverse.map (fun c => encO (slotO c))) ∧
    ((∀ c ∈ L, c.length = 1) → err = .nilIface) ∧
    ((¬ ∀ c ∈ L, c.length = 1) → ∃ s7 cv, err = .iface unoT s7 ∧ w'.ownsRow w0.heap.size nodsT 1 s7 cv.length cv ∧ cv.length ≤ L.length ∧ ∀ v ∈ cv, ∃ c : List Int, c.length ≤ 1000 ∧ w'.ownsRow w0.heap.size nodT 1 v c.length (c.map nodeV)) ∧ w0.grownBy w' none

theorem elU : ElT Tryz.prog unoT nodsT 1 24 (.slice none 0 0) := ⟨Tryz.underlying112, by kernel_rfl, by kernel_rfl, by decide⟩
def encS (p : Option Addr × Nat × Nat) : Value := .slice p.1 p.2.1 p.2.2
theorem slices_of {cv : List Value} (h : ∀ v ∈ cv, ∃ a n c, v = .slice a n c) : ∃ T : List (Option Addr × Nat × Nat), cv = T.map encS := by
  induction cv with
  | nil => exact ⟨[], rfl⟩
  | cons v cv ih =>
    obtain ⟨T, hT⟩ := ih (fun u hu => h u (List.mem_cons_of_mem _ hu))
    obtain ⟨a, n, c, e⟩ := h v (List.mem_cons_self ..)
    exact ⟨(a, n, c) :: T, by rw [e, hT]; rfl⟩

theorem uno_nil (W : World) : (binOp .neq unoT (.slice none 0 0) (.slice none 0 0)).run Tryz.prog W = .ok (.bool false) W := by kernel_rfl
theorem uno_some (a : Addr) (n c : Nat) (W : World) : (binOp .neq unoT (.slice (some a) n c) (.slice none 0 0)).run Tryz.prog W = .ok (.bool true) W := by kernel_rfl

theorem sd_seven {w0 w1 w' : World} {H kc k6 k7 : Nat} {L : List (List Int)} {vo : Value} {vals : List Value} {a6 a7 v : Value} {g cap : Nat} {cv : List Value} (r : SdR w0 H L vo vals kc k6 k7 a6 a7 w1) (hk : k7 < L.length) (h1 : L[k7].length ≠ 1) (hv : v ∈ vals)
    (o7 : w1.ownsRow H nodsT 1 a7 cv.length cv) (hcv : cv.length ≤ k7) (hin : ∀ v ∈ cv, v ∈ vals)
    (ho : w'.ownsRow H nodsT 1 (.slice (some ⟨g, 0, none⟩) (cv.length + 1) cap) (cv.length + 1) (cv ++ [v])) (hg : (w1.alloc (.cells #[v] nodsT)).grownBy w' a7.ownBlock) :
    SdR w0 H L vo vals kc k6 (k7 + 1) a6 (.slice (some ⟨g, 0, none⟩) (cv.length + 1) cap) w' := by
  have r2 := r.grown (grown_alloc w1 (.cells #[v] nodsT))
  have o2 := own_new o7 (grown_alloc w1 (.cells #[v] nodsT))
  refine r2.app7 hk h1 hv hcv hin (fun j hj => (o7.lt j hj).1) (row_ne_row r2.s6 o2 (by decide)) (fun i u hu => ?_) (r2.far r2.vlow (fun j hj => (o7.lt j hj).1)) ho hg
  have hi : i < L.length := by rw [← r.vl]; exact (List.getElem?_eq_some_iff.1 hu).1
  obtain ⟨c', -, -, k3, -⟩ := r2.cmp i u _ hu (List.getElem?_eq_getElem hi)
  exact row_ne_row k3 o2 (by decide)

set_option maxHeartbeats 4000000 in
set_option maxRecDepth 100000 in
theorem sorted_lex {w0 w : World} {L : List (List Int)} {vo : Value} {vals : List Value} (ok : CompOk L) (hown : w.ownsRow w0.heap.size nodsT 1 vo L.length vals) (hvl : vals.length = L.length)
    (hcmp : ∀ (i : Nat) (v : Value) (c : List Int), vals[i]? = some v → L[i]? = some c → w.ownsRow w0.heap.size nodT 1 v c.length (c.map nodeV)) (hg : w0.grownBy w none) :
    Calls Tryz.prog 61 #[vo, lexV] w (SdPost w0 L w) := by
  obtain ⟨av, cv, rfl⟩ := own_slice hown
  have hL := ok.len
  have hmk := run_make0 elN L.length (by omega) (by unfold maxLen; omega)
  have HC : Hid (∀ i, (hi : i < L.length) → ∃ b v, av = some ⟨b, 0, none⟩ ∧ vals[i]? = some v) := Lib.hid (fun i hi => by
    obtain ⟨b, cap, e, -, -⟩ := own_row hown (by omega)
    simp only [Value.slice.injEq] at e
    exact ⟨b, vals[i], e.1, List.getElem?_eq_getElem (by omega)⟩)
  have HS : Hid (SdR w0 w.heap.size L (.slice av L.length cv) vals 0 0 0 (.slice (some ⟨w.heap.size, 0, none⟩) 0 L.length) (.slice none 0 0) (w.alloc (.cells (madeCells #[.nilIface] L.length) nodT))) := Lib.hid
    ⟨own_new hown (grown_alloc _ _), hvl, fun i v c hv hc => ⟨c, rfl, fun _ h => h, own_new (hcmp i v c hv hc) (grown_alloc _ _), fun _ => rfl⟩, fun i v hv g e => by
        have hi : i < L.length := by rw [← hvl]; exact (List.getElem?_eq_some_iff.1 hv).1
        exact ((hcmp i v _ hv (List.getElem?_eq_getElem hi)).lt g e).2, fun g e => (hown.lt g e).2, own_make1 _ L.length (by unfold maxLen; omega) w, ⟨[], ⟨rfl, .inl ⟨rfl, rfl⟩⟩, by simp, by simp, by simp, fun _ => rfl⟩, grown_tr hg (grown_alloc _ _), hg.size, by simp⟩
  have HOK := Lib.hid ok
  clear hown hvl hcmp hg ok
  obtain ⟨H, hH⟩ : ∃ H, H = w.heap.size := ⟨_, rfl⟩
  go_enter Tryz.func61, Tryz.ntmps61
  go_wp2_with fail
  clear hmk
  rw [← hH] at HS
  go_loopw [6, 7, 9, 16] (fun a6 a7 _ i wr => SdRel w0 H L (.slice av L.length cv) vals a6 a7 i wr) (fun _ _ _ i _ => L.length - (intOf i).toNat)
  case atStart => exact ⟨0, Nat.zero_le _, rfl, by rw [← hH]; exact HS.out⟩
  case round =>
    clear HS
    obtain ⟨k, hk, rfl, r⟩ := hrel
    by_cases hlt : k < L.length
    · have hlt' : (k : Int) < L.length := by omega
      obtain ⟨b, v, rfl, hv⟩ := HC.out k hlt
      have hLk : L[k]? = some L[k] := List.getElem?_eq_getElem hlt
      obtain ⟨c0, -, -, o0, e0⟩ := r.cmp k v _ hv hLk
      obtain rfl := e0 (Nat.le_refl _)
      have c1 : wr.cell? ⟨b, k, none⟩ = some v := by
        have := r.out.cells (g := b) rfl k v hv
        rwa [addr_add, Nat.zero_add] at this
      have hce := HOK.out.each _ (List.getElem_mem hlt)
      obtain ⟨a, c, rfl⟩ := own_slice o0
      obtain ⟨n, hn⟩ : ∃ n, n = L[k].length := ⟨_, rfl⟩
      have hk9 : k ≤ 1000 := by omega
      by_cases h1 : n = 1
      · subst h1
        obtain ⟨x, hx⟩ : ∃ x, L[k] = [x] := by
          match hm : L[k], hn with
          | [x], _ => exact ⟨x, rfl⟩
        obtain ⟨gb, capb, eb, -, -, -⟩ := own_row o0 (by omega)
        rw [← hn] at eb c1
        simp only [Value.slice.injEq] at eb
        obtain ⟨rfl, -, rfl⟩ := eb
        have c2 : wr.cell? ⟨gb, 0, none⟩ = some (nodeV x) := by
          have := o0.cells (g := gb) rfl 0 (nodeV x) (by rw [hx]; simp)
          rwa [addr_add] at this
        have HR := Lib.hid (And.intro r (And.intro hx hn))
        have HO6 := Lib.hid r.s6
        have hhs := r.hh.2
        clear r hv o0 hn hLk e0 hx
        go_wp2_with (at_builtin; refine wpx_app1 elN rfl (.tmp 33) (.tmp 37) rfl H u6 k _ rfl (HO6.out.alloc _) wr.heap.size #[nodeV x] (heap_alloc_new wr _) (wr.heap.size + 1) (by simp) 1 rfl rfl (by simp [Value.oneCell']) (by omega) (by unfold maxLen; omega) (by omega) ?_; intro g6 cap6 w3 ho6 hg6 hat6 hlt6 hsz6)
        go_roundw
        case rel =>
          obtain ⟨r, hx, hn⟩ := HR.out
          refine ⟨k + 1, by omega, by go_num, ?_⟩
          exact (((r.grown (grown_alloc _ _)).past.lone hlt (by omega)).app6 hlt (by rw [hx, slot_one rfl]; rfl) ho6 hg6)
        case measure => simp [intOf]; omega
      · have hn1 : ¬ ((n : Nat) : Int) = 1 := by omega
        have hnb : (((n : Nat) : Int) == 1) = false := by rw [beq_eq_false_iff_ne]; exact hn1
        have hlex := lex_call o0 hce
        have HR := Lib.hid (And.intro r (And.intro hv hn))
        rw [← hn] at hlex c1
        have HLX := Lib.hid hlex
        clear r hv o0 hn hlex hLk e0
        go_wp2_with (first
          | (go_at_call 62; refine HLX.out.mono ?_; rintro e w1 ⟨rfl, ho1, hg1⟩; obtain ⟨r, hv, hn⟩ := HR.out; rw [← hn] at hv; have rs := r.sort HOK.out hlt hv (srt_perm _) ho1 hg1; obtain ⟨cv7, o7, hl7, hin7, hif7⟩ := id rs.s7; have hhs := rs.hh.2; have HRS := Lib.hid (And.intro rs (And.intro hv hn)); have HO7 := Lib.hid (And.intro o7 (And.intro hl7 hin7)); clear r hv hn rs o7 hin7 hif7 ho1 hg1)
          | (at_builtin; refine wpx_app1 elU rfl (.tmp 26) (.tmp 28) rfl H u7 cv7.length cv7 rfl (HO7.out.1.alloc _) w1.heap.size #[.slice a n c] (heap_alloc_new w1 _) (w1.heap.size + 1) (by simp) 1 rfl rfl (by simp [Value.oneCell']) (by omega) (by unfold maxLen; omega) (by omega) ?_; intro g7 cap7 w2 ho7 hg7 hat7 hlt7 hsz7; have HR7 : Hid (SdR w0 H L (.slice (some ⟨b, 0, none⟩) L.length cv) vals (k + 1) k (k + 1) u6 (.slice (some ⟨g7, 0, none⟩) (cv7.length + 1) cap7) w2) := Lib.hid (sd_seven HRS.out.1 hlt (by rw [← HRS.out.2.2]; exact h1) (List.mem_of_getElem? HRS.out.2.1) HO7.out.1 HO7.out.2.1 HO7.out.2.2 ho7 hg7); have HO6 := Lib.hid HR7.out.s6; have hh2 := HR7.out.hh.2)
          | (at_builtin; refine wpx_app1 elN rfl (.tmp 30) (.tmp 31) rfl H u6 k _ rfl (HO6.out.alloc _) w2.heap.size #[.nilIface] (heap_alloc_new w2 _) (w2.heap.size + 1) (by simp) 1 rfl rfl (by simp [Value.oneCell']) (by omega) (by unfold maxLen; omega) (by omega) ?_; intro g6 cap6 w3 ho6 hg6 hat6 hlt6 hsz6))
        go_roundw
        case rel =>
          refine ⟨k + 1, by omega, by go_num, ?_⟩
          exact ((HR7.out.grown (grown_alloc _ _)).app6 hlt (by rw [slot_more (by rw [← HRS.out.2.2]; exact h1)]; rfl) ho6 hg6)
        case measure => simp [intOf]; omega
    · have hlt' : ¬ (k : Int) < L.length := by omega
      obtain rfl : k = L.length := by omega
      have h6 := r.s6
      rw [List.take_length, ← show (L.map slotO).map encO = L.map (fun c => encO (slotO c)) by simp] at h6
      have hB := r.hh
      obtain ⟨cv7, o7, hl7, hin7, hif7, hnil⟩ := r.s7
      rw [List.take_length] at hif7
      by_cases hall : ∀ c ∈ L, c.length = 1
      · have e7 := hnil (hif7.2 hall)
        have hrev := rev_nodes encO encO_one (l := L.map slotO) (by rw [List.length_map]; exact h6) (by rw [List.length_map]; omega)
        have HRV := Lib.hid hrev
        have HR := Lib.hid (And.intro r (And.intro hall h6))
        clear r h6 o7 hl7 hin7 hif7 hnil hall hrev
        subst e7
        have hne := uno_nil wr
        go_wp2_with (go_at_call 87; refine HRV.out.mono ?_; rintro e w2 ⟨rfl, ho2, hg2⟩)
        go_ret2
        obtain ⟨r, hall, h6⟩ := HR.out
        refine ⟨u6, .nilIface, rfl, ?_, fun _ => rfl, fun h => absurd hall h, grown_new r.gr hg2 (fun j hj => Nat.le_trans r.hh.1 (r.s6.lt j hj).1)⟩
        have := own_mono ho2 hB.1
        rw [List.length_map, ← List.map_reverse, show (L.reverse.map slotO).map encO = L.reverse.map (fun c => encO (slotO c)) by simp] at this
        exact this
      · have hcv : 0 < cv7.length := by
          rcases Nat.eq_zero_or_pos cv7.length with h | h
          · exact absurd (hif7.1 (List.eq_nil_of_length_eq_zero h)) hall
          · exact h
        have hown7 : ∀ v ∈ cv7, ∃ c : List Int, c.length ≤ 1000 ∧ wr.ownsRow w0.heap.size nodT 1 v c.length (c.map nodeV) ∧ ∀ g, v.ownBlock = some g → g < H := fun v hv => by
          obtain ⟨i, hi, e⟩ := List.getElem_of_mem (hin7 v hv)
          have hiL : i < L.length := by rw [← r.vl]; exact hi
          have hv' : vals[i]? = some v := by rw [List.getElem?_eq_getElem hi, e]
          obtain ⟨c', k1, k2, k3, k4⟩ := r.cmp i v _ hv' (List.getElem?_eq_getElem hiL)
          exact ⟨c', by rw [k1]; exact HOK.out.each _ (List.getElem_mem hiL), k3, r.low i v hv'⟩
        obtain ⟨T, hT⟩ := slices_of (cv := cv7) (fun v hv => by
          obtain ⟨c', -, k3, -⟩ := hown7 v hv
          obtain ⟨a, c, e⟩ := own_slice k3
          exact ⟨a, _, c, e⟩)
        obtain ⟨g7, c7, e7, hg7, hg7', -⟩ := own_row o7 hcv
        have hTl : T.length = cv7.length := by rw [hT, List.length_map]
        have hrev7 := rev_lists encS (fun _ => rfl) (l := T) (v := u7) (by rw [hTl, ← hT]; exact o7) (by omega)
        have hrev6 : ∀ w2, wr.grownBy w2 u7.ownBlock → _ := fun w2 hg2 => rev_nodes encO encO_one (l := L.map slotO) (w := w2) (v := u6) (by rw [List.length_map]; exact h6.kept hg2 (row_ne_row h6 o7 (by decide))) (by rw [List.length_map]; omega)
        have HRV7 := Lib.hid hrev7
        have HRV6 := Lib.hid hrev6
        have hne := uno_some ⟨g7, 0, none⟩ cv7.length c7 wr
        have HR := Lib.hid (And.intro r (And.intro hall (And.intro h6 (And.intro o7 (And.intro hown7 (And.intro hT hTl))))))
        have hl1000 : cv7.length ≤ L.length := hl7
        clear r h6 o7 hl7 hin7 hif7 hnil hall hrev7 hrev6 hown7 hT hTl
        subst e7
        go_wp2_with (first
          | (go_at_call 86; refine HRV7.out.mono ?_; rintro e w2 ⟨rfl, ho2, hg2⟩; have hr6 := HRV6.out w2 hg2)
          | (go_at_call 87; refine hr6.mono ?_; rintro e w3 ⟨rfl, ho3, hg3⟩))
        go_ret2
        obtain ⟨r, hall, h6, o7, hown7, hT, hTl⟩ := HR.out
        have h76 := row_ne_row o7 h6 (by decide)
        have h26 := h6.kept hg2 (row_ne_row h6 o7 (by decide))
        refine ⟨u6, _, rfl, ?_, fun h => absurd h hall, fun _ => ⟨_, (T.reverse.map encS), rfl, ?_, ?_, ?_⟩, grown_new (grown_new r.gr hg2 (fun j hj => Nat.le_trans r.hh.1 (o7.lt j hj).1)) hg3 (fun j hj => Nat.le_trans r.hh.1 (h6.lt j hj).1)⟩
        · have := own_mono ho3 hB.1
          rw [List.length_map, ← List.map_reverse, show (L.reverse.map slotO).map encO = L.reverse.map (fun c => encO (slotO c)) by simp] at this
          exact this
        · have h9 := (own_mono ho2 hB.1).kept hg3 (row_ne_row ho2 h26 (by decide))
          rw [hTl] at h9
          rw [List.length_map, List.length_reverse, hTl]
          exact h9
        · rw [List.length_map, List.length_reverse, hTl]; exact hl1000
        · intro v hv
          have hv7 : v ∈ cv7 := by rw [hT]; rw [List.mem_map] at hv ⊢; obtain ⟨t, h1, h2⟩ := hv; exact ⟨t, by simpa using h1, h2⟩
          obtain ⟨c, k1, k2, k3⟩ := hown7 v hv7
          refine ⟨c, k1, (k2.kept hg2 (row_ne_row k2 o7 (by decide))).kept hg3 (r.far k3 (fun g e => (h6.lt g e).1))⟩
end Go.Proofs.YtdllkoiddlcnmaaGreat
