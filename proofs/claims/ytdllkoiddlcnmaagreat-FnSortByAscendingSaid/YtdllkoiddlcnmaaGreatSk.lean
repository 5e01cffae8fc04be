/- topo.Sort, topo.SortStabilized. -/
import Derived.Test.YtdllkoiddlcnmaaGreatSc
import Derived.Test.YtdllkoiddlcnmaaGreatSj
import Derived.Test.YtdllkoiddlcnmaaGreatSl
namespace Go.Proofs.YtdllkoiddlcnmaaGreat

section
variable {S : Int → List Int} {ids ns : List Int}

structure TallOk (S : Int → List Int) (ids : List Int) (L : List (List Int)) : Prop where
  ok : OutOk S L
  nd : L.flatten.Nodup
  mem : ∀ x, x ∈ L.flatten ↔ x ∈ ids
theorem tall_is (hids : ∀ x ∈ ids, ∀ y ∈ S x, y ∈ ids) (hn : ∀ x, x ∈ ns ↔ x ∈ ids) : TallOk S ids (tall S ids.length ns).out := by
  obtain ⟨h1, h2, -, h4⟩ := tall_ok hids (nodes := ns) hn ids.length (Nat.le_refl _)
  have h5 : ∀ x ∈ (tall S ids.length ns).out.flatten, x ∈ ids := (tall_in hids ids.length ns TSt.init (fun x hx => (hn x).1 hx) ⟨by simp [TSt.init], by simp [TSt.init]⟩).2
  exact ⟨h1, h2, fun x => ⟨h5 x, h4 x⟩⟩

theorem len_flat : ∀ {L : List (List Int)}, (∀ c ∈ L, c ≠ []) → L.length ≤ L.flatten.length
  | [], _ => Nat.zero_le _
  | c :: L, h => by
    have h1 := len_flat (L := L) (fun d hd => h d (List.mem_cons_of_mem _ hd))
    have h2 : 0 < c.length := List.length_pos_iff.2 (h c (List.mem_cons_self ..))
    rw [List.flatten_cons, List.length_append, List.length_cons]
    omega
theorem len_le_flat {L : List (List Int)} {c : List Int} (hc : c ∈ L) : c.length ≤ L.flatten.length := (List.sublist_flatten_of_mem hc).length_le
theorem TallOk.len {L : List (List Int)} (h : TallOk S ids L) (hnd : ids.Nodup) : L.flatten.length = ids.length :=
  ((List.perm_ext_iff_of_nodup h.nd hnd).2 h.mem).length_eq
theorem flat_dis : ∀ {L : List (List Int)}, L.flatten.Nodup → ∀ i j, (hi : i < L.length) → (hj : j < L.length) → i ≠ j → ∀ x ∈ L[i], x ∉ L[j]
  | [], _, i, _, hi, _, _, _, _ => by simp at hi
  | c :: L, h, i, j, hi, hj, hij, x, hx => by
    rw [List.flatten_cons, List.nodup_append] at h
    obtain ⟨h1, h2, h3⟩ := h
    cases i with
    | zero =>
      cases j with
      | zero => exact absurd rfl hij
      | succ j =>
        intro hx2
        have hx' : x ∈ L[j]'(by simpa using hj) := hx2
        exact h3 x hx x (List.mem_flatten.2 ⟨_, List.getElem_mem _, hx'⟩) rfl
    | succ i =>
      have hx' : x ∈ L[i]'(by simpa using hi) := hx
      cases j with
      | zero => exact fun hx2 => h3 x hx2 x (List.mem_flatten.2 ⟨_, List.getElem_mem _, hx'⟩) rfl
      | succ j => exact flat_dis h2 i j (by simpa using hi) (by simpa using hj) (by omega) x hx'
theorem TallOk.comp {L : List (List Int)} (h : TallOk S ids L) (hnd : ids.Nodup) (hl : ids.length ≤ 1000) : CompOk L.reverse := by
  have hf := h.len hnd
  have hne := OutOk.ne h.ok
  refine ⟨fun c hc => hne c (by simpa using hc), ?_, ?_, fun c hc => ?_⟩
  · have hd : L.reverse.flatten.Nodup := ((flatten_rev L).nodup_iff).2 h.nd
    exact flat_dis hd
  · rw [List.length_reverse]
    have := len_flat hne
    omega
  · have := len_le_flat (L := L) (by simpa using hc : c ∈ L)
    omega

/-- all components are lone nodes -/
def AllOne (L : List (List Int)) : Prop := ∀ c ∈ L, c.length = 1
theorem TallOk.one_iff {L : List (List Int)} (h : TallOk S ids L) : AllOne L ↔ ∀ u ∈ ids, ∀ v ∈ ids, Rch (SE S) u v → Rch (SE S) v u → u = v := by
  constructor
  · intro ha u hu v hv h1 h2
    obtain ⟨c, hc, hu', hv'⟩ := (ok_tog h.ok h.nd ((h.mem u).2 hu) ((h.mem v).2 hv)).2 ⟨h1, h2⟩
    obtain ⟨x, rfl⟩ := List.length_eq_one_iff.1 (ha c hc)
    have e1 : u = x := by simpa using hu'
    have e2 : v = x := by simpa using hv'
    rw [e1, e2]
  · intro ha c hc
    have hne := OutOk.ne h.ok c hc
    have hnd : c.Nodup := (List.sublist_flatten_of_mem hc).nodup h.nd
    match c, hne with
    | [x], _ => rfl
    | x :: y :: c, _ =>
      have hin : ∀ z ∈ x :: y :: c, z ∈ L.flatten := fun z hz => List.mem_flatten.2 ⟨_, hc, hz⟩
      obtain ⟨h1, h2⟩ := (ok_tog h.ok h.nd (hin x (by simp)) (hin y (by simp))).1 ⟨_, hc, by simp, by simp⟩
      have := ha x ((h.mem x).1 (hin x (by simp))) y ((h.mem y).1 (hin y (by simp))) h1 h2
      subst this
      simp at hnd

/-- edges lead on -/
theorem ok_fwd : ∀ {L : List (List Int)}, OutOk S L → L.flatten.Nodup → AllOne L → L.flatten.Pairwise (fun a b => a ∉ S b)
  | [], _, _, _ => .nil
  | c :: L, h, hnd, ha => by
    obtain ⟨x, rfl⟩ := List.length_eq_one_iff.1 (ha c (List.mem_cons_self ..))
    rw [List.flatten_cons, List.singleton_append] at hnd ⊢
    rw [List.nodup_cons] at hnd
    refine List.Pairwise.cons (fun b hb hx => ?_) (ok_fwd h.2.2.2 hnd.2 (fun d hd => ha d (List.mem_cons_of_mem _ hd)))
    exact hnd.1 (OutOk.closed (succ := S) h.2.2.2 b hb x hx)

/-- an edge leads from each node of a list to the next one -/
def Chain (E : Int → Int → Prop) (l : List Int) : Prop := ∀ j (h : j + 1 < l.length), E l[j] l[j + 1]

theorem chain_only {E : Int → Int → Prop} {l m : List Int} (hE : ∀ a b, E a b → a ≠ b) (hlm : l.Perm m) (hnd : l.Nodup) (hc : Chain E l) (hf : m.Pairwise (fun a b => ¬ E b a)) : m = l := by
  have hmn : m.Nodup := hlm.nodup_iff.1 hnd
  have hix : ∀ a ∈ m, ∀ b ∈ m, E a b → ix m a < ix m b := fun a ha b hb hab => by
    rcases Nat.lt_trichotomy (ix m a) (ix m b) with h | h | h
    · exact h
    · exact absurd (ix_inj ha hb h) (hE a b hab)
    · have := List.pairwise_iff_getElem.1 hf (ix m b) (ix m a) (ix_lt hb) (ix_lt ha) h
      rw [ix_get ha, ix_get hb] at this
      exact absurd hab this
  have hstep : ∀ d i, (h : i + d + 1 < l.length) → ix m (l[i]'(by omega)) < ix m l[i + d + 1] := fun d => by
    induction d with
    | zero => exact fun i h => hix _ (hlm.mem_iff.1 (List.getElem_mem _)) _ (hlm.mem_iff.1 (List.getElem_mem _)) (hc i h)
    | succ d ih =>
      intro i h
      exact Nat.lt_trans (ih i (by omega)) (hix _ (hlm.mem_iff.1 (List.getElem_mem _)) _ (hlm.mem_iff.1 (List.getElem_mem _)) (hc (i + d + 1) h))
  have hl : l.Pairwise (fun a b => ix m a < ix m b) := by
    rw [List.pairwise_iff_getElem]
    intro i j hi hj hij
    obtain ⟨d, rfl⟩ : ∃ d, j = i + d + 1 := ⟨j - i - 1, by omega⟩
    exact hstep d i hj
  have hm : m.Pairwise (fun a b => ix m a < ix m b) := by
    rw [List.pairwise_iff_getElem]
    intro i j hi hj hij
    show m.idxOf m[i] < m.idxOf m[j]
    rw [List.Nodup.idxOf_getElem hmn, List.Nodup.idxOf_getElem hmn]
    exact hij
  exact List.Perm.eq_of_pairwise (fun a b _ _ h1 h2 => absurd h1 (by omega)) hm hl hlm.symm
end
end Go.Proofs.YtdllkoiddlcnmaaGreat
namespace Go.Proofs.YtdllkoiddlcnmaaGreat
open Go.MapKept Go.RowKit

abbrev sortS (ids : List Int) (M : Mat) : Int → List Int := fun x => (srt (outs ids M x)).reverse
/-- the components, as the algorithm finds them -/
def compA (ids : List Int) (M : Mat) : List (List Int) := (tall (outs ids M) ids.length ids).out
def compB (ids : List Int) (M : Mat) : List (List Int) := (tall (sortS ids M) ids.length (srt ids).reverse).out

theorem compA_ok {ids : List Int} {M : Mat} (hclo : ∀ x ∈ ids, ∀ y ∈ outs ids M x, y ∈ ids) : TallOk (outs ids M) ids (compA ids M) := tall_is hclo (fun _ => Iff.rfl)
theorem compB_ok {ids : List Int} {M : Mat} (hclo : ∀ x ∈ ids, ∀ y ∈ outs ids M x, y ∈ ids) : TallOk (sortS ids M) ids (compB ids M) :=
  tall_is (fun x hx y hy => hclo x hx y (by simpa [mem_srt] using hy)) (fun x => by simp [mem_srt])

theorem fun_neq (W : World) : (binOp .eql 90 lexV .nilFunc).run Tryz.prog W = .ok (.bool false) W := by kernel_rfl
set_option maxRecDepth 100000 in
theorem fun_nil (W : World) : (binOp .eql 90 .nilFunc .nilFunc).run Tryz.prog W = .ok (.bool true) W := fnil_eql rfl W

set_option maxHeartbeats 1000000 in
set_option maxRecDepth 100000 in
theorem sort_any {p0 : Nat} {ids : List Int} {M : Mat} {w : World} (h : PlnR w p0 ids M) (hl : ids.length ≤ 1000) (ha : ids.Pairwise (· < ·)) (hclo : ∀ x ∈ ids, ∀ y ∈ outs ids M x, y ∈ ids) :
    Calls Tryz.prog 39 #[.iface dirT (dirV p0)] w (SdPost w (compA ids M).reverse w) := by
  have hnd : ids.Nodup := ha.imp (by intro a b h; omega)
  have hcall : Calls Tryz.prog 60 #[.iface dirT (dirV p0)] w (ListsPost (compA ids M).reverse w) := tarjanSCC_any h hl ha hclo
  have HOK := Lib.hid ((compA_ok hclo).comp hnd hl)
  clear h ha hclo hnd hl
  obtain ⟨L, hL⟩ : ∃ L, L = (compA ids M).reverse := ⟨_, rfl⟩
  rw [← hL] at hcall HOK ⊢
  clear hL
  go_enter Tryz.func39, Tryz.ntmps39
  go_wp2_with (first
    | (go_at_call 60; refine hcall.mono ?_; intro e w1 hp; obtain ⟨vo, vals, rfl, o1, o2, o3, o4⟩ := hp; have hs := sorted_lex HOK.out o1 o2 o3 o4; unfold SdPost at hs; replace o1 := Lib.hid o1)
    | (go_at_call 61; refine hs.mono ?_; intro e w2 hp; obtain ⟨v6, err, rfl, hp⟩ := hp; replace hp := Lib.hid hp))
  go_ret2
  exact ⟨v6, err, rfl, hp.out⟩

set_option maxHeartbeats 1000000 in
set_option maxRecDepth 100000 in
theorem sortSt_any {p0 : Nat} {ids : List Int} {M : Mat} {w : World} (h : PlnR w p0 ids M) (hl : ids.length ≤ 1000) (ha : ids.Pairwise (· < ·)) (hclo : ∀ x ∈ ids, ∀ y ∈ outs ids M x, y ∈ ids) :
    Calls Tryz.prog 41 #[.iface dirT (dirV p0), .nilFunc] w (SdPost w (compB ids M).reverse w) := by
  have hnd : ids.Nodup := ha.imp (by intro a b h; omega)
  have hcall : Calls Tryz.prog 64 #[.iface dirT (dirV p0), lexV] w (ListsPost (compB ids M).reverse w) :=
    tarjan_lex (K := srt) length_srt (fun l x => mem_srt) (fun W B e v l _ _ ho hl _ => by
      have h9 := lex_call ho hl
      exact h9) fun_neq h hl ha hclo
  have HOK := Lib.hid ((compB_ok hclo).comp hnd hl)
  clear h ha hclo hnd hl
  obtain ⟨L, hL⟩ : ∃ L, L = (compB ids M).reverse := ⟨_, rfl⟩
  rw [← hL] at hcall HOK ⊢
  clear hL
  have hfn := fun_nil
  go_enter Tryz.func41, Tryz.ntmps41
  go_wp2_with (first
    | (go_at_call 64; refine hcall.mono ?_; intro e w1 hp; obtain ⟨vo, vals, rfl, o1, o2, o3, o4⟩ := hp; have hs := sorted_lex HOK.out o1 o2 o3 o4; unfold SdPost at hs; replace o1 := Lib.hid o1)
    | (go_at_call 61; refine hs.mono ?_; intro e w2 hp; obtain ⟨v6, err, rfl, hp⟩ := hp; replace hp := Lib.hid hp))
  go_ret2
  exact ⟨v6, err, rfl, hp.out⟩
end Go.Proofs.YtdllkoiddlcnmaaGreat
