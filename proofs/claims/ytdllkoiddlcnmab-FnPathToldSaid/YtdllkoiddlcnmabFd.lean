/- (*plain).find: the edge from a node to another one. -/
import Derived.Test.YtdllkoiddlcnmabUn
import Derived.Test.YtdllkoiddlcnmabRe
namespace Go.Proofs.Ytdllkoiddlcnmab
open Go.MapKept Go.RowKit

/-- whether an edge leads from u to v -/
def edgeB (ids : List Int) (M : Mat) (u v : Int) : Bool := decide (u ∈ ids) && decide (v ∈ ids) && (M (ix ids u) (ix ids v)).isSome
theorem edgeB_iff {ids : List Int} {M : Mat} {u v : Int} : edgeB ids M u v = true ↔ edgeOf ids M u v := by
  unfold edgeB edgeOf
  simp only [Bool.and_eq_true, decide_eq_true_eq, and_assoc]
theorem edgeB_out {ids : List Int} {M : Mat} {u v : Int} (h : ¬(u ∈ ids ∧ v ∈ ids)) : edgeB ids M u v = false := by
  cases e : edgeB ids M u v with
  | false => rfl
  | true => exact absurd ⟨(edgeB_iff.1 e).1, (edgeB_iff.1 e).2.1⟩ h

def FindPost (ids : List Int) (M : Mat) (u v : Int) (w : World) (e : Ending) (w' : World) : Prop :=
  ∃ tg z : Nat, e = .returned (.tuple #[.agg #[.int .i64 tg, .float .f64 z], .bool (edgeB ids M u v)]) ∧ (edgeB ids M u v = true → tg = ix ids v ∧ ∃ c, M (ix ids u) (ix ids v) = some c ∧ z = fltB c) ∧ w.grownBy w' none

theorem arcs_found {n : Nat} {f : Nat → Option Int} {k m : Nat} (hk : k < n) (h : At (arcsOf n f) k m) : (∃ hm : m < (arcsOf n f).length, (arcsOf n f)[m].1 = k) ↔ (f k).isSome = true := by
  rw [← h.found (arcsOf_asc n f), Option.isSome_iff_exists]
  constructor
  · rintro ⟨z, hz⟩
    exact ⟨z, (arcsOf_mem.1 hz).2⟩
  · rintro ⟨z, hz⟩
    exact ⟨z, arcsOf_mem.2 ⟨hk, hz⟩⟩

theorem find_index {p0 : Nat} {ids : List Int} {M : Mat} {w : World} (h : PlnR w p0 ids M) (hl : ids.length ≤ 1000) (ha : ids.Pairwise (· < ·)) (x : Int) :
    Calls Try.prog 18 #[.pointer (some ⟨p0, 0, none⟩), .int .i64 x] w (fun e w' => ∃ m : Int, (x ∈ ids → m = ix ids x) ∧ e = .returned (.tuple #[.int .i64 m, .bool (decide (x ∈ ids))]) ∧ w = w') := by
  obtain ⟨vids, hc, hint, hp⟩ := h.ids
  exact (plain_index (x := x) hc hint ha (by omega)).mono (fun e w' ⟨m, h1, h2, h3⟩ => ⟨m, fun hx => by rw [(h1 hx).1], h2, h3.symm⟩)

set_option maxHeartbeats 1000000 in
set_option maxRecDepth 100000 in
theorem find_out {p0 : Nat} {ids : List Int} {M : Mat} {w : World} {u v : Int} (h : PlnR w p0 ids M) (hl : ids.length ≤ 1000) (ha : ids.Pairwise (· < ·)) (ho : ¬(u ∈ ids ∧ v ∈ ids)) :
    Calls Try.prog 89 #[.pointer (some ⟨p0, 0, none⟩), .int .i64 u, .int .i64 v] w (FindPost ids M u v w) := by
  have hu := fun O => find_index (h.grown (grown_alloc w O)) hl ha u
  have hv := fun O => find_index (h.grown (grown_alloc w O)) hl ha v
  have he := edgeB_out (M := M) ho
  unfold FindPost
  rw [he]
  obtain ⟨x, hx⟩ : ∃ x, x = decide (u ∈ ids) := ⟨_, rfl⟩
  obtain ⟨y, hy⟩ : ∃ y, y = decide (v ∈ ids) := ⟨_, rfl⟩
  have hxy : x = false ∨ y = false := by
    rw [hx, hy]
    rcases Classical.em (u ∈ ids) with h1 | h1
    · exact .inr (decide_eq_false fun h2 => ho ⟨h1, h2⟩)
    · exact .inl (decide_eq_false h1)
  rw [← hx] at hu
  rw [← hy] at hv
  have hst := fun (W : World) (a : Addr) (b : Nat) => run_store Try.prog W a (.float .f64 b) .plain rfl
  clear h ha ho he hx hy hl
  cases x <;> cases y
  case true.true => rcases hxy with h | h <;> cases h
  all_goals
    clear hxy
    go_enter Try.func89, Try.ntmps89
    go_wp2_with (first
      | (go_at_call 18; refine (hu _).mono ?_; rintro e w' ⟨m1, -, rfl, rfl⟩; clear hu)
      | (go_at_call 18; refine (hv _).mono ?_; rintro e w' ⟨m2, -, rfl, rfl⟩; clear hv))
    refine bodyPost_ret (v := .tuple #[.agg #[.int .i64 0, .float .f64 0], .bool false]) (by simp [results, Try.results89, go_sem]) rfl ⟨0, 0, rfl, fun h => absurd h (by simp), ?_⟩
    exact Below.asGrown (by go_grown)

theorem edgeB_in {ids : List Int} {M : Mat} {u v : Int} (hu : u ∈ ids) (hv : v ∈ ids) : edgeB ids M u v = (M (ix ids u) (ix ids v)).isSome := by
  unfold edgeB
  rw [decide_eq_true hu, decide_eq_true hv]
  rfl


set_option maxHeartbeats 1000000 in
set_option maxRecDepth 100000 in
theorem find_in {p0 : Nat} {ids : List Int} {M : Mat} {w : World} {u v : Int} (h : PlnR w p0 ids M) (hl : ids.length ≤ 1000) (ha : ids.Pairwise (· < ·)) (hu : u ∈ ids) (hv : v ∈ ids) :
    Calls Try.prog 89 #[.pointer (some ⟨p0, 0, none⟩), .int .i64 u, .int .i64 v] w (FindPost ids M u v w) := by
  have hix := ix_lt hu
  have hkx := ix_lt hv
  obtain ⟨Ro, vr, h1, h2, h3, hro⟩ := h.row hix
  obtain ⟨vids, -, -, hp⟩ := h.ids
  have hxu : ∀ O, Calls Try.prog 18 #[.pointer (some ⟨p0, 0, none⟩), .int .i64 u] (w.alloc O) (fun e w' => e = .returned (.tuple #[.int .i64 ((ix ids u : Nat) : Int), .bool true]) ∧ w.alloc O = w') := fun O =>
    (find_index (h.grown (grown_alloc w O)) hl ha u).mono (fun e w' ⟨m, h1, h2, h3⟩ => ⟨by rw [h2, h1 hu, decide_eq_true hu], h3⟩)
  have hxv : ∀ O, Calls Try.prog 18 #[.pointer (some ⟨p0, 0, none⟩), .int .i64 v] (w.alloc O) (fun e w' => e = .returned (.tuple #[.int .i64 ((ix ids v : Nat) : Int), .bool true]) ∧ w.alloc O = w') := fun O =>
    (find_index (h.grown (grown_alloc w O)) hl ha v).mono (fun e w' ⟨m, h1, h2, h3⟩ => ⟨by rw [h2, h1 hv, decide_eq_true hv], h3⟩)
  have hll := length_arcsOf ids.length (M (ix ids u))
  have hbs : ∀ O q, _ := fun O q => bs_find (arcsOf ids.length (M (ix ids u))) (ix ids v) vr ((w.alloc O).drewN q) (h3.grown (grown_tr (grown_alloc w O) (grown_drewN _ q))) (arcsOf_asc _ _) (by omega) (by omega) (fun p hp => by have := (arcsOf_mem.1 hp).1; omega)
  have he := edgeB_in (M := M) hu hv
  have hfd := fun m => arcs_found (f := M (ix ids u)) (m := m) hkx
  unfold FindPost
  rw [he]
  obtain ⟨i, hi⟩ : ∃ i, i = ix ids u := ⟨_, rfl⟩
  obtain ⟨k, hk⟩ : ∃ k, k = ix ids v := ⟨_, rfl⟩
  rw [← hi] at hix hxu hbs h2 h3 hfd hll ⊢
  rw [← hk] at hkx hxv hbs hfd ⊢
  obtain ⟨L, hL⟩ : ∃ L, L = arcsOf ids.length (M i) := ⟨_, rfl⟩
  rw [← hL] at h3 hbs hfd hll
  have HM := Lib.hid (fun (z : Int) (hz : (k, z) ∈ L) => by rw [hL] at hz; exact (arcsOf_mem.1 hz).2 : ∀ z : Int, (k, z) ∈ L → M i k = some z)
  obtain ⟨n, hn⟩ : ∃ n, n = ids.length := ⟨_, rfl⟩
  rw [← hn] at hix h1 hll hl
  obtain ⟨ar, cr, rfl, h3c⟩ := h3
  have HC : Hid (∀ W, w.grownBy W none → W.cell? ⟨p0, 1, none⟩ = some (.slice (some ⟨Ro, 0, none⟩) n n) ∧ W.cell? ⟨Ro, i, none⟩ = some (.slice ar L.length cr)) := Lib.hid (fun W hW => ⟨(grown_cell hW hp (by simp)).trans h1, (grown_cell hW hro (by simp)).trans h2⟩)
  have HA : Hid (0 < L.length → ∃ b o, ar = some ⟨b, o, none⟩ ∧ ∀ W, w.grownBy W none → ∀ j, (hj : j < L.length) → W.cell? ⟨b, o + j * 2, none⟩ = some (.int .i64 L[j].1) ∧ W.cell? ⟨b, o + j * 2 + 1, none⟩ = some (flt L[j].2)) := Lib.hid (fun h0 => by
    obtain ⟨b, o, rfl, hb, hc⟩ := h3c h0
    exact ⟨b, o, rfl, fun W hW j hj => ⟨(grown_cell hW hb (by simp)).trans (hc j hj).1, (grown_cell hW hb (by simp)).trans (hc j hj).2⟩⟩)
  have HBX : Hid (∀ w2, (w.alloc (.cells #[.int .i64 0, .float .f64 0] arcT)).grownBy w2 none → w2.heap[w.heap.size]? = some (.cells #[.int .i64 0, .float .f64 0] arcT (0, 0)) ∧ w.grownBy w2 none) := Lib.hid (fun w2 hg => ⟨grown_block hg (heap_alloc_new w _) (by simp), grown_tr (grown_alloc _ _) hg⟩)
  have d1 : ∀ O, (w.alloc O).cell? ⟨p0, 1, none⟩ = some (.slice (some ⟨Ro, 0, none⟩) n n) := fun O => (HC.out _ (grown_alloc w O)).1
  have d2 : ∀ O, (w.alloc O).cell? ⟨Ro, i, none⟩ = some (.slice ar L.length cr) := fun O => (HC.out _ (grown_alloc w O)).2
  have HBS := Lib.hid hbs
  have HFD := Lib.hid hfd
  have hi0 : (0 : Int) ≤ i := by omega
  have hi1 : (i : Int) < n := by omega
  clear h ha hu hv h1 h2 h3c he hL hbs hfd hi hk hn hkx hix
  go_enter Try.func89, Try.ntmps89
  go_wp2_with (first
    | (go_at_call 18; refine (hxu _).mono ?_; rintro e w' ⟨rfl, rfl⟩; clear hxu)
    | (go_at_call 18; refine (hxv _).mono ?_; rintro e w' ⟨rfl, rfl⟩; clear hxv))
  have HBS0 : Hid (∀ O, Calls Try.prog 48 #[.slice ar L.length cr, .int .i64 k, .func (.func 92) #[] #[]] (w.alloc O) (BsPost L k (w.alloc O))) := Lib.hid (fun O => HBS.out O 0)
  clear HBS
  have hst := fun (W : World) (a : Addr) (b : Nat) => run_store Try.prog W a (.float .f64 b) .plain rfl
  refine (HBS0.out _).mono ?_
  intro e w2 hp
  obtain ⟨m, hat, rfl, hg2⟩ := hp
  have hfd := HFD.out m hat
  obtain ⟨hbx, hgw⟩ := HBX.out w2 hg2
  by_cases hm : ∃ hm : m < L.length, L[m].1 = k
  case neg =>
    rw [decide_eq_false hm]
    have hno : (M i k).isSome = false := by rw [Bool.eq_false_iff]; exact fun h => hm (hfd.2 h)
    have b0 : w2.cell? ⟨w.heap.size, 0, none⟩ = some (.int .i64 0) := cell_at hbx
    have b1 : w2.cell? ⟨w.heap.size, 1, none⟩ = some (.float .f64 0) := cell_at hbx
    have f0 : w2.frozen? ⟨w.heap.size, 0, none⟩ = false := free_at hbx
    have f1 : w2.frozen? ⟨w.heap.size, 1, none⟩ = false := free_at hbx
    have HG := Lib.hid (And.intro hbx (And.intro hgw hno))
    clear hm hno hfd hat hbx hgw hg2 HBS0 HFD
    go_wp2_with fail
    obtain ⟨hbx, hgw, hno⟩ := HG.out
    have hb2 := block_set (block_set hbx 0 (.int .i64 0)) 1 (.float .f64 0)
    have c0 : ((w2.setCell ⟨w.heap.size, 0, none⟩ (.int .i64 0)).setCell ⟨w.heap.size, 1, none⟩ (.float .f64 0)).cell? ⟨w.heap.size, 0, none⟩ = some (.int .i64 0) := cell_at hb2
    have c1 : ((w2.setCell ⟨w.heap.size, 0, none⟩ (.int .i64 0)).setCell ⟨w.heap.size, 1, none⟩ (.float .f64 0)).cell? ⟨w.heap.size, 1, none⟩ = some (.float .f64 0) := cell_at hb2
    refine bodyPost_ret (v := .tuple #[.agg #[.int .i64 0, .float .f64 0], .bool false]) (by simp [results, Try.results89, go_sem, c0, c1]) rfl ⟨0, 0, by rw [hno]; rfl, fun h => absurd h (by rw [hno]; simp), ?_⟩
    exact grown_new hgw (grown_row (grown_setCell w2 w.heap.size 0 _) (grown_setCell _ w.heap.size 1 _) (fun k hk => by cases hk; exact .inl rfl)) (fun k hk => by cases hk; omega)
  case pos =>
    rw [decide_eq_true hm]
    have hyes : (M i k).isSome = true := hfd.1 hm
    obtain ⟨hml, hmk⟩ := hm
    obtain ⟨b, o, rfl, hcc⟩ := HA.out (by omega)
    obtain ⟨e1, e2⟩ := HC.out w2 hgw
    obtain ⟨k1, k2⟩ := hcc w2 hgw m hml
    rw [hmk] at k1
    have hmem : (k, L[m].2) ∈ L := by rw [← hmk]; exact List.getElem_mem hml
    obtain ⟨z, hz⟩ : ∃ z, z = L[m].2 := ⟨_, rfl⟩
    rw [← hz] at k2 hmem
    have hMk := HM.out z hmem
    have b0 : w2.cell? ⟨w.heap.size, 0, none⟩ = some (.int .i64 0) := cell_at hbx
    have f0 : w2.frozen? ⟨w.heap.size, 0, none⟩ = false := free_at hbx
    have hb1 := block_set hbx 0 (.int .i64 k)
    have b1 : (w2.setCell ⟨w.heap.size, 0, none⟩ (.int .i64 k)).cell? ⟨w.heap.size, 1, none⟩ = some (.float .f64 0) := cell_at hb1
    have f1 : (w2.setCell ⟨w.heap.size, 0, none⟩ (.int .i64 k)).frozen? ⟨w.heap.size, 1, none⟩ = false := free_at hb1
    have hm0 : (0 : Int) ≤ m := by omega
    have hm1 : (m : Int) < L.length := by omega
    have HG := Lib.hid (And.intro hbx (And.intro hgw (And.intro hyes hMk)))
    clear hyes hfd hat hbx hgw hg2 HBS0 HFD hcc hmk hmem hz hMk hb1 HM
    go_wp2_with fail
    obtain ⟨hbx, hgw, hyes, hMk⟩ := HG.out
    have hb2 := block_set (block_set hbx 0 (.int .i64 k)) 1 (flt z)
    have c0 : ((w2.setCell ⟨w.heap.size, 0, none⟩ (.int .i64 k)).setCell ⟨w.heap.size, 1, none⟩ (flt z)).cell? ⟨w.heap.size, 0, none⟩ = some (.int .i64 k) := cell_at hb2
    have c1 : ((w2.setCell ⟨w.heap.size, 0, none⟩ (.int .i64 k)).setCell ⟨w.heap.size, 1, none⟩ (flt z)).cell? ⟨w.heap.size, 1, none⟩ = some (flt z) := cell_at hb2
    refine bodyPost_ret (v := .tuple #[.agg #[.int .i64 k, flt z], .bool true]) (by simp [results, Try.results89, go_sem, c0, c1]) rfl ⟨k, fltB z, by rw [hyes], fun _ => ⟨rfl, z, hMk, rfl⟩, ?_⟩
    exact grown_new hgw (grown_row (grown_setCell w2 w.heap.size 0 _) (grown_setCell _ w.heap.size 1 _) (fun k hk => by cases hk; exact .inl rfl)) (fun k hk => by cases hk; omega)

theorem find_any {p0 : Nat} {ids : List Int} {M : Mat} {w : World} {u v : Int} (h : PlnR w p0 ids M) (hl : ids.length ≤ 1000) (ha : ids.Pairwise (· < ·)) :
    Calls Try.prog 89 #[.pointer (some ⟨p0, 0, none⟩), .int .i64 u, .int .i64 v] w (FindPost ids M u v w) := by
  by_cases ho : u ∈ ids ∧ v ∈ ids
  · exact find_in h hl ha ho.1 ho.2
  · exact find_out h hl ha ho
end Go.Proofs.Ytdllkoiddlcnmab
