/- slices.Equal, the law's closure, slices.EqualFunc. -/
import Derived.Test.YtamjgkoegkgodaaSpec
import Derived.BigQuiet
import Derived.Deep.QuietTactic
namespace Go.Proofs.Ytamjgkoegkgodaa
open Go.RowKit

theorem equal_own (B1 B2 : Nat) (u v : Value) (zs : List Int) (w : World) (hl : zs.length ≤ 1000000) (h1 : w.ownsRow B1 3 1 u zs.length (zs.map (Value.int .i64))) (h2 : w.ownsRow B2 3 1 v zs.length (zs.map (Value.int .i64))) :
    Calls Try.prog 8 #[u, v] w fun e w' => e = .returned (.bool true) ∧ w.grownBy w' none := by
  have hd : ∀ q, w.grownBy (w.drewN q) none := fun q => ⟨rfl, rfl, rfl, Nat.le_refl _, fun _ _ _ => rfl⟩
  rcases row_reads h1 with ⟨rfl, rfl⟩ | ⟨g1, c1, rfl, _, _, hc1⟩
  · rcases row_reads h2 with ⟨rfl, _⟩ | ⟨g2, c2, rfl, _, _, hc2⟩
    · refine (Any.slices_Equal_int_empty Try.lays111 none none 0 0 0 w (by omega)).mono ?_
      rintro e w' ⟨rfl, rfl⟩
      exact ⟨rfl, hd 0⟩
    · refine (Any.slices_Equal_int_empty Try.lays111 none _ 0 0 c2 w (by omega)).mono ?_
      rintro e w' ⟨rfl, rfl⟩
      exact ⟨rfl, hd 0⟩
  · rcases row_reads h2 with ⟨rfl, rfl⟩ | ⟨g2, c2, rfl, _, _, hc2⟩
    · refine (Any.slices_Equal_int_empty Try.lays111 _ none c1 0 0 w (by omega)).mono ?_
      rintro e w' ⟨rfl, rfl⟩
      exact ⟨rfl, hd 0⟩
    · refine (Any.slices_Equal_int Try.lays111 g1 0 zs.length c1 g2 0 zs.length c2 zs zs w (Nat.le_refl _) (Nat.le_refl _) (by omega) (by omega) (fun j hj => ?_) (fun j hj => ?_)).mono ?_
      · rw [Nat.zero_add, hc1 j hj]; simp [hj]
      · rw [Nat.zero_add, hc2 j hj]; simp [hj]
      · rintro e w' ⟨rfl, q, rfl⟩
        exact ⟨by simp, hd q⟩

def TrueNew (w : World) (e : Ending) (w' : World) : Prop := e = .returned (.bool true) ∧ w.grownBy w' none

set_option maxHeartbeats 400000 in
theorem closEq (B1 B2 : Nat) (c : Int) (a1 a2 : Option Addr) (n1 k1 n2 k2 : Nat) (zs : List Int) (w : World) (hl : zs.length ≤ 1000000)
    (h1 : w.ownsRow B1 3 1 (.slice a1 n1 k1) zs.length (zs.map (Value.int .i64))) (h2 : w.ownsRow B2 3 1 (.slice a2 n2 k2) zs.length (zs.map (Value.int .i64))) :
    Calls Try.prog 7 #[.agg #[.int .i64 c, .slice a1 n1 k1], .agg #[.int .i64 c, .slice a2 n2 k2]] w (TrueNew w) := by
  have hcon := fun w' (hg : w.grownBy w' none) => equal_own B1 B2 _ _ zs w' hl (own_new h1 hg) (own_new h2 hg)
  have HC := Lib.hid hcon
  clear hcon
  go_enter Try.func7, Try.ntmps7
  go_wp2_with fail
  have hgA : w.grownBy ((w.alloc (.cells #[.int .i64 c, .slice a1 n1 k1] 31)).alloc (.cells #[.int .i64 c, .slice a2 n2 k2] 31)) none :=
    grown_new (World.grownBy_alloc _ _ none) (World.grownBy_alloc _ _ none) (by simp)
  refine (HC.out _ hgA).mono ?_
  rintro e w' ⟨rfl, hg⟩
  have HG := Lib.hid (grown_new hgA hg (by simp))
  clear hg hgA
  go_wp2_with fail
  go_ret
  exact ⟨rfl, HG.out⟩

/-- two rows of sets that read alike -/
structure Alike2 (w : World) (B1 B2 : Nat) (v1 v2 : Value) (l1 l2 : List SetV) (zs : Int → List Int) : Prop where
  o1 : w.ownsRow B1 31 2 v1 l1.length (l1.flatMap encSet)
  o2 : w.ownsRow B2 31 2 v2 l2.length (l2.flatMap encSet)
  eq : l1.map (·.1) = l2.map (·.1)
  n1 : ∀ x ∈ l1, NodesOf w B1 x (zs x.1)
  n2 : ∀ x ∈ l2, NodesOf w B2 x (zs x.1)

theorem set_cells {w : World} {B : Nat} {v : Value} {l : List SetV} (h : w.ownsRow B 31 2 v l.length (l.flatMap encSet)) (hl : l ≠ []) :
    ∃ g cap, v = .slice (some ⟨g, 0, none⟩) l.length cap ∧ g < w.heap.size ∧ ∀ j, (hj : j < l.length) → w.cell? ⟨g, j * 2, none⟩ = some (.int .i64 l[j].1) ∧ w.cell? ⟨g, j * 2 + 1, none⟩ = some l[j].val := by
  rcases h.2 with ⟨_, h0⟩ | ⟨g, cap, cur, rfl, hb, hg, hn, _⟩
  · exact absurd (List.eq_nil_of_length_eq_zero h0) hl
  · refine ⟨g, cap, rfl, (Array.getElem?_eq_some_iff.1 hg).1, fun j hj => ?_⟩
    have hc := h.cells (g := g) rfl
    have e0 := hc (j * 2) (.int .i64 l[j].1) (by
      rw [flat_get encSet 2 (by decide) (fun _ => rfl), show j * 2 / 2 = j by omega, show j * 2 % 2 = 0 by omega, List.getElem?_eq_getElem hj]; rfl)
    have e1 := hc (j * 2 + 1) l[j].val (by
      rw [flat_get encSet 2 (by decide) (fun _ => rfl), show (j * 2 + 1) / 2 = j by omega, show (j * 2 + 1) % 2 = 1 by omega, List.getElem?_eq_getElem hj]; rfl)
    rw [addr_add, Nat.zero_add] at e0 e1
    exact ⟨e0, e1⟩

set_option maxHeartbeats 400000 in
theorem equalFunc_nil (a1 a2 : Option Addr) (c1 c2 : Nat) (f : Value) (w : World) :
    Calls Try.prog 5 #[.slice a1 0 c1, .slice a2 0 c2, f] w (TrueNew w) := by
  go_enter Try.func5, Try.ntmps5
  go_wp2_with fail
  go_loop [7, 8, 9, 17] (fun _ _ _ i => i = .int .i64 0) (fun _ _ _ i => 0)
  case atStart => rfl
  case round =>
    subst hrel
    go_wp2_with fail
    go_ret
    exact ⟨rfl, rfl, rfl, rfl, Nat.le_refl _, fun _ _ _ => rfl⟩

set_option maxHeartbeats 1000000 in
theorem equalFunc_some (w : World) (B1 B2 : Nat) (v1 v2 : Value) (l1 l2 : List SetV) (zs : Int → List Int) (hz : ∀ c, (zs c).length ≤ 1000000) (H : Alike2 w B1 B2 v1 v2 l1 l2 zs) (hl : l1 ≠ []) (hlen : l1.length ≤ 1000000) :
    Calls Try.prog 5 #[v1, v2, .func (.func 7) #[] #[]] w (TrueNew w) := by
  have hlen2 : l2.length = l1.length := by have := congrArg List.length H.eq; simpa using this.symm
  have hl2 : l2 ≠ [] := by intro h; rw [h] at hlen2; exact hl (List.eq_nil_of_length_eq_zero (by simpa using hlen2.symm))
  obtain ⟨g1, c1, rfl, hg1, hc1⟩ := set_cells H.o1 hl
  obtain ⟨g2, c2, rfl, hg2, hc2⟩ := set_cells H.o2 hl2
  have HH := Lib.hid (And.intro H (And.intro hc1 hc2))
  obtain ⟨n, hn⟩ : ∃ n, n = l1.length := ⟨_, rfl⟩
  rw [hlen2, ← hn]
  rw [← hn] at hlen
  have HN := Lib.hid (And.intro hn hlen2)
  clear H hc1 hc2 hn hlen2
  go_enter Try.func5, Try.ntmps5
  go_wp2_with fail
  go_loopw [7, 8, 9, 17] (fun _ _ _ i wr => ∃ k : Nat, k ≤ n ∧ i = .int .i64 k ∧ w.grownBy wr none) (fun _ _ _ i _ => n - (intOf i).toNat)
  case atStart => exact ⟨0, by omega, rfl, rfl, rfl, rfl, Nat.le_refl _, fun _ _ _ => rfl⟩
  case round =>
    obtain ⟨k, hk, rfl, hg⟩ := hrel
    by_cases hlt : k < n
    · obtain ⟨hn, hlen2⟩ := HN.out
      obtain ⟨H, hc1, hc2⟩ := HH.out
      have hk1 : k < l1.length := by omega
      have hk2 : k < l2.length := by omega
      obtain ⟨ha0, ha1⟩ := hc1 k hk1
      obtain ⟨hb0, hb1⟩ := hc2 k hk2
      rw [← grown_cell hg hg1 (by simp)] at ha0 ha1
      rw [← grown_cell hg hg2 (by simp)] at hb0 hb1
      have hcol : l1[k].1 = l2[k].1 := by
        have h1 : (l1.map (·.1))[k]? = some l1[k].1 := by simp [hk1]
        have h2 : (l2.map (·.1))[k]? = some l2[k].1 := by simp [hk2]
        rw [H.eq, h2] at h1
        exact (Option.some.inj h1).symm
      have hn1 := own_new (H.n1 _ (List.getElem_mem hk1)) hg
      have hn2 := own_new (H.n2 _ (List.getElem_mem hk2)) hg
      rw [← hcol] at hb0 hn2
      generalize l1[k] = x at ha0 ha1 hb0 hn1 hn2
      generalize l2[k] = y at hb1 hn2
      obtain ⟨c, xa, xn, xc⟩ := x
      obtain ⟨cy, ya, yn, yc⟩ := y
      unfold SetV.val at ha1 hb1 hn1 hn2
      simp only [] at ha0 ha1 hb0 hb1 hn1 hn2
      have hcon := fun w' (hg' : wr.grownBy w' none) => closEq B1 B2 c xa ya xn xc yn yc (zs c) w' (hz c) (own_new hn1 hg') (own_new hn2 hg')
      have HC := Lib.hid hcon
      have HG := Lib.hid hg
      have h1r : g1 < wr.heap.size := Nat.lt_of_lt_of_le hg1 hg.size
      have h2r : g2 < wr.heap.size := Nat.lt_of_lt_of_le hg2 hg.size
      clear hn hlen2 H hc1 hc2 hcol hn1 hn2 hcon hg hz hl hl2
      go_wp2_with fail
      have hgA : wr.grownBy ((wr.alloc (.cells #[.int .i64 c, .slice xa xn xc] 31)).alloc (.cells #[.int .i64 c, .slice ya yn yc] 31)) none :=
        grown_new (World.grownBy_alloc _ _ none) (World.grownBy_alloc _ _ none) (by simp)
      refine (HC.out _ hgA).mono ?_
      rintro e w' ⟨rfl, hg'⟩
      have HW := Lib.hid (grown_new hgA hg' (by simp))
      clear hg' hgA
      go_wp2_with fail
      go_roundw
      case rel => exact ⟨k + 1, by omega, by go_num, grown_new HG.out HW.out (by simp)⟩
      case measure => simp [intOf]; omega
    · obtain rfl : k = n := by omega
      go_wp2_with fail
      go_ret
      exact ⟨rfl, hg⟩
end Go.Proofs.Ytamjgkoegkgodaa
