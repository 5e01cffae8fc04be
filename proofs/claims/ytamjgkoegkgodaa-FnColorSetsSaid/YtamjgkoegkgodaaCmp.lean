/- The closure that orders sets by their colour; slices.SortFunc over it. -/
import Derived.Test.YtamjgkoegkgodaaSort
namespace Go.Proofs.Ytamjgkoegkgodaa
open Go.RowKit Go.Sort Go.Shelf

theorem cmpInt (x y : Int) (w : World) : Calls Try.prog 19 #[.int .i64 x, .int .i64 y] w fun e w' => e = .returned (.int .i64 (Lib.compareInt x y)) ∧ w = w' :=
  (Any.cmp_Compare_int Try.lays122 x y w).mono fun _ _ ⟨h1, h2⟩ => ⟨h1, h2.symm⟩

set_option maxHeartbeats 400000 in
theorem compare_one' (b1 b2 : Nat) (x y c : Int) (hcon : ∀ w, Calls Try.prog 19 #[.int .i64 x, .int .i64 y] w fun e w' => e = .returned (.int .i64 c) ∧ w = w')
    (w : World) (h1 : w.cell? ⟨b1, 0, none⟩ = some (.int .i64 x)) (h2 : w.cell? ⟨b2, 0, none⟩ = some (.int .i64 y)) :
    Calls Try.prog 13 #[.slice (some ⟨b1, 0, none⟩) 1 1, .slice (some ⟨b2, 0, none⟩) 1 1] w fun e w' => e = .returned (.int .i64 c) ∧ w = w' := by
  by_cases hc : c = 0
  · subst hc
    go_enter Try.func13, Try.ntmps13
    go_wp2_with fail
    go_loop [5, 6, 7, 8, 11] (fun _ _ _ _ i => ∃ k : Nat, k ≤ 1 ∧ i = .int .i64 k) (fun _ _ _ _ i => 1 - (intOf i).toNat)
    case atStart => exact ⟨0, by omega, rfl⟩
    case round =>
      obtain ⟨k, hk, rfl⟩ := hrel
      by_cases hk0 : k = 0
      · subst hk0
        go_wp2_with (go_at_call 19; refine (hcon _).mono ?_; rintro e w' ⟨rfl, rfl⟩)
        exact ⟨⟨1, by omega, rfl⟩, by simp [intOf]⟩
      · obtain rfl : k = 1 := by omega
        go_wp2_with fail
        go_ret
        exact ⟨rfl, rfl⟩
  · have hc1 : (c != 0) = true := by simpa using hc
    go_enter Try.func13, Try.ntmps13
    go_wp2_with fail
    go_loop [5, 6, 7, 8, 11] (fun _ _ _ _ i => i = .int .i64 0) (fun _ _ _ _ i => 0)
    case atStart => rfl
    case round =>
      subst hrel
      go_wp2_with (go_at_call 19; refine (hcon _).mono ?_; rintro e w' ⟨rfl, rfl⟩)
      go_ret
      exact ⟨rfl, rfl⟩

theorem compare_one (b1 b2 : Nat) (x y : Int) (w : World) (h1 : w.cell? ⟨b1, 0, none⟩ = some (.int .i64 x)) (h2 : w.cell? ⟨b2, 0, none⟩ = some (.int .i64 y)) :
    Calls Try.prog 13 #[.slice (some ⟨b1, 0, none⟩) 1 1, .slice (some ⟨b2, 0, none⟩) 1 1] w fun e w' => e = .returned (.int .i64 (Lib.compareInt x y)) ∧ w = w' :=
  compare_one' b1 b2 x y _ (cmpInt x y) w h1 h2

/-- a set's cells: its colour, and the slice of its nodes -/
abbrev SetV := Int × (Option Addr × Nat × Nat)
def SetV.val (x : SetV) : Value := .slice x.2.1 x.2.2.1 x.2.2.2
def encSet (x : SetV) : List Value := [.int .i64 x.1, SetV.val x]
def cfSet (x y : SetV) : Int := Lib.compareInt x.1 y.1

def ClosPost (c : Int) (W : World) (e : Ending) (w' : World) : Prop := e = .returned (.int .i64 c) ∧ ∃ q os', w' = grow (W.drewN q) os'

set_option maxHeartbeats 400000 in
theorem closure_set (x y : SetV) (W : World) : Calls Try.prog 12 #[.agg #[.int .i64 x.1, x.val], .agg #[.int .i64 y.1, y.val]] W (ClosPost (cfSet x y) W) := by
  obtain ⟨a, u1, u2, u3⟩ := x
  obtain ⟨b, v1, v2, v3⟩ := y
  unfold SetV.val
  simp only []
  have hcon := fun b1 b2 => compare_one b1 b2 a b
  change ∀ b1 b2 w, _ → _ → Calls Try.prog 13 _ w fun e w' => e = .returned (.int .i64 (cfSet (a, u1, u2, u3) (b, v1, v2, v3))) ∧ w = w' at hcon
  generalize cfSet (a, u1, u2, u3) (b, v1, v2, v3) = c at hcon ⊢
  have HC := Lib.hid hcon
  clear hcon
  go_enter Try.func12, Try.ntmps12
  go_wp2_with fail
  refine (HC.out _ _ _ ?_ ?_).mono ?_
  · go_simp
  · go_simp
  rintro e w' ⟨rfl, rfl⟩
  go_wp2_with fail
  go_ret
  exact ⟨rfl, 0, _, by rw [alloc_eq_grow, alloc_eq_grow, alloc_eq_grow, alloc_eq_grow, grow_grow, grow_grow, grow_grow]; rfl⟩

theorem cmpLays_set (blk off size : Nat) (w : World) : CmpLays Try.prog 12 #[] encSet 2 cfSet blk off size w :=
  fun _ _ _ _ x y => closure_set x y _

theorem lt_set (x y : SetV) : ltOf cfSet x y = decide (x.1 < y.1) := by
  unfold ltOf cfSet Lib.compareInt
  by_cases h1 : x.1 < y.1
  · simp [h1]
  · by_cases h2 : y.1 < x.1 <;> simp [h1, h2]

theorem swo_set : SWO (ltOf cfSet) where
  irrefl x := by rw [lt_set]; simp
  trans x y z h1 h2 := by rw [lt_set] at *; simp at *; omega
  ntrans x y z h1 h2 := by rw [lt_set] at *; simp at *; omega

theorem pairwise_of_sorted {α : Type} [Inhabited α] {lt : α → α → Bool} {d : Array α} (h : SortedIn lt 0 d.size d) : d.toList.Pairwise (fun x y => lt y x = false) := by
  rw [List.pairwise_iff_getElem]
  intro i j hi hj hij
  have hj' : j < d.size := by simpa using hj
  have := h i j (Nat.zero_le _) hij hj'
  rw [getElem!_pos d j hj', getElem!_pos d i (by omega)] at this
  simpa using this

/-- slices.SortFunc over sets: the row holds a permutation, ascending by colours -/
theorem sortSets (w : World) (base : Nat) (v : Value) (l : List SetV) (hown : w.ownsRow base 31 2 v l.length (l.flatMap encSet)) (hx : l ≠ []) (hl : l.length ≤ 1000000) :
    Calls Try.prog 11 #[v, .func (.func 12) #[] #[]] w
      (fun e w' => e = .returned (.tuple #[]) ∧ ∃ l' : List SetV, l'.Perm l ∧ l'.Pairwise (fun x y => x.1 ≤ y.1) ∧ w'.ownsRow base 31 2 v l'.length (l'.flatMap encSet) ∧ w.grownBy w' v.ownBlock) := by
  obtain ⟨h1, h2⟩ := hown
  rcases h2 with ⟨_, h0⟩ | ⟨g, cap, cur, rfl, hbase, hb, hc1, hc2, hc3, ht⟩
  · exact absurd (List.eq_nil_of_length_eq_zero h0) hx
  · have hH := holdsK_of_row encSet 2 (by decide) (fun _ => rfl) hb ht
    have eg : ∀ args w, (callFunc 12 args).run Try.prog w = .ok (.enter 12 args) w := enters_of Try.func12 (by kernel_rfl) rfl
    have hcon := AnyQ.slices_SortFunc Try.sortSet 2 (fun w => by kernel_rfl) (fun w => by kernel_rfl) encSet (fun _ => rfl) (fun x v hv => by simp [encSet, SetV.val] at hv; rcases hv with rfl | rfl <;> rfl) cfSet swo_set 12 #[] g 0 cap l.toArray w eg (cmpLays_set _ _ _ _) hH (Array.getElem?_eq_some_iff.1 hb).1 (by simp; omega)
    refine hcon.mono ?_
    rintro e w' ⟨rfl, d', n, os, hp, hs, rfl⟩
    have hsz : d'.size = l.length := by simpa using hp.1
    have hperm : d'.toList.Perm l := by
      have := hp.2.2
      have e1 : d'.extract 0 l.toArray.size = d' := by rw [← hp.1]; simp
      rw [e1] at this
      simpa using this
    refine ⟨rfl, d'.toList, hperm, ?_, ?_, grownBy_sortedK _ _ _⟩
    · have hs' : SortedIn (ltOf cfSet) 0 d'.size d' := by rw [hp.1]; exact hs
      refine (pairwise_of_sorted hs').imp ?_
      intro x y hxy
      rw [lt_set] at hxy
      simpa using hxy
    · have := ownsRow_sortedK encSet 2 (by decide) (fun _ => rfl) (w := w) (n := n) (os := os) (d := d') (l := l) hsz hbase hb hc1 hc2 hc3
      rw [hperm.length_eq]
      exact this
end Go.Proofs.Ytamjgkoegkgodaa
