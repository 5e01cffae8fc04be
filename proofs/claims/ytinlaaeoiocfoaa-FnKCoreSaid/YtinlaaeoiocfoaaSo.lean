/- The library's sorts at []int and []int64, and slices.Clone, in the words of rows that are owned. -/
import Derived.Test.YtinlaaeoiocfoaaShelf
import Derived.Test.YtinlaaeoiocfoaaBa
import Derived.Test.YtinlaaeoiocfoaaHr
import Derived.Sort.OwnSortedInts
import Derived.Handy
import Derived.IntWalk
namespace Go.Proofs.Ytinlaaeoiocfoaa
open Go.RowKit Go.Sort Go.Shelf Go.MapKept

def SortPost (l : List Int) (base : Nat) (e : TypeId) (v : Value) (w : World) (en : Ending) (w' : World) : Prop :=
  en = .returned (.tuple #[]) ∧ w'.ownsRow base e 1 v l.length ((srt l).map (Value.int .i64)) ∧ w.grownBy w' v.ownBlock

theorem sort_i64 {l : List Int} {base : Nat} {e : TypeId} {v : Value} {w : World} (hown : w.ownsRow base e 1 v l.length (l.map (Value.int .i64))) (hl : l.length ≤ 1000000) :
    Calls Try.prog 25 #[v] w (SortPost l base e v w) := by
  by_cases h0 : l.length = 0
  · obtain rfl := List.eq_nil_of_length_eq_zero h0
    obtain ⟨a, c, rfl⟩ := own_slice hown
    refine (AnyM.slices_Sort_int_none Try.sortI64 a c w).mono ?_
    rintro en w' ⟨rfl, rfl⟩
    refine ⟨rfl, ?_, grown_any (grown_refl _) _⟩
    have : srt [] = [] := by simp [srt]
    rw [this]
    exact hown
  · obtain ⟨-, h | ⟨g, cap, cur, rfl, hbase, hb, hc1, hc2, hc3, ht⟩⟩ := hown
    · omega
    · have hH := holds_of_blockI hb (by simpa using ht)
      refine (AnyM.slices_Sort_int Try.sortI64 g 0 cap l w hH (Array.getElem?_eq_some_iff.1 hb).1 (by omega)).mono ?_
      rintro en w' ⟨rfl, n, os, rfl⟩
      refine ⟨rfl, ?_, grownBy_sortedI _⟩
      exact ownsRow_sortedI (by simp) hbase hb hc1 hc2 (by simpa using hc3)

def ClonePost (l : List Int) (w : World) (e : Ending) (w' : World) : Prop := ∃ v', e = .returned v' ∧ w'.ownsRow w.heap.size 2 1 v' l.length (l.map (Value.int .i64)) ∧ w.grownBy w' none

theorem elI64 : ElT Try.prog 67 2 1 8 (.int .i64 0) := ⟨Try.underlying67, by kernel_rfl, rfl, by decide⟩

theorem clone_i64 {l : List Int} {v : Value} {w : World} {base : Nat} {e : TypeId} (hown : w.ownsRow base e 1 v l.length (l.map (Value.int .i64))) (hl : l.length ≤ 1000000) : Calls Try.prog 27 #[v] w (ClonePost l w) := by
  obtain ⟨i0, h1i, h2, h3, h4⟩ := info_parts elI64.hi
  have hcs := fun g => hown.cells (g := g)
  obtain ⟨-, ⟨rfl, h0⟩ | ⟨g, cap, cur, rfl, -⟩⟩ := hown
  · obtain rfl := List.eq_nil_of_length_eq_zero h0
    refine (AnyE.slices_Clone_nil Try.cloneI64 0 0 w).mono ?_
    rintro e w' ⟨rfl, rfl⟩
    exact ⟨_, rfl, ⟨rfl, .inl ⟨rfl, rfl⟩⟩, grown_refl _⟩
  · refine (AnyE.slices_Clone Try.cloneI64 i0 _ 1 8 h1i h2 h3 h4 rfl (by decide) (fun w => by kernel_rfl) g 0 l.length cap (l.map (Value.int .i64)) w (by simp) (by unfold maxLen; omega) (by omega) (fun j u hj => ?_) (ints_one l)).mono ?_
    · have := hcs g rfl j u hj
      rwa [addr_add] at this
    · rintro e w' ⟨v', rfl, h1, _, h2⟩
      exact ⟨_, rfl, h1, Below.asGrown h2⟩

def SameRel (l : List Int) (w : World) (k : Value) (wr : World) : Prop := ∃ n : Nat, 1 ≤ n ∧ n ≤ max l.length 1 ∧ k = .int .i64 n ∧ w.grownBy wr none

set_option maxHeartbeats 400000 in
/-- slices.Compact where no number stands twice -/
theorem compact_asc {l : List Int} {v : Value} {w : World} (h : IntsR w v l) (ha : l.Pairwise (· < ·)) (hl : l.length ≤ 1000000) :
    Calls Try.prog 26 #[v] w (fun e w' => e = .returned v ∧ w.grownBy w' none) := by
  obtain ⟨a, c, rfl, h⟩ := h
  by_cases h2 : l.length < 2
  · have h2' : (l.length : Int) < 2 := by omega
    clear h
    go_enter Try.func26, Try.ntmps26
    go_wp2_with fail
    go_ret
    exact ⟨rfl, grown_refl _⟩
  · have h2' : ¬ (l.length : Int) < 2 := by omega
    obtain ⟨b, o, rfl, hb, hc⟩ := h (by omega)
    have HC := Lib.hid hc
    have HA := Lib.hid ha
    clear hc ha h
    go_enter Try.func26, Try.ntmps26
    go_wp2_with fail
    go_loopw [3] (fun k wr => SameRel l w k wr) (fun k _ => l.length - (intOf k).toNat)
    case atStart => exact ⟨1, by omega, by omega, rfl, grown_refl w⟩
    case round =>
      obtain ⟨k, hk1, hk, rfl, hg⟩ := hrel
      by_cases hlt : k < l.length
      · have hlt' : (k : Int) < l.length := by omega
        have c1 := (grown_cell hg hb (by simp)).trans (HC.out k hlt)
        have c2 := (grown_cell hg hb (by simp)).trans (HC.out (k - 1) (by omega))
        have hne : l[k] ≠ l[k - 1]'(by omega) := fun e => by
          have := List.pairwise_iff_getElem.1 HA.out (k - 1) k (by omega) hlt (by omega)
          omega
        obtain ⟨y, hy⟩ : ∃ y, y = l[k] := ⟨_, rfl⟩
        obtain ⟨z, hz⟩ : ∃ z, z = l[k - 1]'(by omega) := ⟨_, rfl⟩
        rw [← hy] at c1 hne
        rw [← hz] at c2 hne
        have hb2 : (y == z) = false := by rw [beq_eq_false_iff_ne]; exact hne
        clear hy hz hne
        go_wp2_with fail
        go_quiet (fail)
        go_wp2_with fail
        go_roundw
        case rel => exact ⟨k + 1, by omega, by omega, by go_num, grown_tr hg (grown_drewN _ _)⟩
        case measure => simp [intOf]; omega
      · have hlt' : ¬ (k : Int) < l.length := by omega
        go_wp2_with fail
        go_ret
        exact ⟨rfl, hg⟩
end Go.Proofs.Ytinlaaeoiocfoaa
