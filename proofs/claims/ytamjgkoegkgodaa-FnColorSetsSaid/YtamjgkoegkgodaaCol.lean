/- impl.colored: a list of pairs into a map. -/
import Derived.Test.YtamjgkoegkgodaaRows
import Derived.Test.YtamjgkoegkgodaaHp
import Derived.WalkKit
import Derived.Lib.Hide
import Derived.Carry
namespace Go.Proofs.Ytamjgkoegkgodaa
open Go.RowKit

/-- v is a slice that reads as a list of pairs of numbers -/
def PairsAt (w : World) (v : Value) (l : List (Int × Int)) : Prop :=
  (∃ a c, v = .slice a 0 c ∧ l = []) ∨ ∃ b off cap, v = .slice (some ⟨b, off, none⟩) l.length cap ∧ b < w.heap.size ∧
    ∀ i, (h : i < l.length) → w.cell? ⟨b, off + i * 2, none⟩ = some (.int .i64 l[i].1) ∧ w.cell? ⟨b, off + i * 2 + 1, none⟩ = some (.int .i64 l[i].2)

def colMap (l : List (Int × Int)) : Ents := l.foldl (fun m p => upd m p.1 (.int .i64 p.2)) []

theorem colMap_snoc (l : List (Int × Int)) (p : Int × Int) : colMap (l ++ [p]) = upd (colMap l) p.1 (.int .i64 p.2) := by
  simp [colMap]

def ColPost (l : List (Int × Int)) (w : World) (e : Ending) (w' : World) : Prop :=
  Below w.heap.size w w' ∧
      ((l = [] ∧ e = .returned (.tuple #[.map none, .bool true])) ∨
       (l ≠ [] ∧ ∃ b, e = .returned (.tuple #[.map (some b), .bool (((colMap l).length : Int) == (l.length : Int))]) ∧ MapIs w' b (colMap l) ∧ w.heap.size ≤ b))

set_option maxHeartbeats 400000 in
theorem colored_any (v : Value) (l : List (Int × Int)) (w : World) (hv : PairsAt w v l) (hm : l.length ≤ 100) :
    Calls Try.prog 9 #[v] w (ColPost l w) := by
  rcases hv with ⟨a, c, rfl, rfl⟩ | ⟨b, off, cap, rfl, hb, hc⟩
  · go_enter Try.func9, Try.ntmps9
    go_wp2
    go_ret2
    exact ⟨Below.refl _ _, .inl ⟨rfl, rfl⟩⟩
  · by_cases hl : l = []
    · subst hl
      go_enter Try.func9, Try.ntmps9
      go_wp2
      go_ret2
      exact ⟨Below.refl _ _, .inl ⟨rfl, rfl⟩⟩
    · have hmm := @run_makeMap Try.prog
      have hl0 : 0 < l.length := List.length_pos_iff.2 hl
      have hl1 : ((l.length : Int) == 0) = false := by simp; omega
      go_enter Try.func9, Try.ntmps9
      go_wp2_with fail
      have HC := Lib.hid hc
      clear hc hmm hl1
      go_loopw [13] (fun i wr => ∃ k : Nat, k ≤ l.length ∧ i = .int .i64 k ∧ MapIs wr w.heap.size (colMap (l.take k)) ∧ Below w.heap.size w wr) (fun i _ => l.length - (intOf i).toNat)
      case atStart => exact ⟨0, by omega, rfl, MapIs.made w, (Below.refl _ _).alloc (Nat.le_refl _) _⟩
      case round =>
        obtain ⟨k, hk, rfl, hmap, hbel⟩ := hrel
        by_cases hlt : k < l.length
        · obtain ⟨hc1, hc2⟩ := HC.out k hlt
          have hc1' : wr.cell? ⟨b, off + k * 2, none⟩ = some (.int .i64 l[k].1) := (hbel.cell (p := ⟨b, off + k * 2, none⟩) hb).trans hc1
          have hc2' : wr.cell? ⟨b, off + k * 2 + 1, none⟩ = some (.int .i64 l[k].2) := (hbel.cell (p := ⟨b, off + k * 2 + 1, none⟩) hb).trans hc2
          clear hc1 hc2
          go_wp2_with (at_mapUpdate; refine wpx_update _ rfl _ _ _ 36 rfl 2 3 Try.underlying36 Try.underlying2 _ _ _ _ rfl rfl rfl (hmap.alloc _) ?_; intro w1 hm1 hg1 hs1)
          go_roundw
          case rel =>
            refine ⟨k + 1, by omega, by go_num, ?_, ?_⟩
            · rw [List.take_succ_eq_append_getElem hlt, colMap_snoc]; exact hm1
            · exact (hbel.alloc hbel.size _).grown hg1 (by have := hbel.size; simp; omega) (by simp)
          case measure => simp [intOf]; omega
        · have hkl : k = l.length := by omega
          subst hkl
          rw [List.take_length] at hmap
          have hlen := run_len_is (P := Try.prog) hmap Try.underlying36
          go_wp2_with fail
          go_ret2
          exact ⟨hbel, .inr ⟨hl, _, rfl, hmap, Nat.le_refl _⟩⟩
end Go.Proofs.Ytamjgkoegkgodaa
