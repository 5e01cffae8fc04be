/- slices.Equal at []Edge, at one list; the laws' own: sameGraph, at one graph. -/
import Derived.Test.YtcbkalppclilfaaGreatEr
import Derived.Test.YtcbkalppclilfaaGreatPa
import Derived.Laws.StructEq
namespace Go.Proofs.YtcbkalppclilfaaGreat
open Go.MapKept Go.RowKit

set_option maxHeartbeats 1000000 in
set_option maxRecDepth 100000 in
theorem equalE_same {E : List E3} {v1 v2 : Value} {w : World} (h1 : EdgesR w v1 E) (h2 : EdgesR w v2 E) (hl : E.length ≤ 1000000) :
    Calls Tryz.prog 27 #[v1, v2] w (fun e w' => e = .returned (.bool true) ∧ w.grownBy w' none) := by
  obtain ⟨a1, c1, rfl, h1⟩ := h1
  obtain ⟨a2, c2, rfl, h2⟩ := h2
  have H1 := Lib.hid h1
  have H2 := Lib.hid h2
  clear h1 h2
  go_enter Tryz.func27, Tryz.ntmps27
  go_wp2_with fail
  go_loopw [5, 13] (fun _ i wr => ∃ k : Nat, k ≤ E.length ∧ i = .int .i64 k ∧ w.grownBy wr none) (fun _ i _ => E.length - (intOf i).toNat)
  case atStart => exact ⟨0, Nat.zero_le _, rfl, grown_refl _⟩
  case round =>
    obtain ⟨k, hk, rfl, hg⟩ := hrel
    by_cases hlt : k < E.length
    · have hlt' : (k : Int) < E.length := by omega
      obtain ⟨b1, o1, rfl, hb1, q1⟩ := H1.out (by omega)
      obtain ⟨b2, o2, rfl, hb2, q2⟩ := H2.out (by omega)
      obtain ⟨q10, q11, q12⟩ := q1 k hlt
      obtain ⟨q20, q21, q22⟩ := q2 k hlt
      have m10 := (grown_cell hg hb1 (by simp)).trans q10
      have m11 := (grown_cell hg hb1 (by simp)).trans q11
      have m12 := (grown_cell hg hb1 (by simp)).trans q12
      have m20 := (grown_cell hg hb2 (by simp)).trans q20
      have m21 := (grown_cell hg hb2 (by simp)).trans q21
      have m22 := (grown_cell hg hb2 (by simp)).trans q22
      obtain ⟨e, he⟩ : ∃ e, e = E[k] := ⟨_, rfl⟩
      rw [← he] at m10 m11 m12 m20 m21 m22
      obtain ⟨x, y, z⟩ := e
      simp only at m10 m11 m12 m20 m21 m22
      have HG := Lib.hid hg
      clear hg he q1 q2 q10 q11 q12 q20 q21 q22
      go_wp2_with fail
      go_quiet (fail)
      go_wp2_with fail
      exact ⟨⟨k + 1, by omega, by go_num, grown_tr HG.out (grown_drewN _ _)⟩, by simp [intOf]; omega⟩
    · have hlt' : ¬ (k : Int) < E.length := by omega
      have HG := Lib.hid hg
      clear hg
      go_wp2_with fail
      go_ret
      exact ⟨rfl, HG.out⟩

set_option maxHeartbeats 1000000 in
set_option maxRecDepth 100000 in
theorem sameGraph_same {d : Bool} {ids : List Int} {E : List E3} {vn1 ve1 vn2 ve2 : Value} {w : World} (hn1 : IntsR w vn1 ids) (he1 : EdgesR w ve1 E) (hn2 : IntsR w vn2 ids) (he2 : EdgesR w ve2 E) (hl : ids.length ≤ 1000000) (hle : E.length ≤ 1000000) :
    Calls Tryz.prog 10 #[.agg #[.bool d, vn1, ve1], .agg #[.bool d, vn2, ve2]] w (fun e w' => e = .returned (.bool true) ∧ w.grownBy w' none) := by
  have heq := fun W hg => equal_same (w := W) (hn1.grown hg) (hn2.grown hg) hl
  have hee := fun W hg => equalE_same (w := W) (he1.grown hg) (he2.grown hg) hle
  obtain ⟨a1, c1, rfl, -⟩ := hn1
  obtain ⟨a2, c2, rfl, -⟩ := hn2
  obtain ⟨a3, c3, rfl, -⟩ := he1
  obtain ⟨a4, c4, rfl, -⟩ := he2
  obtain ⟨w0, hw0⟩ : ∃ w0, w0 = (w.alloc (.cells #[.bool d, .slice a1 ids.length c1, .slice a3 E.length c3] grT)).alloc (.cells #[.bool d, .slice a2 ids.length c2, .slice a4 E.length c4] grT) := ⟨_, rfl⟩
  have HW0 : Hid (w.grownBy w0 none ∧ (∀ W, w0.grownBy W none → W.cell? ⟨w.heap.size, 2, none⟩ = some (.slice a3 E.length c3) ∧ W.cell? ⟨w.heap.size + 1, 2, none⟩ = some (.slice a4 E.length c4))) := by
    rw [hw0]
    refine Lib.hid ⟨grown_tr (grown_alloc _ _) (grown_alloc _ _), fun W hW => ⟨?_, ?_⟩⟩
    · rw [box_at (grown_tr (grown_alloc _ _) hW) 2]; rfl
    · exact cell_at (grown_block hW (heap_alloc2 w _ _) (by simp))
  have h1 := heq w0 HW0.out.1
  rw [hw0] at h1
  clear heq
  cases d
  all_goals
    go_enter Tryz.func10, Tryz.ntmps10
    go_wp2_with (first
      | (go_at_call 26; refine h1.mono ?_; rintro e w1 ⟨rfl, hg1⟩; rw [← hw0] at hg1; obtain ⟨b1, b2⟩ := HW0.out.2 w1 hg1; have h2 := hee w1 (grown_tr HW0.out.1 hg1); clear h1)
      | (go_at_call 27; refine h2.mono ?_; rintro e w2 ⟨rfl, hg2⟩))
    go_ret
    exact ⟨rfl, grown_tr HW0.out.1 (grown_tr hg1 hg2)⟩
end Go.Proofs.YtcbkalppclilfaaGreat
