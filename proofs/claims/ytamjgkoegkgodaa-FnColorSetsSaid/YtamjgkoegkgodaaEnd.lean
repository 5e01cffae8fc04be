/- FnColorSets: a nil slice, a long one; the row. -/
import Derived.Test.YtamjgkoegkgodaaLaw
import Derived.ProofKit
import Derived.OpenShut
import Derived.ShutString
import Derived.ChangeOld
import Derived.Deep.SlicePairs
namespace Go.Proofs.Ytamjgkoegkgodaa
open Go.RowKit

set_option maxHeartbeats 400000 in
theorem colorSets_nil (a : Option Addr) (c : Nat) (w : World) : Calls Try.prog 6 #[.slice a 0 c] w (SpecPost [] w) := by
  go_enter Try.func6, Try.ntmps6
  go_wp2_with fail
  go_loopw [3, 14] (fun v i wr => v = .slice none 0 0 ∧ i = .int .i64 0 ∧ wr = w) (fun _ i _ => 0)
  case atStart => exact ⟨rfl, rfl, rfl⟩
  case round =>
    obtain ⟨rfl, rfl, rfl⟩ := hrel
    go_wp2_with fail
    obtain ⟨w1, rfl⟩ : ∃ w1 : World, w1 = wr := ⟨_, rfl⟩
    go_loopw [6, 8, 9, 11, 30, 38] (fun v _ _ _ i _ wr => v = .slice none 0 0 ∧ i = .int .i64 0 ∧ wr = w1) (fun _ _ _ _ i _ _ => 0)
    case atStart => exact ⟨rfl, rfl, rfl⟩
    case round =>
      obtain ⟨rfl, rfl, rfl⟩ := hrel
      go_wp2_with fail
      go_ret
      exact ⟨_, [], rfl, by simp, by simp, World.ownsRow_nil _ _ _ _, by simp, Below.refl _ _⟩

set_option maxHeartbeats 400000 in
theorem law_long (v : Option Addr) (n c : Nat) (w : World) (h : 100 < n) (h2 : n ≤ 9223372036854775807) : Calls Try.prog 3 #[.slice v n c] w (TrueBelow w) := by
  by_cases hbig : 2147483647 < n
  · go_enter Try.func3, Try.ntmps3
    go_wp2_with fail
    go_ret
    exact ⟨rfl, Below.refl _ _⟩
  · go_enter Try.func3, Try.ntmps3
    go_wp2_with fail
    go_ret
    exact ⟨rfl, Below.refl _ _⟩

set_option maxHeartbeats 1000000 in
theorem law_nil (a : Option Addr) (c : Nat) (w : World) : Calls Try.prog 3 #[.slice a 0 c] w (TrueBelow w) := by
  have hsets := implSets_any (.slice a 0 c) [] w (.inl ⟨a, c, rfl, rfl⟩) (by simp)
  go_enter Try.func3, Try.ntmps3
  go_wp2_with fail
  go_loopw [3, 4, 5] (fun t i _ wr => t = .bool false ∧ i = .int .i64 0 ∧ wr = w) (fun _ i _ _ => 0)
  case atStart => exact ⟨rfl, rfl, rfl⟩
  case round =>
    obtain ⟨rfl, rfl, rfl⟩ := hrel
    go_wp2_with fail
    refine hsets.mono ?_
    rintro e w1 ⟨hb1, ⟨hn, _⟩ | ⟨_, v, rfl, hgood⟩⟩
    · exact absurd (by simp) hn
    have hone : PairsAt (w1.alloc (.cells #[.int .i64 3, .int .i64 5] 24)) (.slice (some ⟨w1.heap.size, 0, none⟩) 1 1) [(3, 5)] :=
      .inr ⟨w1.heap.size, 0, 1, rfl, by simp, fun i h => by
        obtain rfl : i = 0 := by simpa using h
        exact ⟨by simp, by simp⟩⟩
    have hsets1 := implSets_any _ [(3, 5)] _ hone (by simp)
    have HB1 := Lib.hid (And.intro hb1 hgood)
    clear hb1 hgood hone hsets
    go_wp2_with fail
    refine hsets1.mono ?_
    rintro e w2 ⟨hb2, ⟨hn2, _⟩ | ⟨_, v2, rfl, hgood2⟩⟩
    · exact absurd (by simp) hn2
    obtain ⟨a2, c2, rfl⟩ := good_one hgood2
    obtain ⟨hb1, hgood⟩ := HB1.out
    have h2 : Below wr.heap.size wr w2 := (hb1.alloc hb1.size _).trans (hb2.mono (by simp; have := hb1.size; omega))
    have hg12 : w1.grownBy w2 none := grown_new (World.grownBy_alloc _ _ none) (Below.asGrown hb2) (by simp)
    have hcs := colorSets_nil a c w2
    have HH := Lib.hid (And.intro h2 (And.intro hg12 hgood))
    clear hb1 h2 hb2 hg12 hgood hgood2 HB1 hsets1
    go_wp2_with fail
    refine hcs.mono ?_
    rintro e w3 ⟨u, l2, rfl, k2, p2, o2, n2, hb3⟩
    obtain ⟨h2, hg12, hgood⟩ := HH.out
    have h3 : Below wr.heap.size wr w3 := h2.trans (hb3.mono h2.size)
    obtain ⟨l1, hal⟩ := alike_of (w2 := w2) hgood (grown_new hg12 (Below.asGrown hb3) (by simp)) k2 p2 o2 n2
    have hle : l1.length = l2.length := by have := congrArg List.length hal.eq; simpa using this
    have hl2 : l2 = [] := by
      cases l2 with
      | nil => rfl
      | cons x t => have := (k2 x.1).1 (by simp); simp at this
    have heq : Calls Try.prog 5 #[v, u, .func (.func 7) #[] #[]] w3 (TrueNew w3) := by
      have e1 := hal.o1
      have e2 := hal.o2
      rw [hle, hl2] at e1
      rw [hl2] at e2
      obtain ⟨a1, c1, rfl⟩ := own_len e1
      obtain ⟨a2', c2', rfl⟩ := own_len e2
      exact equalFunc_nil _ _ _ _ _ _
    have H3 := Lib.hid h3
    clear hal hle h2 h3 hg12 hgood hb3 hcs hl2 k2 p2 o2 n2
    go_wp2_with fail
    refine heq.mono ?_
    rintro e w4 ⟨rfl, hg4⟩
    have H4 := Lib.hid hg4
    clear hg4 heq
    go_wp2_with fail
    go_ret
    exact ⟨rfl, H3.out.trans ((grown_below H4.out).mono H3.out.size)⟩
end Go.Proofs.Ytamjgkoegkgodaa
