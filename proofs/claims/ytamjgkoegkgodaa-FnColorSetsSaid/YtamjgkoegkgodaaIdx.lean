/- spec.indexOf, and spec.putInt at nil. -/
import Derived.Test.YtamjgkoegkgodaaPut
namespace Go.Proofs.Ytamjgkoegkgodaa
open Go.RowKit

set_option maxHeartbeats 400000 in
theorem putInt_nil (B : Nat) (x : Int) (w : World) (hB : B ≤ w.heap.size) :
    Calls Try.prog 15 #[.slice none 0 0, .int .i64 x] w (PutPost B x [] w) := by
  go_enter Try.func15, Try.ntmps15
  go_wp2_with fail
  go_loop [5] (fun i => i = .int .i64 0) (fun i => 0)
  case atStart => rfl
  case round =>
    subst hrel
    have h0 : (w.alloc (.cells #[] 3)).ownsRow B 3 1 (.slice (some ⟨w.heap.size, 0, none⟩) 0 0) 0 [] := World.ownsRow_made w #[] 0 hB (by simp) rfl
    have h1 := World.ownsRow.alloc h0 (.cells #[.int .i64 x] 3)
    have hx := cells_new (w.alloc (.cells #[] 3)) [.int .i64 x] 3
    simp only [World.size_alloc] at hx
    go_wp2_with (first
      | (at_builtin; refine wpx_append elT29 _ rfl (.tmp 26) (.tmp 28) rfl B (.slice (some ⟨w.heap.size, 0, none⟩) 0 0) 0 [] rfl h1 ⟨w.heap.size + 1, 0, none⟩ 1 1 [.int .i64 x] rfl rfl hx (one_ints [x]) (by omega) (by unfold maxLen; omega) (by simp; omega) ?_; intro v1 w1 hown1 hg1 hnil1 hat1)
      | (at_builtin; refine wpx_append_none elT29 _ rfl (.tmp 30) (.tmp 33) rfl B v1 1 _ rfl hown1 rfl ?_))
    go_ret
    refine ⟨_, [x], rfl, List.Perm.refl _, fun _ => by simp, by simpa using hown1, ?_⟩
    exact grown_new (grown_new (World.grownBy_alloc w _ none) (World.grownBy_alloc _ _ none) (by simp)) hg1 (fun k hk => by simp [Value.ownBlock] at hk; omega)

/-- spec.indexOf: less than 0 just if the number is not there -/
def IdxPost (xs : List Int) (x : Int) (w : World) (e : Ending) (w' : World) : Prop := ∃ i : Int, e = .returned (.int .i64 i) ∧ (i < 0 ↔ x ∉ xs) ∧ -1 ≤ i ∧ i < xs.length ∧ w = w'

set_option maxHeartbeats 400000 in
theorem indexOf_some (x : Int) (xs : List Int) (g o cap : Nat) (w : World) (hl : xs.length ≤ 1000000000) (hc : ∀ j, (h : j < xs.length) → w.cell? ⟨g, o + j, none⟩ = some (.int .i64 xs[j])) :
    Calls Try.prog 14 #[.slice (some ⟨g, o, none⟩) xs.length cap, .int .i64 x] w (IdxPost xs x w) := by
  have HC := Lib.hid hc
  clear hc
  go_enter Try.func14, Try.ntmps14
  go_wp2
  go_loop [5, 6, 9] (fun _ _ i => ∃ k : Nat, k ≤ xs.length ∧ i = .int .i64 k ∧ ∀ j, (h : j < xs.length) → j < k → xs[j] ≠ x) (fun _ _ i => xs.length - (intOf i).toNat)
  case atStart => exact ⟨0, Nat.zero_le _, rfl, fun j _ h => absurd h (by omega)⟩
  case round =>
    obtain ⟨k, hk, rfl, hno⟩ := hrel
    have HN := Lib.hid hno
    clear hno
    by_cases hlt : k < xs.length
    · have hcell := HC.out k hlt
      obtain ⟨y, hy⟩ : ∃ y, y = xs[k] := ⟨_, rfl⟩
      rw [← hy] at hcell
      have HY := Lib.hid hy
      clear hy
      by_cases heq : y = x
      · have hb : (y == x) = true := by simpa using heq
        have HE := Lib.hid heq
        clear heq
        go_wp2_with fail
        go_ret
        exact ⟨k, rfl, ⟨fun h => by omega, fun h => absurd (by rw [← HE.out, HY.out]; exact List.getElem_mem hlt) h⟩, by omega, by omega, rfl⟩
      · have hb : (y == x) = false := by simpa using heq
        have HE := Lib.hid heq
        clear heq
        go_wp2_with fail
        go_round
        case rel =>
          refine ⟨k + 1, by omega, by go_num, fun j h h' => ?_⟩
          by_cases hj : j = k
          · subst hj; rw [← HY.out]; exact HE.out
          · exact HN.out j h (by omega)
        case measure => simp [intOf]; omega
    · have hkl : ¬ (k : Int) < xs.length := by omega
      go_wp2_with fail
      go_ret
      refine ⟨-1, rfl, ⟨fun _ h => ?_, fun _ => by omega⟩, by omega, by omega, rfl⟩
      obtain ⟨j, hj, e⟩ := List.getElem_of_mem h
      exact HN.out j hj (by omega) e

set_option maxHeartbeats 400000 in
theorem indexOf_nil (x : Int) (w : World) : Calls Try.prog 14 #[.slice none 0 0, .int .i64 x] w (IdxPost [] x w) := by
  go_enter Try.func14, Try.ntmps14
  go_wp2
  go_loop [5, 6, 9] (fun _ _ i => i = .int .i64 0) (fun _ _ i => 0)
  case atStart => rfl
  case round =>
    subst hrel
    go_wp2_with fail
    go_ret
    exact ⟨-1, rfl, by simp, by omega, by simp, rfl⟩

/-- both, of a row that is owned -/
theorem indexOf_own (x : Int) (xs : List Int) (B : Nat) (v : Value) (w : World) (hl : xs.length ≤ 1000000) (h : w.ownsRow B 3 1 v xs.length (xs.map (Value.int .i64))) :
    Calls Try.prog 14 #[v, .int .i64 x] w (IdxPost xs x w) := by
  rcases h.2 with ⟨rfl, h0⟩ | ⟨g, cap, cur, rfl, _⟩
  · obtain rfl := List.eq_nil_of_length_eq_zero h0
    exact indexOf_nil x w
  · refine indexOf_some x xs g 0 cap w (by omega) (fun j hj => ?_)
    have := h.cells (g := g) rfl j (.int .i64 xs[j]) (by simp [hj])
    rw [addr_add] at this
    exact this

theorem putInt_own (x : Int) (xs : List Int) (B : Nat) (v : Value) (w : World) (hl : xs.length ≤ 1000000) (hB : B ≤ w.heap.size) (h : w.ownsRow B 3 1 v xs.length (xs.map (Value.int .i64))) :
    Calls Try.prog 15 #[v, .int .i64 x] w (PutPost B x xs w) := by
  have hlt := h.lt
  rcases h.2 with ⟨rfl, h0⟩ | ⟨g, cap, cur, rfl, _, hg, hn, _⟩
  · obtain rfl := List.eq_nil_of_length_eq_zero h0
    exact putInt_nil B x w hB
  · refine putInt_some B x xs g cap w hl (fun j hj => ?_) hn hB (Array.getElem?_eq_some_iff.1 hg).1
    have := h.cells (g := g) rfl j (.int .i64 xs[j]) (by simp [hj])
    rw [addr_add, Nat.zero_add] at this
    exact this
end Go.Proofs.Ytamjgkoegkgodaa
