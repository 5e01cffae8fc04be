/- The laws' own small functions: index, has, rising, zzFits1. -/
import Derived.Test.YtinlaaeoiocfoaaRe
import Derived.Test.YtinlaaeoiocfoaaPi
import Derived.Test.YtinlaaeoiocfoaaShelf
namespace Go.Proofs.Ytinlaaeoiocfoaa
open Go.RowKit

/-- where a number stands first; -1: nowhere -/
def idx (l : List Int) (x : Int) : Int := if x ∈ l then ((ix l x : Nat) : Int) else -1
theorem idx_nonneg {l : List Int} {x : Int} : 0 ≤ idx l x ↔ x ∈ l := by
  unfold idx; split <;> simp_all <;> omega
theorem idx_mem {l : List Int} {x : Int} (h : x ∈ l) : idx l x = ((ix l x : Nat) : Int) := by simp [idx, h]

theorem idx_at {l : List Int} {x : Int} {n : Nat} (hn : n < l.length) (h : ∀ j, (h : j < l.length) → j < n → l[j] ≠ x) (e : l[n] = x) : idx l x = n := by
  have hm : x ∈ l := e ▸ List.getElem_mem hn
  rw [idx_mem hm]
  have h1 := ix_lt hm
  have h2 := ix_get hm
  have h3 : ¬ ix l x < n := fun h3 => h _ h1 h3 h2
  have h4 : ¬ n < ix l x := fun h4 => by
    have := List.not_of_lt_findIdx (p := fun y => y == x) (xs := l) (i := n) h4
    simp [e] at this
  omega

set_option maxHeartbeats 400000 in
theorem index_some (x : Int) (l : List Int) (g o cap : Nat) (w : World) (hl : l.length ≤ 1000000) (hc : ∀ j, (h : j < l.length) → w.cell? ⟨g, o + j, none⟩ = some (.int .i64 l[j])) :
    Calls Try.prog 18 #[.slice (some ⟨g, o, none⟩) l.length cap, .int .i64 x] w (fun e w' => e = .returned (.int .i64 (idx l x)) ∧ w' = w) := by
  have HC := Lib.hid hc
  clear hc
  go_enter Try.func18, Try.ntmps18
  go_wp2
  go_loop [5] (fun i => ∃ k : Nat, k ≤ l.length ∧ i = .int .i64 k ∧ ∀ j, (h : j < l.length) → j < k → l[j] ≠ x) (fun i => l.length - (intOf i).toNat)
  case atStart => exact ⟨0, Nat.zero_le _, rfl, fun j _ h => absurd h (by omega)⟩
  case round =>
    obtain ⟨k, hk, rfl, hno⟩ := hrel
    have HN := Lib.hid hno
    clear hno
    by_cases hlt : k < l.length
    · have hcell := HC.out k hlt
      obtain ⟨y, hy⟩ : ∃ y, y = l[k] := ⟨_, rfl⟩
      rw [← hy] at hcell
      have HY := Lib.hid hy
      clear hy
      by_cases heq : y = x
      · have hb : (y == x) = true := by simpa using heq
        have HE := Lib.hid heq
        clear heq
        go_wp2_with fail
        go_ret
        refine ⟨?_, rfl⟩
        rw [idx_at hlt HN.out (HY.out ▸ HE.out)]
        rfl
      · have hb : (y == x) = false := by simpa using heq
        have HE := Lib.hid heq
        clear heq
        go_wp2_with fail
        go_round
        case rel =>
          refine ⟨k + 1, by omega, by go_num, fun j h h' => ?_⟩
          by_cases hj : j = k
          · subst hj; rw [← HY.out]; exact HE.out
          · exact HN.out j h (by omega)
        case measure => simp [intOf]; omega
    · have hkl : ¬ (k : Int) < l.length := by omega
      go_wp2_with fail
      go_ret
      refine ⟨?_, rfl⟩
      have : x ∉ l := fun h => by
        obtain ⟨j, hj, e⟩ := List.getElem_of_mem h
        exact HN.out j hj (by omega) e
      simp [idx, this]

set_option maxHeartbeats 400000 in
theorem index_nil (x : Int) (a : Option Addr) (cap : Nat) (w : World) :
    Calls Try.prog 18 #[.slice a 0 cap, .int .i64 x] w (fun e w' => e = .returned (.int .i64 (idx [] x)) ∧ w' = w) := by
  go_enter Try.func18, Try.ntmps18
  go_wp2
  go_loop [5] (fun i => i = .int .i64 0) (fun _ => 0)
  case atStart => rfl
  case round =>
    subst hrel
    go_wp2_with fail
    go_ret
    exact ⟨rfl, rfl⟩

theorem index_any (x : Int) {l : List Int} {v : Value} {w : World} (hl : l.length ≤ 1000000) (h : IntsR w v l) :
    Calls Try.prog 18 #[v, .int .i64 x] w (fun e w' => e = .returned (.int .i64 (idx l x)) ∧ w' = w) := by
  obtain ⟨a, c, rfl, h⟩ := h
  by_cases h0 : l.length = 0
  · obtain rfl := List.eq_nil_of_length_eq_zero h0
    exact index_nil x a c w
  · obtain ⟨b, o, rfl, _, hc⟩ := h (by omega)
    exact index_some x l b o c w hl hc

set_option maxHeartbeats 400000 in
theorem has_any (x : Int) {l : List Int} {v : Value} {w : World} (hl : l.length ≤ 1000000) (h : IntsR w v l) :
    Calls Try.prog 24 #[v, .int .i64 x] w (fun e w' => e = .returned (.bool (decide (x ∈ l))) ∧ w' = w) := by
  have hcall := index_any x hl h
  have hd : decide (idx l x ≥ 0) = decide (x ∈ l) := by rw [Bool.eq_iff_iff, decide_eq_true_eq, decide_eq_true_eq]; exact idx_nonneg
  obtain ⟨i, hi⟩ : ∃ i, i = idx l x := ⟨_, rfl⟩
  rw [← hi] at hcall hd
  obtain ⟨d, hdd⟩ : ∃ d, d = decide (x ∈ l) := ⟨_, rfl⟩
  rw [← hdd] at hd ⊢
  clear hdd hi h
  go_enter Try.func24, Try.ntmps24
  go_wp2_with (go_at_call 18; refine hcall.mono ?_; rintro e w' ⟨rfl, rfl⟩)
  go_ret
  exact ⟨rfl, rfl⟩
end Go.Proofs.Ytinlaaeoiocfoaa
