/- The laws' own: rising. -/
import Derived.Test.YtinlaaeoiocfoaaLa
namespace Go.Proofs.Ytinlaaeoiocfoaa
open Go.RowKit

def RisPost (l : List Int) (w : World) (e : Ending) (w' : World) : Prop := e = .returned (.bool (decide (l.Pairwise (· < ·)))) ∧ w.grownBy w' none

def RisRel (l : List Int) (w : World) (i : Value) (wr : World) : Prop := ∃ k : Nat, 1 ≤ k ∧ k ≤ max l.length 1 ∧ i = .int .i64 k ∧ w.grownBy wr none ∧ ∀ j, (h : j + 1 < l.length) → j + 1 < k → l[j] < l[j + 1]

set_option maxHeartbeats 400000 in
theorem rising_some (l : List Int) (g o cap : Nat) (w : World) (hl : l.length ≤ 1000000) (hg : g < w.heap.size) (hc : ∀ j, (h : j < l.length) → w.cell? ⟨g, o + j, none⟩ = some (.int .i64 l[j])) :
    Calls Try.prog 23 #[.slice (some ⟨g, o, none⟩) l.length cap] w (RisPost l w) := by
  have HC := Lib.hid hc
  clear hc
  go_enter Try.func23, Try.ntmps23
  go_wp2
  go_loopw [3] (fun i wr => RisRel l w i wr) (fun i _ => l.length - (intOf i).toNat)
  case atStart => exact ⟨1, by omega, by omega, rfl, grown_refl w, fun j h1 h2 => absurd h2 (by omega)⟩
  case round =>
    obtain ⟨k, hk1, hk, rfl, hgw, hno⟩ := hrel
    have HN := Lib.hid hno
    clear hno
    by_cases hlt : k < l.length
    · have hcell : wr.cell? ⟨g, o + k, none⟩ = some (.int .i64 l[k]) := (grown_cell hgw hg (by simp)).trans (HC.out k hlt)
      have hcell2 : wr.cell? ⟨g, o + (k - 1), none⟩ = some (.int .i64 (l[k - 1]'(by omega))) := (grown_cell hgw hg (by simp)).trans (HC.out (k - 1) (by omega))
      obtain ⟨y, hy⟩ : ∃ y, y = l[k] := ⟨_, rfl⟩
      obtain ⟨z, hz⟩ : ∃ z, z = l[k - 1]'(by omega) := ⟨_, rfl⟩
      rw [← hy] at hcell
      rw [← hz] at hcell2
      have HY := Lib.hid (And.intro hy hz)
      clear hy hz
      by_cases heq : z ≥ y
      · have hb : decide (z ≥ y) = true := by simpa using heq
        have HE := Lib.hid heq
        clear heq
        go_wp2_with fail
        go_quiet (fail)
        go_wp2_with fail
        go_ret
        obtain ⟨hy, hz⟩ := HY.out
        refine ⟨?_, grown_tr hgw (grown_drewN _ _)⟩
        have : ¬ l.Pairwise (· < ·) := fun hp => by
          have := List.pairwise_iff_getElem.1 hp (k - 1) k (by omega) hlt (by omega)
          have := HE.out
          omega
        simp [this]
      · have hb : decide (z ≥ y) = false := by simpa using heq
        have HE := Lib.hid heq
        clear heq
        go_wp2_with fail
        go_quiet (fail)
        go_wp2_with fail
        go_roundw
        case rel =>
          refine ⟨k + 1, by omega, by omega, by go_num, grown_tr hgw (grown_drewN _ _), fun j h h' => ?_⟩
          by_cases hj : j + 1 = k
          · obtain ⟨hy, hz⟩ := HY.out
            have hE := HE.out
            subst hj
            simp only [Nat.add_sub_cancel] at hz
            rw [← hy, ← hz]; omega
          · exact HN.out j h (by omega)
        case measure => simp [intOf]; omega
    · have hkl : ¬ (k : Int) < l.length := by omega
      go_wp2_with fail
      go_ret
      refine ⟨?_, hgw⟩
      have : l.Pairwise (· < ·) := rising_pairwise (fun j hj => HN.out j hj (by omega))
      simp [this]

set_option maxHeartbeats 400000 in
theorem rising_nil (a : Option Addr) (cap : Nat) (w : World) :
    Calls Try.prog 23 #[.slice a 0 cap] w (RisPost [] w) := by
  go_enter Try.func23, Try.ntmps23
  go_wp2
  go_loopw [3] (fun i wr => i = .int .i64 1 ∧ wr = w) (fun _ _ => 0)
  case atStart => exact ⟨rfl, rfl⟩
  case round =>
    obtain ⟨rfl, rfl⟩ := hrel
    go_wp2_with fail
    go_ret
    exact ⟨rfl, grown_refl _⟩

theorem rising_any {l : List Int} {v : Value} {w : World} (hl : l.length ≤ 1000000) (h : IntsR w v l) : Calls Try.prog 23 #[v] w (RisPost l w) := by
  obtain ⟨a, c, rfl, h⟩ := h
  by_cases h0 : l.length = 0
  · obtain rfl := List.eq_nil_of_length_eq_zero h0
    exact rising_nil a c w
  · obtain ⟨b, o, rfl, hb, hc⟩ := h (by omega)
    exact rising_some l b o c w hl hb hc
end Go.Proofs.Ytinlaaeoiocfoaa
