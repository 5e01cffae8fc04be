/- The laws' own: together. -/
import Derived.Test.YtcbkalppclilfaaGreatLe
namespace Go.Proofs.YtcbkalppclilfaaGreat
open Go.MapKept Go.RowKit

/-- v reads as lists of numbers -/
def RowsR (w : World) (v : Value) (L : List (List Int)) : Prop :=
  ∃ (a : Option Addr) (c : Nat) (vals : Nat → Value), v = .slice a L.length c ∧ (0 < L.length → ∃ b o, a = some ⟨b, o, none⟩ ∧ b < w.heap.size ∧ ∀ i, i < L.length → w.cell? ⟨b, o + i, none⟩ = some (vals i)) ∧ ∀ i, (h : i < L.length) → IntsR w (vals i) L[i]
theorem RowsR.grown {w w' : World} {v : Value} {L : List (List Int)} (h : RowsR w v L) (hg : w.grownBy w' none) : RowsR w' v L := by
  obtain ⟨a, c, vals, rfl, h1, h2⟩ := h
  refine ⟨a, c, vals, rfl, fun hl => ?_, fun i hi => (h2 i hi).grown hg⟩
  obtain ⟨b, o, rfl, hb, hc⟩ := h1 hl
  exact ⟨b, o, rfl, Nat.lt_of_lt_of_le hb hg.size, fun i hi => by rw [grown_cell hg hb (by simp)]; exact hc i hi⟩

/-- two numbers stand in one of the lists -/
def Tog (L : List (List Int)) (u v : Int) : Prop := ∃ c ∈ L, u ∈ c ∧ v ∈ c
instance (L : List (List Int)) (u v : Int) : Decidable (Tog L u v) := inferInstanceAs (Decidable (∃ c ∈ L, u ∈ c ∧ v ∈ c))

set_option maxHeartbeats 1000000 in
theorem together_any {L : List (List Int)} {u v : Int} {vl : Value} {w : World} (h : RowsR w vl L) (hl : L.length ≤ 1000000) (hc : ∀ c ∈ L, c.length ≤ 1000000) :
    Calls Tryz.prog 17 #[vl, .int .i64 u, .int .i64 v] w (fun e w' => e = .returned (.bool (decide (Tog L u v))) ∧ w' = w) := by
  obtain ⟨a, c, vals, rfl, h1, h2⟩ := h
  have H1 := Lib.hid h1
  have H2 := Lib.hid h2
  have HC := Lib.hid hc
  clear h1 h2 hc
  go_enter Tryz.func17, Tryz.ntmps17
  go_wp2
  go_loop [7] (fun i => ∃ k : Nat, k ≤ L.length ∧ i = .int .i64 k ∧ ∀ j, (h : j < L.length) → j < k → ¬ (u ∈ L[j] ∧ v ∈ L[j])) (fun i => L.length - (intOf i).toNat)
  case atStart => exact ⟨0, Nat.zero_le _, rfl, fun j h1 h2 => absurd h2 (by omega)⟩
  case round =>
    obtain ⟨k, hk, rfl, hno⟩ := hrel
    have HN := Lib.hid hno
    clear hno
    by_cases hlt : k < L.length
    · have hlt' : (k : Int) < L.length := by omega
      obtain ⟨b, o, rfl, hb, hcell⟩ := H1.out (by omega)
      have c1 := hcell k hlt
      have hu := has_any u (HC.out _ (List.getElem_mem hlt)) (H2.out k hlt)
      have hv := has_any v (HC.out _ (List.getElem_mem hlt)) (H2.out k hlt)
      obtain ⟨vk, hvk⟩ : ∃ vk, vk = vals k := ⟨_, rfl⟩
      rw [← hvk] at c1 hu hv
      obtain ⟨l, hl2⟩ : ∃ l, l = L[k] := ⟨_, rfl⟩
      rw [← hl2] at hu hv
      have HL := Lib.hid hl2
      clear hvk hl2 hcell
      by_cases t1 : u ∈ l
      · rw [decide_eq_true t1] at hu
        by_cases t2 : v ∈ l
        · rw [decide_eq_true t2] at hv
          have HT := Lib.hid (And.intro t1 t2)
          clear t1 t2
          go_wp2_with fail
          refine hu.mono ?_
          rintro e w' ⟨rfl, rfl⟩
          go_wp2_with fail
          refine hv.mono ?_
          rintro e w' ⟨rfl, rfl⟩
          go_wp2_with fail
          go_ret
          exact ⟨by rw [decide_eq_true (show Tog L u v from ⟨L[k], List.getElem_mem hlt, by rw [← HL.out]; exact HT.out⟩)]; rfl, rfl⟩
        · rw [decide_eq_false t2] at hv
          have HT := Lib.hid t2
          clear t1 t2
          go_wp2_with fail
          refine hu.mono ?_
          rintro e w' ⟨rfl, rfl⟩
          go_wp2_with fail
          refine hv.mono ?_
          rintro e w' ⟨rfl, rfl⟩
          go_wp2_with fail
          go_round
          case rel =>
            refine ⟨k + 1, by omega, by go_num, fun j h1 h2 => ?_⟩
            by_cases e : j = k
            · subst e; rw [← HL.out]; exact fun h => HT.out h.2
            · exact HN.out j h1 (by omega)
          case measure => simp [intOf]; omega
      · rw [decide_eq_false t1] at hu
        have HT := Lib.hid t1
        clear t1 hv
        go_wp2_with fail
        refine hu.mono ?_
        rintro e w' ⟨rfl, rfl⟩
        go_wp2_with fail
        go_round
        case rel =>
          refine ⟨k + 1, by omega, by go_num, fun j h1 h2 => ?_⟩
          by_cases e : j = k
          · subst e; rw [← HL.out]; exact fun h => HT.out h.1
          · exact HN.out j h1 (by omega)
        case measure => simp [intOf]; omega
    · have hlt' : ¬ (k : Int) < L.length := by omega
      go_wp2_with fail
      go_ret
      refine ⟨?_, rfl⟩
      have : ¬ Tog L u v := fun ⟨c, hc, h⟩ => by
        obtain ⟨j, hj, rfl⟩ := List.getElem_of_mem hc
        exact HN.out j hj (by omega) h
      rw [decide_eq_false this]
      rfl
end Go.Proofs.YtcbkalppclilfaaGreat
