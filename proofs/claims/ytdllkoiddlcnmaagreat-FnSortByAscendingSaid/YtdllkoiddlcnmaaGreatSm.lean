/- The laws' own: sameLists, at one list of lists. -/
import Derived.Test.YtdllkoiddlcnmaaGreatLl
import Derived.Lib.SliceRun
namespace Go.Proofs.YtdllkoiddlcnmaaGreat
open Go.MapKept Go.RowKit

abbrev eqV : Value := .func (.func 16) #[] #[]

def EfRel (n : Nat) (w : World) (i : Value) (wr : World) : Prop := ∃ k : Nat, k ≤ n ∧ i = .int .i64 k ∧ w.grownBy wr none

set_option maxHeartbeats 1000000 in
set_option maxRecDepth 100000 in
theorem equalFunc_same {L : List (List Int)} {v1 v2 : Value} {w : World} (h1 : RowsR w v1 L) (h2 : RowsR w v2 L) (hl : L.length ≤ 1000000) (hc : ∀ c ∈ L, c.length ≤ 1000000) :
    Calls Tryz.prog 49 #[v1, v2, eqV] w (fun e w' => e = .returned (.bool true) ∧ w.grownBy w' none) := by
  obtain ⟨a1, c1, vals1, rfl, h1, k1⟩ := h1
  obtain ⟨a2, c2, vals2, rfl, h2, k2⟩ := h2
  have HE : Hid (∀ W, w.grownBy W none → ∀ i, (h : i < L.length) → Calls Tryz.prog 16 #[vals1 i, vals2 i] W (fun e w' => e = .returned (.bool true) ∧ W.grownBy w' none)) :=
    Lib.hid (fun W hW i h => equal_same ((k1 i h).grown hW) ((k2 i h).grown hW) (hc _ (List.getElem_mem h)))
  have H1 := Lib.hid h1
  have H2 := Lib.hid h2
  obtain ⟨n, hn⟩ : ∃ n, n = L.length := ⟨_, rfl⟩
  rw [← hn] at HE H1 H2 hl ⊢
  clear h1 h2 k1 k2 hc hn
  go_enter Tryz.func49, Tryz.ntmps49
  go_wp2_with fail
  go_loopw [7, 8, 9, 17] (fun _ _ _ i wr => EfRel n w i wr) (fun _ _ _ i _ => n - (intOf i).toNat)
  case atStart => exact ⟨0, Nat.zero_le _, rfl, grown_refl _⟩
  case round =>
    obtain ⟨k, hk, rfl, hg⟩ := hrel
    by_cases hlt : k < n
    · have hlt' : (k : Int) < n := by omega
      obtain ⟨b1, o1, rfl, hb1, q1⟩ := H1.out (by omega)
      obtain ⟨b2, o2, rfl, hb2, q2⟩ := H2.out (by omega)
      have m1 := (grown_cell hg hb1 (by simp)).trans (q1 k hlt)
      have m2 := (grown_cell hg hb2 (by simp)).trans (q2 k hlt)
      have hcall := HE.out wr hg k hlt
      obtain ⟨x, hx⟩ : ∃ x, x = vals1 k := ⟨_, rfl⟩
      obtain ⟨y, hy⟩ : ∃ y, y = vals2 k := ⟨_, rfl⟩
      rw [← hx] at m1 hcall
      rw [← hy] at m2 hcall
      have HG := Lib.hid hg
      clear hx hy hg q1 q2
      go_wp2_with (go_at_call 16; refine hcall.mono ?_; rintro e w3 ⟨rfl, hg3⟩)
      go_roundw
      case rel => exact ⟨k + 1, by omega, by go_num, grown_tr HG.out hg3⟩
      case measure => simp [intOf]; omega
    · have hlt' : ¬ (k : Int) < n := by omega
      have HG := Lib.hid hg
      clear hg
      go_wp2_with fail
      go_ret
      exact ⟨rfl, HG.out⟩

theorem sameLists_same {L : List (List Int)} {v1 v2 : Value} {w : World} (h1 : RowsR w v1 L) (h2 : RowsR w v2 L) (hl : L.length ≤ 1000000) (hc : ∀ c ∈ L, c.length ≤ 1000000) :
    Calls Tryz.prog 25 #[v1, v2] w (fun e w' => e = .returned (.bool true) ∧ w.grownBy w' none) := by
  have hcall := equalFunc_same h1 h2 hl hc
  obtain ⟨a1, c1, vals1, rfl, -⟩ := h1
  obtain ⟨a2, c2, vals2, rfl, -⟩ := h2
  go_enter Tryz.func25, Tryz.ntmps25
  go_wp2_with (go_at_call 49; refine hcall.mono ?_; rintro e w3 ⟨rfl, hg3⟩)
  go_ret
  exact ⟨rfl, hg3⟩
end Go.Proofs.YtdllkoiddlcnmaaGreat
