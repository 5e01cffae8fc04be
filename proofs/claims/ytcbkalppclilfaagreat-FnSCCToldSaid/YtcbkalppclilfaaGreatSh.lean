/- The reference's own: hasInt. -/
import Derived.Test.YtcbkalppclilfaaGreatLa
namespace Go.Proofs.YtcbkalppclilfaaGreat
open Go.MapKept Go.RowKit

set_option maxHeartbeats 1000000 in
theorem hasInt_any {l : List Int} (x : Int) {v : Value} {w : World} (h : IntsR w v l) (hl : l.length ≤ 1000000) :
    Calls Tryz.prog 39 #[v, .int .i64 x] w (fun e w' => e = .returned (.bool (decide (x ∈ l))) ∧ w = w') := by
  obtain ⟨a, c, rfl, h⟩ := h
  have HR := Lib.hid h
  clear h
  go_enter Tryz.func39, Tryz.ntmps39
  go_wp2_with fail
  go_loop [6, 9] (fun _ i => ∃ k : Nat, k ≤ l.length ∧ i = .int .i64 k ∧ ∀ j, (h : j < l.length) → j < k → l[j] ≠ x) (fun _ i => l.length - (intOf i).toNat)
  case atStart => exact ⟨0, Nat.zero_le _, rfl, fun j h1 h2 => absurd h2 (by omega)⟩
  case round =>
    obtain ⟨k, hk, rfl, hno⟩ := hrel
    have HN := Lib.hid hno
    clear hno
    by_cases hlt : k < l.length
    · have hlt' : (k : Int) < l.length := by omega
      obtain ⟨b, o, rfl, hb, hcell⟩ := HR.out (by omega)
      have c1 := hcell k hlt
      obtain ⟨y, hy⟩ : ∃ y, y = l[k] := ⟨_, rfl⟩
      rw [← hy] at c1
      have HY := Lib.hid hy
      clear hcell hy
      by_cases e : y = x
      · have hb1 : (y == x) = true := by simpa using e
        have HE := Lib.hid e
        clear e
        go_wp2_with fail
        go_ret
        have hm : x ∈ l := by rw [← HE.out, HY.out]; exact List.getElem_mem hlt
        exact ⟨by rw [decide_eq_true hm]; rfl, rfl⟩
      · have hb1 : (y == x) = false := by simpa using e
        have HE := Lib.hid e
        clear e
        go_wp2_with fail
        go_round
        case rel =>
          refine ⟨k + 1, by omega, by go_num, fun j h1 h2 => ?_⟩
          by_cases e2 : j = k
          · subst e2; rw [← HY.out]; exact HE.out
          · exact HN.out j h1 (by omega)
        case measure => simp [intOf]; omega
    · have hlt' : ¬ (k : Int) < l.length := by omega
      go_wp2_with fail
      go_ret
      have hm : x ∉ l := fun hx => by
        obtain ⟨j, hj, e⟩ := List.getElem_of_mem hx
        exact HN.out j hj (by omega) e
      exact ⟨by rw [decide_eq_false hm]; rfl, rfl⟩
end Go.Proofs.YtcbkalppclilfaaGreat
