/- The laws' own: before (lexical order). -/
import Derived.Test.YtcbkalppclilfaaGreatLd
import Derived.Test.YtcbkalppclilfaaGreatPj
namespace Go.Proofs.YtcbkalppclilfaaGreat
open Go.MapKept Go.RowKit

def BePost (a b : List Int) (w : World) (e : Ending) (w' : World) : Prop := e = .returned (.bool (lexB a b)) ∧ w.grownBy w' none
def BeRel (a b : List Int) (w : World) (i : Value) (wr : World) : Prop :=
  ∃ k : Nat, k ≤ a.length ∧ k ≤ b.length ∧ i = .int .i64 k ∧ (∀ j, (h1 : j < a.length) → (h2 : j < b.length) → j < k → a[j] = b[j]) ∧ w.grownBy wr none

set_option maxHeartbeats 2000000 in
theorem before_any {a b : List Int} {va vb : Value} {w : World} (ha : IntsR w va a) (hb : IntsR w vb b) (hla : a.length ≤ 1000000) (hlb : b.length ≤ 1000000) :
    Calls Tryz.prog 37 #[va, vb] w (BePost a b w) := by
  obtain ⟨aa, ca, rfl, ha⟩ := ha
  obtain ⟨ab, cb, rfl, hb⟩ := hb
  have HA := Lib.hid ha
  have HB := Lib.hid hb
  clear ha hb
  go_enter Tryz.func37, Tryz.ntmps37
  go_wp2_with fail
  go_loopw [5] (fun i wr => BeRel a b w i wr) (fun i _ => a.length - (intOf i).toNat)
  case atStart => exact ⟨0, Nat.zero_le _, Nat.zero_le _, rfl, fun j h1 h2 h3 => absurd h3 (by omega), grown_refl _⟩
  case round =>
    obtain ⟨k, hka, hkb, rfl, heq, hg⟩ := hrel
    have HN := Lib.hid (And.intro heq hg)
    by_cases h1 : k < a.length
    · have h1' : (k : Int) < a.length := by omega
      by_cases h2 : k < b.length
      · have h2' : (k : Int) < b.length := by omega
        obtain ⟨ba, oa, rfl, hba, hca⟩ := HA.out (by omega)
        obtain ⟨bb, ob, rfl, hbb, hcb⟩ := HB.out (by omega)
        have c1 := (grown_cell hg hba (by simp)).trans (hca k h1)
        have c2 := (grown_cell hg hbb (by simp)).trans (hcb k h2)
        obtain ⟨x, hx⟩ : ∃ x, x = a[k] := ⟨_, rfl⟩
        obtain ⟨y, hy⟩ : ∃ y, y = b[k] := ⟨_, rfl⟩
        rw [← hx] at c1
        rw [← hy] at c2
        have HXY := Lib.hid (And.intro hx hy)
        clear heq hg hca hcb hx hy
        by_cases hxy : x = y
        · have e1 : (x == y) = true := by simpa using hxy
          have e2 : (x != y) = false := by simp [hxy]
          have HE := Lib.hid hxy
          clear hxy
          go_wp2_with fail
          go_quiet (fail)
          go_wp2_with fail
          go_roundw
          case rel =>
            refine ⟨k + 1, by omega, by omega, by go_num, fun j k1 k2 k3 => ?_, grown_tr HN.out.2 (grown_drewN _ _)⟩
            by_cases e : j = k
            · subst e; rw [← HXY.out.1, ← HXY.out.2]; exact HE.out
            · exact HN.out.1 j k1 k2 (by omega)
          case measure => simp [intOf]; omega
        · have e1 : (x == y) = false := by simpa using hxy
          have e2 : (x != y) = true := by simpa using hxy
          have HE := Lib.hid hxy
          obtain ⟨p, hp⟩ : ∃ p, decide (x < y) = p := ⟨_, rfl⟩
          clear hxy
          go_wp2_with fail
          go_quiet (fail)
          go_wp2_with fail
          go_quiet (fail)
          go_wp2_with fail
          go_ret
          refine ⟨?_, grown_tr HN.out.2 (by first | exact grown_tr (grown_drewN _ _) (grown_drewN _ _) | exact grown_drewN _ _)⟩
          rw [lexB_lt HN.out.1 h1 h2 (by rw [← HXY.out.1, ← HXY.out.2]; exact HE.out), ← HXY.out.1, ← HXY.out.2, hp]
          rfl
      · have h2' : ¬ (k : Int) < b.length := by omega
        clear heq hg
        have hp : lexB a b = decide (a.length < b.length) := lexB_len (fun j h1 h2 => HN.out.1 j h1 h2 (by omega))
        have HP := Lib.hid hp
        clear hp
        go_wp2_with fail
        go_ret
        exact ⟨by rw [HP.out]; rfl, HN.out.2⟩
    · have h1' : ¬ (k : Int) < a.length := by omega
      clear heq hg
      have hp : lexB a b = decide (a.length < b.length) := lexB_len (fun j h1 h2 => HN.out.1 j h1 h2 (by omega))
      have HP := Lib.hid hp
      clear hp
      go_wp2_with fail
      go_ret
      exact ⟨by rw [HP.out]; rfl, HN.out.2⟩
end Go.Proofs.YtcbkalppclilfaaGreat
