/- slices.BinarySearch over ids; (*plain).index. -/
import Derived.Test.YtinlaaeoiocfoaaLy
import Derived.Test.YtinlaaeoiocfoaaLa
import Derived.IntWalk
namespace Go.Proofs.Ytinlaaeoiocfoaa
open Go.MapKept Go.RowKit

set_option maxHeartbeats 400000 in
theorem nan_slices (x : Int) (w : World) : Calls Try.prog 46 #[.int .i64 x] w (fun e w' => e = .returned (.bool false) ∧ w' = w) := by
  go_enter Try.func46, Try.ntmps46
  go_wp2_with fail
  go_ret
  exact ⟨by simp, rfl⟩
set_option maxHeartbeats 400000 in
theorem nan_cmp (x : Int) (w : World) : Calls Try.prog 55 #[.int .i64 x] w (fun e w' => e = .returned (.bool false) ∧ w' = w) := by
  go_enter Try.func55, Try.ntmps55
  go_wp2_with fail
  go_ret
  exact ⟨by simp, rfl⟩
set_option maxHeartbeats 400000 in
theorem less64 (x y : Int) (w : World) : Calls Try.prog 41 #[.int .i64 x, .int .i64 y] w (fun e w' => e = .returned (.bool (decide (x < y))) ∧ w' = w) := by
  go_enter Try.func41, Try.ntmps41
  go_wp2_with (go_at_call 55; refine (nan_cmp _ _).mono ?_; rintro e w' ⟨rfl, rfl⟩)
  go_ret
  exact ⟨rfl, rfl⟩

def BiRel (l : List Int) (x : Int) (w : World) (i j : Value) (wr : World) : Prop :=
  ∃ a b : Nat, a ≤ b ∧ b ≤ l.length ∧ i = .int .i64 a ∧ j = .int .i64 b ∧ wr = w ∧ (∀ y, (h : y < l.length) → y < a → l[y] < x) ∧ (∀ y, (h : y < l.length) → b ≤ y → x ≤ l[y])
def BiPost (l : List Int) (x : Int) (w : World) (e : Ending) (w' : World) : Prop :=
  ∃ m : Nat, (x ∈ l → m = ix l x ∧ m < l.length) ∧ e = .returned (.tuple #[.int .i64 m, .bool (decide (x ∈ l))]) ∧ w' = w

theorem bi_found {l : List Int} {x : Int} {i : Nat} (hi : i < l.length) (e : l[i] = x) (hlo : ∀ y, (h : y < l.length) → y < i → l[y] < x) : i = ix l x := by
  have := idx_at (n := i) hi (fun j hj h => by have := hlo j hj h; omega) e
  rw [idx_mem (e ▸ List.getElem_mem hi)] at this
  omega
theorem bi_lost {l : List Int} {x : Int} {i : Nat} (hlo : ∀ y, (h : y < l.length) → y < i → l[y] < x) (hhi : ∀ y, (h : y < l.length) → i < y → x < l[y]) (hi : ∀ h : i < l.length, l[i] ≠ x) : x ∉ l := by
  intro hm
  obtain ⟨j, hj, e⟩ := List.getElem_of_mem hm
  by_cases h1 : j < i
  · have := hlo j hj h1; omega
  · by_cases h2 : i < j
    · have := hhi j hj h2; omega
    · obtain rfl : j = i := by omega
      exact hi hj e

set_option maxHeartbeats 1000000 in
set_option maxRecDepth 100000 in
theorem bsearch_ids {l : List Int} {x : Int} {v : Value} {w : World} (h : IntsR w v l) (ha : l.Pairwise (· < ·)) (hl : l.length ≤ 1000000) :
    Calls Try.prog 33 #[v, .int .i64 x] w (BiPost l x w) := by
  obtain ⟨a, c, rfl, h⟩ := h
  have HR := Lib.hid h
  have HA := Lib.hid ha
  clear h ha
  go_enter Try.func33, Try.ntmps33
  go_wp2_with fail
  go_loopw [7, 8, 9] (fun i j _ wr => BiRel l x w i j wr) (fun i j _ _ => (intOf j - intOf i).toNat)
  case atStart => exact ⟨0, l.length, by omega, Nat.le_refl _, rfl, rfl, rfl, fun x hx h => absurd h (by omega), fun x hx h => absurd h (by omega)⟩
  case round =>
    obtain ⟨i, j, hij, hj, rfl, rfl, rfl, hlo, hhi⟩ := hrel
    have HL := Lib.hid (And.intro hlo hhi)
    clear hlo hhi
    by_cases hlt : i < j
    · have hlt' : (i : Int) < j := by omega
      obtain ⟨b, o, rfl, hb, hcell⟩ := HR.out (by omega)
      obtain ⟨m, hm⟩ : ∃ m : Nat, m = (i + j) / 2 := ⟨_, rfl⟩
      have hmid : ((i : Int) + (j : Int)) / 2 = (m : Int) := by omega
      have hml : m < l.length := by omega
      have him : i ≤ m := by omega
      have hmj : m < j := by omega
      have c1 := hcell m hml
      obtain ⟨y, hq⟩ : ∃ q, q = l[m] := ⟨_, rfl⟩
      rw [← hq] at c1
      have HM := Lib.hid (And.intro hm hq)
      clear hm hq hcell
      have hm0 : (0 : Int) ≤ m := by omega
      by_cases hc : y < x
      · have hd : decide (y < x) = true := by simpa using hc
        go_wp2_with (go_at_call 41; refine (less64 _ _ _).mono ?_; rintro e w2 ⟨rfl, rfl⟩)
        go_roundw
        case rel =>
          obtain ⟨hm, hq⟩ := HM.out
          obtain ⟨hlo, hhi⟩ := HL.out
          refine ⟨m + 1, j, by omega, hj, by go_num, rfl, rfl, fun z hz hzm => ?_, hhi⟩
          by_cases hx2 : z = m
          · subst hx2; omega
          · have := List.pairwise_iff_getElem.1 HA.out z m hz hml (by omega)
            omega
        case measure => simp [intOf]; omega
      · have hd : decide (y < x) = false := by simpa using hc
        go_wp2_with (go_at_call 41; refine (less64 _ _ _).mono ?_; rintro e w2 ⟨rfl, rfl⟩)
        go_roundw
        case rel =>
          obtain ⟨hm, hq⟩ := HM.out
          obtain ⟨hlo, hhi⟩ := HL.out
          refine ⟨i, m, by omega, by omega, rfl, rfl, rfl, hlo, fun z hz hzm => ?_⟩
          by_cases hx2 : z = m
          · subst hx2; omega
          · have := List.pairwise_iff_getElem.1 HA.out m z hml hz (by omega)
            omega
        case measure => simp [intOf]; omega
    · obtain rfl : i = j := by omega
      have hlt' : ¬ (i : Int) < i := by omega
      by_cases hin : i < l.length
      · obtain ⟨b, o, rfl, hb, hcell⟩ := HR.out (by omega)
        have hin' : decide ((i : Int) < l.length) = true := by simpa using hin
        have c1 := hcell i hin
        obtain ⟨y, hq⟩ : ∃ q, q = l[i] := ⟨_, rfl⟩
        rw [← hq] at c1
        have HM := Lib.hid hq
        clear hq hcell HR hlt hlt' hij
        by_cases hk2 : y = x
        · have hb : (y == x) = true := by rw [beq_iff_eq]; omega
          have HK := Lib.hid hk2
          clear hk2
          go_wp2_with (go_at_call 46; refine (nan_slices _ _).mono ?_; rintro e w2 ⟨rfl, rfl⟩)
          go_ret2
          obtain ⟨hlo, hhi⟩ := HL.out
          have hmem : x ∈ l := by rw [← HK.out, HM.out]; exact List.getElem_mem hin
          exact ⟨i, fun _ => ⟨bi_found hin (by rw [← HM.out]; exact HK.out) (fun z hz h => hlo z hz h), hin⟩, by rw [decide_eq_true hmem]; rfl, rfl⟩
        · have hb : (y == x) = false := by rw [beq_eq_false_iff_ne]; exact hk2
          have HK := Lib.hid hk2
          clear hk2
          go_wp2_with (go_at_call 46; refine (nan_slices _ _).mono ?_; rintro e w2 ⟨rfl, rfl⟩)
          go_ret2
          obtain ⟨hlo, hhi⟩ := HL.out
          have hmem : x ∉ l := bi_lost (i := i) (fun z hz h => hlo z hz h) (fun z hz h => by
            have h1 := hhi i hin (Nat.le_refl _)
            have := List.pairwise_iff_getElem.1 HA.out i z hin hz h
            omega) (fun _ => by rw [← HM.out]; exact HK.out)
          exact ⟨i, fun h => absurd h hmem, by rw [decide_eq_false hmem]; rfl, rfl⟩
      · have hin' : decide ((i : Int) < l.length) = false := by simpa using hin
        go_wp2_with fail
        go_ret2
        obtain ⟨hlo, hhi⟩ := HL.out
        have hmem : x ∉ l := bi_lost (i := i) (fun z hz h => hlo z hz h) (fun z hz h => by omega) (fun h => absurd h hin)
        exact ⟨i, fun h => absurd h hmem, by rw [decide_eq_false hmem]; rfl, rfl⟩

set_option maxHeartbeats 400000 in
theorem plain_index {l : List Int} {x : Int} {v : Value} {w : World} {p0 : Nat} (hc : w.cell? ⟨p0, 0, none⟩ = some v) (h : IntsR w v l) (ha : l.Pairwise (· < ·)) (hl : l.length ≤ 1000000) :
    Calls Try.prog 28 #[.pointer (some ⟨p0, 0, none⟩), .int .i64 x] w (BiPost l x w) := by
  have hcall := bsearch_ids (x := x) h ha hl
  obtain ⟨a, c, rfl, h⟩ := h
  clear h ha hl
  go_enter Try.func28, Try.ntmps28
  go_wp2_with (go_at_call 33; refine hcall.mono ?_; rintro e w' ⟨m, hm, rfl, rfl⟩; replace hm := Lib.hid hm)
  go_ret2
  exact ⟨m, hm.out, rfl, rfl⟩
end Go.Proofs.Ytinlaaeoiocfoaa
