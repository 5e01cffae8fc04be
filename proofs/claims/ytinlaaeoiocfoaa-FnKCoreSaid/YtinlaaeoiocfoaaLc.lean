/- The laws' own: sorted. -/
import Derived.Test.YtinlaaeoiocfoaaLb
import Derived.BigRegion
namespace Go.Proofs.Ytinlaaeoiocfoaa
open Go.RowKit

theorem getD_int {l : List Int} {j : Nat} (h : j < l.length) : l.getD j 0 = l[j] := by simp [List.getD, h]

/-- slices.Clone at []int -/
theorem clone_ints {l : List Int} {v : Value} {w : World} (hl : l.length ≤ 1000000) (h : IntsR w v l) :
    Calls Try.prog 16 #[v] w (fun e w' => ∃ v', e = .returned v' ∧ w'.ownsRow w.heap.size 3 1 v' l.length (l.map (Value.int .i64)) ∧ w.grownBy w' none) := by
  obtain ⟨a, c, rfl, h⟩ := h
  cases a with
  | none =>
    by_cases h0 : l.length = 0
    · obtain rfl := List.eq_nil_of_length_eq_zero h0
      refine (Any.slices_Clone_int_nil Try.cloneInt 0 c w).mono ?_
      rintro e w' ⟨rfl, rfl⟩
      exact ⟨_, rfl, ⟨rfl, .inl ⟨rfl, rfl⟩⟩, grown_refl _⟩
    · obtain ⟨b, o, h1, _⟩ := h (by omega)
      cases h1
  | some a =>
    by_cases h0 : l.length = 0
    · obtain rfl := List.eq_nil_of_length_eq_zero h0
      refine (Any.slices_Clone_int_zero Try.cloneInt a c w).mono ?_
      rintro e w' ⟨v', rfl, h1, _, h2⟩
      exact ⟨_, rfl, h1, Below.asGrown h2⟩
    · obtain ⟨b, o, h1, hb, hc⟩ := h (by omega)
      cases h1
      refine (Any.slices_Clone_int Try.cloneInt b o l.length c l w (Nat.le_refl _) (by omega) (fun j hj => by rw [getD_int hj]; exact hc j hj)).mono ?_
      rintro e w' ⟨v', rfl, h1, _, h2⟩
      rw [List.take_length] at h1
      exact ⟨_, rfl, h1, Below.asGrown h2⟩

def SrtPost (l : List Int) (w : World) (e : Ending) (w' : World) : Prop := ∃ v, e = .returned v ∧ w'.ownsRow w.heap.size 3 1 v l.length ((srt l).map (Value.int .i64)) ∧ w.grownBy w' none

def SrtRel (l : List Int) (w : World) (v : Value) (n k : Nat) (wr : World) : Prop := ∃ ys : List Int, ys.length = n ∧ ys.Perm l ∧ OrdTo ys k ∧ wr.ownsRow w.heap.size 3 1 v n (ys.map (Value.int .i64)) ∧ w.grownBy wr none
def SrtIn (l : List Int) (w : World) (v : Value) (n k i : Nat) (wr : World) : Prop := ∃ ys : List Int, ys.length = n ∧ ys.Perm l ∧ InnerOk ys k i ∧ wr.ownsRow w.heap.size 3 1 v n (ys.map (Value.int .i64)) ∧ w.grownBy wr none

theorem map_set_int (ys : List Int) (j : Nat) (y : Int) : (ys.map (Value.int .i64)).set j (.int .i64 y) = (ys.set j y).map (Value.int .i64) := by
  rw [List.map_set]

theorem own_cell_int {w : World} {B : Nat} {e : TypeId} {g n cap : Nat} {ys : List Int} (h : w.ownsRow B e 1 (.slice (some ⟨g, 0, none⟩) n cap) n (ys.map (Value.int .i64))) {j : Nat} (hj : j < ys.length) : w.cell? ⟨g, j, none⟩ = some (.int .i64 ys[j]) := by
  have hn := own_of_list h
  rw [List.length_map] at hn
  rw [h.cellAt j (by omega)]
  simp [hj]

set_option maxHeartbeats 1000000 in
theorem sorted_any {l : List Int} {v : Value} {w : World} (hl : l.length ≤ 1000000) (h : IntsR w v l) : Calls Try.prog 9 #[v] w (SrtPost l w) := by
  have hcall := clone_ints hl h
  clear h
  go_enter Try.func9, Try.ntmps9
  go_wp2_with (go_at_call 16; refine hcall.mono ?_; rintro e w1 ⟨v1, rfl, ho1, hg1⟩; obtain ⟨a1, c1, hv1⟩ := own_slice ho1; subst hv1)
  try go_frame
  clear hcall
  go_loopw [4, 5] (fun i _ wr => ∃ k : Nat, 1 ≤ k ∧ k ≤ max l.length 1 ∧ i = .int .i64 k ∧ SrtRel l w (.slice a1 l.length c1) l.length k wr) (fun i _ _ => l.length - (intOf i).toNat)
  case atStart => exact ⟨1, by omega, by omega, rfl, l, rfl, .refl _, fun a b ha hb hab hbk => by omega, ho1, hg1⟩
  case round =>
    obtain ⟨k, hk1, hk, rfl, ys, hyl, hyp, hyo, hown, hgw⟩ := hrel
    have hrow := fun h => own_row hown h
    by_cases hlt : k < l.length
    · obtain ⟨g, cap, hv, hgb, hgs, _⟩ := hrow (by omega)
      simp only [Value.slice.injEq, true_and] at hv
      obtain ⟨rfl, rfl⟩ := hv
      have HY := Lib.hid (And.intro hyl (And.intro hyp (And.intro hyo (And.intro hown hgw))))
      clear hyl hyp hyo hown hgw hrow hgb hgs ho1 hg1
      go_wp2_with fail
      try go_frame
      obtain ⟨wo, rfl⟩ : ∃ wo : World, wo = wr := ⟨_, rfl⟩
      go_loopw [5] (fun i wr => ∃ j : Nat, i = .int .i64 j ∧ SrtIn l w (.slice (some ⟨g, 0, none⟩) l.length c1) l.length k j wr) (fun i _ => (intOf i).toNat)
      case atStart =>
        obtain ⟨hyl, hyp, hyo, hown, hgw⟩ := HY.out
        exact ⟨k, rfl, ys, hyl, hyp, InnerOk.start hyo (by omega), hown, hgw⟩
      case round =>
        clear HY
        obtain ⟨j, rfl, zs, hzl, hzp, hzo, hown, hgw⟩ := hrel
        have hjk : j ≤ k := hzo.1
        by_cases hj0 : j = 0
        · subst hj0
          have HZ := Lib.hid (And.intro hzl (And.intro hzp (And.intro hzo (And.intro hown hgw))))
          clear hzl hzp hzo hown hgw
          go_wp2_with fail
          go_quiet (fail)
          go_wp2_with fail
          go_roundw
          case rel =>
            obtain ⟨hzl, hzp, hzo, hown, hgw⟩ := HZ.out
            exact ⟨k + 1, by omega, by omega, by go_num, zs, hzl, hzp, hzo.stop (.inl rfl), hown, grown_tr hgw (grown_drewN _ _)⟩
          case measure => simp [intOf]; omega
        · have hj : (0 : Int) < j := by omega
          have hj1 : 1 ≤ j := by omega
          have hj2 : 0 < j := by omega
          have hjb : j < l.length := by omega
          have hjc : j - 1 < l.length := by omega
          have hjl : j < zs.length := by omega
          have hjm : j - 1 < zs.length := by omega
          have hc1 : wr.cell? ⟨g, j, none⟩ = some (.int .i64 zs[j]) := own_cell_int hown hjl
          have hc2 : wr.cell? ⟨g, j - 1, none⟩ = some (.int .i64 zs[j - 1]) := own_cell_int hown hjm
          have hf1 : wr.frozen? ⟨g, j, none⟩ = false := hown.frozenAt j
          have hf2 : wr.frozen? ⟨g, j - 1, none⟩ = false := hown.frozenAt (j - 1)
          obtain ⟨y, hy⟩ : ∃ y, y = zs[j] := ⟨_, rfl⟩
          obtain ⟨z, hz⟩ : ∃ z, z = zs[j - 1] := ⟨_, rfl⟩
          rw [← hy] at hc1
          rw [← hz] at hc2
          have HZ := Lib.hid (And.intro hzl (And.intro hzp (And.intro hzo (And.intro hown (And.intro hgw (And.intro hy hz))))))
          clear hzl hzp hzo hown hgw hy hz
          by_cases hyz : y < z
          · have hb : decide (y < z) = true := by simpa using hyz
            have HE := Lib.hid hyz
            clear hyz
            go_wp2_with fail
            go_quiet (fail)
            go_wp2_with fail
            go_region
            all_goals go_wp2_with fail
            all_goals go_roundw
            case rel =>
              obtain ⟨hzl, hzp, hzo, hown, hgw, hy, hz⟩ := HZ.out
              have hown' : (wr.drewN (nq + 1)).ownsRow w.heap.size 3 1 (.slice (some ⟨g, 0, none⟩) l.length c1) l.length (zs.map (Value.int .i64)) := hown
              obtain ⟨o1, g1⟩ := hown'.stored j (.int .i64 z)
              obtain ⟨o2, g2⟩ := o1.stored (j - 1) (.int .i64 y)
              rw [map_set_int, map_set_int] at o2
              subst hy hz
              have hst := hzo.step hj2 hjm hjl HE.out
              refine ⟨j - 1, by go_num, _, by simp [hzl], (set_swap_perm hjl hjm).trans hzp, hst, o2, ?_⟩
              exact grown_new (grown_new (grown_tr hgw (grown_drewN _ _)) g1 (fun k hk => by cases hk; have := (hown.lt g rfl).1; omega)) g2 (fun k hk => by cases hk; have := (hown.lt g rfl).1; omega)
            case measure => simp [intOf]; omega
          · have hb : decide (y < z) = false := by simpa using hyz
            have HE := Lib.hid hyz
            clear hyz
            go_wp2_with fail
            go_quiet (fail)
            go_wp2_with fail
            go_roundw
            case rel =>
              obtain ⟨hzl, hzp, hzo, hown, hgw, hy, hz⟩ := HZ.out
              exact ⟨k + 1, by omega, by omega, by go_num, zs, hzl, hzp, hzo.stop (.inr ⟨by omega, by omega, by rw [← hy, ← hz]; have := HE.out; omega⟩), hown, grown_tr hgw (grown_drewN _ _)⟩
            case measure => simp [intOf]; omega
    · have hkl : ¬ (k : Int) < l.length := by omega
      have HY := Lib.hid (And.intro hyl (And.intro hyp (And.intro hyo (And.intro hown hgw))))
      clear hyl hyp hyo hown hgw hrow
      go_wp2_with fail
      go_ret
      obtain ⟨hyl, hyp, hyo, hown, hgw⟩ := HY.out
      have hs : ys.Pairwise (· ≤ ·) := OrdTo.all (fun a b ha hb hab _ => hyo a b ha hb hab (by omega))
      refine ⟨_, rfl, ?_, hgw⟩
      rw [← srt_eq hs hyp]
      exact hown
end Go.Proofs.Ytinlaaeoiocfoaa
