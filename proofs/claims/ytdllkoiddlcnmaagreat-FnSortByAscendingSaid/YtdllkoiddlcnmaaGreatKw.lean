/- impl.twice where no number stands twice. -/
import Derived.Test.YtdllkoiddlcnmaaGreatSf
import Derived.Test.YtdllkoiddlcnmaaGreatLa
import Derived.Test.YtdllkoiddlcnmaaGreatSo
import Derived.Test.YtdllkoiddlcnmaaGreatLc
namespace Go.Proofs.YtdllkoiddlcnmaaGreat
open Go.RowKit Go.Sort Go.Shelf Go.MapKept

set_option maxHeartbeats 400000 in
set_option maxRecDepth 100000 in
theorem slIndex_any (x : Int) {l : List Int} {v : Value} {w : World} (hl : l.length ≤ 1000000) (h : IntsR w v l) :
    Calls Tryz.prog 47 #[v, .int .i64 x] w (fun e w' => e = .returned (.int .i64 (idx l x)) ∧ w = w') := by
  obtain ⟨a, c, rfl, h⟩ := h
  have HR := Lib.hid h
  clear h
  obtain ⟨r, hr⟩ : ∃ r, r = idx l x := ⟨_, rfl⟩
  have HI := Lib.hid hr
  rw [← hr]
  clear hr
  go_enter Tryz.func47, Tryz.ntmps47
  go_wp2_with fail
  go_loopw [5, 8] (fun _ i wr => ∃ k : Nat, k ≤ l.length ∧ i = .int .i64 k ∧ (∀ j (h : j < l.length), j < k → l[j] ≠ x) ∧ wr = w) (fun _ i _ => l.length - (intOf i).toNat)
  case atStart => exact ⟨0, Nat.zero_le _, rfl, fun j h hj => absurd hj (by omega), rfl⟩
  case round =>
    obtain ⟨k, hk, rfl, hno, rfl⟩ := hrel
    have HN := Lib.hid hno
    clear hno
    by_cases hlt : k < l.length
    · have hlt' : (k : Int) < l.length := by omega
      obtain ⟨b, o, rfl, _, hc⟩ := HR.out (by omega)
      have c1 := hc k hlt
      obtain ⟨y, hy⟩ : ∃ y, y = l[k] := ⟨_, rfl⟩
      rw [← hy] at c1
      have HY := Lib.hid hy
      clear hy hc
      by_cases hxy : x = y
      · have hb : (x == y) = true := by rw [beq_iff_eq]; exact hxy
        have HX := Lib.hid hxy
        clear hxy
        go_wp2_with fail
        go_ret
        refine ⟨?_, rfl⟩
        have hin : x ∈ l := by rw [HX.out, HY.out]; exact List.getElem_mem hlt
        have e1 : ix l x = k := by
          rcases Nat.lt_trichotomy (ix l x) k with h | h | h
          · exact absurd (ix_get hin) (HN.out (ix l x) (ix_lt hin) h)
          · exact h
          · have := List.not_of_lt_findIdx (p := fun z => z == x) (xs := l) (i := k) h
            rw [← HY.out] at this
            simp [HX.out] at this
        rw [HI.out, idx_mem hin, e1]
        rfl
      · have hb : (x == y) = false := by rw [beq_eq_false_iff_ne]; exact hxy
        have HX := Lib.hid hxy
        clear hxy
        go_wp2_with fail
        go_roundw
        case rel =>
          refine ⟨k + 1, by omega, by go_num, fun j hj hjk => ?_, by first | rfl | trivial⟩
          by_cases hjk2 : j < k
          · exact HN.out j hj hjk2
          · obtain rfl : j = k := by omega
            rw [← HY.out]
            exact fun e => HX.out e.symm
        case measure => simp [intOf]; omega
    · have hlt' : ¬ (k : Int) < l.length := by omega
      go_wp2_with fail
      go_ret
      refine ⟨?_, rfl⟩
      have hin : x ∉ l := fun h => HN.out (ix l x) (ix_lt h) (by have := ix_lt h; omega) (ix_get h)
      rw [HI.out]
      unfold idx
      rw [if_neg hin]
      rfl

/-- what is compared: places -/
def cmpP (P : List Int) (x y : Int) : Int := idx P x - idx P y
theorem lt_cmpP (P : List Int) (x y : Int) : ltOf (cmpP P) x y = decide (idx P x < idx P y) := by
  unfold ltOf cmpP
  rw [Bool.eq_iff_iff, decide_eq_true_eq, decide_eq_true_eq]
  omega
theorem swo_cmpP (P : List Int) : SWO (ltOf (cmpP P)) where
  irrefl x := by rw [lt_cmpP]; simp
  trans x y z h1 h2 := by rw [lt_cmpP] at *; simp at *; omega
  ntrans x y z h1 h2 := by rw [lt_cmpP] at *; simp at *; omega

/-- a list in the order of places -/
def byP (P l : List Int) : List Int := l.mergeSort (fun x y => decide (idx P x ≤ idx P y))
theorem byP_perm (P l : List Int) : (byP P l).Perm l := List.mergeSort_perm l _
theorem byP_le (P l : List Int) : (byP P l).Pairwise (fun x y => idx P x ≤ idx P y) := by
  have := List.pairwise_mergeSort (le := fun x y => decide (idx P x ≤ idx P y)) (fun a b c h1 h2 => by simp at *; omega) (fun a b => by simp; omega) l
  exact this.imp (fun {a b} h => by simpa using h)
theorem idx_inj {P : List Int} {x y : Int} (hx : x ∈ P) (hy : y ∈ P) (e : idx P x = idx P y) : x = y := by
  rw [idx_mem hx, idx_mem hy] at e
  exact ix_inj hx hy (by omega)
theorem SortedBy.byP {P l out : List Int} (h : SortedBy (cmpP P) l out) (hl : ∀ x ∈ l, x ∈ P) : out = Go.Proofs.YtdllkoiddlcnmaaGreat.byP P l :=
  List.Perm.eq_of_pairwise (le := fun x y => idx P x ≤ idx P y) (fun x y hx hy h1 h2 => idx_inj (hl x (h.perm.mem_iff.1 hx)) (hl y ((byP_perm P l).mem_iff.1 hy)) (by omega))
    (h.srt.imp (fun {a b} hab => by rw [lt_cmpP] at hab; simp at hab; exact hab)) (byP_le P l) (h.perm.trans (byP_perm P l).symm)
/-- ascending places: ascending numbers -/
theorem byP_srt {P l : List Int} (hP : P.Pairwise (· < ·)) (hl : ∀ x ∈ l, x ∈ P) : byP P l = srt l := by
  refine srt_eq ?_ (byP_perm P l)
  refine (List.pairwise_iff_getElem.2 fun i j hi hj hij => ?_)
  have h1 := List.pairwise_iff_getElem.1 (byP_le P l) i j hi hj hij
  have m1 : (byP P l)[i] ∈ P := hl _ ((byP_perm P l).mem_iff.1 (List.getElem_mem hi))
  have m2 : (byP P l)[j] ∈ P := hl _ ((byP_perm P l).mem_iff.1 (List.getElem_mem hj))
  rw [idx_mem m1, idx_mem m2] at h1
  rcases Nat.lt_or_ge (ix P (byP P l)[i]) (ix P (byP P l)[j]) with h | h
  · have := List.pairwise_iff_getElem.1 hP _ _ (ix_lt m1) (ix_lt m2) h
    rw [ix_get m1, ix_get m2] at this
    omega
  · have := ix_inj m1 m2 (by omega)
    omega

set_option maxHeartbeats 1000000 in
set_option maxRecDepth 100000 in
theorem by_cmp {P : List Int} {vp : Value} {bp : Nat} {w : World} (hP : IntsR w vp P) (hb : w.cell? ⟨bp, 0, none⟩ = some vp) (hl : P.length ≤ 1000) (x y : Int) :
    Calls Tryz.prog 46 #[nodeV x, nodeV y, .pointer (some ⟨bp, 0, none⟩)] w (fun e w' => e = .returned (.int .i64 (cmpP P x y)) ∧ ∃ q, w' = w.drewN q) := by
  have hix : ∀ q z, Calls Tryz.prog 47 #[vp, .int .i64 z] (w.drewN q) (fun e w' => e = .returned (.int .i64 (idx P z)) ∧ w' = w.drewN q) := fun q z => (slIndex_any z (by omega) (hP.grown (grown_drewN w q))).mono (fun e w' ⟨h1, h2⟩ => ⟨h1, h2.symm⟩)
  have hnum : ∀ q z, Calls Tryz.prog 48 #[nodeV z] (w.drewN q) (fun e w' => e = .returned (.int .i64 z) ∧ w' = w.drewN q) := fun q z => (number_any z _).mono (fun e w' ⟨h1, h2⟩ => ⟨h1, h2.symm⟩)
  obtain ⟨J, hJ⟩ : ∃ J : Int → Int, J = idx P := ⟨_, rfl⟩
  have hbd : ∀ z, -1 ≤ J z ∧ J z ≤ 1000 := fun z => by
    rw [hJ]
    unfold idx
    split
    · rename_i hz
      have := ix_lt hz
      omega
    · omega
  have e0 : cmpP P x y = J x - J y := by rw [hJ]; rfl
  rw [e0]
  rw [← hJ] at hix
  have hx := hbd x
  have hy := hbd y
  have hwr : IntKind.i64.wrap (J x - J y) = J x - J y := by rw [IntKind.wrap_i64]; omega
  obtain ⟨ap, cp, rfl, -⟩ := hP
  clear hJ e0 hbd
  go_enter Tryz.func46, Tryz.ntmps46
  go_wp2_with fail
  go_quiet (first
    | (go_at_call 48; exact Calls.quiet_of_same (hnum _ _))
    | (go_at_call 47; exact Calls.quiet_of_same (hix _ _)))
  go_wp2_with fail
  go_ret
  exact ⟨rfl, _, rfl⟩

set_option maxHeartbeats 1000000 in
set_option maxRecDepth 100000 in
theorem by_any {P l : List Int} {vp v : Value} {bp base : Nat} {e : TypeId} {w : World} (hpl : P.length ≤ 1000) (hlP : ∀ x ∈ l, x ∈ P)
    (hsep : ∀ W, w.grownBy W v.ownBlock → IntsR W vp P ∧ W.cell? ⟨bp, 0, none⟩ = some vp) (hown : w.ownsRow base e 1 v l.length (l.map nodeV)) (hl : l.length ≤ 1000000) :
    Calls Tryz.prog 44 #[v, .pointer (some ⟨bp, 0, none⟩)] w (KPost (byP P) l base e v w) := by
  have hcall := sortFunc_nodes (swo_cmpP P) (fun args w => enters_of Tryz.func46 (by kernel_rfl) rfl args w) (cb := #[.pointer (some ⟨bp, 0, none⟩)]) (fun W hW x y => by
    obtain ⟨h1, h2⟩ := hsep W hW
    exact by_cmp h1 h2 hpl x y) hown hl
  obtain ⟨a, c, rfl⟩ := own_slice hown
  have HP := Lib.hid hlP
  clear hown hsep hlP
  go_enter Tryz.func44, Tryz.ntmps44
  go_wp2_with (go_at_call 45; refine hcall.mono ?_; rintro en w' ⟨rfl, out, h1, h2, h3⟩)
  go_end0
  exact ⟨rfl, by rw [← h1.byP HP.out]; exact h2, h3⟩
end Go.Proofs.YtdllkoiddlcnmaaGreat
namespace Go.Proofs.YtdllkoiddlcnmaaGreat
open Go.RowKit Go.Sort Go.Shelf Go.MapKept

set_option maxHeartbeats 400000 in
/-- slices.Compact where no number stands twice -/
theorem compact_int {l : List Int} {v : Value} {w : World} (h : IntsR w v l) (ha : l.Pairwise (· < ·)) (hl : l.length ≤ 1000000) :
    Calls Tryz.prog 66 #[v] w (fun e w' => e = .returned v ∧ w.grownBy w' none) := by
  obtain ⟨a, c, rfl, h⟩ := h
  by_cases h2 : l.length < 2
  · have h2' : (l.length : Int) < 2 := by omega
    clear h
    go_enter Tryz.func66, Tryz.ntmps66
    go_wp2_with fail
    go_ret
    exact ⟨rfl, grown_refl _⟩
  · have h2' : ¬ (l.length : Int) < 2 := by omega
    obtain ⟨b, o, rfl, hb, hc⟩ := h (by omega)
    have HC := Lib.hid hc
    have HA := Lib.hid ha
    clear hc ha h
    go_enter Tryz.func66, Tryz.ntmps66
    go_wp2_with fail
    go_loopw [3] (fun k wr => SameRel l w k wr) (fun k _ => l.length - (intOf k).toNat)
    case atStart => exact ⟨1, by omega, by omega, rfl, grown_refl w⟩
    case round =>
      obtain ⟨k, hk1, hk, rfl, hg⟩ := hrel
      by_cases hlt : k < l.length
      · have hlt' : (k : Int) < l.length := by omega
        have c1 := (grown_cell hg hb (by simp)).trans (HC.out k hlt)
        have c2 := (grown_cell hg hb (by simp)).trans (HC.out (k - 1) (by omega))
        have hne : l[k] ≠ l[k - 1]'(by omega) := fun e => by
          have := List.pairwise_iff_getElem.1 HA.out (k - 1) k (by omega) hlt (by omega)
          omega
        obtain ⟨y, hy⟩ : ∃ y, y = l[k] := ⟨_, rfl⟩
        obtain ⟨z, hz⟩ : ∃ z, z = l[k - 1]'(by omega) := ⟨_, rfl⟩
        rw [← hy] at c1 hne
        rw [← hz] at c2 hne
        have hb2 : (y == z) = false := by rw [beq_eq_false_iff_ne]; exact hne
        clear hy hz hne
        go_wp2_with fail
        go_quiet (fail)
        go_wp2_with fail
        go_roundw
        case rel => exact ⟨k + 1, by omega, by omega, by go_num, grown_tr hg (grown_drewN _ _)⟩
        case measure => simp [intOf]; omega
      · have hlt' : ¬ (k : Int) < l.length := by omega
        go_wp2_with fail
        go_ret
        exact ⟨rfl, hg⟩

set_option maxHeartbeats 400000 in
set_option maxRecDepth 100000 in
theorem twice_any {P : List Int} {v : Value} {w : World} (h : IntsR w v P) (hnd : P.Nodup) (hl : P.length ≤ 1000) :
    Calls Tryz.prog 42 #[v] w (fun e w' => e = .returned (.bool false) ∧ w.grownBy w' none) := by
  have hcl := clone_ints (by omega) h
  obtain ⟨a, c, rfl, -⟩ := h
  have HA := Lib.hid (srt_nodup hnd)
  clear hnd
  go_enter Tryz.func42, Tryz.ntmps42
  go_wp2_with (first
    | (go_at_call 15; refine hcl.mono ?_; rintro e w1 ⟨v1, rfl, ho1, hg1⟩; have hs := sort_int ho1 (by omega); obtain ⟨a1, c1, hv1⟩ := own_slice ho1; subst hv1; have HO1 := Lib.hid ho1; clear ho1)
    | (go_at_call 65; refine hs.mono ?_; rintro e w2 ⟨rfl, ho2, hg2⟩; have ho2' := ho2; rw [← length_srt P] at ho2'; have hcp := compact_int (IntsR.of_own ho2') HA.out (by rw [length_srt]; omega); rw [length_srt] at hcp; have HG2 : Hid (w.grownBy w2 none) := Lib.hid (grown_new hg1 hg2 (fun k hk => (HO1.out.lt k hk).1)); clear ho2 ho2' hg2)
    | (go_at_call 66; refine hcp.mono ?_; rintro e w3 ⟨rfl, hg3⟩))
  go_ret
  exact ⟨rfl, grown_tr HG2.out hg3⟩
end Go.Proofs.YtdllkoiddlcnmaaGreat
