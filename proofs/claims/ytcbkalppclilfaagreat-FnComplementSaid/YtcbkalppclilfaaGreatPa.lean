/- slices.Equal over numbers; the laws' own: parts, where it holds. -/
import Derived.Test.YtcbkalppclilfaaGreatTo
import Derived.Test.YtcbkalppclilfaaGreatHr
import Derived.Handy
namespace Go.Proofs.YtcbkalppclilfaaGreat
open Go.MapKept Go.RowKit Go.Shelf

theorem equal_same {l : List Int} {v1 v2 : Value} {w : World} (h1 : IntsR w v1 l) (h2 : IntsR w v2 l) (hl : l.length ≤ 1000000) :
    Calls Tryz.prog 26 #[v1, v2] w (fun e w' => e = .returned (.bool true) ∧ w.grownBy w' none) := by
  obtain ⟨a1, c1, rfl, h1⟩ := h1
  obtain ⟨a2, c2, rfl, h2⟩ := h2
  by_cases h0 : l.length = 0
  · rw [h0]
    refine (Any.slices_Equal_int_empty Tryz.lays111 a1 a2 c1 0 c2 w (by omega)).mono ?_
    rintro e w' ⟨rfl, rfl⟩
    exact ⟨rfl, grown_refl _⟩
  · obtain ⟨b1, o1, rfl, _, k1⟩ := h1 (by omega)
    obtain ⟨b2, o2, rfl, _, k2⟩ := h2 (by omega)
    refine (Any.slices_Equal_int Tryz.lays111 b1 o1 l.length c1 b2 o2 l.length c2 l l w (Nat.le_refl _) (Nat.le_refl _) (by omega) (by omega) (fun j hj => ?_) (fun j hj => ?_)).mono ?_
    · rw [getD_int hj]; exact k1 j hj
    · rw [getD_int hj]; exact k2 j hj
    · rintro e w' ⟨rfl, q, rfl⟩
      exact ⟨by simp, grown_drewN _ _⟩

theorem elInt : ElT Tryz.prog 22 3 1 8 (.int .i64 0) := ⟨Tryz.underlying22, by kernel_rfl, rfl, by decide⟩

def PaRel (L : List (List Int)) (w : World) (v i : Value) (wr : World) : Prop := ∃ k : Nat, k ≤ L.length ∧ i = .int .i64 k ∧ wr.ownsRow w.heap.size 3 1 v (L.take k).flatten.length ((L.take k).flatten.map (Value.int .i64)) ∧ w.grownBy wr none

theorem flatten_le (L : List (List Int)) (k : Nat) : (L.take k).flatten.length ≤ L.flatten.length := by
  conv => rhs; rw [← List.take_append_drop k L]
  rw [List.flatten_append, List.length_append]
  omega

set_option maxHeartbeats 2000000 in
theorem parts_true {L : List (List Int)} {nodes : List Int} {vl vn : Value} {w : World} (h : RowsR w vl L) (hn : IntsR w vn nodes) (hll : L.length ≤ 1000) (hfl : L.flatten.length ≤ 1000) (hne : ∀ c ∈ L, c ≠ []) (hri : ∀ c ∈ L, c.Pairwise (· < ·)) (hs : srt L.flatten = srt nodes) (hnl : nodes.length ≤ 1000) :
    Calls Tryz.prog 15 #[vl, vn] w (fun e w' => e = .returned (.bool true) ∧ w.grownBy w' none) := by
  obtain ⟨a, c, vals, rfl, h1, h2⟩ := h
  have H1 := Lib.hid h1
  have H2 := Lib.hid h2
  have HN := Lib.hid (And.intro hne (And.intro hri (And.intro hs hn)))
  have hcl : ∀ c ∈ L, c.length ≤ 1000 := fun c hc => by
    obtain ⟨s1, s2, rfl⟩ := List.append_of_mem hc
    simp at hfl
    omega
  have HCL := Lib.hid hcl
  clear h1 h2 hne hri hs hn hcl
  go_enter Tryz.func15, Tryz.ntmps15
  go_wp2_with fail
  go_loopw [5, 6] (fun v i wr => PaRel L w v i wr) (fun _ i _ => L.length - (intOf i).toNat)
  case atStart => exact ⟨0, by omega, rfl, ⟨rfl, .inl ⟨rfl, rfl⟩⟩, grown_refl w⟩
  case round =>
    obtain ⟨k, hk, rfl, hown, hg⟩ := hrel
    have hfk := flatten_le L k
    by_cases hlt : k < L.length
    · have hlt' : (k : Int) < L.length := by omega
      obtain ⟨b, o, rfl, hb, hcell⟩ := H1.out (by omega)
      have c1 := (grown_cell hg hb (by simp)).trans (hcell k hlt)
      have hik := (H2.out k hlt).grown hg
      have hlen := HCL.out _ (List.getElem_mem hlt)
      have hne := HN.out.1 _ (List.getElem_mem hlt)
      have hri : Calls Tryz.prog 32 #[vals k] wr (fun e w' => e = .returned (.bool true) ∧ wr.grownBy w' none) := (rising_any (by omega) hik).mono (fun e w' hp => ⟨by rw [hp.1, decide_eq_true (HN.out.2.1 _ (List.getElem_mem hlt))], hp.2⟩)
      have hfk1 := flatten_le L (k + 1)
      have hsucc : (L.take (k + 1)).flatten = (L.take k).flatten ++ L[k] := by rw [List.take_succ_eq_append_getElem hlt, List.flatten_append]; simp
      rw [hsucc, List.length_append] at hfk1
      obtain ⟨l, hl2⟩ : ∃ l, l = L[k] := ⟨_, rfl⟩
      obtain ⟨P, hP⟩ : ∃ P, P = (L.take k).flatten := ⟨_, rfl⟩
      rw [← hl2] at hik hlen hne hfk1 hsucc
      rw [← hP] at hown hfk1 hsucc
      obtain ⟨a2, c2, hv, hck⟩ := hik
      rw [hv] at c1 hri
      have hpos : 0 < l.length := List.length_pos_iff.2 hne
      obtain ⟨b2, o2, rfl, hb2, hcl2⟩ := hck hpos
      have hb0 : ((l.length : Int) == 0) = false := by rw [beq_eq_false_iff_ne]; omega
      have HX := Lib.hid (And.intro hl2 (And.intro hP (And.intro hsucc (And.intro hown (And.intro hg (And.intro hcl2 hv))))))
      have hnews := Lib.hid (fun (W : World) (hW : wr.grownBy W none) => show ∀ (j : Nat) (u : Value), (l.map (Value.int .i64))[j]? = some u → W.cell? ((⟨b2, o2, none⟩ : Addr).add j) = some u from fun j u hj => by
        rw [List.getElem?_map] at hj
        cases hlj : l[j]? with
        | none => rw [hlj] at hj; cases hj
        | some y =>
          rw [hlj] at hj
          simp at hj
          subst hj
          obtain ⟨h5, rfl⟩ := List.getElem?_eq_some_iff.1 hlj
          rw [addr_add]
          exact (grown_cell hW hb2 (by simp)).trans (hcl2 j h5))
      clear hl2 hP hsucc hown hg hcl2 hv hcell hck hne hpos
      go_wp2_with fail
      refine hri.mono ?_
      rintro e w2 ⟨rfl, hg2⟩
      have c3 := (grown_cell hg2 (Nat.lt_of_lt_of_le hb HX.out.2.2.2.2.1.size) (by simp)).trans c1
      clear hri
      go_wp2_with (at_builtin; refine wpx_append elInt _ rfl (.tmp 27) (.tmp 31) rfl w.heap.size u5 P.length (P.map (Value.int .i64)) rfl (own_new HX.out.2.2.2.1 hg2) ⟨b2, o2, none⟩ l.length c2 (l.map (Value.int .i64)) rfl (by simp) (hnews.out _ hg2) (ints_one l) (by omega) (by unfold maxLen; omega) (by have := HX.out.2.2.2.2.1.size; have := hg2.size; omega) ?_; intro v' w3 ho3 hg3 _ _)
      go_roundw
      case rel =>
        obtain ⟨hl2, hP, hsucc, hown, hg, hcl2, hv⟩ := HX.out
        refine ⟨k + 1, by omega, by go_num, ?_, grown_new (grown_tr hg hg2) hg3 (fun j hj => (hown.lt j hj).1)⟩
        rw [hsucc, List.length_append, List.map_append]
        exact ho3
      case measure => simp [intOf]; omega
    · have hlt' : ¬ (k : Int) < L.length := by omega
      obtain rfl : k = L.length := by omega
      rw [List.take_length] at hown
      have HX := Lib.hid (And.intro hown hg)
      have hso := sorted_any (l := L.flatten) (by omega) (IntsR.of_own hown)
      clear hown hg
      go_wp2_with fail
      refine hso.mono ?_
      rintro e w2 ⟨v2, rfl, ho2, hg2⟩
      go_wp2_with fail
      refine (sorted_any (l := nodes) (by omega) (HN.out.2.2.2.grown (grown_tr HX.out.2 hg2))).mono ?_
      rintro e w3 ⟨v3, rfl, ho3, hg3⟩
      go_wp2_with fail
      refine (equal_same (l := srt nodes) (IntsR.of_own (base := wr.heap.size) (e := 3) ?_) (IntsR.of_own (base := w2.heap.size) (e := 3) ?_) (by rw [length_srt]; omega)).mono ?_
      · rw [← HN.out.2.2.1, length_srt]; exact own_new ho2 hg3
      · rw [length_srt]; exact ho3
      rintro e w4 ⟨rfl, hg4⟩
      go_wp2_with fail
      go_ret
      exact ⟨rfl, grown_tr (grown_tr (grown_tr HX.out.2 hg2) hg3) hg4⟩
end Go.Proofs.YtcbkalppclilfaaGreat
