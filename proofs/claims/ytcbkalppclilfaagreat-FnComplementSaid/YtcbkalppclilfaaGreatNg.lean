/- nodeFilterIterator: Next, Node; iterated over it. -/
import Derived.Test.YtcbkalppclilfaaGreatNf
namespace Go.Proofs.YtcbkalppclilfaaGreat
open Go.MapKept Go.RowKit

def keepB (S : List Int) (x : Int) : Bool := !decide (x ∈ S)
theorem nf_take {l : List Int} {p : Int → Bool} {k : Nat} (hk : k < l.length) : (l.take (k + 1)).filter p = (l.take k).filter p ++ if p l[k] then [l[k]] else [] := by
  rw [List.take_succ_eq_append_getElem hk, List.filter_append, List.filter_cons, List.filter_nil]
theorem nf_split (l : List Int) (p : Int → Bool) (k : Nat) : l.filter p = (l.take k).filter p ++ (l.drop k).filter p := by
  rw [← List.filter_append, List.take_append_drop]
theorem nf_get {l : List Int} {p : Int → Bool} {j k : Nat} (hj : j < l.length) (hp : p l[j] = true) (hk : ((l.take j).filter p).length = k) : ∃ h : k < (l.filter p).length, (l.filter p)[k] = l[j] := by
  have h1 := nf_split l p (j + 1)
  rw [nf_take hj, if_pos hp] at h1
  have hlt : k < (l.filter p).length := by rw [h1]; simp; omega
  refine ⟨hlt, ?_⟩
  have : (l.filter p)[k]? = some l[j] := by
    rw [h1, List.append_assoc, List.getElem?_append_right (by omega), hk, Nat.sub_self]
    rfl
  rw [List.getElem?_eq_getElem hlt] at this
  exact Option.some.inj this

/-- j nodes of the source have been taken, k of them handed on -/
def NfAt (w : World) (p q m : Nat) (vs : Value) (ids S : List Int) (k j : Nat) : Prop := j ≤ ids.length ∧ ((ids.take j).filter (keepB S)).length = k ∧ OnR w q vs ids ((j : Int) - 1) ∧ NfR w p q m S
/-- .. and the last one taken was handed on -/
def NfOn (w : World) (p q m : Nat) (vs : Value) (ids S : List Int) (k : Nat) : Prop := ∃ j, NfAt w p q m vs ids S k j ∧ (0 < k → ∃ h : j - 1 < ids.length, 0 < j ∧ keepB S ids[j - 1] = true)

theorem NfR.kept {w w' : World} {p q m : Nat} {S : List Int} {row : Option Nat} (h : NfR w p q m S) (hg : w.grownBy w' row) (h1 : some p ≠ row) (h2 : some m ≠ row) : NfR w' p q m S := ⟨grown_block hg h.1 h1, h.2.grown hg h2⟩
theorem NfR.ne {w : World} {p q m : Nat} {S : List Int} {c : Array Value} (h : NfR w p q m S) (hq : w.heap[q]? = some (.cells c onT (0, 0))) : p ≠ q ∧ m ≠ q := by
  refine ⟨?_, h.2.ne hq⟩
  rintro rfl
  have h1 := h.1
  rw [hq] at h1
  simp only [Option.some.injEq, Obj.cells.injEq] at h1
  exact absurd h1.2.1 (by decide)
theorem NfAt.kept {w w' : World} {p q m k j : Nat} {vs : Value} {ids S : List Int} {row : Option Nat} (h : NfAt w p q m vs ids S k j) (hg : w.grownBy w' row) (h0 : some q ≠ row) (h1 : some p ≠ row) (h2 : some m ≠ row) (h3 : ∀ r, row = some r → ∀ j x, w.cell? ⟨r, j, none⟩ ≠ some (nodeV x)) : NfAt w' p q m vs ids S k j :=
  ⟨h.1, h.2.1, h.2.2.1.kept hg h0 h3, h.2.2.2.kept hg h1 h2⟩

def NfNext (p q m : Nat) (vs : Value) (ids S : List Int) (k : Nat) (w : World) (e : Ending) (w' : World) : Prop :=
  e = .returned (.bool (decide (k < (ids.filter (keepB S)).length))) ∧ (k < (ids.filter (keepB S)).length → NfOn w' p q m vs ids S (k + 1)) ∧ w.grownBy w' (some q)
def NfLoop (p q m : Nat) (vs : Value) (ids S : List Int) (k : Nat) (w wr : World) : Prop := ∃ j, NfAt wr p q m vs ids S k j ∧ w.grownBy wr (some q)

set_option maxHeartbeats 2000000 in
set_option maxRecDepth 100000 in
theorem nf_next {p q m k : Nat} {vs : Value} {ids S : List Int} {w : World} (h : NfOn w p q m vs ids S k) (hl : ids.length ≤ 1000000) :
    Calls Tryz.prog 156 #[.pointer (some ⟨p, 0, none⟩)] w (NfNext p q m vs ids S k w) := by
  obtain ⟨j0, h0, -⟩ := h
  obtain ⟨a, c, rfl⟩ := h0.2.2.1.2.slice
  have H0 := Lib.hid h0
  clear h0
  go_enter Tryz.func156, Tryz.ntmps156
  go_wp2_with fail
  go_loopw [3] (fun _ wr => NfLoop p q m (.slice a ids.length c) ids S k w wr) (fun _ wr => ids.length + 1 - idxIn q wr)
  case atStart => exact ⟨j0, H0.out, grown_self _ _⟩
  case round =>
    obtain ⟨j, h, hg⟩ := hrel
    have hidx : idxIn q wr = j := by unfold idxIn; rw [cell_at h.2.2.1.1]; simp
    obtain ⟨n1, n2⟩ := h.2.2.2.ne h.2.2.1.1
    have cp0 : wr.cell? ⟨p, 0, none⟩ = some (.iface onpT (.pointer (some ⟨q, 0, none⟩))) := cell_at h.2.2.2.1
    have cp1 : wr.cell? ⟨p, 1, none⟩ = some (.map (some m)) := cell_at h.2.2.2.1
    have hpl := block_lt h.2.2.2.1
    have hj := h.1
    by_cases hlt : j < ids.length
    · have hcall := on_next h.2.2.1.1 hlt hl
      have hO : Hid (∀ W W', wr.grownBy W (some q) → W.heap[q]? = some (.cells #[.int .i64 j, .slice a ids.length c] onT (0, 0)) → W.grownBy W' none → Calls Tryz.prog 162 #[.pointer (some ⟨q, 0, none⟩)] W' (fun e w' => e = .returned (nodeV ids[j]) ∧ W'.grownBy w' none) ∧ BMap W' m S) :=
        Lib.hid (fun W W' hW hb hW' => ⟨on_node ((h.2.2.1.moved hW hb).kept hW' (by simp) (by simp)) hlt hl, (h.2.2.2.2.grown hW (by simp; exact n2)).grown hW' (by simp)⟩)
      have htk := nf_take (p := keepB S) hlt
      have hge := fun h1 => nf_get (p := keepB S) hlt h1 h.2.1
      obtain ⟨x, hx⟩ : ∃ x, x = ids[j] := ⟨_, rfl⟩
      rw [← hx] at hO htk hge
      obtain ⟨b, hb⟩ : ∃ b, b = decide (x ∈ S) := ⟨_, rfl⟩
      have hlk : ∀ W, BMap W m S → (Instr.lookup 193 (.map (some m)) (.int .i64 x) false).run Tryz.prog W = .ok (.bool b) W := fun W hW => by rw [hb]; exact hW.look x
      have HLK := Lib.hid hlk
      have HX := Lib.hid (And.intro h (And.intro hg (And.intro htk (And.intro hge (And.intro hx hb)))))
      clear h hg htk hge hx hb hidx hlk
      cases b
      all_goals
        go_wp2_with (go_at_call 161; refine hcall.mono ?_; rintro e w1 ⟨rfl, hb1, hg1⟩)
        have hO1 := fun W hW => (hO.out w1 W hg1 hb1 hW)
        have HO1 := Lib.hid (And.intro hb1 hg1)
        have dp0 : w1.cell? ⟨p, 0, none⟩ = some (.iface onpT (.pointer (some ⟨q, 0, none⟩))) := (grown_cell hg1 hpl (by simp; exact n1)).trans cp0
        have dp1 : w1.cell? ⟨p, 1, none⟩ = some (.map (some m)) := (grown_cell hg1 hpl (by simp; exact n1)).trans cp1
        have hpl1 : p < w1.heap.size := Nat.lt_of_lt_of_le hpl hg1.size
        clear hb1 hg1 hcall cp1 cp0
        go_region_held3 (fun w' => w'.cell? ⟨p, 0, none⟩ = some (.iface onpT (.pointer (some ⟨q, 0, none⟩))) ∧ w'.cell? ⟨p, 1, none⟩ = some (.map (some m)))
          (first | go_keep | exact ⟨(grown_cell hg2 hpl1 (by simp)).trans dp0, (grown_cell hg2 hpl1 (by simp)).trans dp1⟩)
          (first
            | (go_at_call 162; refine (hO1 _ (by first | exact grown_refl _ | exact grown_drew _)).1.mono ?_; rintro e w2 ⟨rfl, hg2⟩; have hw2 : w1.grownBy w2 none := (by first | exact hg2 | exact grown_tr (grown_drew _) hg2); have r3 := HLK.out w2 (hO1 _ hw2).2; have r4 := HLK.out w2.drew (hO1 _ (grown_tr hw2 (grown_drew w2))).2)
            | (go_at_call 159; refine (id_node _ _).mono ?_; rintro e w' ⟨rfl, rfl⟩))
        have hw2 : w1.grownBy w2 none := (by first | exact hg2 | exact grown_tr (grown_drew _) hg2)
        have HW2 := Lib.hid hw2
        clear hg2 hw2 hO1 dp0 dp1
      · go_wp2_with fail
        go_ret
        obtain ⟨h, hg, htk, hge, hx, hb⟩ := HX.out
        obtain ⟨hb1, hg1⟩ := HO1.out
        have hkp : keepB S x = true := by unfold keepB; rw [← hb]; rfl
        obtain ⟨hk, -⟩ := hge hkp
        refine ⟨by rw [decide_eq_true hk]; rfl, fun _ => ⟨j + 1, ⟨by omega, ?_, ?_, ?_⟩, fun _ => ⟨by simpa using hlt, by omega, ?_⟩⟩, ?_⟩
        · rw [htk, if_pos hkp, List.length_append, h.2.1]; rfl
        · have e : ((j + 1 : Nat) : Int) - 1 = j := by omega
          rw [e]
          exact (h.2.2.1.moved hg1 hb1).kept HW2.out (by simp) (by simp)
        · exact (h.2.2.2.kept hg1 (by simp; exact n1) (by simp; exact n2)).kept HW2.out (by simp) (by simp)
        · simp only [Nat.add_sub_cancel]
          rw [← hx]; exact hkp
        · exact grown_row (grown_row hg hg1 (fun k hk => .inl (by cases hk; rfl))) HW2.out (by simp)
      · go_wp2_with fail
        go_roundw
        case rel =>
          obtain ⟨h, hg, htk, hge, hx, hb⟩ := HX.out
          obtain ⟨hb1, hg1⟩ := HO1.out
          have hkp : keepB S x = false := by unfold keepB; rw [← hb]; rfl
          refine ⟨j + 1, ⟨by omega, ?_, ?_, ?_⟩, ?_⟩
          · rw [htk, hkp, if_neg (by simp), List.append_nil, h.2.1]
          · have e : ((j + 1 : Nat) : Int) - 1 = j := by omega
            rw [e]
            exact (h.2.2.1.moved hg1 hb1).kept HW2.out (by simp) (by simp)
          · exact (h.2.2.2.kept hg1 (by simp; exact n1) (by simp; exact n2)).kept HW2.out (by simp) (by simp)
          · exact grown_row (grown_row hg hg1 (fun k hk => .inl (by cases hk; rfl))) HW2.out (by simp)
        case measure =>
          have e3 : idxIn q w2 = j + 1 := by
            have := grown_block HW2.out HO1.out.1 (by simp)
            unfold idxIn
            rw [cell_at this]
            simp
          have e4 : idxIn q wr = j := by unfold idxIn; rw [cell_at HX.out.1.2.2.1.1]; simp
          rw [e3, e4]
          omega
    · have hje : j = ids.length := by omega
      have hb0 := h.2.2.1.1
      rw [hje] at hb0
      have hcall := on_next_end hb0 hl
      have hkl : k = (ids.filter (keepB S)).length := by
        have := h.2.1
        rw [hje, List.take_length] at this
        exact this.symm
      have HX := Lib.hid (And.intro hg hkl)
      clear h hg hidx hb0 hkl hje cp1
      go_wp2_with (go_at_call 161; refine hcall.mono ?_; rintro e w1 ⟨rfl, hb1, hg1⟩)
      go_ret
      obtain ⟨hg, hkl⟩ := HX.out
      exact ⟨by rw [decide_eq_false (by omega)]; rfl, fun hh => absurd hh (by omega), grown_row hg hg1 (fun k hk => .inl (by cases hk; rfl))⟩

set_option maxHeartbeats 1000000 in
set_option maxRecDepth 100000 in
theorem nf_node {p q m k : Nat} {vs : Value} {ids S : List Int} {w : World} (h : NfOn w p q m vs ids S (k + 1)) (hk : k < (ids.filter (keepB S)).length) (hl : ids.length ≤ 1000000) :
    Calls Tryz.prog 157 #[.pointer (some ⟨p, 0, none⟩)] w (fun e w' => e = .returned (nodeV (ids.filter (keepB S))[k]) ∧ w.grownBy w' none) := by
  obtain ⟨j, h, hlast⟩ := h
  obtain ⟨hj1, hj0, hkp⟩ := hlast (by omega)
  have e1 : ((j : Int) - 1) = ((j - 1 : Nat) : Int) := by omega
  have ho := h.2.2.1
  rw [e1] at ho
  have hcall := on_node ho hj1 hl
  have hlk : ((ids.take (j - 1)).filter (keepB S)).length = k := by
    have h2 := nf_take (p := keepB S) hj1
    rw [if_pos hkp, show j - 1 + 1 = j by omega] at h2
    have h3 := h.2.1
    rw [h2, List.length_append] at h3
    simp at h3
    exact h3
  obtain ⟨_, hx⟩ := nf_get hj1 hkp hlk
  have cp0 : w.cell? ⟨p, 0, none⟩ = some (.iface onpT (.pointer (some ⟨q, 0, none⟩))) := cell_at h.2.2.2.1
  rw [hx]
  obtain ⟨y, hy⟩ : ∃ y, y = ids[j - 1] := ⟨_, rfl⟩
  rw [← hy] at hcall ⊢
  clear h hlast hkp hlk hx hy ho e1
  go_enter Tryz.func157, Tryz.ntmps157
  go_wp2_with (go_at_call 162; refine hcall.mono ?_; rintro e w1 ⟨rfl, hg1⟩)
  go_ret
  exact ⟨rfl, hg1⟩

set_option maxHeartbeats 1000000 in
set_option maxRecDepth 100000 in
theorem iterated_nf {p q : Nat} {l : List Int} {w : World} {I : World → Nat → Prop} (hI : I w 0)
    (hnext : ∀ W k, I W k → k < l.length → Calls Tryz.prog 156 #[.pointer (some ⟨p, 0, none⟩)] W (fun e W' => e = .returned (.bool true) ∧ I W' (k + 1) ∧ W.grownBy W' (some q)))
    (hend : ∀ W, I W l.length → Calls Tryz.prog 156 #[.pointer (some ⟨p, 0, none⟩)] W (fun e W' => e = .returned (.bool false) ∧ W.grownBy W' (some q)))
    (hnode : ∀ W k (hk : k < l.length), I W (k + 1) → Calls Tryz.prog 157 #[.pointer (some ⟨p, 0, none⟩)] W (fun e W' => e = .returned (nodeV l[k]) ∧ W.grownBy W' none))
    (hstab : ∀ W W' row k, I W k → W.grownBy W' row → (∀ b, row = some b → w.heap.size ≤ b) → I W' k)
    (hq : q < w.heap.size) (hl : l.length ≤ 1000000) :
    Calls Tryz.prog 43 #[.iface nfpT (.pointer (some ⟨p, 0, none⟩))] w (ItdPost l q w) := by
  have HI := Lib.hid hI
  have HN := Lib.hid (And.intro hnext (And.intro hend (And.intro hnode hstab)))
  clear hI hnext hend hnode hstab
  go_enter Tryz.func43, Tryz.ntmps43
  go_wp2_with fail
  go_loopw [3] (fun v wr => ItdRel I l q w v wr) (fun v _ => l.length - lenOf v)
  case atStart => exact ⟨0, Nat.zero_le _, HI.out, ⟨rfl, .inl ⟨rfl, rfl⟩⟩, grown_self _ _⟩
  case round =>
    obtain ⟨k, hk, hI, hown, hg⟩ := hrel
    obtain ⟨av, cv, rfl⟩ := own_slice hown
    by_cases hlt : k < l.length
    · have hcall := HN.out.1 wr k hI hlt
      have hnod := fun W h => HN.out.2.2.1 W k hlt h
      have hlk : (l.take (k + 1)).map (Value.int .i64) = (l.take k).map (Value.int .i64) ++ [.int .i64 l[k]] := by rw [List.take_succ_eq_append_getElem hlt, List.map_append]; rfl
      obtain ⟨x, hx⟩ : ∃ x, x = l[k] := ⟨_, rfl⟩
      rw [← hx] at hnod hlk
      have HX := Lib.hid (And.intro hlk (And.intro hown hg))
      have hne : (Value.slice av k cv).ownBlock = none ∨ (Value.slice av k cv).ownBlock ≠ some q := by
        by_cases h0 : (Value.slice av k cv).ownBlock = none
        · exact .inl h0
        · refine .inr (fun e => ?_)
          have := (hown.lt q e).1
          omega
      have HNE := Lib.hid hne
      clear hx hown hg hne hI hlk
      go_wp2_with (first
        | (go_at_call 156; refine hcall.mono ?_; rintro e w1 ⟨rfl, hI1, hg1⟩; have hcall2 := hnod _ hI1; replace hI1 := Lib.hid hI1)
        | (go_at_call 157; refine hcall2.mono ?_; rintro e w2 ⟨rfl, hg2⟩)
        | (go_at_call 46; refine (number_any _ _).mono ?_; rintro e w' ⟨rfl, rfl⟩; have ho2 := own_new (HX.out.2.1.kept hg1 HNE.out) hg2; have hs2 : w.heap.size ≤ w2.heap.size := by (have := HX.out.2.2.size; have := hg1.size; have := hg2.size; omega))
        | (at_builtin; refine wpx_app1 elI rfl (.tmp 6) (.tmp 10) rfl w.heap.size (.slice av k cv) k _ rfl (ho2.alloc _) w2.heap.size #[.int .i64 x] (heap_alloc_new w2 _) (w2.heap.size + 1) (by simp) 1 rfl rfl (by simp [Value.oneCell']) (by omega) (by unfold maxLen; omega) (by omega) ?_; intro g5 c5 w5 ho5 hg5 hat hlt2 hsz))
      go_roundw
      case rel =>
        obtain ⟨hlk, hown, hg⟩ := HX.out
        have ho2 := own_new (hown.kept hg1 HNE.out) hg2
        refine ⟨k + 1, by omega, ?_, ?_, ?_⟩
        · exact HN.out.2.2.2 _ _ _ _ (HN.out.2.2.2 _ _ _ _ hI1.out (grown_tr hg2 (grown_alloc _ _)) (by simp)) hg5 (fun b hb => (hown.lt b hb).1)
        · rw [hlk]; exact ho5
        · exact grown_row (grown_row (grown_row hg hg1 (fun k hk => .inl (by cases hk; rfl))) (grown_tr hg2 (grown_alloc _ _)) (by simp)) hg5 (fun b hb => .inr (hown.lt b hb).1)
      case measure => simp [lenOf]; omega
    · obtain rfl : k = l.length := by omega
      rw [List.take_length] at hown
      have hcall := HN.out.2.1 wr hI
      have hne : (Value.slice av l.length cv).ownBlock = none ∨ (Value.slice av l.length cv).ownBlock ≠ some q := by
        by_cases h0 : (Value.slice av l.length cv).ownBlock = none
        · exact .inl h0
        · refine .inr (fun e => ?_)
          have := (hown.lt q e).1
          omega
      have HX := Lib.hid (And.intro hown (And.intro hg hne))
      clear hown hg hI hne
      go_wp2_with (first
        | (go_at_call 156; refine hcall.mono ?_; rintro e w1 ⟨rfl, hg1⟩; have hso := sort_int (HX.out.1.kept hg1 HX.out.2.2) (by omega))
        | (go_at_call 31; refine hso.mono ?_; rintro e w4 ⟨rfl, ho4, hg4⟩))
      go_ret
      obtain ⟨hown, hg, hne⟩ := HX.out
      exact ⟨_, rfl, ho4, grown_row (grown_row hg hg1 (fun k hk => .inl (by cases hk; rfl))) hg4 (fun b hb => .inr (hown.lt b hb).1)⟩
end Go.Proofs.YtcbkalppclilfaaGreat
