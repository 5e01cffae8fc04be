/- nodeFilterIterator: how it is made. -/
import Derived.Test.YtcbkalppclilfaaGreatIa
import Derived.Deep.RegionHeld3
namespace Go.Proofs.YtcbkalppclilfaaGreat
open Go.MapKept Go.RowKit

abbrev nfT : TypeId := 195
abbrev nfpT : TypeId := 191
theorem undB : Tryz.prog.underlying 193 = some (.map 2 4) := Tryz.underlying193
theorem undKb : Tryz.prog.underlying 2 = some (.int .i64) := Tryz.underlying2
theorem zeroB (w : World) : (zeroValue 4).run Tryz.prog w = .ok (.bool false) w := by kernel_rfl
theorem lkp_upd {m : Ents} {k : Int} {v : Value} (x : Int) : lkp (upd m k v) x = if x = k then some v else lkp m x := by
  unfold upd
  by_cases ha : (m.any (fun p => p.1 == k)) = true
  · rw [if_pos ha]
    have hg : ∀ p : Int × Value, (if (p.1 == k) = true then (k, v) else p).1 = p.1 := fun p => by
      by_cases e : p.1 = k
      · simp [e]
      · simp [e]
    unfold lkp
    rw [List.find?_map]
    have hp : ((fun p : Int × Value => p.1 == x) ∘ fun p => if (p.1 == k) = true then (k, v) else p) = fun p => p.1 == x := by
      funext p
      simp only [Function.comp_apply, hg]
    rw [hp]
    cases hf : m.find? (fun p => p.1 == x) with
    | none =>
      by_cases e : x = k
      · subst e
        rw [List.find?_eq_none] at hf
        obtain ⟨q, hq, h2⟩ := List.any_eq_true.1 ha
        exact absurd h2 (hf q hq)
      · simp [e]
    | some q =>
      have h2 : q.1 = x := by simpa using List.find?_some hf
      by_cases e : x = k
      · simp [e, h2]
      · simp [e, h2]
  · rw [if_neg ha]
    unfold lkp
    rw [List.find?_append]
    by_cases e : x = k
    · subst e
      have : m.find? (fun p => p.1 == x) = none := by
        rw [List.find?_eq_none]
        intro q hq hh
        exact ha (List.any_eq_true.2 ⟨q, hq, hh⟩)
      simp [this]
    · have : ([(k, v)] : Ents).find? (fun p => p.1 == x) = none := by simp [Ne.symm e]
      rw [this, Option.or_none, if_neg e]

theorem mapis_ne {w : World} {b m : Nat} {e : Ents} {c : Array Value} {t : TypeId} {f : Nat × Nat} (h : MapIs w m e) (hb : w.heap[b]? = some (.cells c t f)) : m ≠ b := by
  rintro rfl
  obtain ⟨es, clock, h1, _⟩ := h
  rw [hb] at h1
  cases h1

/-- a map whose keys with true are the numbers of S -/
def BMap (w : World) (m : Nat) (S : List Int) : Prop := ∃ e, MapIs w m e ∧ ∀ x, (lkp e x).getD (.bool false) = .bool (decide (x ∈ S))
theorem BMap.grown {w w' : World} {row : Option Nat} {m : Nat} {S : List Int} (h : BMap w m S) (hg : w.grownBy w' row) (hne : some m ≠ row) : BMap w' m S := by
  obtain ⟨e, h1, h2⟩ := h
  exact ⟨e, h1.grown hg hne, h2⟩
theorem BMap.lt {w : World} {m : Nat} {S : List Int} (h : BMap w m S) : m < w.heap.size := by
  obtain ⟨e, h1, -⟩ := h
  exact h1.lt
theorem BMap.ne {w : World} {b m : Nat} {S : List Int} {c : Array Value} {t : TypeId} {f : Nat × Nat} (h : BMap w m S) (hb : w.heap[b]? = some (.cells c t f)) : m ≠ b := by
  obtain ⟨e, h1, -⟩ := h
  exact mapis_ne h1 hb
theorem BMap.upd {w : World} {m : Nat} {S : List Int} (h : BMap w m S) (x : Int) : ∃ w', (Instr.mapUpdate 193 (.map (some m)) (.int .i64 x) (.bool true)).run Tryz.prog w = .ok () w' ∧ BMap w' m (S ++ [x]) ∧ w.grownBy w' (some m) ∧ w'.heap.size = w.heap.size := by
  obtain ⟨e, h1, h2⟩ := h
  obtain ⟨w', k1, k2, k3, k4⟩ := run_update_is (P := Tryz.prog) h1 undB undKb x (.bool true)
  refine ⟨w', k1, ⟨_, k2, fun y => ?_⟩, k3, k4⟩
  rw [lkp_upd]
  by_cases hy : y = x
  · simp [hy]
  · simp [hy, h2 y]
theorem BMap.look {w : World} {m : Nat} {S : List Int} (h : BMap w m S) (x : Int) : (Instr.lookup 193 (.map (some m)) (.int .i64 x) false).run Tryz.prog w = .ok (.bool (decide (x ∈ S))) w := by
  obtain ⟨e, h1, h2⟩ := h
  have := run_lookup_is h1 undB undKb (zeroB w) x false
  rw [if_neg (by simp), h2 x] at this
  exact this
theorem BMap.made (w : World) : BMap (w.alloc (.map #[] 0)) w.heap.size [] := ⟨[], MapIs.made w, fun x => by simp [lkp]⟩

theorem BMap.cells {w : World} {m : Nat} {S : List Int} (h : BMap w m S) : ∀ j x, w.cell? ⟨m, j, none⟩ ≠ some (nodeV x) := by
  obtain ⟨e, ⟨es, clock, h1, _⟩, -⟩ := h
  intro j x e
  simp [World.cell?, h1] at e

/-- a filter over the nodes of the iterator q: all but those of S are handed on -/
def NfR (w : World) (p q m : Nat) (S : List Int) : Prop := w.heap[p]? = some (.cells #[.iface onpT (.pointer (some ⟨q, 0, none⟩)), .map (some m)] nfT (0, 0)) ∧ BMap w m S

def idxIn (q : Nat) (w : World) : Nat := match w.cell? ⟨q, 0, none⟩ with
  | some (.int _ i) => (i + 1).toNat
  | _ => 0

def NfPost (B q1 : Nat) (vs1 : Value) (ids S : List Int) (w0 : World) (e : Ending) (w' : World) : Prop :=
  ∃ p m, e = .returned (.pointer (some ⟨p, 0, none⟩)) ∧ NfR w' p q1 m S ∧ OnR w' q1 vs1 ids (-1) ∧ B ≤ p ∧ B ≤ m ∧ w0.grownBy w' none
def NfRel (p m q1 q2 : Nat) (vs1 vs2 : Value) (ids nb : List Int) (u : Int) (w0 wr : World) : Prop :=
  ∃ k, k ≤ nb.length ∧ OnR wr q2 vs2 nb ((k : Int) - 1) ∧ NfR wr p q1 m (u :: nb.take k) ∧ OnR wr q1 vs1 ids (-1) ∧ w0.grownBy wr none

set_option maxHeartbeats 1000000 in
set_option maxRecDepth 100000 in
theorem new_filter {q1 q2 : Nat} {vs1 vs2 : Value} {ids nb : List Int} {u : Int} {w0 w : World} (h1 : OnR w q1 vs1 ids (-1)) (h2 : OnR w q2 vs2 nb (-1)) (hl : nb.length ≤ 1000000)
    (hg0 : w0.grownBy w none) (hq1 : w0.heap.size ≤ q1) (hq2 : w0.heap.size ≤ q2) (hne : q1 ≠ q2) :
    Calls Tryz.prog 129 #[.iface onpT (.pointer (some ⟨q1, 0, none⟩)), .iface onpT (.pointer (some ⟨q2, 0, none⟩)), .int .i64 u] w (NfPost w.heap.size q1 vs1 ids (u :: nb) w0) := by
  obtain ⟨wm, hrun, hm1, hm2, hws⟩ := (BMap.made w).upd u
  have hwm : w.grownBy wm none := grown_new (grown_alloc _ _) hm2 (fun k hk => by cases hk; exact Nat.le_refl _)
  have hmm := @run_makeMap Tryz.prog
  have hws : wm.heap.size = w.heap.size + 1 := by rw [hws]; simp
  have HS : Hid (NfRel (w.heap.size + 1) w.heap.size q1 q2 vs1 vs2 ids nb u w0 (wm.alloc (.cells #[.iface onpT (.pointer (some ⟨q1, 0, none⟩)), .map (some w.heap.size)] nfT))) := by
    have hal := grown_tr hwm (grown_alloc wm (.cells #[.iface onpT (.pointer (some ⟨q1, 0, none⟩)), .map (some w.heap.size)] nfT))
    rw [← hws]
    exact Lib.hid ⟨0, Nat.zero_le _, h2.kept hal (by simp) (by simp), ⟨heap_alloc_new wm _, hm1.grown (grown_alloc _ _) (by simp)⟩, h1.kept hal (by simp) (by simp), grown_tr hg0 hal⟩
  have HWS := Lib.hid (And.intro hg0.size (And.intro (block_lt h1.1) (block_lt h2.1)))

  clear h1 h2 hg0 hm1 hm2 hwm
  go_enter Tryz.func129, Tryz.ntmps129
  go_wp2_with fail
  clear hrun hmm
  obtain ⟨p, hp⟩ : ∃ p, p = w.heap.size + 1 := ⟨_, rfl⟩
  obtain ⟨m, hm⟩ : ∃ m, m = w.heap.size := ⟨_, rfl⟩
  rw [← hp] at HS ⊢
  obtain ⟨wy, hwy⟩ : ∃ wy, wy = wm.alloc (.cells #[.iface onpT (.pointer (some ⟨q1, 0, none⟩)), .map (some w.heap.size)] nfT) := ⟨_, rfl⟩
  rw [← hwy] at HS ⊢
  rw [← hm] at HS HWS ⊢
  have HM := Lib.hid (And.intro hm (show p = m + 1 by rw [hm]; exact hp))
  clear hp hwy hm hws
  go_loopw [13] (fun _ wr => NfRel p m q1 q2 vs1 vs2 ids nb u w0 wr) (fun _ wr => nb.length + 1 - idxIn q2 wr)
  case atStart => exact HS.out
  case round =>
    clear HS
    obtain ⟨k, hk, h2, hn, h1, hg⟩ := hrel
    have hidx : idxIn q2 wr = k := by unfold idxIn; rw [cell_at h2.1]; simp
    have hpq : p ≠ q2 ∧ p ≠ q1 ∧ m ≠ q2 ∧ m ≠ q1 ∧ p ≠ m := by
      obtain ⟨k1, k2, k3⟩ := HWS.out
      obtain ⟨k4, k5⟩ := HM.out
      exact ⟨by omega, by omega, by omega, by omega, by omega⟩
    obtain ⟨a2, c2, rfl, hc2⟩ := id h2.2
    have cp1 : wr.cell? ⟨p, 1, none⟩ = some (.map (some m)) := cell_at hn.1
    by_cases hlt : k < nb.length
    · have hcall := on_next h2.1 hlt hl
      have hto : nb.take (k + 1) = nb.take k ++ [nb[k]] := List.take_succ_eq_append_getElem hlt
      have hO : Hid (∀ W W', wr.grownBy W (some q2) → W.heap[q2]? = some (.cells #[.int .i64 k, .slice a2 nb.length c2] onT (0, 0)) → W.grownBy W' none → Calls Tryz.prog 162 #[.pointer (some ⟨q2, 0, none⟩)] W' (fun e w' => e = .returned (nodeV nb[k]) ∧ W'.grownBy w' none) ∧ BMap W' m (u :: nb.take k)) :=
        Lib.hid (fun W W' hW hb hW' => ⟨on_node ((h2.moved hW hb).kept hW' (by simp) (by simp)) hlt hl, (hn.2.grown hW (by simp; exact hpq.2.2.1)).grown hW' (by simp)⟩)
      obtain ⟨x, hx⟩ : ∃ x, x = nb[k] := ⟨_, rfl⟩
      rw [← hx] at hO hto
      have hpl := block_lt hn.1
      have HX := Lib.hid (And.intro hto (And.intro h2 (And.intro hn (And.intro h1 hg))))
      clear h2 hn h1 hg hto hx hidx hc2
      go_wp2_with (go_at_call 161; refine hcall.mono ?_; rintro e w1 ⟨rfl, hb1, hg1⟩)
      have hO1 := fun W hW => (hO.out w1 W hg1 hb1 hW)
      have HO1 := Lib.hid (And.intro hb1 hg1)
      have cp2 : w1.cell? ⟨p, 1, none⟩ = some (.map (some m)) := (grown_cell hg1 hpl (by simp; exact hpq.1)).trans cp1
      have hpl1 : p < w1.heap.size := Nat.lt_of_lt_of_le hpl hg1.size
      clear hb1 hg1 hcall cp1 hpl
      go_region_held3 (fun w' => w'.cell? ⟨p, 1, none⟩ = some (.map (some m)))
        (first | go_keep | exact (grown_cell g3 (Nat.lt_of_lt_of_le hpl1 hg2.size) (by simp; exact hpq.2.2.2.2)).trans ((grown_cell hg2 hpl1 (by simp)).trans cp2) | exact (grown_cell hg2 hpl1 (by simp)).trans cp2)
        (first
          | (go_at_call 162; refine (hO1 _ (by first | exact grown_refl _ | exact grown_drew _)).1.mono ?_; rintro e w2 ⟨rfl, hg2⟩; obtain ⟨w3, r3, b3, g3, -⟩ := ((hO1 _ (by first | exact hg2 | exact grown_tr (grown_drew _) hg2)).2).upd x)
          | (go_at_call 159; refine (id_node _ _).mono ?_; rintro e w' ⟨rfl, rfl⟩))
      go_roundw
      case rel =>
        obtain ⟨hto, h2, hn, h1, hg⟩ := HX.out
        obtain ⟨hb1, hg1⟩ := HO1.out
        obtain ⟨k1, k2, k3, k4, k5⟩ := hpq
        have hw2 : w1.grownBy w2 none := by first | exact hg2 | exact grown_tr (grown_drew _) hg2
        have o2 := (h2.moved hg1 hb1).kept hw2 (by simp) (by simp)
        have bm := (hn.2.grown hg1 (by simp; exact k3)).grown hw2 (by simp)
        have o1 := (h1.kept hg1 (by simp; omega) (fun r hr => by cases hr; exact h2.cells)).kept hw2 (by simp) (by simp)
        have c3 : ∀ r, some m = some r → ∀ j x, w2.cell? ⟨r, j, none⟩ ≠ some (nodeV x) := fun r hr => by cases hr; exact bm.cells
        refine ⟨_, _, _, _, _, _, _, ?_, rfl⟩
        refine ⟨k + 1, by omega, ?_, ⟨?_, ?_⟩, o1.kept g3 (by simp; omega) c3, ?_⟩
        · have : ((k + 1 : Nat) : Int) - 1 = k := by omega
          rw [this]
          exact o2.kept g3 (by simp; omega) c3
        · exact grown_block g3 (grown_block hw2 (grown_block hg1 hn.1 (by simp; exact k1)) (by simp)) (by simp; exact k5)
        · rw [hto]; exact b3
        · obtain ⟨j1, j2, j3⟩ := HWS.out
          obtain ⟨j4, j5⟩ := HM.out
          exact grown_new (grown_tr (grown_new hg hg1 (fun b hb => by cases hb; exact hq2)) hw2) g3 (fun b hb => by cases hb; omega)
      case measure =>
        have e3 : idxIn q2 w3 = k + 1 := by
          have hw2 : w1.grownBy w2 none := by first | exact hg2 | exact grown_tr (grown_drew _) hg2
          have := grown_block g3 (grown_block hw2 HO1.out.1 (by simp)) (by simp; omega)
          unfold idxIn
          rw [cell_at this]
          simp
        have e4 : idxIn q2 wr = k := by unfold idxIn; rw [cell_at HX.out.2.1.1]; simp
        rw [e3, e4]
        omega
    · obtain rfl : k = nb.length := by omega
      have hcall := on_next_end h2.1 hl
      have HX := Lib.hid (And.intro h2 (And.intro hn (And.intro h1 hg)))
      have hpl := block_lt hn.1
      have cp0 : wr.cell? ⟨p, 0, none⟩ = some (.iface onpT (.pointer (some ⟨q1, 0, none⟩))) := cell_at hn.1
      clear h2 hn h1 hg hidx hc2 cp1
      go_wp2_with (first
        | (go_at_call 161; refine hcall.mono ?_; rintro e w1 ⟨rfl, hb1, hg1⟩; have hr2 := on_reset hb1; clear hcall)
        | (go_at_call 164; refine hr2.mono ?_; rintro e w2 ⟨rfl, hb2, hg2⟩; clear hr2; have cq : w2.cell? ⟨p, 0, none⟩ = some (.iface onpT (.pointer (some ⟨q1, 0, none⟩))) := (grown_cell hg2 (Nat.lt_of_lt_of_le hpl hg1.size) (by simp; exact hpq.1)).trans ((grown_cell hg1 hpl (by simp; exact hpq.1)).trans cp0); have o1 := (HX.out.2.2.1.kept hg1 (by simp; omega) (fun r hr => by cases hr; exact HX.out.1.cells)).kept hg2 (by simp; omega) (fun r hr => by cases hr; exact on_cells hb1); have hr1 := on_reset o1.1; replace o1 := Lib.hid o1)
        | (go_at_call 164; refine hr1.mono ?_; rintro e w3 ⟨rfl, hb3, hg3⟩))
      go_ret
      obtain ⟨h2, hn, h1, hg⟩ := HX.out
      obtain ⟨k1, k2, k3, k4, k5⟩ := hpq
      rw [List.take_length] at hn
      refine ⟨p, m, rfl, ⟨?_, ?_⟩, o1.out.moved hg3 hb3, by have := HM.out; omega, by have := HM.out; omega, ?_⟩
      · exact grown_block hg3 (grown_block hg2 (grown_block hg1 hn.1 (by simp; exact k1)) (by simp; exact k1)) (by simp; exact k2)
      · exact ((hn.2.grown hg1 (by simp; exact k3)).grown hg2 (by simp; exact k3)).grown hg3 (by simp; exact k4)
      · exact grown_new (grown_new (grown_new hg hg1 (fun b hb => by cases hb; exact hq2)) hg2 (fun b hb => by cases hb; exact hq2)) hg3 (fun b hb => by cases hb; exact hq1)
end Go.Proofs.YtcbkalppclilfaaGreat
