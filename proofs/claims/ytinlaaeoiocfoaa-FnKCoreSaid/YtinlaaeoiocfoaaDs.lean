/- topo.DegeneracyOrdering: how many cores it tells. -/
import Derived.Test.YtinlaaeoiocfoaaDr
import Derived.Test.YtinlaaeoiocfoaaUn
import Derived.Test.YtinlaaeoiocfoaaOu
import Derived.Test.YtinlaaeoiocfoaaRv
namespace Go.Proofs.Ytinlaaeoiocfoaa
open Go.MapKept Go.RowKit

theorem run_slice_any {P : Program} {t e : TypeId} {size bytes : Nat} {z : Value} (E : ElT P t e size bytes z) (a : Option Addr) (n cap lo hi : Nat) (h1 : lo ≤ hi) (h2 : hi ≤ cap) (w : World) :
    ∃ a', (Instr.sliceAt t (.slice a n cap) (some (.int .i64 (lo : Int))) (some (.int .i64 (hi : Int))) none).run P w = .ok (.slice a' (hi - lo) (cap - lo)) w := by
  obtain ⟨i, h1i, h2i, h3, h4⟩ := info_parts E.hi
  have e1 : (0 : Int) ≤ (lo : Int) ∧ (lo : Int) ≤ (hi : Int) := by omega
  have e2 : (0 : Int) ≤ (hi : Int) ∧ (hi : Int) ≤ (cap : Int) := by omega
  refine ⟨if cap = lo then a else a.map (·.add (lo * size)), ?_⟩
  simp [Instr.sliceAt, Instr.slice, Instr.sliceBounds, Instr.sliceBound, run_underlying E.ht, asIntOf, e1, e2, sizeOf, typeInfo, h1i, h3, h1, h2]

section
variable {N : Int → List Int} {ids l : List Int} {s : List Nat} {k : Nat}
/-- up to one above a core that has nodes there is a class for each -/
theorem DgOk.kle (h : DgOk N ids l k s) (hall : ∀ x ∈ ids, x ∈ l) {j : Nat} (hj : j ≤ 1 ∨ ∃ C x, Supp N ids (j - 1) C ∧ C x = true) : j ≤ k + 1 := by
  rcases hj with hj | ⟨C, x, hC, hx⟩
  · omega
  · apply Classical.byContradiction
    intro hc
    have h1 := h.next C (hC.le N ids (by omega)) x hx
    exact h1 (hall x (hC.1 x hx))
end
theorem sum_take_le (s : List Nat) (i : Nat) : (s.take i).sum ≤ s.sum := by
  have h := List.sum_append (l₁ := s.take i) (l₂ := s.drop i)
  rw [List.take_append_drop] at h
  omega
theorem sum_take_succ (s : List Nat) {i : Nat} (hi : i < s.length) : (s.take (i + 1)).sum = (s.take i).sum + s[i] := by
  rw [List.take_succ_eq_append_getElem hi, List.sum_append]
  simp

theorem own_len_cap {w : World} {b n c sz : Nat} {e : TypeId} {a : Option Addr} {xs : List Value} (h : w.ownsRow b e sz (.slice a n c) n xs) : n ≤ c := by
  rcases h.2 with ⟨h1, h0⟩ | ⟨g, cap, cur, e1, hb, hh, hc, _⟩
  · omega
  · simp only [Value.slice.injEq] at e1
    omega
/-- degeneracyOrdering's answer in parts -/
theorem DegPost.parts {N : Int → List Int} {ids : List Int} {w : World} {e : Ending} {w' : World} (h : DegPost N ids w e w') :
    ∃ al cl gs cs l s k, e = .returned (.tuple #[.slice al l.length cl, .slice (some ⟨gs, 0, none⟩) s.length cs]) ∧ w'.ownsRow w.heap.size nodT 1 (.slice al l.length cl) l.length (l.map nodeV) ∧ w'.ownsRow w.heap.size inT 1 (.slice (some ⟨gs, 0, none⟩) s.length cs) s.length (s.map (fun n => Value.int .i64 (n : Nat))) ∧ w.grownBy w' none ∧
      DgOk N ids l k s ∧ l.Nodup ∧ (∀ x ∈ l, x ∈ ids) ∧ (∀ x ∈ ids, x ∈ l) ∧ k ≤ 1000 ∧ l.length ≤ ids.length ∧ l.length ≤ cl ∧ s.length ≤ cs ∧ s.sum = l.length ∧ s.length ≤ 1001 := by
  obtain ⟨lv, sv, l, s, k, rfl, ho, hso, hg, hok, hnd, hsub, hall, hk⟩ := h
  have hsl := hok.len
  obtain ⟨al, cl, rfl⟩ := own_slice ho
  obtain ⟨gs, cs, rfl, _, _, hc⟩ := own_row hso (by omega)
  exact ⟨al, cl, gs, cs, l, s, k, rfl, ho, hso, hg, hok, hnd, hsub, hall, hk, nodup_len hnd hsub, own_len_cap ho, hc, hok.sum, by omega⟩

theorem mk_bk2 (n : Nat) (hn : n ≤ 1000000) (w : World) : (Instr.makeSlice 47 (.int .i64 (n : Int)) (.int .i64 (n : Int))).run Try.prog w = .ok (.slice (some ⟨w.heap.size, 0, none⟩) n n) (w.alloc (.cells (madeCells #[.slice none 0 0] n) bkT)) := run_make_row' (P := Try.prog) 47 bkT (.slice none 0 0) 24 Try.underlying47 (by kernel_rfl) rfl .i64 .i64 n (by omega) (by omega) w
theorem rowIs_madeB {w : World} {b n : Nat} (h : w.heap[b]? = some (.cells (madeCells #[.slice none 0 0] n) bkT (0, 0))) : w.rowIs b bkT n (fun _ => .slice none 0 0) := by
  obtain ⟨c, hc, h1, h2⟩ := World.rowIs_made default (.slice none 0 0) n bkT
  have e := heap_alloc_new (default : World) (.cells (madeCells #[.slice none 0 0] n) bkT)
  rw [e] at hc
  simp at hc
  subst hc
  exact ⟨_, h, h1, h2⟩
def CoresPost (N : Int → List Int) (ids : List Int) (w : World) (e : Ending) (w' : World) : Prop :=
  ∃ ov a n c l s, e = .returned (.tuple #[ov, .slice a (n + 1) c]) ∧ w.grownBy w' none ∧ DgOk N ids l n s ∧ (∀ x ∈ ids, x ∈ l) ∧ n ≤ 1000
def CoRel (l : List Int) (s : List Nat) (w : World) (sv : Value) (bc : Nat) (a5 a22 : Value) (wr : World) : Prop :=
  ∃ (i : Nat) (V : Nat → Value), i ≤ s.length ∧ a22 = .int .i64 i ∧ a5 = .int .i64 ((l.length - (s.take i).sum : Nat) : Int) ∧ wr.rowIs bc bkT s.length V ∧ wr.ownsRow w.heap.size inT 1 sv s.length (s.map (fun n => Value.int .i64 (n : Nat))) ∧ w.grownBy wr none

set_option maxHeartbeats 2000000 in
set_option maxRecDepth 100000 in
theorem cores_of {p0 : Nat} {N : Int → List Int} {ids : List Int} {w : World} (hids : ids.length ≤ 1000) (hd : Calls Try.prog 20 #[.iface undT (dirV p0)] w (DegPost N ids w)) :
    Calls Try.prog 13 #[.iface undT (dirV p0)] w (CoresPost N ids w) := by
  go_enter Try.func13, Try.ntmps13
  go_wp2_with (first
    | (go_at_call 20; refine hd.mono ?_; intro e w1 hp; have hp2 := hp.parts; obtain ⟨al, cl, gs, cs, l, s, k, rfl, ho, hso, hg, hok, hnd, hsub, hall, hk, hll, hcl, hcs, hsum, hs1⟩ := hp2; have hrv := rev_nodes nodeV (fun _ => rfl) ho (by omega); clear hp hnd hsub; replace hg := Lib.hid hg; replace hso := Lib.hid (And.intro ho hso); replace hok := Lib.hid (And.intro hok hall); replace hsum := Lib.hid hsum; clear ho hall)
    | (go_at_call 21; refine hrv.mono ?_; rintro e w2 ⟨rfl, ho2, hg2⟩; replace ho2 := Lib.hid ho2; replace hg2 := Lib.hid hg2; have hmk := mk_bk2 s.length (by omega) w2))
  have HS0 : Hid (CoRel l s w (.slice (some ⟨gs, 0, none⟩) s.length cs) w2.heap.size (.int .i64 l.length) (.int .i64 0) (w2.alloc (.cells (madeCells #[.slice none 0 0] s.length) bkT))) := Lib.hid (by
    have h1 := hso.out.2.kept hg2.out (row_ne_row hso.out.2 hso.out.1 (by decide))
    refine ⟨0, _, Nat.zero_le _, rfl, by simp, rowIs_madeB (heap_alloc_new w2 _), own_new h1 (grown_alloc _ _), grown_tr (grown_new hg.out hg2.out (fun j hj => (hso.out.1.lt j hj).1)) (grown_alloc _ _)⟩)
  have hbc := (grown_new hg.out hg2.out (fun j hj => (hso.out.1.lt j hj).1)).size
  clear hso hg ho2 hg2 hmk hrv
  go_loopw [5, 6, 7, 22] (fun a5 _ _ a22 wr => CoRel l s w (.slice (some ⟨gs, 0, none⟩) s.length cs) w2.heap.size a5 a22 wr) (fun _ _ _ i _ => s.length - (intOf i).toNat)
  case atStart => exact HS0.out
  case round =>
    clear HS0
    obtain ⟨i, V, hi, rfl, rfl, hro, hso, hg⟩ := hrel
    by_cases hlt : i < s.length
    · have hlt' : (i : Int) < s.length := by omega
      have c1 : wr.cell? ⟨gs, i, none⟩ = some (.int .i64 ((s[i] : Nat) : Int)) := by
        have h8 := hso.cells (g := gs) rfl i (.int .i64 ((s[i] : Nat) : Int)) (by simp [hlt])
        rwa [addr_add, Nat.zero_add] at h8
      have hs2 := sum_take_succ s hlt
      have hs3 := sum_take_le s (i + 1)
      rw [hsum.out] at hs3
      obtain ⟨m, hm⟩ : ∃ m, m = s[i] := ⟨_, rfl⟩
      rw [← hm] at c1 hs2
      obtain ⟨off, hoff⟩ : ∃ off, off = l.length - (s.take i).sum := ⟨_, rfl⟩
      rw [← hoff]
      have hmo : m ≤ off := by omega
      have hol : off ≤ l.length := by omega
      have hnew : ((l.length - (s.take (i + 1)).sum : Nat) : Int) = (off : Int) - m := by omega
      obtain ⟨a9, hsl⟩ := run_slice_any elN al l.length cl (off - m) off (by omega) (by omega) wr
      have e9 : ((off - m : Nat) : Int) = (off : Int) - m := by omega
      rw [e9] at hsl
      have hw : IntKind.i64.wrap ((off : Int) - m) = (off : Int) - m := by rw [IntKind.wrap_i64]; omega
      have c2 := hro.cell hlt
      obtain ⟨c, k9, _⟩ := id hro
      have f2 : wr.frozen? ⟨w2.heap.size, i, none⟩ = false := free_at k9
      have HR := Lib.hid (And.intro hro (And.intro hso (And.intro hg (And.intro hnew k9))))
      clear hro hso hg hnew k9 hs2 hs3 hm hoff e9
      go_wp2_with fail
      go_roundw
      case rel =>
        obtain ⟨hro, hso, hg, hnew, k9⟩ := HR.out
        refine ⟨i + 1, _, hlt, rfl, by rw [hnew], hro.set i _, hso.kept (grown_setCell wr _ i _) (.inr (own_ne_type hso k9 (by decide)).symm), grown_new hg (grown_setCell wr _ i _) (fun j hj => by cases hj; exact hbc)⟩
      case measure => simp [intOf]; omega
    · have hlt' : ¬ (i : Int) < s.length := by omega
      have hE : Hid (CoresPost N ids w (.returned (.tuple #[.slice al l.length cl, .slice (some ⟨w2.heap.size, 0, none⟩) s.length s.length])) wr) := Lib.hid ⟨_, _, k, _, l, s, by rw [hok.out.1.len], hg, hok.out.1, hok.out.2, hk⟩
      clear hro hso hg
      go_wp2_with fail
      refine bodyPost_ret (v := .tuple #[.slice al l.length cl, .slice (some ⟨w2.heap.size, 0, none⟩) s.length s.length]) (by simp [results, Try.results13, go_sem]) rfl ?_
      exact hE.out
end Go.Proofs.Ytinlaaeoiocfoaa
