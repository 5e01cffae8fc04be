/- Nodes: values of graph.Node that are numbers; numbers, iterators over a list. -/
import Derived.Test.YtinlaaeoiocfoaaRd
namespace Go.Proofs.Ytinlaaeoiocfoaa
open Go.MapKept Go.RowKit

abbrev snT : TypeId := 144
abbrev nodT : TypeId := 63
abbrev nodeV (x : Int) : Value := .iface snT (.int .i64 x)

set_option maxHeartbeats 400000 in
theorem id_node (x : Int) (w : World) : Calls Try.prog 92 #[.int .i64 x] w (fun e w' => e = .returned (.int .i64 x) ∧ w = w') := by
  go_enter Try.func92, Try.ntmps92
  go_wp2_with fail
  go_ret
  exact ⟨rfl, rfl⟩

set_option maxHeartbeats 400000 in
theorem number_any (x : Int) (w : World) : Calls Try.prog 22 #[nodeV x] w (fun e w' => e = .returned (.int .i64 x) ∧ w = w') := by
  go_enter Try.func22, Try.ntmps22
  go_wp2_with (go_at_call 92; refine (id_node _ _).mono ?_; rintro e w' ⟨rfl, rfl⟩)
  go_ret
  exact ⟨rfl, rfl⟩

theorem elI : ElT Try.prog 22 3 1 8 (.int .i64 0) := ⟨Try.underlying22, by kernel_rfl, rfl, by decide⟩
theorem elN : ElT Try.prog 46 nodT 1 16 .nilIface := ⟨Try.underlying46, by kernel_rfl, rfl, by decide⟩

theorem run_make0 {P : Program} {t e : TypeId} {size bytes : Nat} {z : Value} (E : ElT P t e size bytes z) (n : Nat) (hb : n * bytes ≤ 281474976710656) (hn : n ≤ maxLen) (w : World) :
    (Instr.makeSlice t (.int .i64 0) (.int .i64 (n : Int))).run P w = .ok (.slice (some ⟨w.heap.size, 0, none⟩) 0 n) (w.alloc (.cells (madeCells z.cells (n * size)) e)) := by
  obtain ⟨i, h1i, h2, h3, h4⟩ := info_parts E.hi
  have h63 : (n : Int) ≤ 9223372036854775807 := by unfold maxLen at hn; omega
  have hbb : (i.bytes : Int) * (n : Int) ≤ 281474976710656 := by
    rw [h4, Int.mul_comm, ← Int.natCast_mul]
    exact Int.ofNat_le.2 hb
  have := run_make w t e i z E.ht h1i h2 .i64 .i64 0 (n : Int) (by omega) (by omega) hbb h63
  rw [h3] at this
  simpa only [Int.toNat_zero, Int.toNat_natCast] using this

theorem own_make0 {e : TypeId} {size : Nat} {z : Value} (n : Nat) (hn : n ≤ maxLen) (w : World) :
    (w.alloc (.cells (madeCells z.cells (n * size)) e)).ownsRow w.heap.size e size (.slice (some ⟨w.heap.size, 0, none⟩) 0 n) 0 [] :=
  World.ownsRow_made w _ n (Nat.le_refl _) hn (by rw [size_madeCells])

theorem own_make1 {e : TypeId} (z : Value) (n : Nat) (hn : n ≤ maxLen) (w : World) :
    (w.alloc (.cells (madeCells #[z] n) e)).ownsRow w.heap.size e 1 (.slice (some ⟨w.heap.size, 0, none⟩) 0 n) 0 [] :=
  World.ownsRow_made w _ n (Nat.le_refl _) hn (by rw [size_madeCells, Nat.mul_one])

/-- v reads as nodes -/
def NodesR (w : World) (v : Value) (l : List Int) : Prop :=
  ∃ a c, v = .slice a l.length c ∧ (0 < l.length → ∃ b o, a = some ⟨b, o, none⟩ ∧ b < w.heap.size ∧ ∀ i, (h : i < l.length) → w.cell? ⟨b, o + i, none⟩ = some (nodeV l[i]))
theorem NodesR.grown {w w' : World} {v : Value} {l : List Int} (h : NodesR w v l) (hg : w.grownBy w' none) : NodesR w' v l := by
  obtain ⟨a, c, rfl, h⟩ := h
  refine ⟨a, c, rfl, fun hl => ?_⟩
  obtain ⟨b, o, rfl, hb, hc⟩ := h hl
  exact ⟨b, o, rfl, Nat.lt_of_lt_of_le hb hg.size, fun i hi => by rw [grown_cell hg hb (by simp)]; exact hc i hi⟩
theorem NodesR.of_own {w : World} {base : Nat} {e : TypeId} {v : Value} {l : List Int} (h : w.ownsRow base e 1 v l.length (l.map nodeV)) : NodesR w v l := by
  obtain ⟨a, c, rfl⟩ := own_slice h
  refine ⟨a, c, rfl, fun hl => ?_⟩
  obtain ⟨g, cap, e1, _, hg, _⟩ := own_row h hl
  simp only [Value.slice.injEq] at e1
  obtain ⟨rfl, _, rfl⟩ := e1
  refine ⟨g, 0, rfl, hg, fun i hi => ?_⟩
  have := h.cells (g := g) rfl i (nodeV l[i]) (by simp [hi])
  rw [addr_add] at this
  exact this

def NumsPost (l : List Int) (w : World) (e : Ending) (w' : World) : Prop := ∃ v, e = .returned v ∧ w'.ownsRow w.heap.size 3 1 v l.length (l.map (Value.int .i64)) ∧ w.grownBy w' none
def NumsRel (l : List Int) (w : World) (v i : Value) (wr : World) : Prop := ∃ k : Nat, k ≤ l.length ∧ i = .int .i64 k ∧ wr.ownsRow w.heap.size 3 1 v k ((l.take k).map (Value.int .i64)) ∧ w.grownBy wr none

theorem own_snoc {w' : World} {base g cap k : Nat} {e : TypeId} {l : List Int} {f : Int → Value} (hk : k < l.length) (ho : w'.ownsRow base e 1 (.slice (some ⟨g, 0, none⟩) (k + 1) cap) (k + 1) ((l.take k).map f ++ [f l[k]])) :
    w'.ownsRow base e 1 (.slice (some ⟨g, 0, none⟩) (k + 1) cap) (k + 1) ((l.take (k + 1)).map f) := by
  rw [show (l.take (k + 1)).map f = (l.take k).map f ++ [f l[k]] by rw [List.take_succ_eq_append_getElem hk, List.map_append]; rfl]
  exact ho

theorem grown_own {w wr w' : World} {v : Value} {e : TypeId} {n : Nat} {xs : List Value} {O : Obj} (hg : w.grownBy wr none) (hown : wr.ownsRow w.heap.size e 1 v n xs) (hg' : (wr.alloc O).grownBy w' v.ownBlock) : w.grownBy w' none :=
  grown_new (grown_tr hg (grown_alloc wr O)) hg' (fun k hk => (hown.lt k hk).1)

set_option maxHeartbeats 1000000 in
set_option maxRecDepth 100000 in
theorem numbers_any {l : List Int} {v : Value} {w : World} (h : NodesR w v l) (hl : l.length ≤ 1000000) : Calls Try.prog 14 #[v] w (NumsPost l w) := by
  obtain ⟨a, c, rfl, h⟩ := h
  have HR := Lib.hid h
  clear h
  go_enter Try.func14, Try.ntmps14
  go_wp2_with fail
  go_loopw [3, 5, 8] (fun v _ i wr => NumsRel l w v i wr) (fun _ _ i _ => l.length - (intOf i).toNat)
  case atStart => exact ⟨0, by omega, rfl, ⟨rfl, .inl ⟨rfl, rfl⟩⟩, grown_refl w⟩
  case round =>
    obtain ⟨k, hk, rfl, hown, hg⟩ := hrel
    by_cases hlt : k < l.length
    · have hlt' : (k : Int) < l.length := by omega
      obtain ⟨b, o, rfl, hb, hcell⟩ := HR.out (by omega)
      have c1 := (grown_cell hg hb (by simp)).trans (hcell k hlt)
      obtain ⟨x, hx⟩ : ∃ x, x = l[k] := ⟨_, rfl⟩
      rw [← hx] at c1
      have HX := Lib.hid (And.intro hx (And.intro hown hg))
      clear hx hown hg hcell
      go_wp2_with (first
        | (go_at_call 22; refine (number_any _ _).mono ?_; rintro e w' ⟨rfl, rfl⟩)
        | (at_builtin; refine wpx_app1 elI rfl (.tmp 12) (.tmp 15) rfl w.heap.size u3 k _ rfl (HX.out.2.1.alloc _) wr.heap.size #[.int .i64 x] (heap_alloc_new wr _) (wr.heap.size + 1) (by simp) 1 rfl rfl (by simp [Value.oneCell']) (by omega) (by unfold maxLen; omega) (by have := HX.out.2.2.size; omega) ?_; intro g cap w' ho' hg' hat hlt2 hsz))
      go_roundw
      case rel =>
        obtain ⟨hx, hown, hg⟩ := HX.out
        subst hx
        exact ⟨k + 1, by omega, by go_num, own_snoc hlt ho', grown_own hg hown hg'⟩
      case measure => simp [intOf]; omega
    · have hlt' : ¬ (k : Int) < l.length := by omega
      obtain rfl : k = l.length := by omega
      rw [List.take_length] at hown
      have HX := Lib.hid (And.intro hown hg)
      clear hown hg
      go_wp2_with fail
      go_ret
      exact ⟨_, rfl, HX.out.1, HX.out.2⟩
end Go.Proofs.Ytinlaaeoiocfoaa
