/- Nodes: values of graph.Node that are numbers; numbers, iterators over a list. -/
import Derived.Test.YtdllkoiddlcnmabRd
namespace Go.Proofs.Ytdllkoiddlcnmab
open Go.MapKept Go.RowKit

abbrev snT : TypeId := 42
abbrev nodT : TypeId := 56
abbrev nodeV (x : Int) : Value := .iface snT (.int .i64 x)

set_option maxHeartbeats 400000 in
theorem id_node (x : Int) (w : World) : Calls Try.prog 78 #[.int .i64 x] w (fun e w' => e = .returned (.int .i64 x) ∧ w = w') := by
  go_enter Try.func78, Try.ntmps78
  go_wp2_with fail
  go_ret
  exact ⟨rfl, rfl⟩


theorem elI : ElT Try.prog 22 3 1 8 (.int .i64 0) := ⟨Try.underlying22, by kernel_rfl, rfl, by decide⟩
theorem elN : ElT Try.prog 38 nodT 1 16 .nilIface := ⟨Try.underlying38, by kernel_rfl, rfl, by decide⟩

theorem run_make0 {P : Program} {t e : TypeId} {size bytes : Nat} {z : Value} (E : ElT P t e size bytes z) (n : Nat) (hb : n * bytes ≤ 281474976710656) (hn : n ≤ maxLen) (w : World) :
    (Instr.makeSlice t (.int .i64 0) (.int .i64 (n : Int))).run P w = .ok (.slice (some ⟨w.heap.size, 0, none⟩) 0 n) (w.alloc (.cells (madeCells z.cells (n * size)) e)) := by
  obtain ⟨i, h1i, h2, h3, h4⟩ := info_parts E.hi
  have h63 : (n : Int) ≤ 9223372036854775807 := by unfold maxLen at hn; omega
  have hbb : (i.bytes : Int) * (n : Int) ≤ 281474976710656 := by
    rw [h4, Int.mul_comm, ← Int.natCast_mul]
    exact Int.ofNat_le.2 hb
  have := run_make w t e i z E.ht h1i h2 .i64 .i64 0 (n : Int) (by omega) (by omega) hbb h63
  rw [h3] at this
  simpa only [Int.toNat_zero, Int.toNat_natCast] using this

theorem own_make0 {e : TypeId} {size : Nat} {z : Value} (n : Nat) (hn : n ≤ maxLen) (w : World) :
    (w.alloc (.cells (madeCells z.cells (n * size)) e)).ownsRow w.heap.size e size (.slice (some ⟨w.heap.size, 0, none⟩) 0 n) 0 [] :=
  World.ownsRow_made w _ n (Nat.le_refl _) hn (by rw [size_madeCells])

theorem own_make1 {e : TypeId} (z : Value) (n : Nat) (hn : n ≤ maxLen) (w : World) :
    (w.alloc (.cells (madeCells #[z] n) e)).ownsRow w.heap.size e 1 (.slice (some ⟨w.heap.size, 0, none⟩) 0 n) 0 [] :=
  World.ownsRow_made w _ n (Nat.le_refl _) hn (by rw [size_madeCells, Nat.mul_one])

/-- v reads as nodes -/
def NodesR (w : World) (v : Value) (l : List Int) : Prop :=
  ∃ a c, v = .slice a l.length c ∧ (0 < l.length → ∃ b o, a = some ⟨b, o, none⟩ ∧ b < w.heap.size ∧ ∀ i, (h : i < l.length) → w.cell? ⟨b, o + i, none⟩ = some (nodeV l[i]))
theorem NodesR.grown {w w' : World} {v : Value} {l : List Int} (h : NodesR w v l) (hg : w.grownBy w' none) : NodesR w' v l := by
  obtain ⟨a, c, rfl, h⟩ := h
  refine ⟨a, c, rfl, fun hl => ?_⟩
  obtain ⟨b, o, rfl, hb, hc⟩ := h hl
  exact ⟨b, o, rfl, Nat.lt_of_lt_of_le hb hg.size, fun i hi => by rw [grown_cell hg hb (by simp)]; exact hc i hi⟩
theorem NodesR.of_own {w : World} {base : Nat} {e : TypeId} {v : Value} {l : List Int} (h : w.ownsRow base e 1 v l.length (l.map nodeV)) : NodesR w v l := by
  obtain ⟨a, c, rfl⟩ := own_slice h
  refine ⟨a, c, rfl, fun hl => ?_⟩
  obtain ⟨g, cap, e1, _, hg, _⟩ := own_row h hl
  simp only [Value.slice.injEq] at e1
  obtain ⟨rfl, _, rfl⟩ := e1
  refine ⟨g, 0, rfl, hg, fun i hi => ?_⟩
  have := h.cells (g := g) rfl i (nodeV l[i]) (by simp [hi])
  rw [addr_add] at this
  exact this

def NumsPost (l : List Int) (w : World) (e : Ending) (w' : World) : Prop := ∃ v, e = .returned v ∧ w'.ownsRow w.heap.size 3 1 v l.length (l.map (Value.int .i64)) ∧ w.grownBy w' none
def NumsRel (l : List Int) (w : World) (v i : Value) (wr : World) : Prop := ∃ k : Nat, k ≤ l.length ∧ i = .int .i64 k ∧ wr.ownsRow w.heap.size 3 1 v k ((l.take k).map (Value.int .i64)) ∧ w.grownBy wr none

theorem own_snoc {w' : World} {base g cap k : Nat} {e : TypeId} {l : List Int} {f : Int → Value} (hk : k < l.length) (ho : w'.ownsRow base e 1 (.slice (some ⟨g, 0, none⟩) (k + 1) cap) (k + 1) ((l.take k).map f ++ [f l[k]])) :
    w'.ownsRow base e 1 (.slice (some ⟨g, 0, none⟩) (k + 1) cap) (k + 1) ((l.take (k + 1)).map f) := by
  rw [show (l.take (k + 1)).map f = (l.take k).map f ++ [f l[k]] by rw [List.take_succ_eq_append_getElem hk, List.map_append]; rfl]
  exact ho

theorem grown_own {w wr w' : World} {v : Value} {e : TypeId} {n : Nat} {xs : List Value} {O : Obj} (hg : w.grownBy wr none) (hown : wr.ownsRow w.heap.size e 1 v n xs) (hg' : (wr.alloc O).grownBy w' v.ownBlock) : w.grownBy w' none :=
  grown_new (grown_tr hg (grown_alloc wr O)) hg' (fun k hk => (hown.lt k hk).1)

end Go.Proofs.Ytdllkoiddlcnmab
