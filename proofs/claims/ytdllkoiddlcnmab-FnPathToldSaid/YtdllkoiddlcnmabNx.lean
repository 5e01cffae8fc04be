/- OrderedNodes: Next, Node, Reset. -/
import Derived.Test.YtdllkoiddlcnmabIu
namespace Go.Proofs.Ytdllkoiddlcnmab
open Go.MapKept Go.RowKit

/-- an iterator over the nodes l, of which k have been taken -/
def OnR (w : World) (q : Nat) (vs : Value) (l : List Int) (i : Int) : Prop := w.heap[q]? = some (.cells #[.int .i64 i, vs] onT (0, 0)) ∧ NodesR w vs l

theorem NodesR.kept {w w' : World} {row : Option Nat} {v : Value} {l : List Int} (h : NodesR w v l) (hg : w.grownBy w' row) (hr : ∀ r, row = some r → ∀ j x, w.cell? ⟨r, j, none⟩ ≠ some (nodeV x)) : NodesR w' v l := by
  obtain ⟨a, c, rfl, h2⟩ := h
  refine ⟨a, c, rfl, fun hl => ?_⟩
  obtain ⟨b, o, rfl, hb, hc⟩ := h2 hl
  have hne : some b ≠ row := fun e => hr b e.symm _ _ (hc 0 hl)
  exact ⟨b, o, rfl, Nat.lt_of_lt_of_le hb hg.size, fun i hi => by rw [grown_cell hg hb hne]; exact hc i hi⟩
theorem on_cells {w : World} {q n c : Nat} {a : Option Addr} {i : Int} (h : w.heap[q]? = some (.cells #[.int .i64 i, .slice a n c] onT (0, 0))) : ∀ j x, w.cell? ⟨q, j, none⟩ ≠ some (nodeV x) := by
  intro j x e
  rw [cell_at h] at e
  match j, e with
  | 0, e => cases e
  | 1, e => cases e
  | j + 2, e => simp at e
theorem NodesR.slice {w : World} {v : Value} {l : List Int} (h : NodesR w v l) : ∃ a c, v = .slice a l.length c := by
  obtain ⟨a, c, rfl, -⟩ := h
  exact ⟨a, c, rfl⟩
theorem OnR.cells {w : World} {q : Nat} {vs : Value} {l : List Int} {i : Int} (h : OnR w q vs l i) : ∀ j x, w.cell? ⟨q, j, none⟩ ≠ some (nodeV x) := by
  obtain ⟨h1, h2⟩ := h
  obtain ⟨a, c, rfl⟩ := h2.slice
  exact on_cells h1
theorem OnR.kept {w w' : World} {q : Nat} {vs : Value} {l : List Int} {i : Int} {row : Option Nat} (h : OnR w q vs l i) (hg : w.grownBy w' row) (hq : some q ≠ row) (hr : ∀ r, row = some r → ∀ j x, w.cell? ⟨r, j, none⟩ ≠ some (nodeV x)) : OnR w' q vs l i :=
  ⟨grown_block hg h.1 hq, h.2.kept hg hr⟩
theorem OnR.moved {w w' : World} {q : Nat} {vs : Value} {l : List Int} {i i' : Int} (h : OnR w q vs l i) (hg : w.grownBy w' (some q)) (hb : w'.heap[q]? = some (.cells #[.int .i64 i', vs] onT (0, 0))) : OnR w' q vs l i' :=
  ⟨hb, h.2.kept hg (fun r hr => by cases hr; exact h.cells)⟩

/-- how many have been taken, as the iterator's memory tells -/
def idxIn (q : Nat) (w : World) : Nat := match w.cell? ⟨q, 0, none⟩ with
  | some (.int _ i) => (i + 1).toNat
  | _ => 0

def OnPost (r : Value) (q : Nat) (vs : Value) (i : Int) (w : World) (e : Ending) (w' : World) : Prop := e = .returned r ∧ w'.heap[q]? = some (.cells #[.int .i64 i, vs] onT (0, 0)) ∧ w.grownBy w' (some q)

set_option maxHeartbeats 400000 in
theorem on_next {q n c k : Nat} {a : Option Addr} {w : World} (hb : w.heap[q]? = some (.cells #[.int .i64 ((k : Int) - 1), .slice a n c] onT (0, 0))) (hk : k < n) (hn : n ≤ 1000000) :
    Calls Try.prog 114 #[.pointer (some ⟨q, 0, none⟩)] w (OnPost (.bool true) q (.slice a n c) k w) := by
  have c0 : w.cell? ⟨q, 0, none⟩ = some (.int .i64 ((k : Int) - 1)) := cell_at hb
  have c1 : w.cell? ⟨q, 1, none⟩ = some (.slice a n c) := cell_at hb
  have f0 : w.frozen? ⟨q, 0, none⟩ = false := free_at hb
  have h1 : IntKind.u64.wrap (IntKind.u64.wrap ((k : Int) - 1) + 1) = k := by simp only [IntKind.wrap_u64]; omega
  have h2 : IntKind.u64.wrap (n : Int) = n := by simp only [IntKind.wrap_u64]; omega
  have h3 : IntKind.i64.wrap ((k : Int) - 1 + 1) = k := by rw [IntKind.wrap_i64]; omega
  have h4 : (k : Int) < n := by omega
  have HB := Lib.hid hb
  clear hb
  go_enter Try.func114, Try.ntmps114
  go_wp2_with fail
  go_quiet (fail)
  go_wp2_with fail
  go_ret
  exact ⟨rfl, block_set (w := w.drewN nq) HB.out 0 _, grown_opt (grown_drewN _ _) (grown_setCell _ _ _ _)⟩

set_option maxHeartbeats 400000 in
theorem on_next_end {q n c : Nat} {a : Option Addr} {w : World} (hb : w.heap[q]? = some (.cells #[.int .i64 ((n : Int) - 1), .slice a n c] onT (0, 0))) (hn : n ≤ 1000000) :
    Calls Try.prog 114 #[.pointer (some ⟨q, 0, none⟩)] w (OnPost (.bool false) q (.slice a n c) n w) := by
  have c0 : w.cell? ⟨q, 0, none⟩ = some (.int .i64 ((n : Int) - 1)) := cell_at hb
  have c1 : w.cell? ⟨q, 1, none⟩ = some (.slice a n c) := cell_at hb
  have f0 : w.frozen? ⟨q, 0, none⟩ = false := free_at hb
  have h1 : IntKind.u64.wrap (IntKind.u64.wrap ((n : Int) - 1) + 1) = n := by simp only [IntKind.wrap_u64]; omega
  have h2 : IntKind.u64.wrap (n : Int) = n := by simp only [IntKind.wrap_u64]; omega
  have h4 : ¬ (n : Int) < n := by omega
  have HB := Lib.hid hb
  clear hb
  go_enter Try.func114, Try.ntmps114
  go_wp2_with fail
  go_quiet (fail)
  go_wp2_with fail
  go_ret
  exact ⟨rfl, block_set (w := w.drewN nq) HB.out 0 _, grown_opt (grown_drewN _ _) (grown_setCell _ _ _ _)⟩

set_option maxHeartbeats 400000 in
theorem on_node {q k : Nat} {vs : Value} {l : List Int} {w : World} (h : OnR w q vs l k) (hk : k < l.length) (hn : l.length ≤ 1000000) :
    Calls Try.prog 115 #[.pointer (some ⟨q, 0, none⟩)] w (fun e w' => e = .returned (nodeV l[k]) ∧ w.grownBy w' none) := by
  obtain ⟨hb, a, c, rfl, hc⟩ := h
  obtain ⟨b, o, rfl, hbl, hc⟩ := hc (by omega)
  have c0 : w.cell? ⟨q, 0, none⟩ = some (.int .i64 k) := cell_at hb
  have c1 : w.cell? ⟨q, 1, none⟩ = some (.slice (some ⟨b, o, none⟩) l.length c) := cell_at hb
  have c2 := hc k hk
  obtain ⟨x, hx⟩ : ∃ x, x = l[k] := ⟨_, rfl⟩
  rw [← hx] at c2 ⊢
  have h1 : ¬ (l.length : Int) ≤ k := by omega
  have h2 : ¬ (k : Int) < 0 := by omega
  have h3 : (k : Int) < l.length := by omega
  clear hb hc hx
  go_enter Try.func115, Try.ntmps115
  go_wp2_with fail
  go_quiet (fail)
  go_wp2_with fail
  go_quiet (fail)
  go_wp2_with fail
  go_ret
  exact ⟨rfl, grown_tr (grown_drewN _ _) (grown_drewN _ _)⟩
theorem ItPost.on {l : List Int} {w : World} {e : Ending} {w' : World} (h : ItPost l w e w') : ∃ q vs, e = .returned (.iface onpT (.pointer (some ⟨q, 0, none⟩))) ∧ OnR w' q vs l (-1) ∧ w.heap.size ≤ q ∧ w.grownBy w' none := by
  obtain ⟨q, vs, h1, h2, h3, h4, h5⟩ := h
  exact ⟨q, vs, h1, ⟨h2, .of_own h3⟩, h4, h5⟩
end Go.Proofs.Ytdllkoiddlcnmab
