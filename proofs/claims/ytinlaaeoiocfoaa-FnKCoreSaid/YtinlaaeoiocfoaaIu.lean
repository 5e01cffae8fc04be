/- OrderedNodes that stand at their begin; graph.NodesOf. -/
import Derived.Test.YtinlaaeoiocfoaaIt
namespace Go.Proofs.Ytinlaaeoiocfoaa
open Go.MapKept Go.RowKit

set_option maxHeartbeats 400000 in
theorem it_len {q : Nat} {a : Option Addr} {n c : Nat} {w : World} (hb : w.heap[q]? = some (.cells #[.int .i64 (-1), .slice a n c] onT (0, 0))) (hn : n ≤ 1000000) :
    Calls Try.prog 93 #[.pointer (some ⟨q, 0, none⟩)] w (fun e w' => e = .returned (.int .i64 n) ∧ w.grownBy w' none) := by
  have c0 : w.cell? ⟨q, 0, none⟩ = some (.int .i64 (-1)) := cell_at hb
  have c1 : w.cell? ⟨q, 1, none⟩ = some (.slice a n c) := cell_at hb
  have hd : decide ((n : Int) ≤ -1) = false := by simp; omega
  go_enter Try.func93, Try.ntmps93
  go_wp2_with fail
  go_quiet (fail)
  go_wp2_with fail
  go_quiet (fail)
  go_wp2_with fail
  go_ret
  exact ⟨rfl, grown_tr (grown_drewN _ _) (grown_drewN _ _)⟩

set_option maxHeartbeats 400000 in
theorem it_slice {q g : Nat} {n c : Nat} {w : World} (hb : w.heap[q]? = some (.cells #[.int .i64 (-1), .slice (some ⟨g, 0, none⟩) n c] onT (0, 0))) (hn : n ≤ 1000000) :
    Calls Try.prog 96 #[.pointer (some ⟨q, 0, none⟩)] w (fun e w' => e = .returned (.slice (some ⟨g, 0, none⟩) n c) ∧ w.grownBy w' (some q)) := by
  have c0 : w.cell? ⟨q, 0, none⟩ = some (.int .i64 (-1)) := cell_at hb
  have c1 : w.cell? ⟨q, 1, none⟩ = some (.slice (some ⟨g, 0, none⟩) n c) := cell_at hb
  have f0 : w.frozen? ⟨q, 0, none⟩ = false := free_at hb
  have hd : decide ((n : Int) ≤ -1) = false := by simp; omega
  go_enter Try.func96, Try.ntmps96
  go_wp2_with fail
  go_quiet (fail)
  go_wp2_with fail
  go_ret
  exact ⟨rfl, grown_opt (grown_drewN _ _) (grown_setCell _ _ _ _)⟩

theorem as_slicer (a : Option Addr) (w : World) : (Instr.typeAssert (.iface onpT (.pointer a)) 79 93 true).run Try.prog w = .ok (.tuple #[.iface onpT (.pointer a), .bool true]) w := by kernel_rfl

def NofPost (l : List Int) (B q : Nat) (w : World) (e : Ending) (w' : World) : Prop := ∃ v, e = .returned v ∧ w'.ownsRow B nodT 1 v l.length (l.map nodeV) ∧ w.grownBy w' (some q)

set_option maxHeartbeats 400000 in
set_option maxRecDepth 100000 in
theorem nodesOf_it {l : List Int} {q B : Nat} {vs : Value} {w : World} (hb : w.heap[q]? = some (.cells #[.int .i64 (-1), vs] onT (0, 0))) (ho : w.ownsRow B nodT 1 vs l.length (l.map nodeV)) (hl : l.length ≤ 1000000) :
    Calls Try.prog 30 #[.iface onpT (.pointer (some ⟨q, 0, none⟩))] w (NofPost l B q w) := by
  by_cases h0 : l.length = 0
  · obtain rfl := List.eq_nil_of_length_eq_zero h0
    obtain ⟨a, c, rfl⟩ := own_slice ho
    have hlen := it_len hb (by omega)
    clear ho hb
    go_enter Try.func30, Try.ntmps30
    go_wp2_with (go_at_call 93; refine hlen.mono ?_; rintro e w1 ⟨rfl, hg⟩)
    go_ret
    exact ⟨_, rfl, ⟨rfl, .inl ⟨rfl, rfl⟩⟩, grown_any hg _⟩
  · obtain ⟨g, c, rfl, hgb, hgs, hnc⟩ := own_row ho (by omega)
    have hlen := it_len hb (by omega)
    have hsl := fun W (hg : w.grownBy W none) => it_slice (grown_block hg hb (by simp)) (n := l.length) (c := c) (g := g) hl
    have HS := Lib.hid hsl
    have HO := Lib.hid (And.intro ho hb)
    have hb0 : ((l.length : Int) == 0) = false := by rw [beq_eq_false_iff_ne]; omega
    clear ho hb hsl
    go_enter Try.func30, Try.ntmps30
    have hta := as_slicer (some ⟨q, 0, none⟩)
    go_wp2_with (first
      | (go_at_call 93; refine hlen.mono ?_; rintro e w1 ⟨rfl, hg⟩)
      | (go_at_call 96; refine (HS.out _ hg).mono ?_; rintro e w2 ⟨rfl, hg2⟩))
    go_ret
    obtain ⟨ho, hb⟩ := HO.out
    refine ⟨_, rfl, (own_new ho hg).kept hg2 (.inr (own_ne_type ho hb (by decide)).symm), grown_opt hg hg2⟩
end Go.Proofs.Ytinlaaeoiocfoaa
