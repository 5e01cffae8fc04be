/- Successors, as Tarjan's algorithm asks for them. -/
import Derived.Test.YtdllkoiddlcnmaaGreatDi
namespace Go.Proofs.YtdllkoiddlcnmaaGreat
open Go.MapKept Go.RowKit

/-- a new list of nodes -/
def NlPost (l : List Int) (w : World) (e : Ending) (w' : World) : Prop := ∃ v, e = .returned v ∧ w'.ownsRow w.heap.size nodT 1 v l.length (l.map nodeV) ∧ w.grownBy w' none

theorem NlPost.of {l : List Int} {w w1 : World} {q : Nat} {e : Ending} {w2 : World} (hq : w.heap.size ≤ q) (hg : w.grownBy w1 none) (h : NofPost l w.heap.size q w1 e w2) : NlPost l w e w2 := by
  obtain ⟨v, h1, h2, h3⟩ := h
  exact ⟨v, h1, h2, grown_new hg h3 (fun k hk => by cases hk; exact hq)⟩

set_option maxHeartbeats 400000 in
set_option maxRecDepth 100000 in
theorem succ_any {p0 bx : Nat} {ids : List Int} {M : Mat} {w : World} {x : Int} (h : PlnR w p0 ids M) (hl : ids.length ≤ 1000) (hx : x ∈ ids) (ha : ids.Pairwise (· < ·)) (hb : w.cell? ⟨bx, 0, none⟩ = some (.iface dirT (dirV p0))) :
    Calls Tryz.prog 90 #[.int .i64 x, .pointer (some ⟨bx, 0, none⟩)] w (NlPost (outs ids M x) w) := by
  have hcall := dir_from h hl hx ha
  have hlo : (outs ids M x).length ≤ 1000000 := by
    unfold outs
    rw [List.length_map]
    have := length_arcsOf ids.length (M (ix ids x))
    omega
  clear h
  go_enter Tryz.func90, Tryz.ntmps90
  go_wp2_with (first
    | (go_at_call 173; refine hcall.mono ?_; intro e w1 hp; obtain ⟨q, vs, rfl, hp1, hp2, hp3, hp4⟩ := hp)
    | (go_at_call 89; refine (nodesOf_it hp1 hp2 hlo).mono ?_; intro e w2 hn; obtain ⟨v, rfl, hn2⟩ := hn))
  go_ret
  exact NlPost.of hp3 hp4 ⟨v, rfl, hn2⟩

end Go.Proofs.YtdllkoiddlcnmaaGreat
