/- impl.SCC: the components as lists of numbers. -/
import Derived.Test.YtdllkoiddlcnmaaGreatTc
import Derived.Test.YtdllkoiddlcnmaaGreatSc
import Derived.Test.YtdllkoiddlcnmaaGreatLl
import Derived.Test.YtdllkoiddlcnmaaGreatOw
namespace Go.Proofs.YtdllkoiddlcnmaaGreat
open Go.MapKept Go.RowKit

set_option maxHeartbeats 400000 in
theorem tarjanSCC_any {p0 : Nat} {ids : List Int} {M : Mat} {w : World} (h : PlnR w p0 ids M) (hl : ids.length ≤ 1000) (ha : ids.Pairwise (· < ·)) (hclo : ∀ x ∈ ids, ∀ y ∈ outs ids M x, y ∈ ids) :
    Calls Tryz.prog 60 #[.iface dirT (dirV p0)] w (ListsPost (tall (outs ids M) ids.length ids).out.reverse w) := by
  have hcall := tarjan_any h hl ha hclo
  clear h ha hclo
  go_enter Tryz.func60, Tryz.ntmps60
  go_wp2_with (go_at_call 64; refine hcall.mono ?_; intro e w1 hp; obtain ⟨vo, vals, rfl, hp2⟩ := hp)
  go_ret
  exact ⟨vo, vals, rfl, hp2⟩

end Go.Proofs.YtdllkoiddlcnmaaGreat
