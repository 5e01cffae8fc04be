/- HasEdgeFromTo, HasEdgeBetween of a plain graph. -/
import Derived.Test.YtdllkoiddlcnmabFd
namespace Go.Proofs.Ytdllkoiddlcnmab
open Go.MapKept Go.RowKit

def EdgePost (ids : List Int) (M : Mat) (u v : Int) (w : World) (e : Ending) (w' : World) : Prop := e = .returned (.bool (edgeB ids M u v)) ∧ w.grownBy w' none

set_option maxHeartbeats 400000 in
theorem dir_fromTo {p0 : Nat} {ids : List Int} {M : Mat} {w : World} {u v : Int} (h : PlnR w p0 ids M) (hl : ids.length ≤ 1000) (ha : ids.Pairwise (· < ·)) :
    Calls Try.prog 82 #[dirV p0, .int .i64 u, .int .i64 v] w (EdgePost ids M u v w) := by
  have hcall := fun O => find_any (u := u) (v := v) (h.grown (grown_alloc w O)) hl ha
  unfold EdgePost
  unfold FindPost at hcall
  obtain ⟨x, hx⟩ : ∃ x, x = edgeB ids M u v := ⟨_, rfl⟩
  rw [← hx] at hcall ⊢
  have hst := fun (W : World) (a : Addr) (b : Nat) => run_store Try.prog W a (.float .f64 b) .plain rfl
  clear h ha hl hx
  go_enter Try.func82, Try.ntmps82
  go_wp2_with (go_at_call 89; refine (hcall _).mono ?_; rintro e w' ⟨tg, z, rfl, -, hg⟩)
  go_ret
  exact ⟨rfl, grown_tr (grown_alloc _ _) (grown_tr hg (grown_alloc _ _))⟩
set_option maxHeartbeats 400000 in
theorem und_between {p0 : Nat} {ids : List Int} {M : Mat} {w : World} {u v : Int} (h : PlnR w p0 ids M) (hl : ids.length ≤ 1000) (ha : ids.Pairwise (· < ·)) :
    Calls Try.prog 95 #[dirV p0, .int .i64 u, .int .i64 v] w (EdgePost ids M u v w) := by
  have hcall := fun O => find_any (u := u) (v := v) (h.grown (grown_alloc w O)) hl ha
  unfold EdgePost
  unfold FindPost at hcall
  obtain ⟨x, hx⟩ : ∃ x, x = edgeB ids M u v := ⟨_, rfl⟩
  rw [← hx] at hcall ⊢
  have hst := fun (W : World) (a : Addr) (b : Nat) => run_store Try.prog W a (.float .f64 b) .plain rfl
  clear h ha hl hx
  go_enter Try.func95, Try.ntmps95
  go_wp2_with (go_at_call 89; refine (hcall _).mono ?_; rintro e w' ⟨tg, z, rfl, -, hg⟩)
  go_ret
  exact ⟨rfl, grown_tr (grown_alloc _ _) (grown_tr hg (grown_alloc _ _))⟩
end Go.Proofs.Ytdllkoiddlcnmab
