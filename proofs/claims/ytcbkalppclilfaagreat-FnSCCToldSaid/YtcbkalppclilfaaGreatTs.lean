/- Tarjan's algorithm: the set's methods; the maps' steps. -/
import Derived.Test.YtcbkalppclilfaaGreatTw
namespace Go.Proofs.YtcbkalppclilfaaGreat
open Go.MapKept Go.RowKit

theorem undSet : Tryz.prog.underlying 115 = some (.map 2 162) := Tryz.underlying115
theorem undNum : Tryz.prog.underlying 113 = some (.map 2 3) := Tryz.underlying113
theorem undK : Tryz.prog.underlying 2 = some (.int .i64) := Tryz.underlying2
theorem zeroU (w : World) : (zeroValue 162).run Tryz.prog w = .ok (.agg #[]) w := by kernel_rfl
theorem zeroI (w : World) : (zeroValue 3).run Tryz.prog w = .ok (.int .i64 0) w := by kernel_rfl

set_option maxHeartbeats 400000 in
theorem set_has {m : Nat} {l : List Int} {x : Int} {w : World} (h : SetMap w m l) : Calls Tryz.prog 77 #[.map (some m), .int .i64 x] w (fun e w' => e = .returned (.bool (decide (x ∈ l))) ∧ w.grownBy w' none) := by
  obtain ⟨en, h1, h2, h3⟩ := h
  have hrun : (Instr.lookup 115 (.map (some m)) (.int .i64 x) true).run Tryz.prog w = .ok (.tuple #[.agg #[], .bool (decide (x ∈ l))]) w := by
    have := run_lookup_is h1 undSet undK (zeroU w) x true
    rw [if_pos rfl, h3 x] at this
    have hb : decide (x ∈ l) = (lkp en x).isSome := by rw [Bool.eq_iff_iff, decide_eq_true_eq]; exact (h2 x).symm
    rw [hb]
    exact this
  clear h1 h2 h3
  go_enter Tryz.func77, Tryz.ntmps77
  go_wp2_with fail
  go_ret
  exact ⟨rfl, Below.asGrown (by go_grown)⟩

set_option maxHeartbeats 400000 in
theorem set_add {m : Nat} {l : List Int} {x : Int} {w : World} (h : SetMap w m l) : Calls Tryz.prog 76 #[.map (some m), .int .i64 x] w (fun e w' => e = .returned (.tuple #[]) ∧ SetMap w' m (x :: l) ∧ w.grownBy w' (some m)) := by
  obtain ⟨en, h1, h2, h3⟩ := h
  obtain ⟨w1, hrun, k1, k2, _⟩ := run_update_is (P := Tryz.prog) h1 undSet undK x (.agg #[])
  unfold ik at hrun
  have HK := Lib.hid (And.intro (MapIs.upd_set h2 h3 k1) k2)
  clear h1 h2 h3 k1 k2
  go_enter Tryz.func76, Tryz.ntmps76
  go_wp2_with fail
  go_end0
  exact ⟨rfl, HK.out⟩

set_option maxHeartbeats 400000 in
theorem set_remove {m : Nat} {l : List Int} {x : Int} {w : World} (h : SetMap w m (x :: l)) (hx : x ∉ l) : Calls Tryz.prog 78 #[.map (some m), .int .i64 x] w (fun e w' => e = .returned (.tuple #[]) ∧ SetMap w' m l ∧ w.grownBy w' (some m)) := by
  obtain ⟨en, h1, h2, h3⟩ := h
  have hd := fun ty => run_delete_is (P := Tryz.prog) h1 undSet undK x 2 ty
  obtain ⟨w1, hrun, k1, k2, _⟩ := hd 0
  unfold ik at hrun
  have HK := Lib.hid (And.intro (MapIs.del_set h2 h3 hx k1) k2)
  clear h1 h2 h3 k1 k2 hd
  go_enter Tryz.func78, Tryz.ntmps78
  go_wp2_with fail
  go_end0
  exact ⟨rfl, HK.out⟩
end Go.Proofs.YtcbkalppclilfaaGreat
