/- Maps keyed by int64, by what they tell of each key; the maps of degeneracyOrdering. -/
import Derived.Test.YtinlaaeoiocfoaaSt
import Derived.Test.YtinlaaeoiocfoaaDm
namespace Go.Proofs.Ytinlaaeoiocfoaa
open Go.MapKept Go.RowKit

def VMap (w : World) (m : Nat) (f : Int → Option Value) : Prop := ∃ e, MapIs w m e ∧ ∀ x, lkp e x = f x
def updO (f : Int → Option Value) (x : Int) (v : Option Value) : Int → Option Value := fun y => if y = x then v else f y

section
variable {P : Program} {w w' : World} {m : Nat} {f : Int → Option Value} {t k e : TypeId}
theorem VMap.grown {row : Option Nat} (h : VMap w m f) (hg : w.grownBy w' row) (hne : some m ≠ row) : VMap w' m f := by
  obtain ⟨es, h1, h2⟩ := h
  exact ⟨es, h1.grown hg hne, h2⟩
theorem VMap.ne {c : Array Value} {T : TypeId} {fr : Nat × Nat} {b : Nat} (h : VMap w m f) (hb : w.heap[b]? = some (.cells c T fr)) : m ≠ b := by
  obtain ⟨es, ⟨e1, k1, h1, _⟩, _⟩ := h
  rintro rfl
  rw [hb] at h1
  cases h1
theorem VMap.row {B s n : Nat} {T : TypeId} {v : Value} {xs : List Value} (h : VMap w m f) (ho : w.ownsRow B T s v n xs) : some m ≠ v.ownBlock := by
  intro e
  rcases ho.2 with ⟨h3, -⟩ | ⟨g, cap, cur, rfl, -, h4, -⟩
  · rw [h3] at e; cases e
  · have e' : some m = some g := e
    cases e'
    exact h.ne h4 rfl
theorem VMap.made (w : World) : VMap (w.alloc (.map #[] 0)) w.heap.size (fun _ => none) := ⟨[], MapIs.made w, fun x => rfl⟩
theorem VMap.upd (h : VMap w m f) (ht : P.underlying t = some (.map k e)) (hk : P.underlying k = some (.int .i64)) (x : Int) (v : Value) :
    ∃ w', (Instr.mapUpdate t (.map (some m)) (.int .i64 x) v).run P w = .ok () w' ∧ VMap w' m (updO f x (some v)) ∧ w.grownBy w' (some m) := by
  obtain ⟨es, h1, h2⟩ := h
  obtain ⟨w', k1, k2, k3, _⟩ := run_update_is (P := P) h1 ht hk x v
  refine ⟨w', k1, ⟨_, k2, fun y => ?_⟩, k3⟩
  rw [upd_look, h2 y]
  rfl
theorem VMap.del (h : VMap w m f) (ht : P.underlying t = some (.map k e)) (hk : P.underlying k = some (.int .i64)) (x : Int) (t2 ty : TypeId) :
    ∃ w', (Builtin.delete_ #[t, t2] ty #[.map (some m), .int .i64 x]).run P w = .ok (.tuple #[]) w' ∧ VMap w' m (updO f x none) ∧ w.grownBy w' (some m) := by
  obtain ⟨es, h1, h2⟩ := h
  obtain ⟨w', k1, k2, k3, _⟩ := run_delete_is (P := P) h1 ht hk x t2 ty
  refine ⟨w', k1, ⟨_, k2, fun y => ?_⟩, k3⟩
  rw [del_look, h2 y]
  rfl
theorem VMap.look (h : VMap w m f) (ht : P.underlying t = some (.map k e)) (hk : P.underlying k = some (.int .i64)) {z : Value} (hz : (zeroValue e).run P w = .ok z w) (x : Int) (ok : Bool) :
    (Instr.lookup t (.map (some m)) (.int .i64 x) ok).run P w = .ok (if ok then .tuple #[(f x).getD z, .bool (f x).isSome] else (f x).getD z) w := by
  obtain ⟨es, h1, h2⟩ := h
  have := run_lookup_is (P := P) h1 ht hk hz x ok
  rw [h2 x] at this
  exact this
end
end Go.Proofs.Ytinlaaeoiocfoaa
