/- append(s, make([]int, k)...) at a row of numbers that the call owns: with room in its block or without. -/
import Derived.Test.YtinlaaeoiocfoaaNo
import Derived.Test.YtinlaaeoiocfoaaIns
import Derived.Lib.AppendZerosOnto
namespace Go.Proofs.Ytinlaaeoiocfoaa
open Go.MapKept Go.RowKit

theorem zeros_int (k : Nat) : Builtin.zeroCells (Value.int .i64 0).cells k = (List.replicate k (Value.int .i64 0)).toArray := by
  apply Array.ext
  · simp [Builtin.zeroCells, Value.cells]
  · intro j h1 h2
    simp [Builtin.zeroCells, Value.cells] at h1 ⊢
    rw [Nat.mod_one]
    rfl

theorem run_append_zeros {P : Program} {t tn e : TypeId} {kn : IntKind} (E : ElT P t e 1 8 (.int .i64 0)) (htn : P.underlying tn = some (.int kn)) (w : World) (ty : TypeId) (kq : IntKind) {base n k g cap : Nat} {xs : List Value} (hown : w.ownsRow base e 1 (.slice (some ⟨g, 0, none⟩) n cap) n xs) (hk : 0 < k) (hn : n + k ≤ 1000000) (hbase : base ≤ w.heap.size) :
    ∃ g' cap' w', (Builtin.append_ #[t, tn] ty #[.slice (some ⟨g, 0, none⟩) n cap, .int kq k]).run P w = .ok (.slice (some ⟨g', 0, none⟩) (n + k) cap') w' ∧ w'.ownsRow base e 1 (.slice (some ⟨g', 0, none⟩) (n + k) cap') (n + k) (xs ++ List.replicate k (.int .i64 0)) ∧ w.grownBy w' (some g) ∧ Fresh w (.slice (some ⟨g, 0, none⟩) n cap) (.slice (some ⟨g', 0, none⟩) (n + k) cap') := by
  obtain ⟨i, h1i, h2, h3, h4⟩ := info_parts E.hi
  have hcells := hown.cells (g := g) rfl
  obtain ⟨h0, h | ⟨g', cap', cur, e1, hb, hh, hc, hm, hs, ht⟩⟩ := hown
  · simp at h
  · simp only [Value.slice.injEq, Option.some.injEq, Addr.mk.injEq, and_true, true_and] at e1
    obtain ⟨rfl, rfl⟩ := e1
    by_cases hroom : n + k ≤ cap
    · have hst := run_storeCells_at P g (n * 1) e (List.replicate k (.int .i64 0)) 0 cur w hh (by simp; omega) (by
        intro v hv
        rw [List.eq_of_mem_replicate hv]
        rfl)
      simp only [Nat.add_zero] at hst
      have hw : IntKind.i64.wrap (k : Int) = k := by rw [IntKind.wrap_i64]; omega
      have hneg : ¬ ((k : Int) < 0) := by omega
      have h48i : ¬ (281474976710656 < (k : Int) * 8) := by omega
      have hk0 : k ≠ 0 := by omega
      have hr : (Builtin.append_ #[t, tn] ty #[.slice (some ⟨g, 0, none⟩) n cap, .int kq k]).run P w = .ok (.slice (some ⟨g, 0, none⟩) (n + k) cap) (w.setRow g (cur.toList.take (n * 1) ++ List.replicate k (Value.int .i64 0) ++ cur.toList.drop (n * 1 + (List.replicate k (Value.int .i64 0)).length)).toArray) := by
        simp [Builtin.append_, run_underlying E.ht, run_underlying htn, sizeOf, typeInfo, zeroValue, h1i, h2, h3, h4, asInt, asIntOf, hw, hneg, h48i, hk0, hroom, zeros_int, Addr.add_lit] at hst ⊢
        rw [hst]
        simp
      refine ⟨g, cap, _, hr, ⟨by simp at h0 ⊢; omega, .inr ⟨g, cap, _, rfl, hb, setRow_heap w g cur _ e _ hh, hroom, hm, ?_, ?_⟩⟩, ⟨rfl, rfl, rfl, by simp, fun j _ hj => setRow_other w g j _ (fun e => hj (by simp [e]))⟩, .inl rfl⟩
      · simp only [List.size_toArray, List.length_append, List.length_take, List.length_drop, Array.length_toList, List.length_replicate]
        omega
      · rw [ht]
        have : (n + k) * 1 = (xs ++ List.replicate k (Value.int .i64 0)).length := by simp at h0 ⊢; omega
        rw [this]
        exact List.take_left
    · have hf := run_firstCells_some (P := P) w.drew i.size n ⟨g, 0, none⟩ n cap xs (by rw [h3]; exact h0) (by simpa using hcells)
      have hr := Lib.run_append_grow_zeros (P := P) w t tn ty e i (.int .i64 0) kq kn E.ht htn h1i h2 (some ⟨g, 0, none⟩) n cap xs hf k hk (by omega) (by omega) (by omega) (by rw [h4]; omega) (by
        rw [h4]
        exact growslice_fits (by omega) (by omega))
      have hge := grownCap_ge w (n + k) cap e
      have hcm : grownCap w (n + k) cap e ≤ maxLen := grownCap_le_maxLen w (n + k) cap e (by simp only [maxLen]; omega)
      refine ⟨_, _, _, hr, ⟨by simp at h0 ⊢; omega, .inr ⟨w.heap.size, _, _, rfl, hbase, heap_alloc_new w.drew _, hge, hcm, ?_, ?_⟩⟩, ⟨rfl, rfl, rfl, by simp, fun j hj _ => heap_alloc_old w.drew _ j hj⟩, .inr ⟨_, rfl, Nat.le_refl _⟩⟩
      · simp only [zeros_int, Array.size_append, List.size_toArray, List.length_replicate]
        simp at h0
        omega
      · simp only [zeros_int, Array.toList_append, List.append_assoc]
        rw [← List.append_assoc]
        have : (n + k) * 1 = (xs ++ List.replicate k (Value.int .i64 0)).length := by simp at h0 ⊢; omega
        rw [this]
        exact List.take_left
end Go.Proofs.Ytinlaaeoiocfoaa
