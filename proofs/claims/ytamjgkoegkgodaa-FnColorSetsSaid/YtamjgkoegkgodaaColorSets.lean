/- For every list of colours, however long: the Go function laws.FnColorSets returns true, and leaves its argument as it was. No condition. -/
import Derived.Test.YtamjgkoegkgodaaEnd
namespace Go.Proofs.Ytamjgkoegkgodaa
open Go.ChangeShapes Go.WideShapes Go.ChangeAt Go.RowKit
open Go.ChangeMaps (open_string shut_string)

theorem ownKnob_none : ownKnob Try.prog.godebug = none := by kernel_rfl
theorem laidOut_true : laidOutB Try.prog = true := by kernel_rfl

/-- the law's contract: whatever slice of pairs comes in -/
theorem law_all (v : Value) (w : World) (hv : (∃ a c, v = .slice a 0 c) ∨ ∃ b off len cap, v = .slice (some ⟨b, off, none⟩) len cap ∧ b < w.heap.size ∧ len ≤ 9223372036854775807 ∧ ∃ V0 V1 : Nat → Int, ∀ i, i < len → w.cell? ⟨b, off + i * 2, none⟩ = some (.int .i64 (V0 i)) ∧ w.cell? ⟨b, off + i * 2 + 1, none⟩ = some (.int .i64 (V1 i))) :
    Calls Try.prog 3 #[v] w (TrueBelow w) := by
  rcases hv with ⟨a, c, rfl⟩ | ⟨b, off, len, cap, rfl, hb, hl, V0, V1, hc⟩
  · exact law_nil a c w
  · by_cases hm : len ≤ 100
    · have := law_some b off cap ((List.range len).map (fun i => (V0 i, V1 i))) w hb (by simpa using hm) (fun i h => by
        have hi : i < len := by simpa using h
        have := hc i hi
        simpa using this)
      simpa using this
    · exact law_long _ _ _ _ (by omega) hl

set_option maxRecDepth 100000 in
theorem lifted (os : Os) (started : os.Started) (H : Type) (enc : TypeId × Value → H) :
    ReturnsInHanded {} Try.checked os 3 .any (Rows.fnColorSetsSpec.pre6 enc Try.prog Try.f3 Rows.fnColorSetsRow.domain false) (Rows.fnColorSetsSpec.post enc Try.prog Try.f3 false true false false) := by
  refine returnsInHanded_of_change (C := Try.checked) ownKnob_none started (by kernel_rfl) Try.func3
    (ChangeSpec.witness6 (enc := enc) (C := Try.checked) false ⟨#[], #[.slice none 0 0], []⟩ 8 (by kernel_rfl) (by kernel_rfl) (by kernel_rfl) (by kernel_rfl)) ?_
  intro W base args ds gs before hval0 hW hcnd _
  have hval : ∀ (j : Nat) t v, Try.f3.params[j]? = some t → args[j]? = some v → Value.okWide Try.prog W .any base t v := hval0
  have hW' := hW
  obtain ⟨p, q, hA0, hV, rfl, hfz, hnd⟩ := hW
  have hA : DataW.TrodAll enc Try.prog W 0 (fun _ => true) true Try.f3.params.toList args.toList ds p := hA0
  rw [Try.params3] at hA hval
  obtain ⟨v0, vs0, d0, ds0, p0, q0, hargs, rfl, rfl, h0, r0⟩ := trodAll_cons hA
  obtain ⟨rfl, rfl, rfl⟩ := trodAll_nil r0
  obtain rfl : args = #[v0] := by cases args; simp_all
  obtain ⟨rfl, rfl⟩ := trodVars_none hV
  obtain ⟨a0, len0, cap0, rfl⟩ := okWide_slice Try.underlying22 (hval 0 22 v0 rfl rfl)
  have k0 := h0
  have lt0 : ∀ x ∈ p0, x.block < W.heap.size := by obtain ⟨m, hm⟩ := k0; exact DataW.trod_lt m _ _ _ hm
  have hread : (∃ a c, Value.slice a0 len0 cap0 = .slice a 0 c) ∨ ∃ b off len cap, Value.slice a0 len0 cap0 = .slice (some ⟨b, off, none⟩) len cap ∧ b < W.heap.size ∧ len ≤ 9223372036854775807 ∧ ∃ V0 V1 : Nat → Int, ∀ i, i < len → W.cell? ⟨b, off + i * 2, none⟩ = some (.int .i64 (V0 i)) ∧ W.cell? ⟨b, off + i * 2 + 1, none⟩ = some (.int .i64 (V1 i)) := by
    obtain ⟨fuel, hf⟩ := h0
    rcases Deep.open_slice_pairs Try.underlying22 Try.underlying24 (by kernel_rfl) rfl rfl (by kernel_rfl) (by kernel_rfl) hf with ⟨hcs, _⟩ | ⟨x, l, c, m, n, V0, V1, D0, D1, P0, P1, hcs, _, hl, hm, hmm, _, hc⟩
    · left; simp [Value.cells] at hcs; obtain ⟨rfl, rfl, rfl⟩ := hcs; exact ⟨_, _, rfl⟩
    · simp [Value.cells] at hcs
      obtain ⟨rfl, rfl, rfl⟩ := hcs
      simp at hmm
      subst hmm
      by_cases hl0 : len0 = 0
      · left; subst hl0; exact ⟨_, _, rfl⟩
      · right
        obtain ⟨b, off, spot⟩ := x
        have hs0 := (hc 0 (by omega)).1
        have hspot : spot = none := by
          have := World.cell?_spot hs0
          simpa [Addr.add] using this
        subst hspot
        have hlen : len0 ≤ 9223372036854775807 := by
          have : _ ≤ maxLen := hm
          unfold maxLen at this
          omega
        refine ⟨b, off, len0, _, rfl, ?_, hlen, ?_⟩
        · have := World.block_lt_of_cell? W _ hs0
          simpa [addr_add] using this
        · have hV : ∀ i, i < len0 → ∃ y z, V0 i = .int .i64 y ∧ V1 i = .int .i64 z := by
            intro i hi
            obtain ⟨_, _, e0, e1⟩ := hc i (by omega)
            obtain ⟨y, hy, _⟩ := DataW.trod_int Try.underlying3 e0
            obtain ⟨z, hz, _⟩ := DataW.trod_int Try.underlying3 e1
            exact ⟨y, z, by simpa using hy, by simpa using hz⟩
          refine ⟨fun i => intOf (V0 i), fun i => intOf (V1 i), fun i hi => ?_⟩
          obtain ⟨e0, e1, _⟩ := hc i (by omega)
          obtain ⟨y, z, hy, hz⟩ := hV i (by omega)
          rw [addr_add] at e0 e1
          refine ⟨?_, ?_⟩
          · rw [e0]; show _ = some (Value.int .i64 (intOf (V0 i))); rw [hy]; rfl
          · rw [Nat.add_assoc, e1]; show _ = some (Value.int .i64 (intOf (V1 i))); rw [hz]; rfl
  clear hA0 hval0
  refine (law_all _ W hread).mono fun e W' ⟨he, bel⟩ => ?_
  subst he
  exact ⟨_, rfl, _, _, _, [], _, [], hW', trodAll_mk1 (shut_bool Try.underlying4 _), (trodAll_cons_mk (Below.trod laidOut_true (by kernel_rfl) (of_decide_eq_true (by kernel_rfl)) k0 bel lt0) trodAll_mk0), rfl, bel.frame _, fun h => by cases h⟩

theorem over : Rows.fnColorSetsRow.holds Try.pinned (OpenSpec.ofChange Rows.fnColorSetsSpec) :=
  OpenClaim.holds_of_wide 3 Try.f3 rfl rfl rfl rfl rfl rfl rfl ⟨rfl, rfl, rfl, rfl, rfl⟩ rfl rfl rfl rfl rfl (by kernel_rfl) Try.func3 (by kernel_rfl)
    (of_decide_eq_true (by kernel_rfl)) (by unfold Func.isWrapper; first | (rw [if_pos (by decide +kernel)]; kernel_rfl) | (rw [if_neg (by decide +kernel)]; exact ⟨rfl, rfl⟩))
    (fun os started H enc _ => lifted os started H enc)

theorem colorSets_holds : Rows.FnColorSetsSaid := over
#print axioms colorSets_holds
end Go.Proofs.Ytamjgkoegkgodaa
