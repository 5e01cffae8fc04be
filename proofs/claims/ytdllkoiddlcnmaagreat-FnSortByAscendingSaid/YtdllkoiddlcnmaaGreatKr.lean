/- For every graph, however great: the Go function laws.FnSortByAscending returns true, and leaves its argument as it was. No condition. -/
import Derived.Test.YtdllkoiddlcnmaaGreatRows
import Derived.Test.YtdllkoiddlcnmaaGreatKl
import Derived.Test.YtdllkoiddlcnmaaGreatGi
import Derived.ShutString
import Derived.ChangeOld
namespace Go.Proofs.YtdllkoiddlcnmaaGreat
open Go.ChangeShapes Go.WideShapes Go.ChangeAt Go.RowKit
open Go.ChangeMaps (open_string shut_string)

theorem ownKnob_none : ownKnob Tryz.prog.godebug = none := by kernel_rfl
theorem laidOut_true : laidOutB Tryz.prog = true := by kernel_rfl

set_option maxRecDepth 100000 in
theorem lifted (os : Os) (started : os.Started) (H : Type) (enc : TypeId × Value → H) :
    ReturnsInHanded {} Tryz.checked os 6 .any (Rows.fnSortByAscendingSpec.pre6 enc Tryz.prog Tryz.f6 Rows.fnSortByAscendingRow.domain false) (Rows.fnSortByAscendingSpec.post enc Tryz.prog Tryz.f6 false true false false) := by
  refine returnsInHanded_of_change (C := Tryz.checked) ownKnob_none started (by kernel_rfl) Tryz.func6
    (ChangeSpec.witness6 (enc := enc) (C := Tryz.checked) false ⟨#[], #[.agg #[.bool true, .slice none 0 0, .slice none 0 0]], []⟩ 8 (by kernel_rfl) (by kernel_rfl) (by kernel_rfl) (by kernel_rfl)) ?_
  intro W base args ds gs before hval0 hW hcnd _
  have hval : ∀ (j : Nat) t v, Tryz.f6.params[j]? = some t → args[j]? = some v → Value.okWide Tryz.prog W .any base t v := hval0
  have hW' := hW
  obtain ⟨p, q, hA0, hV, rfl, hfz, hnd⟩ := hW
  have hA : DataW.TrodAll enc Tryz.prog W 0 (fun _ => true) true Tryz.f6.params.toList args.toList ds p := hA0
  rw [Tryz.params6] at hA hval
  obtain ⟨v0, vs0, d0, ds0, p0, q0, hargs, rfl, rfl, h0, r0⟩ := trodAll_cons hA
  obtain ⟨rfl, rfl, rfl⟩ := trodAll_nil r0
  obtain rfl : args = #[v0] := by cases args; simp_all
  obtain ⟨rfl, rfl⟩ := trodVars_none hV
  obtain ⟨cs, rfl, -⟩ := okWide_struct Tryz.underlying25 (hval 0 25 v0 rfl rfl)
  have k0 := h0
  have lt0 : ∀ x ∈ p0, x.block < W.heap.size := by obtain ⟨m, hm⟩ := k0; exact DataW.trod_lt m _ _ _ hm
  have hread : ∃ G, GrR W (.agg cs) G := by
    obtain ⟨fuel, hf⟩ := h0
    obtain ⟨G, hG⟩ := graph_in hf
    exact ⟨G, by simpa [Value.cells] using hG⟩
  obtain ⟨G, hG⟩ := hread
  clear hA0 hval0
  refine (lawSortBy_any hG).mono fun e W' ⟨he, hg⟩ => ?_
  have bel := grown_below hg
  subst he
  exact ⟨_, rfl, _, _, _, [], _, [], hW', trodAll_mk1 (shut_bool Tryz.underlying4 _), (trodAll_cons_mk (Below.trod laidOut_true (by kernel_rfl) (of_decide_eq_true (by kernel_rfl)) k0 bel lt0) trodAll_mk0), rfl, bel.frame _, fun h => by cases h⟩

theorem over : Rows.fnSortByAscendingRow.holds Tryz.pinned (OpenSpec.ofChange Rows.fnSortByAscendingSpec) :=
  OpenClaim.holds_of_wide 6 Tryz.f6 rfl rfl rfl rfl rfl rfl rfl ⟨rfl, rfl, rfl, rfl, rfl⟩ rfl rfl rfl rfl rfl (by kernel_rfl) Tryz.func6 (by kernel_rfl)
    (of_decide_eq_true (by kernel_rfl)) (by unfold Func.isWrapper; first | (rw [if_pos (by decide +kernel)]; kernel_rfl) | (rw [if_neg (by decide +kernel)]; exact ⟨rfl, rfl⟩))
    (fun os started H enc _ => lifted os started H enc)

theorem sortByAscending_holds : Rows.FnSortByAscendingSaid := over
#print axioms sortByAscending_holds
end Go.Proofs.YtdllkoiddlcnmaaGreat
