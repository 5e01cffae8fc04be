/- For every graph, however great: the Go function laws.FnKCore returns true, and leaves its arguments as they were. No condition. -/
import Derived.Test.YtinlaaeoiocfoaaRows
import Derived.Test.YtinlaaeoiocfoaaKf
import Derived.Test.YtinlaaeoiocfoaaPe
import Derived.Test.YtinlaaeoiocfoaaDp
import Derived.Test.YtinlaaeoiocfoaaGi
import Derived.ShutString
import Derived.ChangeOld
namespace Go.Proofs.Ytinlaaeoiocfoaa
open Go.ChangeShapes Go.WideShapes Go.ChangeAt Go.RowKit
open Go.ChangeMaps (open_string shut_string)

theorem degAny : DegAny := fun h hl ha hs hc => degOrd_any h hl ha hs hc
theorem peelAny : PeelAny := fun h hG hnl hel k hk => (peeled_any h hG hnl hel k hk).mono (fun e w' h1 => by
  obtain ⟨v', C, h2, h3, h4, h5⟩ := h1
  rw [core_filter h5] at h3
  exact ⟨v', h2, h3, h4⟩)

theorem ownKnob_none : ownKnob Try.prog.godebug = none := by kernel_rfl
theorem laidOut_true : laidOutB Try.prog = true := by kernel_rfl

set_option maxRecDepth 100000 in
theorem lifted (os : Os) (started : os.Started) (H : Type) (enc : TypeId × Value → H) :
    ReturnsInHanded {} Try.checked os 3 .any (Rows.fnKCoreSpec.pre6 enc Try.prog Try.f3 Rows.fnKCoreRow.domain false) (Rows.fnKCoreSpec.post enc Try.prog Try.f3 false true false false) := by
  refine returnsInHanded_of_change (C := Try.checked) ownKnob_none started (by kernel_rfl) Try.func3
    (ChangeSpec.witness6 (enc := enc) (C := Try.checked) false ⟨#[], #[.int .i64 0, .agg #[.bool true, .slice none 0 0, .slice none 0 0]], []⟩ 8 (by kernel_rfl) (by kernel_rfl) (by kernel_rfl) (by kernel_rfl)) ?_
  intro W base args ds gs before hval0 hW hcnd _
  have hval : ∀ (j : Nat) t v, Try.f3.params[j]? = some t → args[j]? = some v → Value.okWide Try.prog W .any base t v := hval0
  have hW' := hW
  obtain ⟨p, q, hA0, hV, rfl, hfz, hnd⟩ := hW
  have hA : DataW.TrodAll enc Try.prog W 0 (fun _ => true) true Try.f3.params.toList args.toList ds p := hA0
  rw [Try.params3] at hA hval
  obtain ⟨v0, vs0, d0, ds0, p0, q0, hargs, rfl, rfl, h0, r0⟩ := trodAll_cons hA
  obtain ⟨v1, vs1, d1, ds1, p1, q1, rfl, rfl, rfl, h1, r1⟩ := trodAll_cons r0
  obtain ⟨rfl, rfl, rfl⟩ := trodAll_nil r1
  obtain rfl : args = #[v0, v1] := by cases args; simp_all
  obtain ⟨rfl, rfl⟩ := trodVars_none hV
  obtain ⟨x0, rfl⟩ := okWide_int Try.underlying3 (hval 0 3 v0 rfl rfl)
  obtain ⟨cs, rfl, -⟩ := okWide_struct Try.underlying25 (hval 1 25 v1 rfl rfl)
  have k0 := h0
  have lt0 : ∀ x ∈ p0, x.block < W.heap.size := by obtain ⟨m, hm⟩ := k0; exact DataW.trod_lt m _ _ _ hm
  have k1 := h1
  have lt1 : ∀ x ∈ p1, x.block < W.heap.size := by obtain ⟨m, hm⟩ := k1; exact DataW.trod_lt m _ _ _ hm
  have hread : ∃ G, GrR W (.agg cs) G := by
    obtain ⟨fuel, hf⟩ := h1
    obtain ⟨G, hG⟩ := graph_in hf
    exact ⟨G, by simpa [Value.cells] using hG⟩
  obtain ⟨G, hG⟩ := hread
  clear hA0 hval0
  refine (lawKCore_any degAny peelAny (k := x0) hG).mono fun e W' ⟨he, hg⟩ => ?_
  have bel := grown_below hg
  subst he
  exact ⟨_, rfl, _, _, _, [], _, [], hW', trodAll_mk1 (shut_bool Try.underlying4 _), (trodAll_cons_mk (Below.trod laidOut_true (by kernel_rfl) (of_decide_eq_true (by kernel_rfl)) k0 bel lt0) (trodAll_cons_mk (Below.trod laidOut_true (by kernel_rfl) (of_decide_eq_true (by kernel_rfl)) k1 bel lt1) trodAll_mk0)), rfl, bel.frame _, fun h => by cases h⟩

theorem over : Rows.fnKCoreRow.holds Try.pinned (OpenSpec.ofChange Rows.fnKCoreSpec) :=
  OpenClaim.holds_of_wide 3 Try.f3 rfl rfl rfl rfl rfl rfl rfl ⟨rfl, rfl, rfl, rfl, rfl⟩ rfl rfl rfl rfl rfl (by kernel_rfl) Try.func3 (by kernel_rfl)
    (of_decide_eq_true (by kernel_rfl)) (by unfold Func.isWrapper; first | (rw [if_pos (by decide +kernel)]; kernel_rfl) | (rw [if_neg (by decide +kernel)]; exact ⟨rfl, rfl⟩))
    (fun os started H enc _ => lifted os started H enc)

theorem kCore_holds : Rows.FnKCoreSaid := over
#print axioms kCore_holds
end Go.Proofs.Ytinlaaeoiocfoaa
