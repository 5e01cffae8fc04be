/- For every graph, however great: the Go function laws.FnPathTold returns true, and leaves its argument as it was. No condition. -/
import Derived.Test.YtdllkoiddlcnmabRows
import Derived.Test.YtdllkoiddlcnmabPt
import Derived.Test.YtdllkoiddlcnmabGi
import Derived.ShutString
import Derived.ChangeOld
namespace Go.Proofs.Ytdllkoiddlcnmab
open Go.ChangeShapes Go.WideShapes Go.ChangeAt Go.RowKit
open Go.ChangeMaps (open_string shut_string)

theorem ownKnob_none : ownKnob Try.prog.godebug = none := by kernel_rfl
theorem okWide_has {P : Program} {w : World} {r : Reach} {base : Nat} {t : TypeId} {v : Value} {k : IntKind} (ht : P.underlying t = some (.int k)) (h : Value.okWide P w r base t v) : ∃ n, v = .int k n ∧ k.has n := by
  simp only [Value.okWide, ht, Cell.okWide] at h
  cases v <;> simp_all [Cell.ok]
theorem laidOut_true : laidOutB Try.prog = true := by kernel_rfl

set_option maxRecDepth 100000 in
theorem lifted (os : Os) (started : os.Started) (H : Type) (enc : TypeId × Value → H) :
    ReturnsInHanded {} Try.checked os 3 .any (Rows.fnPathToldSpec.pre6 enc Try.prog Try.f3 Rows.fnPathToldRow.domain false) (Rows.fnPathToldSpec.post enc Try.prog Try.f3 false true false false) := by
  refine returnsInHanded_of_change (C := Try.checked) ownKnob_none started (by kernel_rfl) Try.func3
    (ChangeSpec.witness6 (enc := enc) (C := Try.checked) false ⟨#[], #[.agg #[.bool true, .slice none 0 0, .slice none 0 0], .slice none 0 0, .int .u8 0, .int .u8 0], []⟩ 8 (by kernel_rfl) (by kernel_rfl) (by kernel_rfl) (by kernel_rfl)) ?_
  intro W base args ds gs before hval0 hW hcnd _
  have hval : ∀ (j : Nat) t v, Try.f3.params[j]? = some t → args[j]? = some v → Value.okWide Try.prog W .any base t v := hval0
  have hW' := hW
  obtain ⟨p, q, hA0, hV, rfl, hfz, hnd⟩ := hW
  have hA : DataW.TrodAll enc Try.prog W 0 (fun _ => true) true Try.f3.params.toList args.toList ds p := hA0
  rw [Try.params3] at hA hval
  obtain ⟨v0, vs0, d0, ds0, p0, q0, hargs, rfl, rfl, h0, r0⟩ := trodAll_cons hA
  obtain ⟨v1, vs1, d1, ds1, p1, q1, rfl, rfl, rfl, h1, r1⟩ := trodAll_cons r0
  obtain ⟨v2, vs2, d2, ds2, p2, q2, rfl, rfl, rfl, h2, r2⟩ := trodAll_cons r1
  obtain ⟨v3, vs3, d3, ds3, p3, q3, rfl, rfl, rfl, h3, r3⟩ := trodAll_cons r2
  obtain ⟨rfl, rfl, rfl⟩ := trodAll_nil r3
  obtain rfl : args = #[v0, v1, v2, v3] := by cases args; simp_all
  obtain ⟨rfl, rfl⟩ := trodVars_none hV
  obtain ⟨cs, rfl, -⟩ := okWide_struct Try.underlying25 (hval 0 25 v0 rfl rfl)
  obtain ⟨a1, l1, c1, rfl⟩ := okWide_slice Try.underlying22 (hval 1 22 v1 rfl rfl)
  obtain ⟨x2, rfl, hx2⟩ := okWide_has Try.underlying5 (hval 2 5 v2 rfl rfl)
  obtain ⟨x3, rfl, hx3⟩ := okWide_has Try.underlying5 (hval 3 5 v3 rfl rfl)
  have k1 := h1
  have lt1 : ∀ x ∈ p1, x.block < W.heap.size := by obtain ⟨m, hm⟩ := k1; exact DataW.trod_lt m _ _ _ hm
  have k2 := h2
  have lt2 : ∀ x ∈ p2, x.block < W.heap.size := by obtain ⟨m, hm⟩ := k2; exact DataW.trod_lt m _ _ _ hm
  have k3 := h3
  have lt3 : ∀ x ∈ p3, x.block < W.heap.size := by obtain ⟨m, hm⟩ := k3; exact DataW.trod_lt m _ _ _ hm
  have hpath : ∃ l, IntsR W (.slice a1 l1 c1) l := by
    obtain ⟨fuel, hf⟩ := h1
    obtain ⟨v, l, e, hl⟩ := ints_in hf
    simp only [Value.cells] at e
    obtain rfl : Value.slice a1 l1 c1 = v := by simpa using e
    exact ⟨l, hl⟩
  obtain ⟨l, hl⟩ := hpath
  have k0 := h0
  have lt0 : ∀ x ∈ p0, x.block < W.heap.size := by obtain ⟨m, hm⟩ := k0; exact DataW.trod_lt m _ _ _ hm
  have hread : ∃ G, GrR W (.agg cs) G := by
    obtain ⟨fuel, hf⟩ := h0
    obtain ⟨G, hG⟩ := graph_in hf
    exact ⟨G, by simpa [Value.cells] using hG⟩
  obtain ⟨G, hG⟩ := hread
  clear hA0 hval0
  refine (lawPathTold_any hG hl hx2 hx3).mono fun e W' ⟨he, hg⟩ => ?_
  have bel := grown_below hg
  subst he
  exact ⟨_, rfl, _, _, _, [], _, [], hW', trodAll_mk1 (shut_bool Try.underlying4 _), (trodAll_cons_mk (Below.trod laidOut_true (by kernel_rfl) (of_decide_eq_true (by kernel_rfl)) k0 bel lt0) (trodAll_cons_mk (Below.trod laidOut_true (by kernel_rfl) (of_decide_eq_true (by kernel_rfl)) k1 bel lt1) (trodAll_cons_mk (Below.trod laidOut_true (by kernel_rfl) (of_decide_eq_true (by kernel_rfl)) k2 bel lt2) (trodAll_cons_mk (Below.trod laidOut_true (by kernel_rfl) (of_decide_eq_true (by kernel_rfl)) k3 bel lt3) trodAll_mk0)))), rfl, bel.frame _, fun h => by cases h⟩

theorem over : Rows.fnPathToldRow.holds Try.pinned (OpenSpec.ofChange Rows.fnPathToldSpec) :=
  OpenClaim.holds_of_wide 3 Try.f3 rfl rfl rfl rfl rfl rfl rfl ⟨rfl, rfl, rfl, rfl, rfl⟩ rfl rfl rfl rfl rfl (by kernel_rfl) Try.func3 (by kernel_rfl)
    (of_decide_eq_true (by kernel_rfl)) (by unfold Func.isWrapper; first | (rw [if_pos (by decide +kernel)]; kernel_rfl) | (rw [if_neg (by decide +kernel)]; exact ⟨rfl, rfl⟩))
    (fun os started H enc _ => lifted os started H enc)

theorem pathTold_holds : Rows.FnPathToldSaid := over
#print axioms pathTold_holds
end Go.Proofs.Ytdllkoiddlcnmab
