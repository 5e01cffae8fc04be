/- Laws for the walk, continued: append of one element that a literal has laid; at a plain operation and at a step of a region that draws. -/
import Derived.Test.YtinlaaeoiocfoaaBa
import Derived.Deep.AppendLies
import Derived.Deep.RegionLaw
import Derived.Deep.RegionHeld3
import Derived.Deep.OwnRows
import Derived.BigRegion
namespace Go.Proofs.Ytinlaaeoiocfoaa
open Go.MapKept Go.RowKit

theorem lit_cells {X : World} {lit : Array Value} {e : TypeId} {H0 : Nat} (hH : X.heap.size = H0) : ∀ j u, lit.toList[j]? = some u → (X.alloc (.cells lit e)).cell? ((⟨H0, 0, none⟩ : Addr).add j) = some u := by
  subst hH
  exact World.news_of_block (heap_alloc_new X _)

/-- a literal's cells, wherever the draws of the tape stand -/
theorem news_at {W : World} {H0 : Nat} {lit : Array Value} {e : TypeId} (h : W.heap[H0]? = some (.cells lit e (0, 0))) : ∀ j u, lit.toList[j]? = some u → W.cell? ((⟨H0, 0, none⟩ : Addr).add j) = some u := World.news_of_block h

theorem stepx_app1 {P : Program} {t e : TypeId} {size bytes : Nat} {z : Value} (E : ElT P t e size bytes z) {W : World} {ops : Array Oper} {o : Oper} {a : Act} {K : Act → World → Prop} {Q : Exit → Act → World → Prop} {F : Prop} (hgd : o.guard = none) (s x : Operand)
    (ho : o.op = .call { callee := .builtin .append, args := #[s, x], argTypes := #[t, t] }) (base : Nat)
    (v : Value) (n : Nat) (xs : List Value) (hs : a.eval s = v) (hown : W.ownsRow base e size v n xs) (H0 : Nat) (lit : Array Value) (hW : W.heap[H0]? = some (.cells lit e (0, 0))) (H1 : Nat) (hH1 : W.heap.size = H1) (c : Nat) (hx : a.eval x = .slice (some ⟨H0, 0, none⟩) 1 c)
    (hl : lit.size = size) (h1 : ∀ u ∈ lit.toList, u.oneCell' = true) (hsmall : (n + 1) * bytes ≤ 140737488355328) (h63 : n + 1 ≤ maxLen) (hbase : base ≤ H1)
    (h : ∀ g cap w', w'.ownsRow base e size (.slice (some ⟨g, 0, none⟩) (n + 1) cap) (n + 1) (xs ++ lit.toList) → W.grownBy w' v.ownBlock → (v.ownBlock = some g ∨ g = H1) → g < w'.heap.size → H1 ≤ w'.heap.size → K (a.put o.dst (.slice (some ⟨g, 0, none⟩) (n + 1) cap)) w') :
    if Region.wanted o (yielded ops a.tmps) = true then Oper.wp P o a W K Q else F := by
  obtain ⟨i, h1i, h2, h3, h4⟩ := info_parts E.hi
  refine step_append_lies _ hgd s x t ho base e i z size bytes E.ht h1i h2 h3 h4 E.hzs E.pos v n xs hs hown ⟨H0, 0, none⟩ 1 c lit.toList hx (by simp [hl]) (news_at hW) h1 (by omega) h63 hsmall (by omega) H1 hH1 ?_
  intro g cap w' k1 k2 k3 k4
  exact h g cap w' k1 k2 k3 k4 (by have := k2.size; omega)

theorem wpx_app1 {P : Program} {t e : TypeId} {size bytes : Nat} {z : Value} (E : ElT P t e size bytes z) {W : World} {ops : Array Oper} {rest : List Oper} {o : Oper} {a : Act} {Q : Exit → Act → World → Prop} (hgd : o.guard = none) (s x : Operand)
    (ho : o.op = .call { callee := .builtin .append, args := #[s, x], argTypes := #[t, t] }) (base : Nat)
    (v : Value) (n : Nat) (xs : List Value) (hs : a.eval s = v) (hown : W.ownsRow base e size v n xs) (H0 : Nat) (lit : Array Value) (hW : W.heap[H0]? = some (.cells lit e (0, 0))) (H1 : Nat) (hH1 : W.heap.size = H1) (c : Nat) (hx : a.eval x = .slice (some ⟨H0, 0, none⟩) 1 c)
    (hl : lit.size = size) (h1 : ∀ u ∈ lit.toList, u.oneCell' = true) (hsmall : (n + 1) * bytes ≤ 140737488355328) (h63 : n + 1 ≤ maxLen) (hbase : base ≤ H1)
    (h : ∀ g cap w', w'.ownsRow base e size (.slice (some ⟨g, 0, none⟩) (n + 1) cap) (n + 1) (xs ++ lit.toList) → W.grownBy w' v.ownBlock → (v.ownBlock = some g ∨ g = H1) → g < w'.heap.size → H1 ≤ w'.heap.size → wpList P ops Q rest (a.put o.dst (.slice (some ⟨g, 0, none⟩) (n + 1) cap)) w') :
    wpList P ops Q (o :: rest) a W := by
  obtain ⟨i, h1i, h2, h3, h4⟩ := info_parts E.hi
  refine wpList_append_lies _ hgd s x t ho base e i z size bytes E.ht h1i h2 h3 h4 E.hzs E.pos v n xs hs hown ⟨H0, 0, none⟩ 1 c lit.toList hx (by simp [hl]) (news_at hW) h1 (by omega) h63 hsmall (by omega) H1 hH1 ?_
  intro g cap w' k1 k2 k3 k4
  exact h g cap w' k1 k2 k3 k4 (by have := k2.size; omega)
end Go.Proofs.Ytinlaaeoiocfoaa
