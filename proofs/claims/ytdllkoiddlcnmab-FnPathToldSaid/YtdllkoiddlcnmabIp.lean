/- impl.nodesOf, topo.IsPathIn, impl.IsPathIn. -/
import Derived.Test.YtdllkoiddlcnmabHe
import Derived.Test.YtdllkoiddlcnmabPp
import Derived.Test.YtdllkoiddlcnmabOu
namespace Go.Proofs.Ytdllkoiddlcnmab
open Go.MapKept Go.RowKit

def NodsPost (l : List Int) (w : World) (e : Ending) (w' : World) : Prop := ∃ v, e = .returned v ∧ w'.ownsRow w.heap.size nodT 1 v l.length (l.map nodeV) ∧ w.grownBy w' none
def NodsRel (l : List Int) (w : World) (v i : Value) (wr : World) : Prop := ∃ k : Nat, k ≤ l.length ∧ i = .int .i64 k ∧ wr.ownsRow w.heap.size nodT 1 v k ((l.take k).map nodeV) ∧ w.grownBy wr none

set_option maxHeartbeats 1000000 in
set_option maxRecDepth 100000 in
theorem nodesOf_any {l : List Int} {v : Value} {w : World} (h : IntsR w v l) (hl : l.length ≤ 1000000) : Calls Try.prog 11 #[v] w (NodsPost l w) := by
  obtain ⟨a, c, rfl, h⟩ := h
  have HR := Lib.hid h
  clear h
  go_enter Try.func11, Try.ntmps11
  go_wp2_with fail
  go_loopw [3, 5, 8] (fun v _ i wr => NodsRel l w v i wr) (fun _ _ i _ => l.length - (intOf i).toNat)
  case atStart => exact ⟨0, by omega, rfl, ⟨rfl, .inl ⟨rfl, rfl⟩⟩, grown_refl w⟩
  case round =>
    obtain ⟨k, hk, rfl, hown, hg⟩ := hrel
    by_cases hlt : k < l.length
    · have hlt' : (k : Int) < l.length := by omega
      obtain ⟨b, o, rfl, hb, hcell⟩ := HR.out (by omega)
      have c1 := (grown_cell hg hb (by simp)).trans (hcell k hlt)
      obtain ⟨x, hx⟩ : ∃ x, x = l[k] := ⟨_, rfl⟩
      rw [← hx] at c1
      have HX := Lib.hid (And.intro hx (And.intro hown hg))
      clear hx hown hg hcell
      go_wp2_with (at_builtin; refine wpx_app1 elN rfl (.tmp 12) (.tmp 15) rfl w.heap.size u3 k _ rfl (HX.out.2.1.alloc _) wr.heap.size #[nodeV x] (heap_alloc_new wr _) (wr.heap.size + 1) (by simp) 1 rfl rfl (by simp [Value.oneCell']) (by omega) (by unfold maxLen; omega) (by have := HX.out.2.2.size; omega) ?_; intro g cap w' ho' hg' hat hlt2 hsz)
      go_roundw
      case rel =>
        obtain ⟨hx, hown, hg⟩ := HX.out
        subst hx
        exact ⟨k + 1, by omega, by go_num, own_snoc hlt ho', grown_own hg hown hg'⟩
      case measure => simp [intOf]; omega
    · have hlt' : ¬ (k : Int) < l.length := by omega
      obtain rfl : k = l.length := by omega
      rw [List.take_length] at hown
      have HX := Lib.hid (And.intro hown hg)
      clear hown hg
      go_wp2_with fail
      go_ret
      exact ⟨_, rfl, HX.out.1, HX.out.2⟩

theorem own_caps {w : World} {b e sz n cap g : Nat} {xs : List Value} (h : w.ownsRow b e sz (.slice (some ⟨g, 0, none⟩) n cap) n xs) : n ≤ cap ∧ cap ≤ maxLen := by
  obtain ⟨-, h | ⟨g', cap', cur, e1, hb, hh, hc, hm, hs, ht⟩⟩ := h
  · simp at h
  · simp only [Value.slice.injEq, Option.some.injEq, Addr.mk.injEq, and_true, true_and] at e1
    obtain ⟨rfl, rfl⟩ := e1
    exact ⟨hc, hm⟩

def nodeO (ids : List Int) (x : Int) : Value := if x ∈ ids then nodeV x else .nilIface


set_option maxHeartbeats 1000000 in
theorem plain_nodeO {p0 : Nat} {ids : List Int} {M : Mat} {w : World} {x : Int} (h : PlnR w p0 ids M) (hl : ids.length ≤ 1000) (ha : ids.Pairwise (· < ·)) : Calls Try.prog 90 #[.pointer (some ⟨p0, 0, none⟩), .int .i64 x] w (fun e w' => e = .returned (nodeO ids x) ∧ w = w') := by
  by_cases hx : x ∈ ids
  · unfold nodeO
    rw [if_pos hx]
    exact plain_node h hl hx ha
  · unfold nodeO
    rw [if_neg hx]
    have hidx : Calls Try.prog 18 #[.pointer (some ⟨p0, 0, none⟩), .int .i64 x] w (fun e w' => ∃ m : Int, e = .returned (.tuple #[.int .i64 m, .bool false]) ∧ w = w') :=
      (find_index h hl ha x).mono (fun e w' ⟨m, _, h2, h3⟩ => ⟨m, by rw [h2, decide_eq_false hx], h3⟩)
    clear h hx
    go_enter Try.func90, Try.ntmps90
    go_wp2_with (go_at_call 18; refine hidx.mono ?_; rintro e w' ⟨m, rfl, rfl⟩)
    go_ret
    exact ⟨rfl, rfl⟩
set_option maxHeartbeats 400000 in
theorem dir_nodeO {p0 : Nat} {ids : List Int} {M : Mat} {w : World} {x : Int} (h : PlnR w p0 ids M) (hl : ids.length ≤ 1000) (ha : ids.Pairwise (· < ·)) : Calls Try.prog 83 #[dirV p0, .int .i64 x] w (fun e w' => e = .returned (nodeO ids x) ∧ w.grownBy w' none) := by
  have hcall := fun O => plain_nodeO (x := x) (h.grown (grown_alloc w O)) hl ha
  obtain ⟨y, hy⟩ : ∃ y, y = nodeO ids x := ⟨_, rfl⟩
  rw [← hy] at hcall ⊢
  clear h hy
  go_enter Try.func83, Try.ntmps83
  go_wp2_with (go_at_call 90; refine (hcall _).mono ?_; rintro e w' ⟨rfl, rfl⟩)
  go_ret
  exact ⟨rfl, grown_alloc _ _⟩
set_option maxHeartbeats 400000 in
theorem und_nodeO {p0 : Nat} {ids : List Int} {M : Mat} {w : World} {x : Int} (h : PlnR w p0 ids M) (hl : ids.length ≤ 1000) (ha : ids.Pairwise (· < ·)) : Calls Try.prog 96 #[dirV p0, .int .i64 x] w (fun e w' => e = .returned (nodeO ids x) ∧ w.grownBy w' none) := by
  have hcall := fun O => plain_nodeO (x := x) (h.grown (grown_alloc w O)) hl ha
  obtain ⟨y, hy⟩ : ∃ y, y = nodeO ids x := ⟨_, rfl⟩
  rw [← hy] at hcall ⊢
  clear h hy
  go_enter Try.func96, Try.ntmps96
  go_wp2_with (go_at_call 90; refine (hcall _).mono ?_; rintro e w' ⟨rfl, rfl⟩)
  go_ret
  exact ⟨rfl, grown_alloc _ _⟩
end Go.Proofs.Ytdllkoiddlcnmab
