/- topo.Sort, topo.SortStabilized. -/
import Derived.Test.YtdllkoiddlcnmaaGreatSj
import Derived.Test.YtdllkoiddlcnmaaGreatTp
import Derived.Test.YtdllkoiddlcnmaaGreatSl
namespace Go.Proofs.YtdllkoiddlcnmaaGreat
open Go.MapKept Go.RowKit

abbrev sortS (ids : List Int) (M : Mat) : Int → List Int := fun x => (srt (outs ids M x)).reverse
/-- the components, as the algorithm finds them -/
def compA (ids : List Int) (M : Mat) : List (List Int) := (tall (outs ids M) ids.length ids).out
def compB (ids : List Int) (M : Mat) : List (List Int) := (tall (sortS ids M) ids.length (srt ids).reverse).out

theorem compA_ok {ids : List Int} {M : Mat} (hclo : ∀ x ∈ ids, ∀ y ∈ outs ids M x, y ∈ ids) : TallOk (outs ids M) ids (compA ids M) := tall_is hclo (fun _ => Iff.rfl)
theorem compB_ok {ids : List Int} {M : Mat} (hclo : ∀ x ∈ ids, ∀ y ∈ outs ids M x, y ∈ ids) : TallOk (sortS ids M) ids (compB ids M) :=
  tall_is (fun x hx y hy => hclo x hx y (by simpa [mem_srt] using hy)) (fun x => by simp [mem_srt])

theorem fun_neq (W : World) : (binOp .eql 90 lexV .nilFunc).run Tryz.prog W = .ok (.bool false) W := by kernel_rfl
set_option maxRecDepth 100000 in
theorem fun_nil (W : World) : (binOp .eql 90 .nilFunc .nilFunc).run Tryz.prog W = .ok (.bool true) W := fnil_eql rfl W

set_option maxHeartbeats 1000000 in
set_option maxRecDepth 100000 in
theorem sort_any {p0 : Nat} {ids : List Int} {M : Mat} {w : World} (h : PlnR w p0 ids M) (hl : ids.length ≤ 1000) (ha : ids.Pairwise (· < ·)) (hclo : ∀ x ∈ ids, ∀ y ∈ outs ids M x, y ∈ ids) :
    Calls Tryz.prog 39 #[.iface dirT (dirV p0)] w (SdPost w (compA ids M).reverse w) := by
  have hnd : ids.Nodup := ha.imp (by intro a b h; omega)
  have hcall : Calls Tryz.prog 60 #[.iface dirT (dirV p0)] w (ListsPost (compA ids M).reverse w) := tarjanSCC_any h hl ha hclo
  have HOK := Lib.hid ((compA_ok hclo).comp hnd hl)
  clear h ha hclo hnd hl
  obtain ⟨L, hL⟩ : ∃ L, L = (compA ids M).reverse := ⟨_, rfl⟩
  rw [← hL] at hcall HOK ⊢
  clear hL
  go_enter Tryz.func39, Tryz.ntmps39
  go_wp2_with (first
    | (go_at_call 60; refine hcall.mono ?_; intro e w1 hp; obtain ⟨vo, vals, rfl, o1, o2, o3, o4⟩ := hp; have hs := sorted_lex HOK.out o1 o2 o3 o4; unfold SdPost at hs; replace o1 := Lib.hid o1)
    | (go_at_call 61; refine hs.mono ?_; intro e w2 hp; obtain ⟨v6, err, rfl, hp⟩ := hp; replace hp := Lib.hid hp))
  go_ret2
  exact ⟨v6, err, rfl, hp.out⟩

set_option maxHeartbeats 1000000 in
set_option maxRecDepth 100000 in
theorem sortSt_any {p0 : Nat} {ids : List Int} {M : Mat} {w : World} (h : PlnR w p0 ids M) (hl : ids.length ≤ 1000) (ha : ids.Pairwise (· < ·)) (hclo : ∀ x ∈ ids, ∀ y ∈ outs ids M x, y ∈ ids) :
    Calls Tryz.prog 41 #[.iface dirT (dirV p0), .nilFunc] w (SdPost w (compB ids M).reverse w) := by
  have hnd : ids.Nodup := ha.imp (by intro a b h; omega)
  have hcall : Calls Tryz.prog 64 #[.iface dirT (dirV p0), lexV] w (ListsPost (compB ids M).reverse w) :=
    tarjan_lex (K := srt) length_srt (fun l x => mem_srt) (fun W B e v l _ ho hl _ => by
      have h9 := lex_call ho hl
      exact h9) fun_neq h hl ha hclo
  have HOK := Lib.hid ((compB_ok hclo).comp hnd hl)
  clear h ha hclo hnd hl
  obtain ⟨L, hL⟩ : ∃ L, L = (compB ids M).reverse := ⟨_, rfl⟩
  rw [← hL] at hcall HOK ⊢
  clear hL
  have hfn := fun_nil
  go_enter Tryz.func41, Tryz.ntmps41
  go_wp2_with (first
    | (go_at_call 64; refine hcall.mono ?_; intro e w1 hp; obtain ⟨vo, vals, rfl, o1, o2, o3, o4⟩ := hp; have hs := sorted_lex HOK.out o1 o2 o3 o4; unfold SdPost at hs; replace o1 := Lib.hid o1)
    | (go_at_call 61; refine hs.mono ?_; intro e w2 hp; obtain ⟨v6, err, rfl, hp⟩ := hp; replace hp := Lib.hid hp))
  go_ret2
  exact ⟨v6, err, rfl, hp.out⟩
end Go.Proofs.YtdllkoiddlcnmaaGreat
