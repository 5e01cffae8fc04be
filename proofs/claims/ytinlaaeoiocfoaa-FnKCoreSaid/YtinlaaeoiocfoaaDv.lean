/- impl.KCore. -/
import Derived.Test.YtinlaaeoiocfoaaDt
import Derived.Test.YtinlaaeoiocfoaaDu
import Derived.Test.YtinlaaeoiocfoaaOb
namespace Go.Proofs.Ytinlaaeoiocfoaa
open Go.MapKept Go.RowKit

/-- degeneracyOrdering, wherever it is called -/
def DegAny : Prop := ∀ {p0 : Nat} {ids : List Int} {M : Mat} {w : World}, PlnR w p0 ids M → ids.length ≤ 1000 → ids.Pairwise (· < ·) → Sym (outs ids M) ids → (∀ x ∈ ids, ∀ y ∈ outs ids M x, y ∈ ids) →
    Calls Try.prog 20 #[.iface undT (dirV p0)] w (DegPost (outs ids M) ids w)
theorem BothPost.und {G : Gr} {w : World} {e : Ending} {w' : World} (h : BothPost G w e w') (hd : G.dir = false) : ∃ p0, e = .returned (.tuple #[dirV p0, .bool true]) ∧ PlnR w' p0 G.ids G.mat ∧ w.grownBy w' none := by
  obtain ⟨p0, h1, h2, h3⟩ := h
  rw [hd] at h1
  exact ⟨p0, h1, h2, h3⟩
def KcoPost (G : Gr) (k : Nat) (w : World) (e : Ending) (w' : World) : Prop :=
  ∃ (v : Value) (L : List Int), e = .returned (.tuple #[v, .bool false]) ∧ w'.ownsRow w.heap.size inT 1 v L.length (L.map (Value.int .i64)) ∧ w.grownBy w' none ∧ L.Nodup ∧ L.length ≤ 1000 ∧ Core (outs G.ids G.mat) G.ids k (fun x => decide (x ∈ L))

set_option maxHeartbeats 2000000 in
set_option maxRecDepth 100000 in
theorem kco_any (HD : DegAny) {G : Gr} {v : Value} {w : World} (h : GrR w v G) (hG : G.Well) (hnl : G.nodes.length ≤ 1000) (hel : G.edges.length ≤ 10000) (hd : G.dir = false) {k : Nat} (hk : k ≤ 1 ∨ ∃ C x, Supp (outs G.ids G.mat) G.ids (k - 1) C ∧ C x = true) :
    Calls Try.prog 7 #[.int .i64 k, v] w (KcoPost G k w) := by
  have hbw := fun O => bothWays_any (h.grown (grown_alloc w O)) hG hnl hel
  have hil : G.ids.length ≤ 1000 := by rw [G.length_ids]; exact hnl
  have hdeg := fun (p0 : Nat) (W : World) (hP : PlnR W p0 G.ids G.mat) => HD hP hil hG.ids (hG.symG hd) (fun x _ y hy => outs_in hy)
  have hcores := fun (p0 : Nat) (W : World) (hP : PlnR W p0 G.ids G.mat) => cores_of hil (hdeg p0 W hP)
  have hkcore := fun (p0 : Nat) (W : World) (hP : PlnR W p0 G.ids G.mat) => kcore_of hil hk (hdeg p0 W hP)
  obtain ⟨vn, ve, rfl, ⟨an, cn, rfl, _⟩, ⟨ae, ce, rfl, _⟩⟩ := h.parts
  replace hk := Lib.hid hk
  rw [hd] at hbw ⊢
  replace hd := Lib.hid hd
  replace hdeg := Lib.hid hdeg
  clear h
  have hk0 : decide ((k : Int) < 0) = false := by simp
  go_enter Try.func7, Try.ntmps7
  go_wp2_with (first
    | (go_at_call 12; refine (hbw _).mono ?_; intro e w1 hp; have hp9 := hp.und hd.out; clear hp; obtain ⟨p0, rfl, hp1, hp2⟩ := hp9; replace hp1 := Lib.hid hp1; replace hp2 := Lib.hid hp2)
    | (go_at_call 13; refine (hcores p0 _ (hp1.out.grown (grown_alloc _ _))).mono ?_; intro e w3 hp; obtain ⟨ov, a, n, c, l, s, rfl, hg3, hok, hall, hn⟩ := hp; have hkn := hok.kle hall hk.out; have hkn2 : ¬ ((n : Int) + 1 < (k : Int)) := (by omega); have c4 : w3.cell? ⟨w1.heap.size, 0, none⟩ = some (.pointer (some ⟨p0, 0, none⟩)) := cell_at (grown_block hg3 (heap_alloc_new w1 _) (by simp)); replace hg3 := Lib.hid hg3; clear hok hall)
    | (go_at_call 15; refine (hkcore p0 _ ((hp1.out.grown (grown_alloc _ _)).grown hg3.out)).mono ?_; intro e w4 hp; obtain ⟨v4, L, rfl, ho4, hg4, hnd4, hl4, hcore4⟩ := hp; replace ho4 := Lib.hid ho4; replace hg4 := Lib.hid hg4; replace hcore4 := Lib.hid (And.intro hnd4 (And.intro hl4 hcore4)))
    | (go_at_call 14; refine (numbers_any (NodesR.of_own ho4.out) (by omega)).mono ?_; intro e w5 hp; obtain ⟨v5, rfl, ho5, hg5⟩ := hp; replace ho5 := Lib.hid ho5; replace hg5 := Lib.hid hg5))
  refine bodyPost_ret (v := .tuple #[v5, .bool false]) (by simp [results, Try.results7, go_sem]) rfl ?_
  have hgw : w.grownBy w4 none := grown_tr (grown_tr (grown_tr (grown_tr (grown_alloc _ _) hp2.out) (grown_alloc _ _)) hg3.out) hg4.out
  exact ⟨v5, L, rfl, own_mono ho5.out hgw.size, grown_tr hgw hg5.out, hcore4.out⟩
end Go.Proofs.Ytinlaaeoiocfoaa
