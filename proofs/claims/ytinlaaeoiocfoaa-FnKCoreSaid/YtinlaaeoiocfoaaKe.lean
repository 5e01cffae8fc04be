/- The law FnKCore, plainly: the core as a list. -/
import Derived.Test.YtinlaaeoiocfoaaDv
import Derived.Test.YtinlaaeoiocfoaaPq
namespace Go.Proofs.Ytinlaaeoiocfoaa

section
variable (N : Int → List Int) (ids : List Int) (k : Nat)
open Classical in
noncomputable def coreOf : Int → Bool := fun x => decide (∃ C, Supp N ids k C ∧ C x = true)
theorem coreOf_iff (x : Int) : coreOf N ids k x = true ↔ ∃ C, Supp N ids k C ∧ C x = true := by simp [coreOf]
theorem coreOf_core : Core N ids k (coreOf N ids k) := by
  refine ⟨⟨fun x hx => ?_, fun x hx => ?_⟩, fun C' h' x hx => (coreOf_iff N ids k x).2 ⟨C', h', hx⟩⟩
  · obtain ⟨C, hC, h1⟩ := (coreOf_iff N ids k x).1 hx
    exact hC.1 x h1
  · obtain ⟨C, hC, h1⟩ := (coreOf_iff N ids k x).1 hx
    exact Nat.le_trans (hC.2 x h1) (degIn_mono N (fun y hy => (coreOf_iff N ids k y).2 ⟨C, hC, hy⟩) x)
end
theorem core_filter {N : Int → List Int} {ids : List Int} {k : Nat} {C : Int → Bool} (h : Core N ids k C) : ids.filter C = ids.filter (coreOf N ids k) := by
  have e : C = coreOf N ids k := by
    funext x
    rw [Bool.eq_iff_iff]
    exact h.uniq N ids (coreOf_core N ids k) x
  rw [e]
theorem core_srt {N : Int → List Int} {ids L : List Int} {k : Nat} (ha : ids.Pairwise (· < ·)) (hL : L.Nodup) (h : Core N ids k (fun x => decide (x ∈ L))) : srt L = ids.filter (coreOf N ids k) := by
  have h1 := coreOf_core N ids k
  refine (srt_eq ((ha.filter _).imp (fun h => Int.le_of_lt h)) ?_).symm
  rw [List.perm_ext_iff_of_nodup (asc_nodup (ha.filter _)) hL]
  intro x
  rw [List.mem_filter]
  have h2 := h.uniq N ids h1 x
  rw [decide_eq_true_eq] at h2
  exact ⟨fun h3 => h2.2 h3.2, fun h3 => ⟨h1.1.1 x (h2.1 h3), h2.1 h3⟩⟩
/-- the core as a list -/
noncomputable def cl (G : Gr) (k : Nat) : List Int := G.ids.filter (coreOf (outs G.ids G.mat) G.ids k)
theorem KcoPost.cl {G : Gr} {k : Nat} {w : World} {e : Ending} {w' : World} (hG : G.Well) (h : KcoPost G k w e w') : ∃ (v : Value) (L : List Int), e = .returned (.tuple #[v, .bool false]) ∧ w'.ownsRow w.heap.size inT 1 v L.length (L.map (Value.int .i64)) ∧ w.grownBy w' none ∧ srt L = cl G k ∧ L.length ≤ 1000 := by
  obtain ⟨v, L, h1, h2, h3, h4, h5, h6⟩ := h
  exact ⟨v, L, h1, h2, h3, core_srt hG.ids h4 h6, h5⟩
theorem cl_some {G : Gr} {k : Nat} (h : k ≤ 1 ∨ cl G (k - 1) ≠ []) : k ≤ 1 ∨ ∃ C x, Supp (outs G.ids G.mat) G.ids (k - 1) C ∧ C x = true := by
  rcases h with h | h
  · exact .inl h
  · obtain ⟨x, hx⟩ := List.exists_mem_of_ne_nil _ h
    have h1 := (List.mem_filter.1 hx).2
    exact .inr ⟨_, x, (coreOf_core _ _ _).1, h1⟩

def g7 : Gr := ⟨false, [7], []⟩
theorem g7_well : g7.Well := ⟨by simp [g7], by simp [g7]⟩
theorem g7_ids : g7.ids = [7] := (srt_eq (ns := [7]) (by simp) (.refl _)).symm
theorem g7_cl : (cl g7 0).length = 1 := by
  have h : cl g7 0 = g7.ids := by
    unfold cl
    rw [List.filter_eq_self]
    intro x hx
    exact (coreOf_iff _ _ _ x).2 ⟨fun y => decide (y ∈ g7.ids), ⟨fun y hy => by simpa using hy, fun _ _ => Nat.zero_le _⟩, by simpa using hx⟩
  rw [h, g7_ids]
  rfl
theorem length_of_srt {L M : List Int} (h : srt L = M) : L.length = M.length := by rw [← h, length_srt]
end Go.Proofs.Ytinlaaeoiocfoaa
