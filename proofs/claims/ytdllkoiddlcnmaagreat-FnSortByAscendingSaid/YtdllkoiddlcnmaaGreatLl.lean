/- Lists of rows of the call's own. -/
import Derived.Test.YtdllkoiddlcnmaaGreatPa
namespace Go.Proofs.YtdllkoiddlcnmaaGreat
open Go.MapKept Go.RowKit

abbrev intT : TypeId := 3
abbrev intsT : TypeId := 22
theorem elLL : ElT Tryz.prog 46 intsT 1 24 (.slice none 0 0) := ⟨Tryz.underlying46, by kernel_rfl, by kernel_rfl, by decide⟩

/-- rows of numbers, each in a row of the call's own -/
def LLs (w : World) (B : Nat) (vals : List Value) (L : List (List Int)) : Prop := vals.length = L.length ∧ ∀ (i : Nat) (v : Value) (c : List Int), vals[i]? = some v → L[i]? = some c → w.ownsRow B intT 1 v c.length (c.map (Value.int .i64))

theorem LLs.rows {w : World} {B : Nat} {v : Value} {vals : List Value} {L : List (List Int)} {e : TypeId} (ho : w.ownsRow B e 1 v L.length vals) (h : LLs w B vals L) : RowsR w v L := by
  obtain ⟨a, c, rfl⟩ := own_slice ho
  obtain ⟨h1, h2⟩ := h
  refine ⟨a, c, fun i => vals.getD i (.bool false), rfl, fun hL => ?_, fun i hi => ?_⟩
  · obtain ⟨g, cap, e1, _, hg, _⟩ := own_row ho hL
    simp only [Value.slice.injEq] at e1
    obtain ⟨rfl, _, rfl⟩ := e1
    refine ⟨g, 0, rfl, hg, fun i hi => ?_⟩
    have hv : vals[i]? = some (vals.getD i (.bool false)) := by simp [List.getD_eq_getElem?_getD, List.getElem?_eq_getElem (show i < vals.length by omega)]
    have := ho.cells (g := g) rfl i _ hv
    rw [addr_add] at this
    exact this
  · refine IntsR.of_own (base := B) (e := intT) (h2 i _ _ ?_ (List.getElem?_eq_getElem hi))
    simp [List.getD_eq_getElem?_getD, List.getElem?_eq_getElem (show i < vals.length by omega)]

/-- a row more -/
theorem LLs.snoc {w w2 w3 w4 : World} {B : Nat} {v u : Value} {vals : List Value} {L : List (List Int)} {c : List Int} {e : TypeId} (hne : intT ≠ e) (h : LLs w B vals L) (hg : w.grownBy w2 none) (hu : w2.ownsRow B intT 1 u c.length (c.map (Value.int .i64)))
    (hg3 : w2.grownBy w3 none) (hv : w3.ownsRow B e 1 v L.length vals) (hg4 : w3.grownBy w4 v.ownBlock) : LLs w4 B (vals ++ [u]) (L ++ [c]) := by
  have keep : ∀ {x : Value} {n : Nat} {xs : List Value}, w3.ownsRow B intT 1 x n xs → w4.ownsRow B intT 1 x n xs := fun hx => hx.kept hg4 (row_ne_row hx hv hne)
  refine ⟨by simp [h.1], fun i x d hx hd => ?_⟩
  by_cases hi : i < L.length
  · rw [List.getElem?_append_left (by rw [h.1]; exact hi)] at hx
    rw [List.getElem?_append_left hi] at hd
    exact keep (own_new (own_new (h.2 i x d hx hd) hg) hg3)
  · have hi2 : i = L.length := by
      have := (List.getElem?_eq_some_iff.1 hd).1
      simp at this
      omega
    subst hi2
    rw [List.getElem?_append_right (by rw [h.1]; exact Nat.le_refl _), h.1, Nat.sub_self] at hx
    rw [List.getElem?_append_right (Nat.le_refl _), Nat.sub_self] at hd
    simp at hx hd
    subst hx hd
    exact keep (own_new hu hg3)

theorem len_in_flat {L : List (List Int)} {n : Nat} (h : L.flatten.length ≤ n) : ∀ c ∈ L, c.length ≤ n := fun c hc => by
  obtain ⟨s1, s2, rfl⟩ := List.append_of_mem hc
  simp at h
  omega
theorem len_of_flat : ∀ {L : List (List Int)}, (∀ c ∈ L, c ≠ []) → L.length ≤ L.flatten.length
  | [], _ => Nat.le_refl _
  | c :: L, h => by
    have h1 := List.length_pos_iff.2 (h c (by simp))
    have h2 := len_of_flat (L := L) (fun d hd => h d (by simp [hd]))
    rw [List.flatten_cons, List.length_append, List.length_cons]
    omega

end Go.Proofs.YtdllkoiddlcnmaaGreat
