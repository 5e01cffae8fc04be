/- Cores of a graph, plainly: nodes taken away one by one, each of the least degree. -/
import Derived.Test.YtinlaaeoiocfoaaBa
namespace Go.Proofs.Ytinlaaeoiocfoaa

theorem sum_zeros : ∀ n : Nat, (List.replicate n 0).sum = 0
  | 0 => rfl
  | n + 1 => by rw [List.replicate_succ, List.sum_cons, sum_zeros n]

section
variable (N : Int → List Int) (ids : List Int)
/-- how many of a node's neighbours are of a set -/
def degIn (C : Int → Bool) (x : Int) : Nat := ((N x).filter C).length
theorem degIn_mono {C C' : Int → Bool} (h : ∀ x, C x = true → C' x = true) (x : Int) : degIn N C x ≤ degIn N C' x := by
  unfold degIn
  rw [← List.countP_eq_length_filter, ← List.countP_eq_length_filter]
  exact List.countP_mono_left (fun y _ hy => h y hy)

/-- each node of the set has so many neighbours within it -/
def Supp (j : Nat) (C : Int → Bool) : Prop := (∀ x, C x = true → x ∈ ids) ∧ ∀ x, C x = true → j ≤ degIn N C x
/-- the greatest such set -/
def Core (j : Nat) (C : Int → Bool) : Prop := Supp N ids j C ∧ ∀ C', Supp N ids j C' → ∀ x, C' x = true → C x = true
theorem Supp.le {i j : Nat} {C : Int → Bool} (h : Supp N ids j C) (hij : i ≤ j) : Supp N ids i C := ⟨h.1, fun x hx => Nat.le_trans hij (h.2 x hx)⟩
theorem Core.uniq {j : Nat} {C C' : Int → Bool} (h : Core N ids j C) (h' : Core N ids j C') (x : Int) : C x = true ↔ C' x = true := ⟨h'.2 C h.1 x, h.2 C' h'.1 x⟩

/-- what is left when l is taken away -/
def left (l : List Int) : Int → Bool := fun x => decide (x ∈ ids) && !decide (x ∈ l)
theorem left_iff {l : List Int} {x : Int} : left ids l x = true ↔ x ∈ ids ∧ x ∉ l := by simp [left]

/-- on the way: l are gone, s tells how many for each k -/
structure DgOk (l : List Int) (k : Nat) (s : List Nat) : Prop where
  len : s.length = k + 1
  sum : s.sum = l.length
  core : ∀ j, j ≤ k → Core N ids j (left ids (l.take (s.take j).sum))
  next : ∀ C, Supp N ids (k + 1) C → ∀ x, C x = true → x ∉ l

theorem DgOk.start : DgOk N ids [] 0 [0] := by
  refine ⟨rfl, rfl, fun j hj => ?_, fun C _ x _ => by simp⟩
  obtain rfl : j = 0 := by omega
  exact ⟨⟨fun x hx => (left_iff ids |>.1 hx).1, fun x _ => Nat.zero_le _⟩, fun C' h' x hx => (left_iff ids).2 ⟨h'.1 x hx, by simp⟩⟩

/-- k grows to the least degree of what is left -/
theorem DgOk.raise {l : List Int} {k i : Nat} {s : List Nat} (h : DgOk N ids l k s) (hik : k < i) (hmin : ∀ x, left ids l x = true → i ≤ degIn N (left ids l) x) : DgOk N ids l i (s ++ List.replicate (i - k) 0) := by
  have hs : (s ++ List.replicate (i - k) 0).sum = l.length := by rw [List.sum_append, sum_zeros, h.sum]; rfl
  refine ⟨by rw [List.length_append, List.length_replicate, h.len]; omega, hs, fun j hj => ?_, fun C hC x hx => h.next C (hC.le N ids (by omega)) x hx⟩
  by_cases hjk : j ≤ k
  · have e : (s ++ List.replicate (i - k) 0).take j = s.take j := List.take_append_of_le_length (by rw [h.len]; omega)
    rw [e]
    exact h.core j hjk
  · have e : ((s ++ List.replicate (i - k) 0).take j).sum = l.length := by
      rw [List.take_append, List.take_of_length_le (by rw [h.len]; omega), List.sum_append, h.sum, List.take_replicate, sum_zeros]
      rfl
    rw [e, List.take_length]
    exact ⟨⟨fun x hx => ((left_iff ids).1 hx).1, fun x hx => Nat.le_trans hj (hmin x hx)⟩, fun C' h' x hx => (left_iff ids).2 ⟨h'.1 x hx, h.next C' (h'.le N ids (by omega)) x hx⟩⟩

/-- one node more is taken away -/
theorem DgOk.more {l : List Int} {k : Nat} {s : List Nat} (h : DgOk N ids l k s) {v : Int} (hd : degIn N (left ids l) v ≤ k) : DgOk N ids (l ++ [v]) k (s.set k (s.getD k 0 + 1)) := by
  have hk : k < s.length := by rw [h.len]; omega
  have htk : ∀ j, j ≤ k → (s.set k (s.getD k 0 + 1)).take j = s.take j := fun j hj => List.take_set_of_le hj
  have hle : ∀ j, j ≤ k → (s.take j).sum ≤ l.length := fun j hj => by
    rw [← h.sum]
    have : s = s.take j ++ s.drop j := (List.take_append_drop j s).symm
    rw [this, List.sum_append]
    simp
  refine ⟨by rw [List.length_set]; exact h.len, ?_, fun j hj => ?_, fun C hC x hx => ?_⟩
  · have e : s = s.take k ++ [s.getD k 0] := by
      have h1 : s.getD k 0 = s[k] := by rw [List.getD_eq_getElem?_getD, List.getElem?_eq_getElem hk]; rfl
      rw [h1, ← List.take_succ_eq_append_getElem hk, List.take_of_length_le (by rw [h.len]; omega)]
    obtain ⟨a, ha⟩ : ∃ a, a = s.getD k 0 := ⟨_, rfl⟩
    obtain ⟨t, ht⟩ : ∃ t, t = s.take k := ⟨_, rfl⟩
    have hl : t.length = k := by rw [ht, List.length_take]; omega
    rw [← ha, ← ht] at e
    rw [← ha]
    have e2 : s.set k (a + 1) = t ++ [a + 1] := by
      rw [e, List.set_append_right _ _ (by omega), hl, Nat.sub_self]
      rfl
    have h2 := h.sum
    rw [e, List.sum_append] at h2
    rw [e2, List.sum_append, List.length_append]
    simp at h2 ⊢
    omega
  · rw [htk j hj, List.take_append_of_le_length (hle j hj)]
    exact h.core j hj
  · rw [List.mem_append]
    rintro (h1 | h1)
    · exact h.next C hC x hx h1
    · obtain rfl : x = v := by simpa using h1
      have h2 := hC.2 x hx
      have h3 : degIn N C x ≤ degIn N (left ids l) x := degIn_mono N (fun y hy => (left_iff ids).2 ⟨hC.1 y hy, h.next C hC y hy⟩) x
      omega

/-- at the end: each core, and the empty one above -/
theorem DgOk.all {l : List Int} {k : Nat} {s : List Nat} (h : DgOk N ids l k s) (hl : ∀ x ∈ ids, x ∈ l) {j : Nat} (hj : j ≤ k + 1) : Core N ids j (left ids (l.take (s.take j).sum)) := by
  by_cases hjk : j ≤ k
  · exact h.core j hjk
  · obtain rfl : j = k + 1 := by omega
    have e : (s.take (k + 1)).sum = l.length := by rw [List.take_of_length_le (by rw [h.len]; exact Nat.le_refl _), h.sum]
    rw [e, List.take_length]
    refine ⟨⟨fun x hx => ((left_iff ids).1 hx).1, fun x hx => ?_⟩, fun C' h' x hx => ?_⟩
    · obtain ⟨h1, h2⟩ := (left_iff ids).1 hx
      exact absurd (hl x h1) h2
    · exact absurd (hl x (h'.1 x hx)) (h.next C' h' x hx)

/-- peeling: what is never taken away -/
structure PeelOk (j : Nat) (gone : Int → Bool) : Prop where
  keep : ∀ C, Supp N ids j C → ∀ x, C x = true → gone x = false
def stay (gone : Int → Bool) : Int → Bool := fun x => decide (x ∈ ids) && !gone x
theorem stay_iff {gone : Int → Bool} {x : Int} : stay ids gone x = true ↔ x ∈ ids ∧ gone x = false := by simp [stay]
theorem PeelOk.start (j : Nat) : PeelOk N ids j (fun _ => false) := ⟨fun _ _ _ _ => rfl⟩
theorem PeelOk.more {j : Nat} {gone : Int → Bool} (h : PeelOk N ids j gone) {u : Int} (hd : degIn N (stay ids gone) u < j) : PeelOk N ids j (fun x => gone x || decide (x = u)) := by
  refine ⟨fun C hC x hx => ?_⟩
  have h1 := h.keep C hC x hx
  rw [h1, Bool.false_or, decide_eq_false_iff_not]
  rintro rfl
  have h2 := hC.2 x hx
  have h3 := degIn_mono N (C := C) (C' := stay ids gone) (fun y hy => (stay_iff ids).2 ⟨hC.1 y hy, h.keep C hC y hy⟩) x
  omega
theorem PeelOk.core {j : Nat} {gone : Int → Bool} (h : PeelOk N ids j gone) (hend : ∀ x ∈ ids, gone x = false → j ≤ degIn N (stay ids gone) x) : Core N ids j (stay ids gone) :=
  ⟨⟨fun _ hx => ((stay_iff ids).1 hx).1, fun x hx => hend x ((stay_iff ids).1 hx).1 ((stay_iff ids).1 hx).2⟩, fun C' h' x hx => (stay_iff ids).2 ⟨h'.1 x hx, h.keep C' h' x hx⟩⟩
end
end Go.Proofs.Ytinlaaeoiocfoaa
