/- An insertion sort in place, in plain lists. -/
namespace Go.Proofs.Ytinlaaeoiocfoaa

theorem set_swap_perm {α : Type} {l : List α} {i j : Nat} (hi : i < l.length) (hj : j < l.length) : ((l.set i l[j]).set j l[i]).Perm l := by
  exact List.set_set_perm hi hj

/-- the inner loop of an insertion sort: all but place i stand in order up to k, and what stands behind place i is not less -/
def InnerOk (ys : List Int) (k i : Nat) : Prop :=
  i ≤ k ∧ k < ys.length ∧ (∀ a b, (ha : a < ys.length) → (hb : b < ys.length) → a < b → b ≤ k → a ≠ i → b ≠ i → ys[a] ≤ ys[b]) ∧ (∀ b, (hb : b < ys.length) → (hi : i < ys.length) → i < b → b ≤ k → ys[i] ≤ ys[b])

/-- the first k places stand in order -/
def OrdTo (ys : List Int) (k : Nat) : Prop := ∀ a b, (ha : a < ys.length) → (hb : b < ys.length) → a < b → b < k → ys[a] ≤ ys[b]

theorem InnerOk.start {ys : List Int} {k : Nat} (h : OrdTo ys k) (hk : k < ys.length) : InnerOk ys k k :=
  ⟨Nat.le_refl _, hk, fun a b ha hb hab hbk hak hbk' => h a b ha hb hab (by omega), fun b hb _ h1 h2 => by omega⟩

theorem InnerOk.stop {ys : List Int} {k i : Nat} (h : InnerOk ys k i) (hs : i = 0 ∨ ∃ (h1 : i - 1 < ys.length) (h2 : i < ys.length), ys[i - 1] ≤ ys[i]) : OrdTo ys (k + 1) := by
  obtain ⟨h0, h1, h2, h3⟩ := h
  intro a b ha hb hab hbk
  by_cases hai : a = i
  · subst hai
    exact h3 b hb ha hab (by omega)
  · by_cases hbi : b = i
    · subst hbi
      rcases hs with hs | ⟨h4, h5, h6⟩
      · omega
      · by_cases ha1 : a = b - 1
        · subst ha1; exact h6
        · exact Int.le_trans (h2 a (b - 1) ha h4 (by omega) (by omega) hai (by omega)) h6
    · exact h2 a b ha hb hab (by omega) hai hbi

theorem InnerOk.step {ys : List Int} {k i : Nat} (h : InnerOk ys k i) (hi : 0 < i) (h1 : i - 1 < ys.length) (h2 : i < ys.length) (hlt : ys[i] < ys[i - 1]) :
    InnerOk ((ys.set i ys[i - 1]).set (i - 1) ys[i]) k (i - 1) := by
  obtain ⟨h0, hk, ho, hb⟩ := h
  have hlen : ((ys.set i ys[i - 1]).set (i - 1) ys[i]).length = ys.length := by simp
  have hat : ∀ j, (hj : j < ys.length) → ((ys.set i ys[i - 1]).set (i - 1) ys[i])[j]'(by rw [hlen]; exact hj) = if j = i - 1 then ys[i] else if j = i then ys[i - 1] else ys[j] := by
    intro j hj
    by_cases e1 : j = i - 1
    · subst e1; simp
    · rw [List.getElem_set_ne (by omega), if_neg e1]
      by_cases e2 : j = i
      · subst e2; simp
      · rw [List.getElem_set_ne (by omega), if_neg e2]
  refine ⟨by omega, by rw [hlen]; exact hk, ?_, ?_⟩
  · intro a b ha0 hb0 hab hbk hai hbi
    have ha : a < ys.length := by rw [hlen] at ha0; exact ha0
    have hb' : b < ys.length := by rw [hlen] at hb0; exact hb0
    rw [hat a ha, hat b hb', if_neg hai, if_neg hbi]
    by_cases e1 : a = i
    · subst e1
      rw [if_pos rfl, if_neg (by omega)]
      exact ho (a - 1) b h1 hb' (by omega) hbk (by omega) (by omega)
    · rw [if_neg e1]
      by_cases e2 : b = i
      · subst e2
        rw [if_pos rfl]
        exact ho a (b - 1) ha h1 (by omega) (by omega) e1 (by omega)
      · rw [if_neg e2]
        exact ho a b ha hb' hab hbk e1 e2
  · intro b hb0 hi0 hib hbk
    have hb' : b < ys.length := by rw [hlen] at hb0; exact hb0
    rw [hat (i - 1) h1, hat b hb', if_pos rfl, if_neg (by omega)]
    by_cases e1 : b = i
    · subst e1; rw [if_pos rfl]; omega
    · rw [if_neg e1]
      exact hb b hb' h2 (by omega) hbk

theorem OrdTo.all {ys : List Int} (h : OrdTo ys ys.length) : ys.Pairwise (· ≤ ·) := by
  rw [List.pairwise_iff_getElem]
  intro i j hi hj hij
  exact h i j hi hj hij hj

/-- neighbours ascend: all do -/
theorem rising_pairwise {l : List Int} (h : ∀ k, (hk : k + 1 < l.length) → l[k] < l[k + 1]) : l.Pairwise (· < ·) := by
  rw [List.pairwise_iff_getElem]
  intro i j hi hj hij
  have : ∀ d, (hd : i + d + 1 < l.length) → l[i] < l[i + d + 1] := by
    intro d
    induction d with
    | zero => intro hd; exact h i hd
    | succ d ih => intro hd; exact Int.lt_trans (ih (by omega)) (h (i + d + 1) hd)
  have e : i + (j - i - 1) + 1 = j := by omega
  have := this (j - i - 1) (by omega)
  simpa only [e] using this
end Go.Proofs.Ytinlaaeoiocfoaa
