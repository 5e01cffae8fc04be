/- An insertion sort in place over any order; lists in lexical order. Plain lists. -/
import Derived.Test.YtcbkalppclilfaaGreatPi
namespace Go.Proofs.YtcbkalppclilfaaGreat

section
variable {α : Type} (le : α → α → Prop)
def InnerG (ys : List α) (k i : Nat) : Prop :=
  i ≤ k ∧ k < ys.length ∧ (∀ a b, (ha : a < ys.length) → (hb : b < ys.length) → a < b → b ≤ k → a ≠ i → b ≠ i → le ys[a] ys[b]) ∧ (∀ b, (hb : b < ys.length) → (hi : i < ys.length) → i < b → b ≤ k → le ys[i] ys[b])
def OrdG (ys : List α) (k : Nat) : Prop := ∀ a b, (ha : a < ys.length) → (hb : b < ys.length) → a < b → b < k → le ys[a] ys[b]

variable {le}
theorem InnerG.start {ys : List α} {k : Nat} (h : OrdG le ys k) (hk : k < ys.length) : InnerG le ys k k :=
  ⟨Nat.le_refl _, hk, fun a b ha hb hab hbk hak hbk' => h a b ha hb hab (by omega), fun b hb _ h1 h2 => by omega⟩

theorem InnerG.stop (htr : ∀ {a b c : α}, le a b → le b c → le a c) {ys : List α} {k i : Nat} (h : InnerG le ys k i) (hs : i = 0 ∨ ∃ (h1 : i - 1 < ys.length) (h2 : i < ys.length), le ys[i - 1] ys[i]) : OrdG le ys (k + 1) := by
  obtain ⟨h0, h1, h2, h3⟩ := h
  intro a b ha hb hab hbk
  by_cases hai : a = i
  · subst hai
    exact h3 b hb ha hab (by omega)
  · by_cases hbi : b = i
    · subst hbi
      rcases hs with hs | ⟨h4, h5, h6⟩
      · omega
      · by_cases ha1 : a = b - 1
        · subst ha1; exact h6
        · exact htr (h2 a (b - 1) ha h4 (by omega) (by omega) hai (by omega)) h6
    · exact h2 a b ha hb hab (by omega) hai hbi

theorem InnerG.step {ys : List α} {k i : Nat} (h : InnerG le ys k i) (hi : 0 < i) (h1 : i - 1 < ys.length) (h2 : i < ys.length) (hlt : le ys[i] ys[i - 1]) :
    InnerG le ((ys.set i ys[i - 1]).set (i - 1) ys[i]) k (i - 1) := by
  obtain ⟨h0, hk, ho, hb⟩ := h
  have hlen : ((ys.set i ys[i - 1]).set (i - 1) ys[i]).length = ys.length := by simp
  have hat : ∀ j, (hj : j < ys.length) → ((ys.set i ys[i - 1]).set (i - 1) ys[i])[j]'(by rw [hlen]; exact hj) = if j = i - 1 then ys[i] else if j = i then ys[i - 1] else ys[j] := by
    intro j hj
    by_cases e1 : j = i - 1
    · subst e1; simp
    · rw [List.getElem_set_ne (by omega), if_neg e1]
      by_cases e2 : j = i
      · subst e2; simp
      · rw [List.getElem_set_ne (by omega), if_neg e2]
  refine ⟨by omega, by rw [hlen]; exact hk, ?_, ?_⟩
  · intro a b ha0 hb0 hab hbk hai hbi
    have ha : a < ys.length := by rw [hlen] at ha0; exact ha0
    have hb' : b < ys.length := by rw [hlen] at hb0; exact hb0
    rw [hat a ha, hat b hb', if_neg hai, if_neg hbi]
    by_cases e1 : a = i
    · subst e1
      rw [if_pos rfl, if_neg (by omega)]
      exact ho (a - 1) b h1 hb' (by omega) hbk (by omega) (by omega)
    · rw [if_neg e1]
      by_cases e2 : b = i
      · subst e2
        rw [if_pos rfl]
        exact ho a (b - 1) ha h1 (by omega) (by omega) e1 (by omega)
      · rw [if_neg e2]
        exact ho a b ha hb' hab hbk e1 e2
  · intro b hb0 hi0 hib hbk
    have hb' : b < ys.length := by rw [hlen] at hb0; exact hb0
    rw [hat (i - 1) h1, hat b hb', if_pos rfl, if_neg (by omega)]
    by_cases e1 : b = i
    · subst e1; rw [if_pos rfl]; exact hlt
    · rw [if_neg e1]
      exact hb b hb' h2 (by omega) hbk

theorem OrdG.all {ys : List α} (h : OrdG le ys ys.length) : ys.Pairwise le := by
  rw [List.pairwise_iff_getElem]
  intro i j hi hj hij
  exact h i j hi hj hij hj
end

/-- lexical order -/
def lexB : List Int → List Int → Bool
  | _, [] => false
  | [], _ :: _ => true
  | x :: a, y :: b => if x = y then lexB a b else decide (x < y)
def lexLe (a b : List Int) : Prop := lexB b a = false

theorem lexB_nil (a : List Int) : lexB a [] = false := by cases a <;> rfl
theorem lexB_lt {a b : List Int} {k : Nat} (h : ∀ j, (h1 : j < a.length) → (h2 : j < b.length) → j < k → a[j] = b[j]) (h1 : k < a.length) (h2 : k < b.length) (hne : a[k] ≠ b[k]) : lexB a b = decide (a[k] < b[k]) := by
  induction a generalizing b k with
  | nil => simp at h1
  | cons x a ih =>
    cases b with
    | nil => simp at h2
    | cons y b =>
      cases k with
      | zero => simp at hne; simp [lexB, hne]
      | succ k =>
        have e := h 0 (by simp) (by simp) (by omega)
        simp at e
        simp only [lexB, if_pos e]
        have := ih (b := b) (k := k) (fun j h1 h2 h3 => by have := h (j + 1) (by simpa using h1) (by simpa using h2) (by omega); simpa using this) (by simpa using h1) (by simpa using h2) (by simpa using hne)
        simpa using this
theorem lexB_len {a b : List Int} (h : ∀ j, (h1 : j < a.length) → (h2 : j < b.length) → a[j] = b[j]) : lexB a b = decide (a.length < b.length) := by
  induction a generalizing b with
  | nil => cases b <;> simp [lexB]
  | cons x a ih =>
    cases b with
    | nil => simp [lexB]
    | cons y b =>
      have e := h 0 (by simp) (by simp)
      simp at e
      simp only [lexB, if_pos e]
      rw [ih (fun j h1 h2 => by have := h (j + 1) (by simpa using h1) (by simpa using h2); simpa using this)]
      simp
theorem lexLe_refl (a : List Int) : lexLe a a := by
  unfold lexLe
  rw [lexB_len (fun j _ _ => rfl)]
  simp
theorem lexLe_of {a b : List Int} : lexB a b = true → lexLe a b := by
  unfold lexLe
  induction a generalizing b with
  | nil => intro _; cases b <;> rfl
  | cons x a ih =>
    cases b with
    | nil => intro h; simp [lexB] at h
    | cons y b =>
      simp only [lexB]
      by_cases e : x = y
      · subst e; simp only [if_true]; exact ih
      · rw [if_neg e, if_neg (Ne.symm e)]
        simp only [decide_eq_true_eq, decide_eq_false_iff_not]
        omega
theorem lexLe_anti {a b : List Int} (h1 : lexLe a b) (h2 : lexLe b a) : a = b := by
  unfold lexLe at h1 h2
  induction a generalizing b with
  | nil => cases b with
    | nil => rfl
    | cons y b => simp [lexB] at h2
  | cons x a ih =>
    cases b with
    | nil => simp [lexB] at h1
    | cons y b =>
      simp only [lexB] at h1 h2
      by_cases e : x = y
      · subst e
        simp only [if_true] at h1 h2
        rw [ih h1 h2]
      · rw [if_neg e] at h2
        rw [if_neg (Ne.symm e)] at h1
        simp only [decide_eq_false_iff_not] at h1 h2
        omega
theorem lexLe_tr {a b c : List Int} (h1 : lexLe a b) (h2 : lexLe b c) : lexLe a c := by
  unfold lexLe at *
  induction a generalizing b c with
  | nil => cases c <;> rfl
  | cons x a ih =>
    cases b with
    | nil => simp [lexB] at h1
    | cons y b =>
      cases c with
      | nil => simp [lexB] at h2
      | cons z c =>
        simp only [lexB] at *
        by_cases e : y = x
        · subst e
          simp only [if_true] at h1
          by_cases e2 : z = y
          · subst e2
            simp only [if_true] at h2 ⊢
            exact ih h1 h2
          · rw [if_neg e2] at h2 ⊢
            exact h2
        · rw [if_neg e] at h1
          simp only [decide_eq_false_iff_not] at h1
          by_cases e2 : z = y
          · subst e2
            rw [if_neg e]
            simpa using h1
          · rw [if_neg e2] at h2
            simp only [decide_eq_false_iff_not] at h2
            by_cases e3 : z = x
            · omega
            · rw [if_neg e3]
              simp only [decide_eq_false_iff_not]
              omega
theorem lex_uniq {l m : List (List Int)} (h1 : l.Pairwise lexLe) (h2 : m.Pairwise lexLe) (hp : l.Perm m) : l = m :=
  List.Perm.eq_of_pairwise (fun _ _ _ _ hab hba => lexLe_anti hab hba) h1 h2 hp
end Go.Proofs.YtcbkalppclilfaaGreat
