/- The closure of a relation on places, reckoned as Warshall does. -/
namespace Go.Proofs.Ytinlaaeoiocfoaa

/-- from u to v over steps of R, none or more -/
inductive Rch {α : Type} (R : α → α → Prop) : α → α → Prop
  | refl (u : α) : Rch R u u
  | tail {u v x : α} : Rch R u v → R v x → Rch R u x

theorem Rch.trans {α : Type} {R : α → α → Prop} {a b c : α} (h : Rch R a b) (k : Rch R b c) : Rch R a c := by
  induction k with
  | refl => exact h
  | tail _ r ih => exact .tail ih r
theorem Rch.one {α : Type} {R : α → α → Prop} {a b : α} (h : R a b) : Rch R a b := .tail (.refl _) h
theorem Rch.head {α : Type} {R : α → α → Prop} {a b c : α} (h : R a b) (k : Rch R b c) : Rch R a c := (Rch.one h).trans k
theorem Rch.mono {α : Type} {R S : α → α → Prop} (h : ∀ a b, R a b → S a b) {a b : α} (k : Rch R a b) : Rch S a b := by
  induction k with
  | refl => exact .refl _
  | tail _ r ih => exact .tail ih (h _ _ r)
theorem Rch.flip {α : Type} {R : α → α → Prop} {a b : α} (k : Rch R a b) : Rch (fun x y => R y x) b a := by
  induction k with
  | refl => exact .refl _
  | tail _ r ih => exact Rch.head r ih

def wstep (k : Nat) (M : Nat → Nat → Bool) : Nat → Nat → Bool := fun u v => M u v || (M u k && M k v)
def wars (M : Nat → Nat → Bool) : Nat → Nat → Nat → Bool
  | 0 => M
  | k + 1 => wstep k (wars M k)

theorem wars_mono {M : Nat → Nat → Bool} {u v : Nat} (k : Nat) (h : M u v = true) : wars M k u v = true := by
  induction k with
  | zero => exact h
  | succ k ih => simp [wars, wstep, ih]

theorem wars_sound {M : Nat → Nat → Bool} {R : Nat → Nat → Prop} (h : ∀ u v, M u v = true → Rch R u v) : ∀ k u v, wars M k u v = true → Rch R u v
  | 0, u, v, e => h u v e
  | k + 1, u, v, e => by
    simp only [wars, wstep, Bool.or_eq_true, Bool.and_eq_true] at e
    rcases e with e | ⟨e1, e2⟩
    · exact wars_sound h k u v e
    · exact (wars_sound h k u k e1).trans (wars_sound h k k v e2)

theorem wars_through {M : Nat → Nat → Bool} : ∀ k j u v, j < k → wars M k u j = true → wars M k j v = true → wars M k u v = true
  | 0, j, u, v, h, _, _ => by omega
  | k + 1, j, u, v, h, e1, e2 => by
    simp only [wars, wstep, Bool.or_eq_true, Bool.and_eq_true] at e1 e2 ⊢
    by_cases hj : j = k
    · subst hj
      have h1 : wars M j u j = true := by rcases e1 with e1 | ⟨e1, _⟩ <;> exact e1
      have h2 : wars M j j v = true := by rcases e2 with e2 | ⟨_, e2⟩ <;> exact e2
      exact .inr ⟨h1, h2⟩
    · have hjk : j < k := by omega
      have P := wars_through (M := M) k j
      rcases e1 with e1 | ⟨e1, e1'⟩
      · rcases e2 with e2 | ⟨e2, e2'⟩
        · exact .inl (P u v hjk e1 e2)
        · exact .inr ⟨P u k hjk e1 e2, e2'⟩
      · rcases e2 with e2 | ⟨e2, e2'⟩
        · exact .inr ⟨e1, P k v hjk e1' e2⟩
        · exact .inr ⟨e1, e2'⟩

/-- the closure, on the places below n -/
theorem wars_iff {M : Nat → Nat → Bool} {R : Nat → Nat → Prop} {n : Nat} (hR : ∀ u v, R u v → u < n ∧ v < n) (hM : ∀ u v, u < n → v < n → (M u v = true ↔ u = v ∨ R u v)) (hin : ∀ u v, M u v = true → u < n ∧ v < n)
    {u v : Nat} (hu : u < n) : wars M n u v = true ↔ Rch R u v := by
  constructor
  · refine wars_sound (fun a b e => ?_) n u v
    obtain ⟨h1, h2⟩ := hin a b e
    rcases (hM a b h1 h2).1 e with rfl | e
    · exact .refl _
    · exact .one e
  · intro h
    induction h with
    | refl => exact wars_mono n ((hM u u hu hu).2 (.inl rfl))
    | tail h1 r ih =>
      obtain ⟨h2, h3⟩ := hR _ _ r
      exact wars_through n _ _ _ h2 ih (wars_mono n ((hM _ _ h2 h3).2 (.inr r)))
end Go.Proofs.Ytinlaaeoiocfoaa
