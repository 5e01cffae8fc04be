/- A walk breadth first, plainly: what is known of the visited ones and of the queue. -/
import Derived.Test.YtinlaaeoiocfoaaWar
namespace Go.Proofs.Ytinlaaeoiocfoaa

/-- E: the edges; u: the first one; ok: what the ones that were taken out of the queue have in common; V: visited; Q: in the queue -/
structure Bfs (E : Int → Int → Prop) (u : Int) (ok : Int → Prop) (V Q : List Int) : Prop where
  nd : V.Nodup
  qn : Q.Nodup
  sub : ∀ x ∈ Q, x ∈ V
  root : u ∈ V
  rch : ∀ x ∈ V, Rch E u x
  done : ∀ x ∈ V, x ∉ Q → ok x ∧ ∀ y, E x y → y ∈ V

/-- .. while t's edges are gone over: S is left of them -/
structure BfsAt (E : Int → Int → Prop) (u : Int) (ok : Int → Prop) (t : Int) (V Q S : List Int) : Prop where
  nd : V.Nodup
  qn : Q.Nodup
  sub : ∀ x ∈ Q, x ∈ V
  root : u ∈ V
  rch : ∀ x ∈ V, Rch E u x
  tv : t ∈ V
  tq : t ∉ Q
  tok : ok t
  done : ∀ x ∈ V, x ∉ Q → x ≠ t → ok x ∧ ∀ y, E x y → y ∈ V
  now : ∀ y, E t y → y ∈ V ∨ y ∈ S
  edge : ∀ y ∈ S, E t y

theorem Bfs.start (E : Int → Int → Prop) (u : Int) (ok : Int → Prop) : Bfs E u ok [u] [u] :=
  ⟨by simp, by simp, fun x h => h, by simp, fun x h => (by simp at h; subst h; exact .refl _), fun x h h' => absurd h h'⟩

theorem Bfs.take {E : Int → Int → Prop} {u : Int} {ok : Int → Prop} {V Q S : List Int} {t : Int} (h : Bfs E u ok V (t :: Q)) (hok : ok t) (hS : ∀ y, y ∈ S ↔ E t y) : BfsAt E u ok t V Q S := by
  have hq := List.nodup_cons.1 h.qn
  exact ⟨h.nd, hq.2, fun x hx => h.sub x (by simp [hx]), h.root, h.rch, h.sub t (by simp), hq.1, hok, fun x hx hxq hxt => h.done x hx (by simp [hxq, hxt]), fun y hy => .inr ((hS y).2 hy), fun y hy => (hS y).1 hy⟩

theorem BfsAt.old {E : Int → Int → Prop} {u : Int} {ok : Int → Prop} {V Q S : List Int} {t y : Int} (h : BfsAt E u ok t V Q (y :: S)) (hy : y ∈ V) : BfsAt E u ok t V Q S :=
  { h with now := fun z hz => by
             rcases h.now z hz with h1 | h1
             · exact .inl h1
             · rcases List.mem_cons.1 h1 with rfl | h1
               · exact .inl hy
               · exact .inr h1
           edge := fun z hz => h.edge z (by simp [hz]) }

theorem BfsAt.new {E : Int → Int → Prop} {u : Int} {ok : Int → Prop} {V Q S : List Int} {t y : Int} (h : BfsAt E u ok t V Q (y :: S)) (hy : y ∉ V) : BfsAt E u ok t (V ++ [y]) (Q ++ [y]) S where
  nd := by
    rw [List.nodup_append]
    exact ⟨h.nd, by simp, fun a ha b hb e => hy (by simp at hb; rw [← hb, ← e]; exact ha)⟩
  qn := by
    rw [List.nodup_append]
    exact ⟨h.qn, by simp, fun a ha b hb e => hy (by simp at hb; rw [← hb, ← e]; exact h.sub a ha)⟩
  sub := fun x hx => by
    rcases List.mem_append.1 hx with h1 | h1
    · exact List.mem_append.2 (.inl (h.sub x h1))
    · exact List.mem_append.2 (.inr h1)
  root := List.mem_append.2 (.inl h.root)
  rch := fun x hx => by
    rcases List.mem_append.1 hx with h1 | h1
    · exact h.rch x h1
    · obtain rfl : x = y := by simpa using h1
      exact .tail (h.rch t h.tv) (h.edge x (by simp))
  tv := List.mem_append.2 (.inl h.tv)
  tq := fun hq => by
    rcases List.mem_append.1 hq with h1 | h1
    · exact h.tq h1
    · obtain rfl : t = y := by simpa using h1
      exact hy h.tv
  tok := h.tok
  done := fun x hx hxq hxt => by
    rcases List.mem_append.1 hx with h1 | h1
    · obtain ⟨h2, h3⟩ := h.done x h1 (fun hh => hxq (List.mem_append.2 (.inl hh))) hxt
      exact ⟨h2, fun z hz => List.mem_append.2 (.inl (h3 z hz))⟩
    · exact absurd (List.mem_append.2 (.inr h1)) hxq
  now := fun z hz => by
    rcases h.now z hz with h1 | h1
    · exact .inl (List.mem_append.2 (.inl h1))
    · rcases List.mem_cons.1 h1 with rfl | h1
      · exact .inl (by simp)
      · exact .inr h1
  edge := fun z hz => h.edge z (by simp [hz])

theorem BfsAt.over {E : Int → Int → Prop} {u : Int} {ok : Int → Prop} {V Q : List Int} {t : Int} (h : BfsAt E u ok t V Q []) : Bfs E u ok V Q :=
  ⟨h.nd, h.qn, h.sub, h.root, h.rch, fun x hx hxq => by
    by_cases hxt : x = t
    · subst hxt
      exact ⟨h.tok, fun y hy => by rcases h.now y hy with h1 | h1; exact h1; cases h1⟩
    · exact h.done x hx hxq hxt⟩

/-- the queue is empty: V is all that can be come to, and ok holds there -/
theorem Bfs.all {E : Int → Int → Prop} {u : Int} {ok : Int → Prop} {V : List Int} (h : Bfs E u ok V []) {x : Int} : x ∈ V ↔ Rch E u x := by
  constructor
  · exact h.rch x
  · intro hr
    induction hr with
    | refl => exact h.root
    | tail _ r ih => exact (h.done _ ih (by simp)).2 _ r

theorem Bfs.len {E : Int → Int → Prop} {u : Int} {ok : Int → Prop} {V Q I : List Int} (h : Bfs E u ok V Q) (hI : ∀ x, Rch E u x → x ∈ I) : V.length ≤ I.length ∧ Q.length ≤ V.length :=
  ⟨List.Nodup.length_le_of_subset h.nd (fun x hx => hI x (h.rch x hx)), List.Nodup.length_le_of_subset h.qn (fun x hx => h.sub x hx)⟩
theorem BfsAt.len {E : Int → Int → Prop} {u : Int} {ok : Int → Prop} {V Q S I : List Int} {t : Int} (h : BfsAt E u ok t V Q S) (hI : ∀ x, Rch E u x → x ∈ I) : V.length ≤ I.length ∧ Q.length + 1 ≤ V.length := by
  refine ⟨List.Nodup.length_le_of_subset h.nd (fun x hx => hI x (h.rch x hx)), ?_⟩
  have : (t :: Q).Nodup := List.nodup_cons.2 ⟨h.tq, h.qn⟩
  have := List.Nodup.length_le_of_subset this (l₂ := V) (fun x hx => by
    rcases List.mem_cons.1 hx with rfl | hx
    · exact h.tv
    · exact h.sub x hx)
  simpa using this
end Go.Proofs.Ytinlaaeoiocfoaa
