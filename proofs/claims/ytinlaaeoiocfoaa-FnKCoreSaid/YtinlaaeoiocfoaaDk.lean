/- Degrees when a node is taken away, plainly; the invariant of the walk over its neighbours. -/
import Derived.Test.YtinlaaeoiocfoaaDh
namespace Go.Proofs.Ytinlaaeoiocfoaa

section
variable {N : Int → List Int} {ids : List Int}
/-- a simple graph without directions -/
structure Sym (N : Int → List Int) (ids : List Int) : Prop where
  nd : ∀ x, (N x).Nodup
  sym : ∀ x ∈ ids, ∀ y ∈ ids, y ∈ N x ↔ x ∈ N y
  irr : ∀ x, x ∉ N x

theorem left_snoc {l : List Int} {v x : Int} : left ids (l ++ [v]) x = (left ids l x && !decide (x = v)) := by
  rw [Bool.eq_iff_iff]
  simp [left]
  constructor
  · rintro ⟨h1, h2, h3⟩; exact ⟨⟨h1, h2⟩, h3⟩
  · rintro ⟨⟨h1, h2⟩, h3⟩; exact ⟨h1, h2, h3⟩

theorem filter_drop {L : List Int} (hn : L.Nodup) (C : Int → Bool) {v : Int} (hv : C v = true) : (L.filter (fun x => C x && !decide (x = v))).length + (if v ∈ L then 1 else 0) = (L.filter C).length := by
  induction L with
  | nil => rfl
  | cons y L ih =>
    rw [List.nodup_cons] at hn
    have h1 := ih hn.2
    by_cases hy : y = v
    · subst hy
      have h2 : y ∉ L := hn.1
      rw [if_neg h2] at h1
      rw [List.filter_cons_of_neg (by simp), List.filter_cons_of_pos hv, if_pos (by simp), List.length_cons]
      omega
    · have h2 : (v ∈ y :: L) ↔ v ∈ L := by
        rw [List.mem_cons]
        exact ⟨fun h => h.elim (fun e => absurd e.symm hy) id, .inr⟩
      simp only [h2]
      cases hc : C y with
      | true =>
        rw [List.filter_cons_of_pos (by simp [hc, hy]), List.filter_cons_of_pos hc, List.length_cons, List.length_cons]
        omega
      | false =>
        rw [List.filter_cons_of_neg (by simp [hc]), List.filter_cons_of_neg (by simp [hc])]
        exact h1
theorem deg_more (h : Sym N ids) {l : List Int} {v : Int} (hv : left ids l v = true) (x : Int) : degIn N (left ids (l ++ [v])) x + (if v ∈ N x then 1 else 0) = degIn N (left ids l) x := by
  have e : (fun x => left ids (l ++ [v]) x) = fun x => left ids l x && !decide (x = v) := by funext y; exact left_snoc
  unfold degIn
  rw [show left ids (l ++ [v]) = fun x => left ids l x && !decide (x = v) from e]
  exact filter_drop (h.nd x) (left ids l) hv
theorem deg_pos (h : Sym N ids) {l : List Int} {v x : Int} (hv : left ids l v = true) (hx : x ∈ ids) (hxv : x ∈ N v) : 0 < degIn N (left ids l) x := by
  have h1 := deg_more h hv x
  rw [if_pos ((h.sym v ((left_iff ids).1 hv).1 x hx).1 hxv)] at h1
  omega

/-- the neighbours of v in done have gone a bucket down -/
def NbOk (N : Int → List Int) (ids l : List Int) (v : Int) (m : Nat) (done : List Int) (D : Nat → List Int) : Prop :=
  ∃ c, Buck (left ids (l ++ [v])) c m D ∧ ∀ x, left ids (l ++ [v]) x = true → c x + (if x ∈ done then 1 else 0) = degIn N (left ids l) x

theorem NbOk.start {l : List Int} {v : Int} {m i : Nat} {D : Nat → List Int} {L : List Int} (h : Buck (left ids l) (degIn N (left ids l)) m D) (hi : D i = L ++ [v]) : NbOk N ids l v m [] (fun j => if j = i then L else D j) := by
  refine ⟨_, ?_, fun x _ => by simp; rfl⟩
  have := h.out hi
  have e : left ids (l ++ [v]) = fun x => left ids l x && !decide (x = v) := by funext y; exact left_snoc
  rw [e]
  exact this
theorem NbOk.skip {l : List Int} {v w : Int} {m : Nat} {done : List Int} {D : Nat → List Int} (h : NbOk N ids l v m done D) (hw : left ids (l ++ [v]) w = false) : NbOk N ids l v m (done ++ [w]) D := by
  obtain ⟨c, h1, h2⟩ := h
  refine ⟨c, h1, fun x hx => ?_⟩
  have h3 : (x ∈ done ++ [w]) ↔ x ∈ done := by
    rw [List.mem_append]
    exact ⟨fun h => h.elim id (fun e => by
      have : x = w := by simpa using e
      subst this
      rw [hw] at hx
      cases hx), .inl⟩
  simp only [h3]
  exact h2 x hx
theorem NbOk.step (hs : Sym N ids) {l : List Int} {v w : Int} {m : Nat} {done : List Int} {D : Nat → List Int} (h : NbOk N ids l v m done D) (hv : left ids l v = true) (hw : left ids (l ++ [v]) w = true) (hwv : w ∈ N v) (hwd : w ∉ done) :
    ∃ d p, ∃ hp : p < (D (d + 1)).length, (D (d + 1))[p] = w ∧ degIn N (left ids l) w = d + 1 ∧ NbOk N ids l v m (done ++ [w]) (fun j => if j = d + 1 then swp (D (d + 1)) p else if j = d then D d ++ [w] else D j) := by
  obtain ⟨c, h1, h2⟩ := h
  have h3 := h2 w hw
  rw [if_neg hwd] at h3
  have hwi : w ∈ ids := ((left_iff ids).1 hw).1
  have h4 := deg_pos hs hv hwi hwv
  obtain ⟨d, hd⟩ : ∃ d, c w = d + 1 := ⟨c w - 1, by omega⟩
  obtain ⟨p, hp, e⟩ := List.getElem_of_mem ((h1.mem (d + 1) w).2 ⟨hw, hd⟩)
  refine ⟨d, p, hp, e, by omega, fun x => if x = w then d else c x, ?_, fun x hx => ?_⟩
  · have := h1.down hp
    rw [e] at this
    exact this
  · by_cases hxw : x = w
    · subst hxw
      show (if x = x then d else c x) + (if x ∈ done ++ [x] then 1 else 0) = _
      rw [if_pos rfl, if_pos (by simp)]
      omega
    · have h5 : (x ∈ done ++ [w]) ↔ x ∈ done := by
        rw [List.mem_append]
        exact ⟨fun h => h.elim id (fun e => absurd (by simpa using e) hxw), .inl⟩
      simp only [if_neg hxw, h5]
      exact h2 x hx
/-- all neighbours are past: the buckets are right again -/
theorem NbOk.fin (hs : Sym N ids) {l : List Int} {v : Int} {m : Nat} {D : Nat → List Int} (h : NbOk N ids l v m (N v) D) (hv : left ids l v = true) : Buck (left ids (l ++ [v])) (degIn N (left ids (l ++ [v]))) m D := by
  obtain ⟨c, h1, h2⟩ := h
  have hc : ∀ x, left ids (l ++ [v]) x = true → c x = degIn N (left ids (l ++ [v])) x := fun x hx => by
    have h3 := h2 x hx
    have h4 := deg_more hs hv x
    have h5 := hs.sym v ((left_iff ids).1 hv).1 x ((left_iff ids).1 hx).1
    by_cases h6 : x ∈ N v
    · rw [if_pos h6] at h3
      rw [if_pos (h5.1 h6)] at h4
      omega
    · rw [if_neg h6] at h3
      rw [if_neg (fun h7 => h6 (h5.2 h7))] at h4
      omega
  refine ⟨fun i x => ?_, h1.nd, h1.lt⟩
  rw [h1.mem i x]
  constructor
  · rintro ⟨h3, h4⟩; exact ⟨h3, by rw [← hc x h3]; exact h4⟩
  · rintro ⟨h3, h4⟩; exact ⟨h3, by rw [hc x h3]; exact h4⟩
/-- nothing is gone yet -/
theorem deg_full (hcl : ∀ x ∈ ids, ∀ y ∈ N x, y ∈ ids) {x : Int} (hx : x ∈ ids) : degIn N (left ids []) x = (N x).length := by
  unfold degIn
  rw [List.filter_eq_self.2 (fun y hy => (left_iff ids).2 ⟨hcl x hx y hy, by simp⟩)]
theorem Buck.init (hn : ids.Nodup) (hcl : ∀ x ∈ ids, ∀ y ∈ N x, y ∈ ids) {m : Nat} (hm : ∀ x ∈ ids, (N x).length < m) : Buck (left ids []) (degIn N (left ids [])) m (fun j => ids.filter (fun x => decide ((N x).length = j))) := by
  have h := Buck.start hn (c := fun x => (N x).length) hm
  refine ⟨fun i x => ?_, h.nd, h.lt⟩
  rw [h.mem i x, left_iff]
  constructor
  · rintro ⟨h1, h2⟩
    have hx : x ∈ ids := by simpa using h1
    exact ⟨⟨hx, by simp⟩, by rw [deg_full hcl hx]; exact h2⟩
  · rintro ⟨⟨hx, _⟩, h2⟩
    exact ⟨by simpa using hx, by rw [deg_full hcl hx] at h2; exact h2⟩
/-- the first bucket that is not empty has the least degree -/
theorem Buck.least {R : Int → Bool} {c : Int → Nat} {m i : Nat} {D : Nat → List Int} (h : Buck R c m D) (hlo : ∀ j, j < i → D j = []) (x : Int) (hx : R x = true) : i ≤ c x := by
  rcases Nat.lt_or_ge (c x) i with h1 | h1
  · have := (h.mem (c x) x).2 ⟨hx, rfl⟩
    rw [hlo _ h1] at this
    cases this
  · exact h1
end
end Go.Proofs.Ytinlaaeoiocfoaa
