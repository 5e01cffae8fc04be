/- Graphs, plainly: what a graph's table is; the arcs of a row; one more arc. -/
import Derived.Test.YtinlaaeoiocfoaaBa
namespace Go.Proofs.Ytinlaaeoiocfoaa

structure Gr where
  dir : Bool
  nodes : List Int
  edges : List E3

def Gr.Well (G : Gr) : Prop := G.nodes.Nodup ∧ ∀ e ∈ G.edges, e.1 ≠ e.2.1 ∧ e.1 ∈ G.nodes ∧ e.2.1 ∈ G.nodes ∧ e.2.2 ≤ 1099511627776 ∧ -1099511627776 ≤ e.2.2
def Gr.ids (G : Gr) : List Int := srt G.nodes
def Gr.n (G : Gr) : Nat := G.nodes.length
theorem Gr.length_ids (G : Gr) : G.ids.length = G.n := length_srt _
theorem Gr.Well.ids {G : Gr} (h : G.Well) : G.ids.Pairwise (· < ·) := srt_nodup h.1

abbrev Mat := Nat → Nat → Option Int
def Mat.set (T : Mat) (i k : Nat) (z : Int) : Mat := fun a b => if a = i ∧ b = k then some z else T a b
def Mat.tr (T : Mat) : Mat := fun a b => T b a
def Mat.none : Mat := fun _ _ => Option.none

/-- where a number stands in a list; the length, if nowhere -/
abbrev ix (l : List Int) (x : Int) : Nat := l.idxOf x

def lay (T : Mat) (i k : Nat) (z : Int) (dir : Bool) : Mat := if dir then T.set i k z else (T.set i k z).set k i z
def layE (ids : List Int) (dir : Bool) (T : Mat) (e : E3) : Mat := lay T (ix ids e.1) (ix ids e.2.1) e.2.2 dir
def matOf (ids : List Int) (dir : Bool) (es : List E3) : Mat := es.foldl (layE ids dir) Mat.none
def Gr.mat (G : Gr) : Mat := matOf G.ids G.dir G.edges

theorem matOf_snoc (ids : List Int) (dir : Bool) (es : List E3) (e : E3) : matOf ids dir (es ++ [e]) = layE ids dir (matOf ids dir es) e := by simp [matOf]

theorem tr_set (T : Mat) (i k : Nat) (z : Int) : (T.set i k z).tr = T.tr.set k i z := by
  funext a b
  simp only [Mat.tr, Mat.set]
  by_cases h : a = k <;> by_cases h' : b = i <;> simp [h, h']

theorem tr_lay (T : Mat) (i k : Nat) (z : Int) (dir : Bool) (_hik : i ≠ k) : (lay T i k z dir).tr = lay T.tr k i z dir := by
  unfold lay
  split <;> simp only [tr_set]

theorem lay_some {T : Mat} {i k : Nat} {z : Int} {dir : Bool} {a b : Nat} : (lay T i k z dir a b).isSome = true ↔ (a = i ∧ b = k) ∨ (dir = false ∧ a = k ∧ b = i) ∨ (T a b).isSome = true := by
  unfold lay
  cases dir <;> simp only [Mat.set, if_true, Bool.false_eq_true, if_false]
  · by_cases h1 : a = k ∧ b = i
    · simp [h1]
    · by_cases h2 : a = i ∧ b = k
      · simp [h2]
      · simp only [h1, h2, if_false, false_or, and_false]
  · by_cases h2 : a = i ∧ b = k
    · simp [h2]
    · simp [h2]

theorem mat_some {ids : List Int} {dir : Bool} {es : List E3} {a b : Nat} : (matOf ids dir es a b).isSome = true ↔ ∃ e ∈ es, (a = ix ids e.1 ∧ b = ix ids e.2.1) ∨ (dir = false ∧ a = ix ids e.2.1 ∧ b = ix ids e.1) := by
  induction es using snocInd with
  | h0 => simp [matOf, Mat.none]
  | h1 es e ih =>
    rw [matOf_snoc, layE, lay_some, ih]
    constructor
    · rintro (h | h | ⟨e', h1, h2⟩)
      · exact ⟨e, by simp, .inl h⟩
      · exact ⟨e, by simp, .inr h⟩
      · exact ⟨e', by simp [h1], h2⟩
    · rintro ⟨e', h1, h2⟩
      rcases List.mem_append.1 h1 with h3 | h3
      · exact .inr (.inr ⟨e', h3, h2⟩)
      · obtain rfl : e' = e := by simpa using h3
        rcases h2 with h | h
        · exact .inl h
        · exact .inr (.inl h)

theorem ix_lt {l : List Int} {x : Int} (h : x ∈ l) : ix l x < l.length := List.idxOf_lt_length_iff.2 h
theorem ix_get {l : List Int} {x : Int} (h : x ∈ l) : l[ix l x]'(ix_lt h) = x := List.getElem_idxOf _
theorem ix_inj {l : List Int} {x y : Int} (h : x ∈ l) (hy : y ∈ l) (e : ix l x = ix l y) : x = y := by
  rw [← ix_get h, ← ix_get hy]
  congr 1
theorem get_ix {l : List Int} (hn : l.Pairwise (· < ·)) {i : Nat} (h : i < l.length) : ix l l[i] = i := by
  have hnd : l.Nodup := hn.imp (by intro a b h; omega)
  exact List.Nodup.idxOf_getElem hnd i h

theorem Gr.Well.in_ids {G : Gr} (h : G.Well) {e : E3} (he : e ∈ G.edges) : e.1 ∈ G.ids ∧ e.2.1 ∈ G.ids := ⟨mem_srt.2 (h.2 e he).2.1, mem_srt.2 (h.2 e he).2.2.1⟩

theorem Gr.Well.mat_lt {G : Gr} (h : G.Well) {a b : Nat} (hs : (G.mat a b).isSome = true) : a < G.n ∧ b < G.n ∧ a ≠ b := by
  obtain ⟨e, he, h1⟩ := mat_some.1 hs
  obtain ⟨hu, hv⟩ := h.in_ids he
  have hne := (h.2 e he).1
  have h3 := ix_lt hu
  have h4 := ix_lt hv
  rw [Gr.length_ids] at h3 h4
  rcases h1 with ⟨rfl, rfl⟩ | ⟨_, rfl, rfl⟩
  · exact ⟨h3, h4, fun h => hne (ix_inj hu hv h)⟩
  · exact ⟨h4, h3, fun h => hne (ix_inj hv hu h).symm⟩

theorem Gr.mat_sym {G : Gr} (hd : G.dir = false) (a b : Nat) : (G.mat a b).isSome = (G.mat b a).isSome := by
  rw [Bool.eq_iff_iff]
  unfold Gr.mat
  rw [mat_some, mat_some, hd]
  constructor <;> (rintro ⟨e, he, h⟩; exact ⟨e, he, by rcases h with ⟨h1, h2⟩ | ⟨_, h1, h2⟩; exact .inr ⟨rfl, h2, h1⟩; exact .inl ⟨h2, h1⟩⟩)

/-! ### the arcs of a row -/
abbrev Arcs := List (Nat × Int)
def arcsOf (n : Nat) (f : Nat → Option Int) : Arcs := (List.range n).filterMap (fun v => (f v).map (fun z => (v, z)))
abbrev Asc (l : Arcs) : Prop := l.Pairwise (fun p q => p.1 < q.1)

theorem arcsOf_mem {n : Nat} {f : Nat → Option Int} {p : Nat × Int} : p ∈ arcsOf n f ↔ p.1 < n ∧ f p.1 = some p.2 := by
  unfold arcsOf
  rw [List.mem_filterMap]
  constructor
  · rintro ⟨v, hv, h⟩
    cases hf : f v with
    | none => rw [hf] at h; cases h
    | some z => rw [hf] at h; simp at h; subst h; exact ⟨by simpa using hv, hf⟩
  · rintro ⟨h1, h2⟩
    exact ⟨p.1, by simpa using h1, by rw [h2]; rfl⟩

theorem arcsOf_asc (n : Nat) (f : Nat → Option Int) : Asc (arcsOf n f) := by
  unfold arcsOf
  rw [Asc, List.pairwise_filterMap]
  refine List.pairwise_lt_range.imp ?_
  intro a b hab p hp q hq
  cases ha : f a with
  | none => rw [ha] at hp; cases hp
  | some z =>
    cases hb : f b with
    | none => rw [hb] at hq; cases hq
    | some y =>
      rw [ha] at hp
      rw [hb] at hq
      simp at hp hq
      subst hp; subst hq
      exact hab

theorem arcsOf_none (n : Nat) : arcsOf n (fun _ => none) = [] := by
  unfold arcsOf; simp

theorem asc_ext {l m : Arcs} (h1 : Asc l) (h2 : Asc m) (h : ∀ p, p ∈ l ↔ p ∈ m) : l = m := by
  have n1 : l.Nodup := h1.imp (by rintro a b hab rfl; omega)
  have n2 : m.Nodup := h2.imp (by rintro a b hab rfl; omega)
  exact ((List.perm_ext_iff_of_nodup n1 n2).2 h).eq_of_pairwise (le := fun p q : Nat × Int => p.1 < q.1) (fun a b _ _ h3 h4 => absurd h3 (by omega)) h1 h2

theorem asc_inj {l : Arcs} (h : Asc l) {p q : Nat × Int} (hp : p ∈ l) (hq : q ∈ l) (e : p.1 = q.1) : p = q := by
  obtain ⟨i, hi, rfl⟩ := List.getElem_of_mem hp
  obtain ⟨j, hj, rfl⟩ := List.getElem_of_mem hq
  by_cases hij : i < j
  · have := List.pairwise_iff_getElem.1 h i j hi hj hij; omega
  · by_cases hji : j < i
    · have := List.pairwise_iff_getElem.1 h j i hj hi hji; omega
    · have : i = j := by omega
      subst this; rfl

/-- where a search comes to -/
def At (l : Arcs) (k m : Nat) : Prop := m ≤ l.length ∧ (∀ j, (h : j < l.length) → j < m → l[j].1 < k) ∧ (∀ j, (h : j < l.length) → m ≤ j → k ≤ l[j].1)

theorem At.found {l : Arcs} {k m : Nat} (h : At l k m) (ha : Asc l) : (∃ z, (k, z) ∈ l) ↔ ∃ hm : m < l.length, l[m].1 = k := by
  constructor
  · rintro ⟨z, hz⟩
    obtain ⟨j, hj, e⟩ := List.getElem_of_mem hz
    have hmj : m ≤ j := by
      by_cases hh : j < m
      · have := h.2.1 j hj hh; rw [e] at this; simp at this
      · omega
    have hml : m < l.length := by omega
    refine ⟨hml, ?_⟩
    have h1 := h.2.2 m hml (Nat.le_refl _)
    by_cases hh : m = j
    · subst hh; rw [e]
    · have := List.pairwise_iff_getElem.1 ha m j hml hj (by omega)
      rw [e] at this
      simp at this
      omega
  · rintro ⟨hm, e⟩
    exact ⟨l[m].2, by rw [← e]; exact List.getElem_mem hm⟩

theorem set_is {n : Nat} {f : Nat → Option Int} {k m : Nat} {z : Int} (hk : k < n) (_h : At (arcsOf n f) k m) (hm : m < (arcsOf n f).length) (hf : (arcsOf n f)[m].1 = k) :
    (arcsOf n f).set m (k, z) = arcsOf n (fun v => if v = k then some z else f v) := by
  have ha := arcsOf_asc n f
  refine asc_ext ?_ (arcsOf_asc _ _) ?_
  · refine List.pairwise_iff_getElem.2 fun i j hi hj hij => ?_
    rw [List.length_set] at hi hj
    rw [List.getElem_set, List.getElem_set]
    have := List.pairwise_iff_getElem.1 ha i j hi hj hij
    split
    · rename_i e; subst e
      rw [if_neg (by omega)]
      rw [hf] at this; exact this
    · split
      · rename_i e; subst e; rw [hf] at this; exact this
      · exact this
  · intro p
    rw [arcsOf_mem, List.mem_iff_getElem]
    constructor
    · rintro ⟨i, hi, e⟩
      rw [List.length_set] at hi
      rw [List.getElem_set] at e
      split at e
      · subst e; simp [hk]
      · rename_i hne
        have hmem : p ∈ arcsOf n f := e ▸ List.getElem_mem hi
        have hpk : p.1 ≠ k := by
          intro e2
          have := asc_inj ha hmem (List.getElem_mem hm) (by rw [e2, hf])
          subst e
          have h1 := List.pairwise_iff_getElem.1 ha
          by_cases h2 : i < m
          · have := h1 i m hi hm h2; omega
          · have := h1 m i hm hi (by omega); omega
        rw [if_neg hpk]
        exact arcsOf_mem.1 hmem
    · rintro ⟨h1, h2⟩
      by_cases hpk : p.1 = k
      · rw [if_pos hpk] at h2
        refine ⟨m, by rw [List.length_set]; exact hm, ?_⟩
        rw [List.getElem_set_self]
        exact Prod.ext hpk.symm (by simpa using h2)
      · rw [if_neg hpk] at h2
        obtain ⟨i, hi, e⟩ := List.getElem_of_mem (arcsOf_mem.2 ⟨h1, h2⟩)
        refine ⟨i, by rw [List.length_set]; exact hi, ?_⟩
        rw [List.getElem_set, if_neg ?_]
        · exact e
        · intro e2; subst e2; rw [e] at hf; exact hpk hf

theorem insert_is {n : Nat} {f : Nat → Option Int} {k m : Nat} {z : Int} (hk : k < n) (h : At (arcsOf n f) k m) (hno : ¬ ∃ hm : m < (arcsOf n f).length, (arcsOf n f)[m].1 = k) :
    (arcsOf n f).take m ++ [(k, z)] ++ (arcsOf n f).drop m = arcsOf n (fun v => if v = k then some z else f v) := by
  have ha := arcsOf_asc n f
  have hno' : ∀ y, (k, y) ∉ arcsOf n f := fun y hy => hno ((h.found ha).1 ⟨y, hy⟩)
  have hlt : ∀ p ∈ (arcsOf n f).take m, p.1 < k := by
    intro p hp
    obtain ⟨j, hj, rfl⟩ := List.getElem_of_mem hp
    rw [List.length_take] at hj
    rw [List.getElem_take]
    exact h.2.1 j (by omega) (by omega)
  have hgt : ∀ p ∈ (arcsOf n f).drop m, k < p.1 := by
    intro p hp
    obtain ⟨j, hj, e⟩ := List.getElem_of_mem hp
    have hj' : m + j < (arcsOf n f).length := by rw [List.length_drop] at hj; omega
    rw [List.getElem_drop] at e
    have h1 := h.2.2 (m + j) hj' (by omega)
    rw [e] at h1
    have h2 : p.1 ≠ k := by
      intro e2
      refine hno' p.2 ?_
      rw [← e2]
      exact (List.drop_subset _ _) hp
    omega
  refine asc_ext ?_ (arcsOf_asc _ _) ?_
  · rw [Asc, List.append_assoc, List.pairwise_append, List.singleton_append, List.pairwise_cons]
    refine ⟨ha.sublist (List.take_sublist _ _), ⟨fun p hp => hgt p hp, ha.sublist (List.drop_sublist _ _)⟩, ?_⟩
    intro p hp q hq
    have h1 := hlt p hp
    rcases List.mem_cons.1 hq with rfl | hq
    · exact h1
    · have := hgt q hq; omega
  · intro p
    rw [arcsOf_mem]
    have hsplit : p ∈ arcsOf n f ↔ p ∈ (arcsOf n f).take m ∨ p ∈ (arcsOf n f).drop m := by
      conv => lhs; rw [← List.take_append_drop m (arcsOf n f)]
      rw [List.mem_append]
    by_cases hpk : p.1 = k
    · rw [if_pos hpk]
      constructor
      · intro hp
        simp only [List.mem_append, List.mem_singleton] at hp
        rcases hp with (hp | rfl) | hp
        · have := hlt p hp; omega
        · exact ⟨hk, rfl⟩
        · have := hgt p hp; omega
      · rintro ⟨_, e⟩
        have : p = (k, z) := Prod.ext hpk (by simpa using e.symm)
        simp [this]
    · rw [if_neg hpk, ← arcsOf_mem, hsplit]
      simp only [List.mem_append, List.mem_singleton]
      have : p ≠ (k, z) := fun e => hpk (by rw [e])
      simp [this]

theorem At.uniq {l : Arcs} {k m m' : Nat} (h : At l k m) (h' : At l k m') : m = m' := by
  by_cases h1 : m < m'
  · have a := h'.2.1 m (by have := h'.1; omega) h1
    have b := h.2.2 m (by have := h'.1; omega) (Nat.le_refl _)
    omega
  · by_cases h2 : m' < m
    · have a := h.2.1 m' (by have := h.1; omega) h2
      have b := h'.2.2 m' (by have := h.1; omega) (Nat.le_refl _)
      omega
    · omega

theorem length_arcsOf (n : Nat) (f : Nat → Option Int) : (arcsOf n f).length ≤ n := by
  unfold arcsOf
  have := List.length_filterMap_le (fun v => (f v).map (fun z => (v, z))) (List.range n)
  simpa using this
theorem matOf_take {ids : List Int} {dir : Bool} {l : List E3} {k : Nat} (hk : k < l.length) : matOf ids dir (l.take (k + 1)) = lay (matOf ids dir (l.take k)) (ix ids l[k].1) (ix ids l[k].2.1) l[k].2.2 dir := by
  rw [List.take_succ_eq_append_getElem hk, matOf_snoc]
  rfl

end Go.Proofs.Ytinlaaeoiocfoaa
