/- Tarjan's algorithm, plainly, continued: one successor more; what a closed component pops. -/
import Derived.Test.YtdllkoiddlcnmaaGreatTj
namespace Go.Proofs.YtdllkoiddlcnmaaGreat
section
variable {succ : Int → List Int}

theorem TLoop.whites_lt {gray : List Int} {v : Int} {s t : TSt} {done ids : List Int} (hL : TLoop succ gray v s t done) (hv : v ∈ ids) (h0 : s.tab v = 0) : whites ids t < whites ids s := by
  have hw := whites_push hv h0
  have : whites ids t ≤ whites ids (s.push v) := whites_le (fun x hx => by
    by_cases e2 : x = v
    · subst e2; rw [hL.tv]; omega
    · have e3 : (s.push v).tab x = s.tab x := upN_ne _ _ e2
      rw [e3] at hx
      rw [(hL.keep x hx).1]; exact hx)
  omega

theorem TLoop.step {ids : List Int} (hids : ∀ x ∈ ids, ∀ y ∈ succ x, y ∈ ids) {f : Nat} {gray : List Int} {v w : Int} {s t : TSt} {done : List Int} (h : TInv succ gray s) (hv : v ∈ ids) (h0 : s.tab v = 0) (hg : ∀ y ∈ gray, Rch (SE succ) y v) (hf : whites ids s ≤ f + 1)
    (hL : TLoop succ gray v s t done) (hwv : w ∈ succ v) : TLoop succ gray v s (tstep (tvisit succ f) v t w) (done ++ [w]) := by
  unfold tstep
  by_cases h1 : t.tab w = 0
  · rw [if_pos h1]
    refine hL.fresh h h0 h1 ?_
    refine tvisit_post hids f (v :: gray) w t hL.inv (hids v hv w hwv) h1 ?_ ?_
    · intro y hy
      rcases List.mem_cons.1 hy with rfl | hy
      · exact .one hwv
      · exact .tail (hg y hy) hwv
    · have := hL.whites_lt hv h0
      omega
  · rw [if_neg h1]
    by_cases h2 : w ∈ t.stk
    · rw [if_pos h2]; exact hL.back h h0 hwv h2
    · rw [if_neg h2]; exact hL.past h1 h2

theorem TInv.nodup {gray : List Int} {s : TSt} (h : TInv succ gray s) : s.stk.Nodup := h.srt.imp (fun hab e => by subst e; omega)

/-- the bounds that the program's numbers keep -/
structure TSmall (n : Nat) (s : TSt) : Prop where
  idx : s.idx ≤ n
  tab : ∀ x, s.tab x ≤ n
  low : ∀ x, s.low x ≤ n

theorem whites_same {ids : List Int} {s s' : TSt} (h : s'.tab = s.tab) : whites ids s' = whites ids s := by unfold whites; rw [h]
theorem tfin_sum {ids : List Int} (v : Int) (s : TSt) : whites ids (tfin v s) = whites ids s ∧ (tfin v s).idx = s.idx := by
  unfold tfin
  split
  · exact ⟨whites_same rfl, rfl⟩
  · exact ⟨rfl, rfl⟩
theorem tvisit_sum {ids : List Int} (hids : ∀ x ∈ ids, ∀ y ∈ succ x, y ∈ ids) : ∀ (f : Nat) (v : Int) (s : TSt), v ∈ ids → s.tab v = 0 → whites ids (tvisit succ f v s) + (tvisit succ f v s).idx ≤ whites ids s + s.idx
  | 0, v, s, _, _ => Nat.le_refl _
  | f + 1, v, s, hv, h0 => by
    have hp := whites_push hv h0
    have main : ∀ (l : List Int) (t : TSt), (∀ y ∈ l, y ∈ ids) → whites ids (l.foldl (tstep (tvisit succ f) v) t) + (l.foldl (tstep (tvisit succ f) v) t).idx ≤ whites ids t + t.idx := by
      intro l
      induction l with
      | nil => intro t _; exact Nat.le_refl _
      | cons y l ih =>
        intro t hl
        rw [List.foldl_cons]
        refine Nat.le_trans (ih _ (fun z hz => hl z (by simp [hz]))) ?_
        unfold tstep
        by_cases h1 : t.tab y = 0
        · rw [if_pos h1]
          exact tvisit_sum hids f y t (hl y (by simp)) h1
        · rw [if_neg h1]
          split
          · exact Nat.le_refl _
          · exact Nat.le_refl _
    have h2 := main (succ v) (s.push v) (hids v hv)
    have h3 := tfin_sum (ids := ids) v ((succ v).foldl (tstep (tvisit succ f) v) (s.push v))
    have h4 : (s.push v).idx = s.idx + 1 := rfl
    show whites ids (tfin v _) + (tfin v _).idx ≤ _
    omega
theorem tstep_sum {ids : List Int} (hids : ∀ x ∈ ids, ∀ y ∈ succ x, y ∈ ids) (f : Nat) (v y : Int) (t : TSt) (hy : y ∈ ids) : whites ids (tstep (tvisit succ f) v t y) + (tstep (tvisit succ f) v t y).idx ≤ whites ids t + t.idx := by
  unfold tstep
  by_cases h1 : t.tab y = 0
  · rw [if_pos h1]
    exact tvisit_sum hids f y t hy h1
  · rw [if_neg h1]
    split
    · exact Nat.le_refl _
    · exact Nat.le_refl _

theorem tvisit_stk {ids : List Int} (hids : ∀ x ∈ ids, ∀ y ∈ succ x, y ∈ ids) : ∀ (f : Nat) (v : Int) (s : TSt), v ∈ ids → (∀ x ∈ s.stk, x ∈ ids) → ∀ x ∈ (tvisit succ f v s).stk, x ∈ ids
  | 0, v, s, _, hs => hs
  | f + 1, v, s, hv, hs => by
    have main : ∀ (l : List Int) (t : TSt), (∀ y ∈ l, y ∈ ids) → (∀ x ∈ t.stk, x ∈ ids) → ∀ x ∈ (l.foldl (tstep (tvisit succ f) v) t).stk, x ∈ ids := by
      intro l
      induction l with
      | nil => intro t _ h; exact h
      | cons y l ih =>
        intro t hl ht
        rw [List.foldl_cons]
        refine ih _ (fun z hz => hl z (by simp [hz])) ?_
        unfold tstep
        by_cases h1 : t.tab y = 0
        · rw [if_pos h1]
          exact tvisit_stk hids f y t (hl y (by simp)) ht
        · rw [if_neg h1]
          split
          · exact ht
          · exact ht
    have h2 := main (succ v) (s.push v) (hids v hv) (fun x hx => by
      have hx' : x ∈ v :: s.stk := hx
      rcases List.mem_cons.1 hx' with rfl | h
      · exact hv
      · exact hs x h)
    intro x hx
    have hx' : x ∈ (tfin v ((succ v).foldl (tstep (tvisit succ f) v) (s.push v))).stk := hx
    unfold tfin at hx'
    split at hx'
    · exact h2 x ((List.dropWhile_sublist _).subset (List.mem_of_mem_tail hx'))
    · exact h2 x hx'
theorem tstep_stk {ids : List Int} (hids : ∀ x ∈ ids, ∀ y ∈ succ x, y ∈ ids) (f : Nat) (v y : Int) (t : TSt) (hy : y ∈ ids) (ht : ∀ x ∈ t.stk, x ∈ ids) : ∀ x ∈ (tstep (tvisit succ f) v t y).stk, x ∈ ids := by
  unfold tstep
  by_cases h1 : t.tab y = 0
  · rw [if_pos h1]
    exact tvisit_stk hids f y t hy ht
  · rw [if_neg h1]
    split
    · exact ht
    · exact ht

theorem tfin_out (v : Int) (s : TSt) : (tfin v s).out.length ≤ s.out.length + 1 ∧ (tfin v s).idx = s.idx := by
  unfold tfin
  split
  · exact ⟨by simp [TSt.close], rfl⟩
  · exact ⟨by omega, rfl⟩
theorem foldl_outs (rec : Int → TSt → TSt) (hrec : ∀ y t, (rec y t).out.length + t.idx ≤ (rec y t).idx + t.out.length) (v : Int) : ∀ (l : List Int) (t : TSt), (l.foldl (tstep rec v) t).out.length + t.idx ≤ (l.foldl (tstep rec v) t).idx + t.out.length
  | [], t => by simp [Nat.add_comm]
  | y :: l, t => by
    rw [List.foldl_cons]
    have h1 := foldl_outs rec hrec v l (tstep rec v t y)
    have h2 : (tstep rec v t y).out.length + t.idx ≤ (tstep rec v t y).idx + t.out.length := by
      unfold tstep
      split
      · exact hrec y t
      · split <;> exact Nat.le_of_eq (Nat.add_comm _ _)
    omega
theorem tvisit_outs : ∀ (f : Nat) (v : Int) (s : TSt), (tvisit succ f v s).out.length + s.idx ≤ (tvisit succ f v s).idx + s.out.length
  | 0, v, s => by simp [tvisit, Nat.add_comm]
  | f + 1, v, s => by
    have h1 := foldl_outs (tvisit succ f) (fun y t => tvisit_outs f y t) v (succ v) (s.push v)
    have h2 := tfin_out v ((succ v).foldl (tstep (tvisit succ f) v) (s.push v))
    have h3 : (s.push v).idx = s.idx + 1 := rfl
    have h4 : (s.push v).out = s.out := rfl
    show (tfin v _).out.length + s.idx ≤ (tfin v _).idx + s.out.length
    rw [h3, h4] at h1
    omega
end
end Go.Proofs.YtdllkoiddlcnmaaGreat
