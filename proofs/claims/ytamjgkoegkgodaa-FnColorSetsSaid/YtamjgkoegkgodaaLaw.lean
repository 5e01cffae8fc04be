/- FnColorSets, the walk. -/
import Derived.Test.YtamjgkoegkgodaaEq
namespace Go.Proofs.Ytamjgkoegkgodaa
open Go.RowKit

/-- two of the first ones are the same node -/
def Dup (l : List (Int × Int)) (i k : Nat) : Prop := ∃ a b, ∃ (ha : a < l.length) (hb : b < l.length), l[a].1 = l[b].1 ∧ b < a ∧ (a < i ∨ (a = i ∧ b < k))

theorem own_len {w : World} {base : Nat} {e : TypeId} {size : Nat} {v : Value} {n : Nat} {xs : List Value} (h : w.ownsRow base e size v n xs) : ∃ a c, v = .slice a n c := by
  rcases h.2 with ⟨h, h0⟩ | ⟨g, cap, cur, h, _⟩
  · exact ⟨_, _, by rw [h, h0]⟩
  · exact ⟨_, _, h⟩

theorem implSets_any (v : Value) (l : List (Int × Int)) (w : World) (hv : PairsAt w v l) (hm : l.length ≤ 100) : Calls Try.prog 4 #[v] w (SetsDone l w) := by
  by_cases hn : (l.map (·.1)).Nodup
  · by_cases hl : l = []
    · subst hl; exact implSets_nil v w hv
    · exact implSets_some v l w hv hm hl hn
  · exact implSets_twice v l w hv hm hn

theorem good_one {p : Int × Int} {w w' : World} {v : Value} (h : GoodSets [p] w w' v) : ∃ a c, v = .slice a 1 c := by
  obtain ⟨vis, l', hp, hk, hpw, hown, _⟩ := h
  have hv : vis = [p] := List.perm_singleton.1 hp
  subst hv
  have hl : l'.length = 1 := by
    have hkk : ∀ c, c ∈ l'.map (·.1) ↔ c = p.2 := by
      intro c
      rw [hk]
      unfold idsOf
      by_cases hc : p.2 = c
      · subst hc; simp
      · have : (p.2 == c) = false := by simpa using hc
        simp [this, Ne.symm hc]
    clear hown hk
    cases l' with
    | nil => have := (hkk p.2).2 rfl; simp at this
    | cons x t =>
      cases t with
      | nil => rfl
      | cons y t =>
        have h1 := (hkk x.1).1 (by simp)
        have h2 := (hkk y.1).1 (by simp)
        have := (List.pairwise_cons.1 hpw).1 y (by simp)
        omega
  rw [hl] at hown
  exact own_len hown

/-- what stands between impl.Sets and the law's last test -/
theorem alike_of {l : List (Int × Int)} {w0 w1 w2 w3 : World} {v v2 : Value} (h : GoodSets l w0 w1 v) (hg : w1.grownBy w3 none) {l2 : List SetV}
    (k2 : ∀ c, c ∈ l2.map (·.1) ↔ c ∈ l.map (·.2)) (p2 : l2.Pairwise (fun x y => x.1 < y.1)) (o2 : w3.ownsRow w2.heap.size 31 2 v2 l2.length (l2.flatMap encSet)) (n2 : ∀ x ∈ l2, NodesOf w3 w2.heap.size x (srt (idsOf l x.1))) :
    ∃ l1 : List SetV, Alike2 w3 w0.heap.size w2.heap.size v v2 l1 l2 (fun c => srt (idsOf l c)) := by
  obtain ⟨vis, l1, hp, hk, hpw, hown, hn⟩ := h
  have hids : ∀ c, srt (idsOf vis c) = srt (idsOf l c) := by
    intro c
    refine srt_eq ?_ ?_
    · have := List.pairwise_mergeSort (le := fun x y : Int => decide (x ≤ y)) (by intro a b c; simp; omega) (by intro a b; simp; omega) (idsOf vis c)
      exact this.imp (by intro a b h; simpa using h)
    · exact (List.mergeSort_perm _ _).trans ((hp.filter _).map _)
  refine ⟨l1, own_new hown hg, o2, ?_, fun x hx => ?_, n2⟩
  · have e1 : (l1.map (·.1)).Pairwise (· < ·) := by rw [List.pairwise_map]; exact hpw
    have e2 : (l2.map (·.1)).Pairwise (· < ·) := by rw [List.pairwise_map]; exact p2
    have hmem : ∀ c, c ∈ l1.map (·.1) ↔ c ∈ l2.map (·.1) := by
      intro c
      rw [hk, k2]
      unfold idsOf
      constructor
      · intro h
        cases hf : vis.filter (fun p => p.2 == c) with
        | nil => rw [hf] at h; exact absurd rfl h
        | cons q t =>
          have hq : q ∈ vis.filter (fun p => p.2 == c) := by rw [hf]; simp
          have := List.mem_filter.1 hq
          exact List.mem_map.2 ⟨q, hp.mem_iff.1 this.1, by simpa using this.2⟩
      · intro h hh
        obtain ⟨q, hq, e⟩ := List.mem_map.1 h
        have : q.1 ∈ (vis.filter (fun p => p.2 == c)).map (·.1) := List.mem_map.2 ⟨q, List.mem_filter.2 ⟨hp.mem_iff.2 hq, by simpa using e⟩, rfl⟩
        rw [hh] at this
        cases this
    have n1 : (l1.map (·.1)).Nodup := e1.imp (fun h => by omega)
    have n2' : (l2.map (·.1)).Nodup := e2.imp (fun h => by omega)
    have hperm : (l1.map (·.1)).Perm (l2.map (·.1)) := (List.perm_ext_iff_of_nodup n1 n2').2 hmem
    exact List.Perm.eq_of_pairwise (le := (· ≤ ·)) (fun a b _ _ hab hba => Int.le_antisymm hab hba) (e1.imp (fun h => by omega)) (e2.imp (fun h => by omega)) hperm
  · rw [← hids]
    exact own_new (hn x hx) hg

theorem Dup.step {l : List (Int × Int)} {i k : Nat} (hi : i < l.length) (hk : k < l.length) (hki : k < i) : Dup l i (k + 1) ↔ (Dup l i k ∨ l[i].1 = l[k].1) := by
  constructor
  · rintro ⟨a, b, ha, hb, e, h1, h2⟩
    by_cases h : a = i ∧ b = k
    · obtain ⟨rfl, rfl⟩ := h; exact .inr e
    · exact .inl ⟨a, b, ha, hb, e, h1, by omega⟩
  · rintro (⟨a, b, ha, hb, e, h1, h2⟩ | e)
    · exact ⟨a, b, ha, hb, e, h1, by omega⟩
    · exact ⟨i, k, hi, hk, e, hki, by omega⟩

theorem Dup.next {l : List (Int × Int)} {i : Nat} : Dup l i i ↔ Dup l (i + 1) 0 := by
  constructor
  · rintro ⟨a, b, ha, hb, e, h1, h2⟩; exact ⟨a, b, ha, hb, e, h1, by omega⟩
  · rintro ⟨a, b, ha, hb, e, h1, h2⟩; exact ⟨a, b, ha, hb, e, h1, by omega⟩

theorem Dup.all {l : List (Int × Int)} : Dup l l.length 0 ↔ ¬ (l.map (·.1)).Nodup := by
  rw [List.Nodup, List.pairwise_map, List.pairwise_iff_getElem]
  constructor
  · rintro ⟨a, b, ha, hb, e, h1, h2⟩ h
    exact h b a hb ha h1 e.symm
  · intro h
    simp only [Classical.not_forall] at h
    obtain ⟨i, j, hi, hj, hij, e⟩ := h
    have e' : l[i].1 = l[j].1 := Classical.byContradiction e
    exact ⟨j, i, hj, hi, e'.symm, hij, by omega⟩

def Twice (l : List (Int × Int)) (i k : Nat) (v : Value) : Prop := ∃ t : Bool, v = .bool t ∧ (t = true ↔ Dup l i k)

def TrueBelow (w : World) (e : Ending) (w' : World) : Prop := e = .returned (.bool true) ∧ Below w.heap.size w w'

set_option maxHeartbeats 1000000 in
theorem law_some (b off cap : Nat) (l : List (Int × Int)) (w : World) (hb : b < w.heap.size) (hm : l.length ≤ 100)
    (hc : ∀ i, (h : i < l.length) → w.cell? ⟨b, off + i * 2, none⟩ = some (.int .i64 l[i].1) ∧ w.cell? ⟨b, off + i * 2 + 1, none⟩ = some (.int .i64 l[i].2)) :
    Calls Try.prog 3 #[.slice (some ⟨b, off, none⟩) l.length cap] w (TrueBelow w) := by
  have HC := Lib.hid hc
  clear hc
  go_enter Try.func3, Try.ntmps3
  go_wp2_with fail
  go_loopw [3, 4, 5] (fun t i _ wr => ∃ k : Nat, k ≤ l.length ∧ i = .int .i64 k ∧ Twice l k 0 t ∧ ∃ q, wr = w.drewN q) (fun _ i _ _ => l.length - (intOf i).toNat)
  case atStart => exact ⟨0, by omega, rfl, ⟨false, rfl, by simp [Dup]⟩, 0, rfl⟩
  case round =>
    obtain ⟨i, hi, rfl, ⟨t0, rfl, ht0⟩, q, rfl⟩ := hrel
    have HT := Lib.hid ht0
    clear ht0
    by_cases hlt : i < l.length
    · go_wp2_with fail
      go_loopw [3, 5] (fun t i2 wr => ∃ k : Nat, k ≤ i ∧ i2 = .int .i64 k ∧ Twice l i k t ∧ ∃ q, wr = w.drewN q) (fun _ i2 _ => i - (intOf i2).toNat)
      case atStart => exact ⟨0, by omega, rfl, ⟨t0, rfl, HT.out⟩, q, rfl⟩
      case round =>
        obtain ⟨k, hk, rfl, ⟨t, rfl, ht⟩, q2, rfl⟩ := hrel
        have HT2 := Lib.hid ht
        clear ht
        by_cases hlt2 : k < i
        · obtain ⟨h1, _⟩ := HC.out i hlt
          obtain ⟨h2, _⟩ := HC.out k (by omega)
          obtain ⟨x, hx⟩ : ∃ x, x = l[i].1 := ⟨_, rfl⟩
          obtain ⟨y, hy⟩ : ∃ y, y = l[k].1 := ⟨_, rfl⟩
          rw [← hx] at h1
          rw [← hy] at h2
          have HXY := Lib.hid (And.intro hx hy)
          clear hx hy
          cases t with
          | true =>
            go_wp2_with fail
            go_quiet (fail)
            go_wp2_with fail
            go_roundw
            case rel =>
              refine ⟨k + 1, by omega, by go_num, ⟨_, rfl, ?_⟩, _, rfl⟩
              have h := Dup.step hlt (show k < l.length by omega) hlt2
              rw [h, ← HXY.out.1, ← HXY.out.2, ← HT2.out]
              simp
            case measure => simp [intOf]; omega
          | false =>
            go_wp2_with fail
            go_quiet (fail)
            go_wp2_with fail
            go_roundw
            case rel =>
              refine ⟨k + 1, by omega, by go_num, ⟨_, rfl, ?_⟩, _, rfl⟩
              have h := Dup.step hlt (show k < l.length by omega) hlt2
              rw [h, ← HXY.out.1, ← HXY.out.2, ← HT2.out]
              simp
            case measure => simp [intOf]; omega
        · obtain rfl : k = i := by omega
          go_wp2_with fail
          go_roundw
          case rel =>
            refine ⟨k + 1, by omega, by go_num, ⟨t, rfl, ?_⟩, q2, rfl⟩
            rw [HT2.out]
            exact Dup.next
          case measure => simp [intOf]; omega
    · obtain rfl : i = l.length := by omega
      have hbw : Below w.heap.size w (w.drewN q) := ⟨rfl, rfl, rfl, Nat.le_refl _, fun _ _ => rfl⟩
      have hpa : PairsAt (w.drewN q) (.slice (some ⟨b, off, none⟩) l.length cap) l := .inr ⟨b, off, cap, rfl, hb, HC.out⟩
      have hsets := implSets_any _ l _ hpa hm
      go_wp2_with fail
      refine hsets.mono ?_
      rintro e w1 ⟨hb1, hcase⟩
      have hone : PairsAt (w1.alloc (.cells #[.int .i64 3, .int .i64 5] 24)) (.slice (some ⟨w1.heap.size, 0, none⟩) 1 1) [(3, 5)] :=
        .inr ⟨w1.heap.size, 0, 1, rfl, by simp, fun i h => by
          obtain rfl : i = 0 := by simpa using h
          exact ⟨by simp, by simp⟩⟩
      have hsets1 := implSets_any _ [(3, 5)] _ hone (by simp)
      have HB1 := Lib.hid (And.intro hbw (And.intro hb1 hsets1))
      clear hbw hb1 hsets1 hsets hone
      rcases hcase with ⟨hn, rfl⟩ | ⟨hn, v, rfl, hgood⟩
      · have : t0 = true := HT.out.2 (Dup.all.2 hn)
        subst this
        go_wp2_with fail
        refine HB1.out.2.2.mono ?_
        rintro e w2 ⟨hb2, ⟨hn2, _⟩ | ⟨_, v2, rfl, hgood2⟩⟩
        · exact absurd (by simp) hn2
        obtain ⟨a2, c2, rfl⟩ := good_one hgood2
        go_wp2_with fail
        go_ret
        obtain ⟨hbw, hb1, _⟩ := HB1.out
        refine ⟨rfl, ?_⟩
        have h1 : Below w.heap.size w w1 := hbw.trans hb1
        exact (h1.alloc h1.size _).trans (hb2.mono (by simp; have := h1.size; omega))
      · have : t0 = false := by
          cases t0 with
          | false => rfl
          | true => exact absurd hn (Dup.all.1 (HT.out.1 rfl))
        subst this
        go_wp2_with fail
        refine HB1.out.2.2.mono ?_
        rintro e w2 ⟨hb2, ⟨hn2, _⟩ | ⟨_, v2, rfl, hgood2⟩⟩
        · exact absurd (by simp) hn2
        obtain ⟨a2, c2, rfl⟩ := good_one hgood2
        obtain ⟨hbw, hb1, _⟩ := HB1.out
        have h1 : Below w.heap.size w w1 := hbw.trans hb1
        have h2 : Below w.heap.size w w2 := (h1.alloc h1.size _).trans (hb2.mono (by simp; have := h1.size; omega))
        have hg12 : w1.grownBy w2 none := grown_new (World.grownBy_alloc _ _ none) (Below.asGrown hb2) (by simp)
        have hcs := colorSets_some b off cap l w2 (by have := h2.size; omega) hm (fun i h => by
          obtain ⟨e1, e2⟩ := HC.out i h
          exact ⟨(h2.cell (p := ⟨b, off + i * 2, none⟩) hb).trans e1, (h2.cell (p := ⟨b, off + i * 2 + 1, none⟩) hb).trans e2⟩)
        have HH := Lib.hid (And.intro h2 (And.intro hg12 hgood))
        clear hbw hb1 h1 h2 hb2 hg12 hgood hgood2 HB1
        go_wp2_with fail
        refine hcs.mono ?_
        rintro e w3 ⟨u, l2, rfl, k2, p2, o2, n2, hb3⟩
        obtain ⟨h2, hg12, hgood⟩ := HH.out
        have h3 : Below w.heap.size w w3 := h2.trans (hb3.mono h2.size)
        obtain ⟨l1, hal⟩ := alike_of (w2 := w2) hgood (grown_new hg12 (Below.asGrown hb3) (by simp)) k2 p2 o2 n2
        have hle : l1.length = l2.length := by have := congrArg List.length hal.eq; simpa using this
        have heq : Calls Try.prog 5 #[v, u, .func (.func 7) #[] #[]] w3 (TrueNew w3) := by
          by_cases hl1 : l1 = []
          · have h0 : l2.length = 0 := by rw [← hle, hl1]; rfl
            have e1 := hal.o1
            have e2 := hal.o2
            rw [hl1] at e1
            rw [h0] at e2
            obtain ⟨a1, c1, rfl⟩ := own_len e1
            obtain ⟨a2', c2', rfl⟩ := own_len e2
            exact equalFunc_nil _ _ _ _ _ _
          · refine equalFunc_some w3 _ _ _ _ _ _ _ (fun c => ?_) hal hl1 ?_
            · have := List.length_filter_le (fun p : Int × Int => p.2 == c) l
              simp only [srt, idsOf, List.length_mergeSort, List.length_map]
              omega
            · rw [hle]
              have hnd : (l2.map (·.1)).Nodup := by rw [List.Nodup, List.pairwise_map]; exact p2.imp (fun h => by omega)
              have := List.Nodup.length_le_of_subset hnd (fun c hc => (k2 c).1 hc)
              simp at this
              omega
        have H3 := Lib.hid h3
        clear hal hle h2 h3 hg12 hgood hb3 hcs
        go_wp2_with fail
        refine heq.mono ?_
        rintro e w4 ⟨rfl, hg4⟩
        have H4 := Lib.hid hg4
        clear hg4 heq
        go_wp2_with fail
        go_ret
        exact ⟨rfl, H3.out.trans ((grown_below H4.out).mono H3.out.size)⟩
end Go.Proofs.Ytamjgkoegkgodaa
