/- spec.putInt: a number into an ascending list. -/
import Derived.Test.YtamjgkoegkgodaaImpl
namespace Go.Proofs.Ytamjgkoegkgodaa
open Go.RowKit

def PutPost (B : Nat) (x : Int) (xs : List Int) (w : World) (e : Ending) (w' : World) : Prop :=
  ∃ v ys, e = .returned v ∧ List.Perm ys (x :: xs) ∧ (xs.Pairwise (· ≤ ·) → ys.Pairwise (· ≤ ·)) ∧ w'.ownsRow B 3 1 v ys.length (ys.map (Value.int .i64)) ∧ w.grownBy w' none

theorem put_facts {x : Int} {xs : List Int} {k : Nat} (hk : k ≤ xs.length) (h1 : ∀ j, (h : j < xs.length) → k ≤ j → x < xs[j]) (h2 : k = 0 ∨ ∃ h : k - 1 < xs.length, xs[k - 1] ≤ x) :
    List.Perm (xs.take k ++ [x] ++ xs.drop k) (x :: xs) ∧ (xs.Pairwise (· ≤ ·) → (xs.take k ++ [x] ++ xs.drop k).Pairwise (· ≤ ·)) := by
  constructor
  · have : List.Perm (x :: (xs.take k ++ xs.drop k)) (xs.take k ++ [x] ++ xs.drop k) := by
      rw [List.append_assoc]
      exact List.perm_middle.symm
    rw [List.take_append_drop] at this
    exact this.symm
  · intro hs
    have hlt : ∀ a ∈ xs.drop k, x < a := by
      intro a ha
      obtain ⟨j, hj, rfl⟩ := List.getElem_of_mem ha
      rw [List.getElem_drop]
      rw [List.length_drop] at hj
      exact h1 _ (by omega) (by omega)
    have hle : ∀ a ∈ xs.take k, a ≤ x := by
      intro a ha
      obtain ⟨j, hj, rfl⟩ := List.getElem_of_mem ha
      rw [List.length_take] at hj
      rw [List.getElem_take]
      rcases h2 with h2 | ⟨h2, h3⟩
      · omega
      · by_cases hj2 : j = k - 1
        · subst hj2; exact h3
        · have := List.pairwise_iff_getElem.1 hs j (k - 1) (by omega) h2 (by omega)
          omega
    rw [List.append_assoc, List.pairwise_append, List.singleton_append, List.pairwise_cons]
    refine ⟨hs.sublist (List.take_sublist _ _), ⟨fun a ha => by have := hlt a ha; omega, hs.sublist (List.drop_sublist _ _)⟩, ?_⟩
    intro a ha b hb
    have h1 := hle a ha
    rcases List.mem_cons.1 hb with rfl | hb
    · exact h1
    · have := hlt b hb; omega

theorem row_cells {w : World} {xs : List Int} {g : Nat} {o : Obj} (hc : ∀ j, (h : j < xs.length) → w.cell? ⟨g, j, none⟩ = some (.int .i64 xs[j])) (hg : g < w.heap.size) (k : Nat) :
    ∀ j u, ((xs.take k).map (Value.int .i64))[j]? = some u → (w.alloc o).cell? ((⟨g, 0, none⟩ : Addr).add j) = some u := by
  intro j u hu
  rw [addr_add, Nat.zero_add]
  have e : (w.alloc o).cell? ⟨g, j, none⟩ = w.cell? ⟨g, j, none⟩ := World.cell?_of_block (w := w) (Below.heap_alloc w o g hg)
  rw [e]
  rw [List.getElem?_map] at hu
  cases hj : (xs.take k)[j]? with
  | none => rw [hj] at hu; cases hu
  | some y =>
    rw [hj] at hu
    rw [List.getElem?_take] at hj
    split at hj
    · obtain ⟨h1, h2⟩ := List.getElem?_eq_some_iff.1 hj
      rw [hc j h1, h2]
      exact hu
    · cases hj

theorem drop_cells {w w2 : World} {xs : List Int} {g : Nat} (hc : ∀ j, (h : j < xs.length) → w.cell? ⟨g, j, none⟩ = some (.int .i64 xs[j])) (hg : g < w.heap.size) (hgw : w.grownBy w2 none) (k cap : Nat) (hn : xs.length ≤ cap) :
    ∀ j u, ((xs.drop k).map (Value.int .i64))[j]? = some u → w2.cell? ((dropAt g 0 k cap 1).add j) = some u := by
  intro j u hu
  rw [List.getElem?_map, List.getElem?_drop] at hu
  cases hj : xs[k + j]? with
  | none => rw [hj] at hu; cases hu
  | some y =>
    rw [hj] at hu
    obtain ⟨h1, h2⟩ := List.getElem?_eq_some_iff.1 hj
    have e : dropAt g 0 k cap 1 = ⟨g, k, none⟩ := by unfold dropAt; rw [if_neg (by omega)]; simp
    rw [e, addr_add, grown_cell hgw hg (by simp), hc _ h1, h2]
    exact hu

theorem put_grown {w w1 w2 : World} {v1 : Value} {o : Obj}
    (hg1 : (w.alloc (.cells #[] 3)).grownBy w1 (Value.slice (some ⟨w.heap.size, 0, none⟩) 0 0).ownBlock) (hg2 : (w1.alloc o).grownBy w2 v1.ownBlock)
    (hat1 : v1.ownBlock = (Value.slice (some ⟨w.heap.size, 0, none⟩) 0 0).ownBlock ∨ v1.ownBlock = some (w.alloc (.cells #[] 3)).heap.size) : w.grownBy w2 none := by
  refine grown_new (grown_new (grown_new (World.grownBy_alloc _ _ none) hg1 ?_) (World.grownBy_alloc _ _ none) (by simp)) hg2 ?_
  · intro k hk; simp [Value.ownBlock] at hk; omega
  · intro k hk
    rcases hat1 with h | h
    · rw [h] at hk; simp [Value.ownBlock] at hk; omega
    · rw [h] at hk; simp at hk; omega

theorem put_at {w w1 : World} {v1 v2 : Value} {o : Obj} (hg1 : (w.alloc (.cells #[] 3)).grownBy w1 (Value.slice (some ⟨w.heap.size, 0, none⟩) 0 0).ownBlock)
    (hat1 : v1.ownBlock = (Value.slice (some ⟨w.heap.size, 0, none⟩) 0 0).ownBlock ∨ v1.ownBlock = some (w.alloc (.cells #[] 3)).heap.size) (hat2 : v2.ownBlock = v1.ownBlock ∨ v2.ownBlock = some (w1.alloc o).heap.size) : ∀ k, v2.ownBlock = some k → w.heap.size ≤ k := by
  intro k hk
  have hs := hg1.size
  simp at hs
  rcases hat2 with h | h
  · rw [h] at hk
    rcases hat1 with h | h
    · rw [h] at hk; simp [Value.ownBlock] at hk; omega
    · rw [h] at hk; simp at hk; omega
  · rw [h] at hk; simp at hk; omega

theorem one_ints (xs : List Int) : ∀ u ∈ xs.map (Value.int .i64), u.oneCell' = true := by
  intro u hu
  obtain ⟨y, _, rfl⟩ := List.mem_map.1 hu
  rfl

set_option maxHeartbeats 400000 in
theorem putInt_some (B : Nat) (x : Int) (xs : List Int) (g cap : Nat) (w : World) (hl : xs.length ≤ 1000000) (hc : ∀ j, (h : j < xs.length) → w.cell? ⟨g, j, none⟩ = some (.int .i64 xs[j])) (hn : xs.length ≤ cap) (hB : B ≤ w.heap.size) (hg : g < w.heap.size) :
    Calls Try.prog 15 #[.slice (some ⟨g, 0, none⟩) xs.length cap, .int .i64 x] w (PutPost B x xs w) := by
  go_enter Try.func15, Try.ntmps15
  go_wp2_with fail
  have HC := Lib.hid hc
  clear hc
  go_loop [5] (fun i => ∃ k : Nat, k ≤ xs.length ∧ i = .int .i64 k ∧ ∀ j, (h : j < xs.length) → k ≤ j → x < xs[j]) (fun i => (intOf i).toNat)
  case atStart => exact ⟨xs.length, Nat.le_refl _, rfl, fun j h h' => absurd h (by omega)⟩
  case round =>
    obtain ⟨k, hk, rfl, hup⟩ := hrel
    have HU := Lib.hid hup
    clear hup
    by_cases hk0 : k = 0
    · subst hk0
      obtain ⟨hpm, hst⟩ := put_facts hk HU.out (.inl rfl)
      have h0 : (w.alloc (.cells #[] 3)).ownsRow B 3 1 (.slice (some ⟨w.heap.size, 0, none⟩) 0 0) 0 [] := World.ownsRow_made w #[] 0 hB (by simp) rfl
      have hlk : (xs.take 0).length = 0 := by rw [List.length_take]; omega
      have hc1 : ∀ j u, ((xs.take 0).map (Value.int .i64))[j]? = some u → (w.alloc (.cells #[] 3)).cell? ((⟨g, 0, none⟩ : Addr).add j) = some u := row_cells (HC.out) hg 0
      have hsl := run_slice_low elT29 g 0 xs.length cap 0 hk
      change ∀ w, (Instr.sliceAt 29 _ (some (.int .i64 0)) none none).run _ w = _ at hsl
      have HP := Lib.hid (And.intro hpm hst)
      clear hpm hst
      go_wp2_with (first
        | (at_builtin; refine wpx_append elT29 _ rfl (.tmp 22) (.tmp 25) rfl B (.slice (some ⟨w.heap.size, 0, none⟩) 0 0) 0 [] rfl h0 ⟨g, 0, none⟩ 0 cap ((xs.take 0).map (Value.int .i64)) rfl (by rw [List.length_map, hlk, Nat.mul_one]) hc1 (one_ints _) (by omega) (by unfold maxLen; omega) (by simp; omega) ?_; intro v1 w1 hown1 hg1 hnil1 hat1; simp only [Nat.zero_add, List.nil_append] at hown1)
        | (at_builtin; refine wpx_append elT29 _ rfl (.tmp 26) (.tmp 28) rfl B v1 0 _ rfl (hown1.alloc _) ⟨w1.heap.size, 0, none⟩ 1 1 [.int .i64 x] rfl rfl (cells_new w1 [.int .i64 x] _) (one_ints [x]) (by omega) (by unfold maxLen; omega) (by have := hg1.size; simp at this; simp; omega) ?_; intro v2 w2 hown2 hg2 hnil2 hat2; have hgw := put_grown hg1 hg2 hat1; have hc2 := drop_cells HC.out hg hgw 0 cap hn; have hB2 : B ≤ w2.heap.size := Nat.le_trans hB hgw.size)
        | (at_builtin; refine wpx_append elT29 _ rfl (.tmp 30) (.tmp 33) rfl B v2 (0 + 1) _ rfl hown2 (dropAt g 0 0 cap 1) (xs.length - 0) (cap - 0) ((xs.drop 0).map (Value.int .i64)) rfl (by simp) hc2 (one_ints _) (by omega) (by unfold maxLen; omega) hB2 ?_; intro v3 w3 hown3 hg3 hnil3 hat3))
      go_ret
      obtain ⟨hpm, hst⟩ := HP.out
      refine ⟨_, _, rfl, hpm, hst, ?_, grown_new hgw hg3 (put_at hg1 hat1 hat2)⟩
      have e : (xs.take 0 ++ [x] ++ xs.drop 0).length = 0 + 1 + (xs.length - 0) := by simp only [List.length_append, List.length_take, List.length_drop, List.length_singleton]; omega
      rw [e, List.map_append, List.map_append]
      exact hown3
    · have hk1 : 0 < k := by omega
      have hcm := HC.out (k - 1) (by omega)
      obtain ⟨y, hy⟩ : ∃ y, y = xs[k - 1] := ⟨_, rfl⟩
      rw [← hy] at hcm
      have HY := Lib.hid hy
      clear hy
      by_cases hlt : x < y
      · go_wp2_with fail
        go_round
        case rel =>
          refine ⟨k - 1, by omega, by go_num, fun j h h' => ?_⟩
          by_cases hj : j = k - 1
          · subst hj; rw [← HY.out]; exact hlt
          · exact HU.out j h (by omega)
        case measure => simp [intOf]; omega
      · have hyx : xs[k - 1] ≤ x := by rw [← HY.out]; omega
        obtain ⟨hpm, hst⟩ := put_facts hk HU.out (.inr ⟨by omega, hyx⟩)
        have h0 : (w.alloc (.cells #[] 3)).ownsRow B 3 1 (.slice (some ⟨w.heap.size, 0, none⟩) 0 0) 0 [] := World.ownsRow_made w #[] 0 hB (by simp) rfl
        have hlk : (xs.take k).length = k := by rw [List.length_take]; omega
        have hc1 : ∀ j u, ((xs.take k).map (Value.int .i64))[j]? = some u → (w.alloc (.cells #[] 3)).cell? ((⟨g, 0, none⟩ : Addr).add j) = some u := row_cells (HC.out) hg k
        have hsl := run_slice_low elT29 g 0 xs.length cap k hk
        have HP := Lib.hid (And.intro hpm hst)
        clear hpm hst hyx
        go_wp2_with (first
          | (at_builtin; refine wpx_append elT29 _ rfl (.tmp 22) (.tmp 25) rfl B (.slice (some ⟨w.heap.size, 0, none⟩) 0 0) 0 [] rfl h0 ⟨g, 0, none⟩ k cap ((xs.take k).map (Value.int .i64)) rfl (by rw [List.length_map, hlk, Nat.mul_one]) hc1 (one_ints _) (by omega) (by unfold maxLen; omega) (by simp; omega) ?_; intro v1 w1 hown1 hg1 hnil1 hat1; simp only [Nat.zero_add, List.nil_append] at hown1)
          | (at_builtin; refine wpx_append elT29 _ rfl (.tmp 26) (.tmp 28) rfl B v1 k _ rfl (hown1.alloc _) ⟨w1.heap.size, 0, none⟩ 1 1 [.int .i64 x] rfl rfl (cells_new w1 [.int .i64 x] _) (one_ints [x]) (by omega) (by unfold maxLen; omega) (by have := hg1.size; simp at this; simp; omega) ?_; intro v2 w2 hown2 hg2 hnil2 hat2; have hgw := put_grown hg1 hg2 hat1; have hc2 := drop_cells HC.out hg hgw k cap hn; have hB2 : B ≤ w2.heap.size := Nat.le_trans hB hgw.size)
          | (at_builtin; refine wpx_append elT29 _ rfl (.tmp 30) (.tmp 33) rfl B v2 (k + 1) _ rfl hown2 (dropAt g 0 k cap 1) (xs.length - k) (cap - k) ((xs.drop k).map (Value.int .i64)) rfl (by simp) hc2 (one_ints _) (by omega) (by unfold maxLen; omega) hB2 ?_; intro v3 w3 hown3 hg3 hnil3 hat3))
        go_ret
        obtain ⟨hpm, hst⟩ := HP.out
        refine ⟨_, _, rfl, hpm, hst, ?_, grown_new hgw hg3 (put_at hg1 hat1 hat2)⟩
        have e : (xs.take k ++ [x] ++ xs.drop k).length = k + 1 + (xs.length - k) := by simp only [List.length_append, List.length_take, List.length_drop, List.length_singleton]; omega
        rw [e, List.map_append, List.map_append]
        exact hown3
end Go.Proofs.Ytamjgkoegkgodaa
