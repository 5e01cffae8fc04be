/- spec.ColorSets. -/
import Derived.Test.YtamjgkoegkgodaaIdx
namespace Go.Proofs.Ytamjgkoegkgodaa
open Go.RowKit

theorem srt_eq {ns xs : List Int} (h1 : ns.Pairwise (· ≤ ·)) (h2 : ns.Perm xs) : ns = srt xs := by
  have h3 : (srt xs).Pairwise (· ≤ ·) := by
    have := List.pairwise_mergeSort (le := fun x y : Int => decide (x ≤ y)) (by intro a b c; simp; omega) (by intro a b; simp; omega) xs
    exact this.imp (by intro a b h; simpa using h)
  have h4 : (srt xs).Perm xs := List.mergeSort_perm xs _
  exact List.Perm.eq_of_pairwise (fun a b _ _ hab hba => Int.le_antisymm hab hba) h1 h3 (h2.trans h4.symm)


theorem row_reads {w : World} {B : Nat} {v : Value} {xs : List Int} (h : w.ownsRow B 3 1 v xs.length (xs.map (Value.int .i64))) :
    (v = .slice none 0 0 ∧ xs = []) ∨ ∃ g cap, v = .slice (some ⟨g, 0, none⟩) xs.length cap ∧ B ≤ g ∧ g < w.heap.size ∧ ∀ j, (h : j < xs.length) → w.cell? ⟨g, j, none⟩ = some (.int .i64 xs[j]) := by
  rcases h.2 with ⟨rfl, h0⟩ | ⟨g, cap, cur, rfl, hb, hg, hn, _⟩
  · exact .inl ⟨rfl, List.eq_nil_of_length_eq_zero h0⟩
  · refine .inr ⟨g, cap, rfl, hb, (Array.getElem?_eq_some_iff.1 hg).1, fun j hj => ?_⟩
    have := h.cells (g := g) rfl j (.int .i64 xs[j]) (by simp [hj])
    rw [addr_add, Nat.zero_add] at this
    exact this

/-- the colours met so far, ascending, each once -/
def Cols (w0 wr : World) (v : Value) (l : List (Int × Int)) (k : Nat) : Prop :=
  ∃ cs : List Int, wr.ownsRow w0.heap.size 3 1 v cs.length (cs.map (Value.int .i64)) ∧ cs.Pairwise (· ≤ ·) ∧ cs.Nodup ∧ cs.length ≤ k ∧ (∀ c, c ∈ cs ↔ c ∈ (l.take k).map (·.2)) ∧ Below w0.heap.size w0 wr

/-- the sets made so far, in loop 2 -/
def LoopS (w1 : World) (l : List (Int × Int)) (cs : List Int) (v : Value) (k : Nat) (wr : World) : Prop :=
  ∃ done : List SetV, done.map (·.1) = cs.take k ∧ wr.ownsRow w1.heap.size 31 2 v k (done.flatMap encSet) ∧ (∀ x ∈ done, NodesOf wr w1.heap.size x (srt (idsOf l x.1))) ∧ w1.grownBy wr none

/-- loop 3: the set in block S -/
def LoopT (w4 : World) (S : Nat) (n : Int) (l : List (Int × Int)) (k : Nat) (wi : World) : Prop :=
  ∃ nv ns, wi.heap[S]? = some (.cells #[.int .i64 n, nv] 31 (0, 0)) ∧ wi.ownsRow S 3 1 nv ns.length (ns.map (Value.int .i64)) ∧ ns.Pairwise (· ≤ ·) ∧ List.Perm ns (idsOf (l.take k) n) ∧ w4.grownBy wi none

def SpecPost (l : List (Int × Int)) (w : World) (e : Ending) (w' : World) : Prop :=
  ∃ (v : Value) (l' : List SetV), e = .returned v ∧ (∀ c, c ∈ l'.map (·.1) ↔ c ∈ l.map (·.2)) ∧ l'.Pairwise (fun x y => x.1 < y.1) ∧ w'.ownsRow w.heap.size 31 2 v l'.length (l'.flatMap encSet) ∧
    (∀ x ∈ l', NodesOf w' w.heap.size x (srt (idsOf l x.1))) ∧ Below w.heap.size w w'

set_option maxHeartbeats 1000000 in
theorem colorSets_some (b off cap : Nat) (l : List (Int × Int)) (w : World) (hb : b < w.heap.size) (hm : l.length ≤ 100)
    (hc : ∀ i, (h : i < l.length) → w.cell? ⟨b, off + i * 2, none⟩ = some (.int .i64 l[i].1) ∧ w.cell? ⟨b, off + i * 2 + 1, none⟩ = some (.int .i64 l[i].2)) :
    Calls Try.prog 6 #[.slice (some ⟨b, off, none⟩) l.length cap] w (SpecPost l w) := by
  have HC := Lib.hid hc
  clear hc
  go_enter Try.func6, Try.ntmps6
  go_wp2_with fail
  go_loopw [3, 14] (fun v i wr => ∃ k : Nat, k ≤ l.length ∧ i = .int .i64 k ∧ Cols w wr v l k) (fun _ i _ => l.length - (intOf i).toNat)
  case atStart => exact ⟨0, by omega, rfl, [], World.ownsRow_nil _ _ _ _, by simp, by simp, by simp, by simp, Below.refl _ _⟩
  case round =>
    obtain ⟨k, hk, rfl, cs, hown, hsort, hnd, hal, hmem, hbel⟩ := hrel
    by_cases hlt : k < l.length
    · obtain ⟨hc1, hc2⟩ := HC.out k hlt
      have hc1' : wr.cell? ⟨b, off + k * 2, none⟩ = some (.int .i64 l[k].1) := (hbel.cell (p := ⟨b, off + k * 2, none⟩) hb).trans hc1
      have hc2' : wr.cell? ⟨b, off + k * 2 + 1, none⟩ = some (.int .i64 l[k].2) := (hbel.cell (p := ⟨b, off + k * 2 + 1, none⟩) hb).trans hc2
      clear hc1 hc2
      obtain ⟨p, hp⟩ : ∃ p, p = l[k] := ⟨_, rfl⟩
      rw [← hp] at hc1' hc2'
      obtain ⟨pn, pc⟩ := p
      simp only [] at hc1' hc2'
      have hsz := hbel.size
      have HX := Lib.hid (And.intro hp (And.intro hsort (And.intro hnd (And.intro hmem hbel))))
      clear hp hsort hnd hmem hbel
      go_wp2_with fail
      refine (indexOf_own pc cs _ _ _ (by omega) (hown.alloc _)).mono ?_
      rintro e w' ⟨i, rfl, hi, hi1, hi2, rfl⟩
      by_cases hin : i < 0
      · have hd : decide (i < 0) = true := by simpa using hin
        have HI := Lib.hid hi
        clear hi
        go_wp2_with fail
        refine (putInt_own pc cs _ _ _ (by omega) (by simp; omega) (hown.alloc _)).mono ?_
        rintro e w2 ⟨v2, ys, rfl, hperm, hs2, hown2, hg2⟩
        go_wp2_with fail
        go_roundw
        case rel =>
          obtain ⟨hp, hsort, hnd, hmem, hbel⟩ := HX.out
          refine ⟨k + 1, by omega, by go_num, ys, hown2, hs2 hsort, ?_, ?_, ?_, ?_⟩
          · rw [hperm.nodup_iff, List.nodup_cons]; exact ⟨HI.out.1 hin, hnd⟩
          · rw [hperm.length_eq]; simp; omega
          · intro c
            rw [hperm.mem_iff, List.mem_cons, hmem, List.take_succ_eq_append_getElem hlt, ← hp]
            simp [or_comm]
          · exact (hbel.alloc hbel.size _).grown hg2 (by have := hbel.size; simp; omega) (by simp)
        case measure => simp [intOf]; omega
      · have hd : decide (i < 0) = false := by simpa using hin
        have HI := Lib.hid hi
        clear hi
        go_wp2_with fail
        go_roundw
        case rel =>
          obtain ⟨hp, hsort, hnd, hmem, hbel⟩ := HX.out
          refine ⟨k + 1, by omega, by go_num, cs, hown.alloc _, hsort, hnd, by omega, ?_, hbel.alloc hbel.size _⟩
          intro c
          rw [hmem, List.take_succ_eq_append_getElem hlt, ← hp]
          have hpc : pc ∈ cs := Classical.byContradiction fun h => by have := HI.out.2 h; omega
          have := (hmem pc).1 hpc
          simp only [List.map_append, List.mem_append, List.map_cons, List.map_nil, List.mem_singleton]
          exact ⟨.inl, fun h => h.elim id (fun e => by rw [e]; exact this)⟩
        case measure => simp [intOf]; omega
    · obtain rfl : k = l.length := by omega
      rw [List.take_length] at hmem
      have hal' : cs.length ≤ 100 := by omega
      have HX := Lib.hid (And.intro hsort (And.intro hnd (And.intro hmem hbel)))
      have hsz := hbel.size
      rcases row_reads hown with ⟨rfl, rfl⟩ | ⟨g, cp, rfl, hgB, hgl, hcells⟩
      · have hl0 : l = [] := by
          cases l with
          | nil => rfl
          | cons p l => have := (hmem p.2).2 (by simp); cases this
        subst hl0
        have HW := Lib.hid hbel
        clear hsort hnd hmem hbel hown hsz
        obtain ⟨w1, rfl⟩ : ∃ w1 : World, w1 = wr := ⟨_, rfl⟩
        go_wp2_with fail
        go_loopw [6, 8, 9, 11, 30, 38] (fun v _ _ _ i _ wr => v = .slice none 0 0 ∧ i = .int .i64 0 ∧ wr = w1) (fun _ _ _ _ i _ _ => 0)
        case atStart => exact ⟨rfl, rfl, rfl⟩
        case round =>
          obtain ⟨rfl, rfl, rfl⟩ := hrel
          go_wp2_with fail
          go_ret
          exact ⟨_, [], rfl, by simp, by simp, World.ownsRow_nil _ _ _ _, by simp, HW.out⟩
      · have HCC := Lib.hid hcells
        obtain ⟨w1, rfl⟩ : ∃ w1 : World, w1 = wr := ⟨_, rfl⟩
        clear hsort hnd hmem hbel hown hcells
        go_wp2_with fail
        go_loopw [6, 8, 9, 11, 30, 38] (fun v _ _ _ i _ wr => ∃ k : Nat, k ≤ cs.length ∧ i = .int .i64 k ∧ LoopS w1 l cs v k wr) (fun _ _ _ _ i _ _ => cs.length - (intOf i).toNat)
        case atStart => exact ⟨0, by omega, rfl, [], by simp, World.ownsRow_nil _ _ _ _, by simp, ⟨rfl, rfl, rfl, Nat.le_refl _, fun _ _ _ => rfl⟩⟩
        case round =>
          obtain ⟨k, hk, rfl, done, hdone, hown, hnodes, hgr⟩ := hrel
          by_cases hlt : k < cs.length
          · have hci : wr.cell? ⟨g, k, none⟩ = some (.int .i64 cs[k]) := by
              rw [grown_cell hgr hgl (by simp)]
              exact HCC.out k hlt
            obtain ⟨n, hn⟩ : ∃ n, n = cs[k] := ⟨_, rfl⟩
            rw [← hn] at hci
            have HN := Lib.hid hn
            have HD := Lib.hid (And.intro hdone (And.intro hown (And.intro hnodes hgr)))
            have hwsz := hgr.size
            clear hn hdone hown hnodes hgr
            go_wp2_with fail
            obtain ⟨S, hS⟩ : ∃ S, S = wr.heap.size := ⟨_, rfl⟩
            rw [← hS]
            have HS := Lib.hid hS
            obtain ⟨w4, rfl⟩ : ∃ w4 : World, w4 = wr := ⟨_, rfl⟩
            have hbS : b < w4.heap.size := by omega
            clear hS
            go_loopw [11, 38] (fun _ i wi => ∃ j : Nat, j ≤ l.length ∧ i = .int .i64 j ∧ LoopT w4 S n l j wi) (fun _ i _ => l.length - (intOf i).toNat)
            case atStart =>
              refine ⟨0, by omega, rfl, _, [], ?_, World.ownsRow_nil _ _ _ _, by simp, by simp [idsOf], World.grownBy_alloc _ _ _⟩
              rw [HS.out]; exact heap_alloc_new _ _
            case round =>
              obtain ⟨j, hj, rfl, nv, ns, hSb, hnv, hns, hnp, hgr⟩ := hrel
              by_cases hlt2 : j < l.length
              · obtain ⟨hc1, hc2⟩ := HC.out j hlt2
                have e1 : ∀ o, wr.cell? ⟨b, o, none⟩ = w.cell? ⟨b, o, none⟩ := fun o => by
                  rw [grown_cell hgr hbS (by simp), grown_cell HD.out.2.2.2 (by omega) (by simp)]
                  exact HX.out.2.2.2.cell (p := ⟨b, o, none⟩) hb
                rw [← e1] at hc1 hc2
                obtain ⟨p, hp⟩ : ∃ p, p = l[j] := ⟨_, rfl⟩
                rw [← hp] at hc1 hc2
                obtain ⟨pn, pc⟩ := p
                simp only [] at hc1 hc2
                have hSl : S < wr.heap.size := (Array.getElem?_eq_some_iff.1 hSb).1
                have hnl : ns.length ≤ 100 := by
                  have h1 := hnp.length_eq
                  have h2 := List.length_filter_le (fun p : Int × Int => p.2 == n) (l.take j)
                  unfold idsOf at h1
                  rw [List.length_map] at h1
                  rw [List.length_take] at h2
                  omega
                have hsn : (l.take (j + 1)) = l.take j ++ [(pn, pc)] := by rw [List.take_succ_eq_append_getElem hlt2, ← hp]
                have hcS : wr.cell? ⟨S, 1, none⟩ = some nv := cell_at hSb
                have hnS : nv.ownBlock ≠ some S := by
                  intro e
                  obtain ⟨c, hc⟩ := ownBlock_cells hnv e
                  rw [hSb] at hc
                  simp at hc
                have HY := Lib.hid (And.intro hp (And.intro hns (And.intro hnp (And.intro hgr (And.intro hsn hSb)))))
                clear e1 hp hns hnp hgr hsn hSb
                by_cases heq : pc = n
                · have hbq : (pc == n) = true := by simpa using heq
                  have HE := Lib.hid heq
                  clear heq
                  go_wp2_with fail
                  refine (putInt_own pn ns _ _ _ (by omega) (by simp; omega) (hnv.alloc _)).mono ?_
                  rintro e w6 ⟨v2, ys, rfl, hperm, hs2, hown2, hg2⟩
                  obtain ⟨va, vn, vc, rfl⟩ := own_slice hown2
                  obtain ⟨hp, hns, hnp, hgr, hsn, hSb⟩ := HY.out
                  have hb6 : w6.heap[S]? = some (.cells #[.int .i64 n, nv] 31 (0, 0)) := (hg2.block S (by simp; omega) (by simp)).trans ((Below.heap_alloc _ _ _ hSl).trans hSb)
                  have hc6 : w6.cell? ⟨S, 1, none⟩ = some nv := cell_at hb6
                  have hf6 : w6.frozen? ⟨S, 1, none⟩ = false := free_at hb6
                  have HZ := Lib.hid (And.intro hperm (And.intro hs2 (And.intro hown2 (And.intro hg2 hb6))))
                  clear hp hns hnp hgr hsn hSb hperm hs2 hown2 hg2 hb6
                  go_wp2_with fail
                  go_roundw
                  case rel =>
                    obtain ⟨hp, hns, hnp, hgr, hsn, hSb⟩ := HY.out
                    obtain ⟨hperm, hs2, hown2, hg2, hb6⟩ := HZ.out
                    refine ⟨j + 1, by omega, by go_num, .slice va vn vc, ys, block_setCell hb6, ?_, hs2 hns, ?_, ?_⟩
                    · refine hown2.kept (grown_setCell w6 S 1 _) (.inr ?_)
                      intro e
                      obtain ⟨c, hc⟩ := ownBlock_cells hown2 e
                      rw [hb6] at hc
                      simp at hc
                    · rw [hsn]
                      have : idsOf (l.take j ++ [(pn, pc)]) n = idsOf (l.take j) n ++ [pn] := by
                        unfold idsOf
                        simp [List.filter_append, hbq]
                      rw [this]
                      exact hperm.trans ((hnp.cons pn).trans (List.perm_append_singleton _ _).symm)
                    · exact grown_new (grown_new (grown_new hgr (World.grownBy_alloc _ _ none) (by simp)) hg2 (by simp)) (grown_setCell _ _ _ _) (fun k hk => by cases hk; rw [HS.out]; exact Nat.le_refl _)
                  case measure => simp [intOf]; omega
                · have hbq : (pc == n) = false := by simpa using heq
                  have HE := Lib.hid heq
                  clear heq
                  go_wp2_with fail
                  go_roundw
                  case rel =>
                    obtain ⟨hp, hns, hnp, hgr, hsn, hSb⟩ := HY.out
                    refine ⟨j + 1, by omega, by go_num, nv, ns, (Below.heap_alloc _ _ _ hSl).trans hSb, hnv.alloc _, hns, ?_, grown_new hgr (World.grownBy_alloc _ _ none) (by simp)⟩
                    rw [hsn]
                    have : idsOf (l.take j ++ [(pn, pc)]) n = idsOf (l.take j) n := by
                      unfold idsOf
                      simp [List.filter_append, hbq]
                    rw [this]
                    exact hnp
                  case measure => simp [intOf]; omega
              · obtain rfl : j = l.length := by omega
                rw [List.take_length] at hnp
                obtain ⟨va, vn, vc, rfl⟩ := own_slice hnv
                obtain ⟨hdone, hown, hnodes, hgr0⟩ := HD.out
                have hownr := own_new hown hgr
                have hc0 : wr.cell? ⟨S, 0, none⟩ = some (.int .i64 n) := cell_at hSb
                have hc1 : wr.cell? ⟨S, 1, none⟩ = some (.slice va vn vc) := cell_at hSb
                have hgs := hgr.size
                have hk2 : k ≤ 100 := by omega
                have HY := Lib.hid (And.intro hns (And.intro hnp (And.intro hgr (And.intro hSb (And.intro hnv (And.intro hdone (And.intro hnodes hgr0)))))))
                clear hns hnp hgr hSb hnv hdone hnodes hgr0 hown
                go_wp2_with (at_builtin; refine wpx_append elT25 _ rfl (.tmp 53) (.tmp 55) rfl w1.heap.size _ k _ rfl (hownr.alloc _) ⟨wr.heap.size, 0, none⟩ 1 1 [.int .i64 n, .slice va vn vc] rfl rfl (cells_new wr [.int .i64 n, .slice va vn vc] _) (by simp [Value.oneCell']) (by omega) (by unfold maxLen; omega) (by simp; omega) ?_; intro v' w5 hown5 hg5 hnil5 hat5)
                obtain ⟨hns, hnp, hgr, hSb, hnv, hdone, hnodes, hgr0⟩ := HY.out
                have hgrA : w4.grownBy (wr.alloc (.cells #[.int .i64 n, .slice va vn vc] 31)) none := grown_new hgr (World.grownBy_alloc _ _ none) (by simp)
                have hownA := hownr.alloc (.cells #[.int .i64 n, .slice va vn vc] 31)
                have hkeep : ∀ (y : SetV) (ys : List Int), NodesOf (wr.alloc (.cells #[.int .i64 n, .slice va vn vc] 31)) w1.heap.size y ys → NodesOf w5 w1.heap.size y ys := fun y ys hy =>
                  World.ownsRow.kept hy hg5 (row_ne_row hy hownA (by decide))
                go_roundw
                case rel =>
                  refine ⟨k + 1, by omega, by go_num, done ++ [(n, va, vn, vc)], ?_, by simpa [encSet, SetV.val] using hown5, ?_, ?_⟩
                  · rw [List.map_append, hdone, List.take_succ_eq_append_getElem hlt, ← HN.out]; rfl
                  · intro y hy
                    refine hkeep _ _ ?_
                    rcases List.mem_append.1 hy with hy | hy
                    · exact own_new (hnodes y hy) hgrA
                    · have : y = (n, va, vn, vc) := by simpa using hy
                      subst this
                      show World.ownsRow _ _ _ _ (SetV.val (n, va, vn, vc)) (srt (idsOf l n)).length ((srt (idsOf l n)).map (Value.int .i64))
                      rw [← srt_eq hns hnp]
                      exact own_new (own_mono hnv (by have := hgr0.size; have := HS.out; omega)) (World.grownBy_alloc _ _ none)
                  · exact grown_new (grown_new hgr0 hgrA (by simp)) hg5 (fun k hk => (hownA.lt _ hk).1)
                case measure => simp [intOf]; omega
          · obtain rfl : k = cs.length := by omega
            go_wp2_with fail
            go_ret
            obtain ⟨hsort, hnd, hmem, hbel⟩ := HX.out
            rw [List.take_length] at hdone
            have hl' : done.length = cs.length := by rw [← hdone]; simp
            refine ⟨_, done, rfl, fun c => by rw [hdone, hmem], ?_, ?_, fun x hx => own_mono (hnodes x hx) hsz, hbel.grown hgr hsz (by simp)⟩
            · have hp : (done.map (·.1)).Pairwise (· < ·) := by
                rw [hdone]
                rw [List.Nodup] at hnd
                refine (hsort.and hnd).imp ?_
                intro a c ⟨h1, h2⟩
                omega
              rwa [List.pairwise_map] at hp
            · rw [hl']
              exact own_mono hown hsz
end Go.Proofs.Ytamjgkoegkgodaa
