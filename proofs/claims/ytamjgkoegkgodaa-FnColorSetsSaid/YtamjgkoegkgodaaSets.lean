/- coloring.Sets, the walk. -/
import Derived.Test.YtamjgkoegkgodaaGrp
namespace Go.Proofs.Ytamjgkoegkgodaa
open Go.RowKit

theorem zero41 (w : World) : (zeroValue 41).run Try.prog w = .ok (.slice none 0 0) w := by kernel_rfl

/-- a map of colours: the pairs as they lie in a block -/
def colEnts (l : List (Int × Int)) : Ents := l.map (fun p => (p.1, .int .i64 p.2))

def SetsPost (l : List (Int × Int)) (w : World) (e : Ending) (w' : World) : Prop :=
  Below w.heap.size w w' ∧ ∃ b ents vis, e = .returned (.map (some b)) ∧ MapIs w' b ents ∧ w.heap.size ≤ b ∧ List.Perm vis l ∧ Grp w' (b + 2) ents (fun c => (idsOf vis c).mergeSort (fun x y => decide (x ≤ y)))

def ids2 (vis : List (Int × Int)) (left : Ents) : Int → List Int := fun c => if c ∈ left.map (·.1) then idsOf vis c else (idsOf vis c).mergeSort (fun x y => decide (x ≤ y))

def Loop2 (w : World) (r : Nat) (ents : Ents) (vis : List (Int × Int)) (wr : World) : Prop :=
  ∃ left, RangeIs wr r w.heap.size ents left ∧ Grp wr (w.heap.size + 2) ents (ids2 vis left) ∧ Below w.heap.size w wr ∧ r < wr.heap.size

def Loop1 (w : World) (bm : Nat) (l : List (Int × Int)) (wr : World) : Prop :=
  ∃ left vis ents, RangeIs wr (w.heap.size + 1) bm (colEnts l) left ∧ (colEnts vis ++ left).Perm (colEnts l) ∧ MapIs wr w.heap.size ents ∧ Grp wr (w.heap.size + 2) ents (idsOf vis) ∧ Below w.heap.size w wr ∧ w.heap.size + 1 < wr.heap.size

theorem RangeIs.alloc' {w : World} {r b : Nat} {m left : Ents} (h : RangeIs w r b m left) (o : Obj) : RangeIs (w.alloc o) r b m left :=
  h.grown (World.grownBy_alloc w o none) (by simp) (by simp)

def leftLen (wr : World) (r b : Nat) : Nat := match wr.heap[r]?, wr.heap[b]? with
  | some (.mapIter _ _ seen _), some (.map es _) => (leftOf es seen).size
  | _, _ => 0
theorem RangeIs.len {w : World} {r b : Nat} {m left : Ents} (h : RangeIs w r b m left) : leftLen w r b = left.length := by
  obtain ⟨es, clock, since, seen, c0, hr, hb, hs, he, h1, h2, h2', h3⟩ := h
  unfold leftLen
  rw [hr, hb]
  have := congrArg List.length h3
  simpa using this

/-- slices.Sort at []int64 -/
def SortI : Prop := ∀ (w : World) (base : Nat) (v : Value) (xs : List Int), w.ownsRow base 2 1 v xs.length (xs.map (Value.int .i64)) → xs ≠ [] → xs.length ≤ 1000000 →
  Calls Try.prog 16 #[v] w (fun e w' => e = .returned (.tuple #[]) ∧ w'.ownsRow base 2 1 v xs.length ((xs.mergeSort (fun x y => decide (x ≤ y))).map (Value.int .i64)) ∧ w.grownBy w' v.ownBlock)

theorem colEnts_mem {l : List (Int × Int)} {x : Int} {v : Value} (h : (x, v) ∈ colEnts l) : ∃ c, v = .int .i64 c ∧ (x, c) ∈ l := by
  unfold colEnts at h
  obtain ⟨p, hp, e⟩ := List.mem_map.1 h
  simp only [Prod.mk.injEq] at e
  exact ⟨p.2, e.2.symm, by rw [← e.1]; exact hp⟩

theorem colEnts_append (a b : List (Int × Int)) : colEnts (a ++ b) = colEnts a ++ colEnts b := by simp [colEnts]

theorem length_colEnts (l : List (Int × Int)) : (colEnts l).length = l.length := by simp [colEnts]

theorem perm_cols {a b : List (Int × Int)} (h : (colEnts a).Perm (colEnts b)) : a.Perm b := by
  have h2 : ∀ l : List (Int × Int), (colEnts l).map (fun p => (p.1, match p.2 with | .int _ n => n | _ => 0)) = l := by
    intro l
    simp [colEnts, Function.comp_def]
  have := h.map (fun p : Int × Value => (p.1, match p.2 with | .int _ n => n | _ => 0))
  rw [h2, h2] at this
  exact this

set_option maxHeartbeats 1000000 in
theorem sets_any (hsort : SortI) (bm : Nat) (l : List (Int × Int)) (w : World) (H : MapIs w bm (colEnts l)) (hm : l.length ≤ 100) :
    Calls Try.prog 10 #[.map (some bm)] w (SetsPost l w) := by
  have hmm := @run_makeMap Try.prog
  have hbl := H.lt
  go_enter Try.func10, Try.ntmps10
  go_wp2_with (at_range; refine wpx_range _ rfl _ 36 rfl 2 3 Try.underlying36 bm _ rfl (H.alloc _) (w.heap.size + 1) (by simp) ?_; intro w1 hr1 hg1 hs1)
  go_frame
  clear hmm
  go_loopw [4, 5, 11] (fun _ _ _ wr => Loop1 w bm l wr) (fun _ _ _ wr => leftLen wr (w.heap.size + 1) bm)
  case atStart =>
    have hb1 : Below w.heap.size w w1 := ((Below.refl _ _).alloc (Nat.le_refl _) _).grown hg1 (by simp) (by simp)
    exact ⟨colEnts l, [], [], hr1, by simp [colEnts], (MapIs.made w).grown hg1 (by simp), Grp.nil _ _, hb1, by omega⟩
  case round =>
    obtain ⟨left, vis, ents, hrg, hp, hmap, hgrp, hbel, hsz⟩ := hrel
    have hlen := hrg.len
    have hnd := hrg.nodup
    have hsub := hrg.sub
    have hvl : vis.length + left.length = l.length := by have := hp.length_eq; simpa [colEnts] using this
    go_wp2_with (at_next; refine wpx_next _ rfl _ rfl (w.heap.size + 1) bm _ _ rfl hrg ?_ ?_)
    · intro hl0
      (try go_frame)
      go_wp2_with (at_range; refine wpx_range _ rfl _ 39 rfl 3 41 Try.underlying39 w.heap.size _ rfl hmap wr.heap.size rfl ?_; intro w2 hr2 hg2 hs2)
      (try go_frame)
      subst hl0
      have hpv : (colEnts vis).Perm (colEnts l) := by simpa using hp
      have hids : ∀ c, (idsOf vis c).length ≤ 100 := fun c => by
        unfold idsOf
        rw [List.length_map]
        have := List.length_filter_le (fun p : Int × Int => p.2 == c) vis
        simp at hvl
        omega
      have hb2 := hbel.grown hg2 hbel.size (by simp)
      have hgrp2 := hgrp.kept hg2 (by simp)
      have hw1 : w.heap.size + 1 < wr.heap.size := hsz
      have HV := Lib.hid hpv
      have HI := Lib.hid hids
      clear hp hpv hsub hnd hlen hvl hg1 hr1 hs1 hrg hbel hgrp hmap hsz hids H
      obtain ⟨wo, rfl⟩ : ∃ wo : World, wo = wr := ⟨_, rfl⟩
      go_loopw [7, 26] (fun _ _ w3 => Loop2 w wo.heap.size ents vis w3) (fun _ _ w3 => leftLen w3 wo.heap.size w.heap.size)
      case atStart =>
        refine ⟨ents, hr2, ?_, hb2, by omega⟩
        have e : ids2 vis ents = idsOf vis := by
          funext c
          unfold ids2
          split
          · rfl
          · rename_i hno
            rw [hgrp2.keys] at hno
            have : idsOf vis c = [] := by simpa using hno
            rw [this, List.mergeSort_nil]
        rw [e]; exact hgrp2
      case round =>
        obtain ⟨left, hrg, hgrp, hbel, hsz⟩ := hrel
        have hlen := hrg.len
        have hnd := hrg.nodup
        have hsub := hrg.sub
        have hmap := hrg.map
        go_wp2_with (at_next; refine wpx_next _ rfl _ rfl wo.heap.size w.heap.size _ _ rfl hrg ?_ ?_)
        · intro hl0
          go_wp2_with fail
          go_ret
          subst hl0
          refine ⟨hbel, _, ents, vis, rfl, hmap, Nat.le_refl _, perm_cols HV.out, ?_⟩
          have e : ids2 vis [] = fun c => (idsOf vis c).mergeSort (fun x y => decide (x ≤ y)) := by
            funext c
            simp [ids2]
          rw [e] at hgrp
          exact hgrp
        · intro x v w4 hin hr4 hg4 hs4 hent
          have hgrp4 := hgrp.kept' hg4 (fun p hp => row_ne_iter' (hgrp.own p hp) hrg)
          have hown := hgrp4.own _ (hsub _ hin)
          have hidx : ids2 vis left x = idsOf vis x := if_pos (List.mem_map.2 ⟨_, hin, rfl⟩)
          rw [hidx] at hown
          have hne : idsOf vis x ≠ [] := by rw [← hidx]; exact (hgrp4.keys x).1 (List.mem_map.2 ⟨_, hsub _ hin, rfl⟩)
          have hcall := hsort w4 _ v (idsOf vis x) hown hne (by have := HI.out x; omega)
          have HC := Lib.hid (And.intro hrg (And.intro hgrp (And.intro hlen (And.intro hidx (And.intro hown hgrp4)))))
          clear hrg hgrp hlen hidx hown hgrp4 hsub
          go_wp2_with (go_at_call 16; refine hcall.mono ?_; rintro e w5 ⟨rfl, ho5, hg5⟩)
          obtain ⟨hrg, hgrp, hlen, hidx, hown, hgrp4⟩ := HC.out
          have hr5 := hr4.grown hg5 (row_ne_iter' hown hr4).symm (row_ne_map hown hr4.map).symm
          try go_frame
          go_roundw
          case rel =>
            have hlt : w.heap.size ≤ wo.heap.size := by omega
            refine ⟨_, hr5, ?_, (hbel.grown hg4 hbel.size (by simpa using hlt)).grown hg5 (by have := hbel.size; omega) (fun k hk => by have := (hown.lt _ hk).1; omega), by have := hg5.size; omega⟩
            have ex : ids2 vis (left.filter (fun q => !(q.1 == x))) x = (idsOf vis x).mergeSort (fun x y => decide (x ≤ y)) := by
              unfold ids2
              rw [if_neg]
              intro hh
              obtain ⟨q, hq, e⟩ := List.mem_map.1 hh
              have := (List.mem_filter.1 hq).2
              simp [e] at this
            refine hgrp4.turn hmap.nodup (hrg.sub _ hin) (x := x) (v := v) ?_ hg5 ?_ ?_
            · rw [ex]; simpa using ho5
            · rw [ex]
              intro hh
              have := congrArg List.length hh
              simp at this
              exact hne this
            · intro c hc
              unfold ids2
              have : (c ∈ (left.filter (fun q => !(q.1 == x))).map (·.1)) ↔ (c ∈ left.map (·.1)) := by
                simp only [List.mem_map, List.mem_filter]
                constructor
                · rintro ⟨q, ⟨hq, _⟩, e⟩; exact ⟨q, hq, e⟩
                · rintro ⟨q, hq, e⟩; exact ⟨q, ⟨hq, by simpa [e] using hc⟩, e⟩
              simp only [this]
          case measure =>
            rw [hr5.len, hlen, (perm_step hnd hin).length_eq]
            simp
    · intro x v w2 hin hr2 hg2 hs2 hent
      obtain ⟨c, rfl, hcl⟩ := colEnts_mem (hsub _ hin)
      have hmap2 := hmap.grown hg2 (by simp)
      have hgrp2 := hgrp.kept hg2 (fun k hk => by cases hk; omega)
      have hown2 := hgrp2.at c
      have hidl : (idsOf vis c).length ≤ 100 := by
        unfold idsOf
        rw [List.length_map]
        have := List.length_filter_le (fun p : Int × Int => p.2 == c) vis
        omega
      have hsz2 : w.heap.size + 1 < w2.heap.size := hs2 ▸ hsz
      have HX := Lib.hid (And.intro hp (And.intro hnd (And.intro hbel (And.intro hlen (And.intro hs2 hrg)))))
      clear hrg hlen hp hnd hsub hbel hs2
      have HG := Lib.hid hgrp2
      have HM := Lib.hid hmap
      obtain ⟨u, hu⟩ : ∃ u, u = (lkp ents c).getD (.slice none 0 0) := ⟨_, rfl⟩
      have HU := Lib.hid hu
      rw [← hu] at hown2
      have hne : some w.heap.size ≠ u.ownBlock := fun e => by have := (hown2.lt _ e.symm).1; omega
      clear hgrp hgrp2 hmap hu
      (try go_frame)
      go_wp2_with (first
        | (at_lookup; refine wpx_lookup _ rfl _ _ 39 false rfl 3 41 Try.underlying39 Try.underlying3 _ (zero41 _) _ _ c rfl rfl hmap2 ?_; simp only [Bool.false_eq_true, if_false]; rw [← HU.out])
        | (at_builtin; refine wpx_append elT41 _ rfl (.tmp 20) (.tmp 22) rfl (w.heap.size + 2) u _ _ rfl (hown2.alloc _) ⟨w2.heap.size, 0, none⟩ 1 1 [.int .i64 x] rfl rfl (cells_new w2 [.int .i64 x] _) (by simp [Value.oneCell']) (by omega) (by unfold maxLen; omega) (by simp; omega) ?_; intro v' w3 hown3 hg3 hnil3 hat3)
        | (at_mapUpdate; refine wpx_update _ rfl _ _ _ 39 rfl 3 41 Try.underlying39 Try.underlying3 _ _ c v' rfl rfl rfl ((hmap2.alloc _).grown hg3 hne) ?_; intro w4 hm4 hg4 hs4))
      go_frame
      go_roundw
      case rel =>

        obtain ⟨hp, hnd, hbel, hlen, hs2, hrg⟩ := HX.out
        have HG' := HG.out
        have hr4 := ((hr2.alloc' (.cells #[.int .i64 x] 2)).grown hg3 (by intro e; have := (hown2.lt _ e.symm).1; omega) (by intro e; have := (hown2.lt _ e.symm).1; omega)).grown hg4 (by simp) (by simp; omega)
        refine ⟨_, vis ++ [(x, c)], _, hr4, ?_, hm4, ?_, ?_, ?_⟩
        · rw [colEnts_append]
          refine List.Perm.trans ?_ hp
          rw [List.append_assoc]
          refine List.Perm.append_left _ ?_
          exact (perm_step hnd hin).symm
        · rw [idsOf_snoc]
          exact HG'.step c x (World.grownBy_alloc w2 _ none) (by simpa using hown3) (by rw [← HU.out]; exact hg3) (by rw [← HU.out]; simpa using hat3) hg4 (by omega)
        · exact (((hbel.grown hg2 hbel.size (by simp)).alloc (by omega) _).grown hg3 (by simp; omega) (fun k hk => by have := (hown2.lt _ hk).1; omega)).grown hg4 (by have := hg3.size; simp at this; omega) (by simp)
        · have := hg3.size; simp at this; omega
      case measure =>
        obtain ⟨hp, hnd, hbel, hlen, hs2, hrg⟩ := HX.out
        have hr4 := ((hr2.alloc' (.cells #[.int .i64 x] 2)).grown hg3 (by intro e; have := (hown2.lt _ e.symm).1; omega) (by intro e; have := (hown2.lt _ e.symm).1; omega)).grown hg4 (by simp) (by simp; omega)
        rw [hr4.len, hlen, (perm_step hnd hin).length_eq]
        simp
end Go.Proofs.Ytamjgkoegkgodaa
