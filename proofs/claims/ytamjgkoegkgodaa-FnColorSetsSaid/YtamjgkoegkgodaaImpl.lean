/- impl.Sets, the walk. -/
import Derived.Test.YtamjgkoegkgodaaCmp
import Derived.Test.YtamjgkoegkgodaaCol
namespace Go.Proofs.Ytamjgkoegkgodaa
open Go.RowKit Go.Sort Go.Shelf

theorem elT29 : ElT Try.prog 29 3 1 8 (.int .i64 0) := ⟨Try.underlying29, by kernel_rfl, rfl, by decide⟩
theorem elT25 : ElT Try.prog 25 31 2 32 (.agg #[.int .i64 0, .slice none 0 0]) := ⟨Try.underlying25, by kernel_rfl, rfl, by decide⟩

/-- the set x's nodes are xs -/
def NodesOf (w : World) (base : Nat) (x : SetV) (xs : List Int) : Prop := w.ownsRow base 3 1 x.val xs.length (xs.map (Value.int .i64))

def srt (xs : List Int) : List Int := xs.mergeSort (fun x y => decide (x ≤ y))

/-- what impl.Sets leaves for a list of pairs, each node once -/
def GoodSets (l : List (Int × Int)) (w w' : World) (v : Value) : Prop :=
  ∃ (vis : List (Int × Int)) (l' : List SetV), List.Perm vis l ∧ (∀ c, c ∈ l'.map (·.1) ↔ idsOf vis c ≠ []) ∧ l'.Pairwise (fun x y => x.1 < y.1) ∧
    w'.ownsRow w.heap.size 31 2 v l'.length (l'.flatMap encSet) ∧ ∀ x ∈ l', NodesOf w' w.heap.size x (srt (idsOf vis x.1))

def SetsDone (l : List (Int × Int)) (w : World) (e : Ending) (w' : World) : Prop :=
  Below w.heap.size w w' ∧
    ((¬ (l.map (·.1)).Nodup ∧ e = .returned (.tuple #[.slice none 0 0, .bool true])) ∨
     ((l.map (·.1)).Nodup ∧ ∃ v, e = .returned (.tuple #[v, .bool false]) ∧ GoodSets l w w' v))

theorem snocInd {α : Type} {p : List α → Prop} (h0 : p []) (h1 : ∀ l x, p l → p (l ++ [x])) (l : List α) : p l := by
  have : ∀ l : List α, p l.reverse := by
    intro l
    induction l with
    | nil => exact h0
    | cons x l ih => rw [List.reverse_cons]; exact h1 _ _ ih
  have h := this l.reverse
  rwa [List.reverse_reverse] at h

theorem colMap_facts (l : List (Int × Int)) : (colMap l).length ≤ l.length ∧ (∀ c, c ∈ (colMap l).map (·.1) ↔ c ∈ l.map (·.1)) ∧ ((colMap l).length = l.length → (l.map (·.1)).Nodup) ∧ ((l.map (·.1)).Nodup → colMap l = colEnts l) := by
  refine snocInd (p := fun l => (colMap l).length ≤ l.length ∧ (∀ c, c ∈ (colMap l).map (·.1) ↔ c ∈ l.map (·.1)) ∧ ((colMap l).length = l.length → (l.map (·.1)).Nodup) ∧ ((l.map (·.1)).Nodup → colMap l = colEnts l)) ?_ ?_ l
  · simp [colMap, colEnts]
  · intro l p ⟨h1, h2, h3, h4⟩
    rw [colMap_snoc]
    by_cases hp : p.1 ∈ (colMap l).map (·.1)
    · have hlen : (upd (colMap l) p.1 (.int .i64 p.2)).length = (colMap l).length := by
        unfold upd
        rw [if_pos (any_key.2 hp), List.length_map]
      have hpl := (h2 _).1 hp
      refine ⟨by rw [hlen]; simp; omega, fun c => ?_, fun h => ?_, fun h => ?_⟩
      · rw [upd_keys, h2]
        simp [or_comm]
      · rw [hlen] at h; simp at h; omega
      · rw [List.map_append, List.nodup_append] at h
        exact absurd rfl (h.2.2 _ hpl _ (by simp))
    · rw [upd_new hp]
      have hpl : p.1 ∉ l.map (·.1) := fun h => hp ((h2 _).2 h)
      refine ⟨by simp; omega, fun c => ?_, fun h => ?_, fun h => ?_⟩
      · have := h2 c
        simp only [List.map_append, List.mem_append, this]
        simp
      · simp at h
        rw [List.map_append, List.nodup_append]
        refine ⟨h3 h, by simp, ?_⟩
        intro a ha b hb
        simp at hb
        subst hb
        exact fun e => hpl (e ▸ ha)
      · rw [List.map_append, List.nodup_append] at h
        rw [h4 h.1, colEnts_append]
        rfl

theorem block_setCell {w : World} {S : Nat} {a b c : Value} {T : TypeId} (h : w.heap[S]? = some (.cells #[a, b] T (0, 0))) :
    (w.setCell ⟨S, 1, none⟩ c).heap[S]? = some (.cells #[a, c] T (0, 0)) := by
  have hlt := (Array.getElem?_eq_some_iff.1 h).1
  simp [World.setCell, Array.getElem?_modify, h]


def NilSets (w : World) (e : Ending) (w' : World) : Prop := Below w.heap.size w w' ∧ ∃ b, e = .returned (.map (some b)) ∧ MapIs w' b [] ∧ w.heap.size ≤ b

set_option maxHeartbeats 400000 in
theorem sets_nil (w : World) : Calls Try.prog 10 #[.map none] w (NilSets w) := by
  have hmm := @run_makeMap Try.prog
  have hr1 := fun w => run_range_nilMap (P := Try.prog) w 36 2 3 Try.underlying36
  have hn1 := fun ty => run_next_nilMap (P := Try.prog) (w.alloc (.map #[] 0)) ty 0 0 #[]
  rw [show (w.alloc (Obj.map #[] 0)).heap.size = w.heap.size + 1 by simp] at hn1
  have hm1 : MapIs ((w.alloc (.map #[] 0)).alloc (.mapIter none 0 #[] 0)) w.heap.size [] := (MapIs.made w).alloc _
  have hb1 : Below w.heap.size w ((w.alloc (.map #[] 0)).alloc (.mapIter none 0 #[] 0)) := ((Below.refl _ _).alloc (Nat.le_refl _) _).alloc (by simp) _
  go_enter Try.func10, Try.ntmps10
  go_wp2_with fail
  clear hr1 hmm
  go_loopw [4, 5, 11] (fun _ _ _ wr => wr = (w.alloc (.map #[] 0)).alloc (.mapIter none 0 #[] 0)) (fun _ _ _ wr => 0)
  case atStart => rfl
  case round =>
    subst hrel
    go_wp2_with (at_range; refine wpx_range _ rfl _ 39 rfl 3 41 Try.underlying39 w.heap.size _ rfl hm1 (w.heap.size + 2) (by simp) ?_; intro w2 hr2 hg2 hs2)
    go_frame
    have hb2 := hb1.grown hg2 hb1.size (by simp)
    clear hg2 hs2 hb1 hm1 hn1
    go_loopw [7, 26] (fun _ _ w3 => w3 = w2) (fun _ _ _ => 0)
    case atStart => rfl
    case round =>
      subst hrel
      go_wp2_with (at_next; refine wpx_next _ rfl _ rfl (w.heap.size + 2) w.heap.size _ _ rfl hr2 ?_ ?_)
      go_ret
      exact ⟨hb2, _, rfl, hr2.map, Nat.le_refl _⟩

theorem Below.asGrown {w w' : World} (h : Below w.heap.size w w') : w.grownBy w' none := ⟨h.os, h.tape, h.output, h.size, fun k hk _ => h.block k hk⟩
theorem grown_below {w w' : World} (h : w.grownBy w' none) : Below w.heap.size w w' := ⟨h.os, h.tape, h.output, h.size, fun k hk => h.block k hk (by simp)⟩

theorem own_slice {w : World} {base : Nat} {e : TypeId} {size : Nat} {v : Value} {n : Nat} {xs : List Value} (h : w.ownsRow base e size v n xs) : ∃ a k c, v = .slice a k c := by
  rcases h.2 with ⟨h, _⟩ | ⟨g, cap, cur, h, _⟩
  · exact ⟨_, _, _, h⟩
  · exact ⟨_, _, _, h⟩
theorem addr_add (g o j : Nat) : (⟨g, o, none⟩ : Addr).add j = ⟨g, o + j, none⟩ := by unfold Addr.add; split <;> simp_all
theorem grown_setCell (w : World) (S j : Nat) (v : Value) : w.grownBy (w.setCell ⟨S, j, none⟩ v) (some S) :=
  ⟨rfl, rfl, rfl, by simp [World.setCell], fun i _ hne => Below.heap_setCell _ _ _ _ (fun e => hne (by rw [e]))⟩
/-- new blocks, and writes to blocks from S on, S the heap's size -/
theorem grown_new {a b c : World} (h : a.grownBy b none) {row : Option Nat} (hg : b.grownBy c row) (hr : ∀ k, row = some k → a.heap.size ≤ k) : a.grownBy c none :=
  ⟨hg.os.trans h.os, hg.tape.trans h.tape, hg.output.trans h.output, Nat.le_trans h.size hg.size, fun k hk _ => (hg.block k (Nat.lt_of_lt_of_le hk h.size) (fun e => by have := hr k e.symm; omega)).trans (h.block k hk (by simp))⟩
theorem own_new {w w' : World} {base : Nat} {e : TypeId} {size : Nat} {v : Value} {n : Nat} {xs : List Value} (h : w.ownsRow base e size v n xs) (hg : w.grownBy w' none) : w'.ownsRow base e size v n xs :=
  h.kept hg (by cases v.ownBlock <;> simp)
theorem own_mono {w : World} {base base' : Nat} {e : TypeId} {size : Nat} {v : Value} {n : Nat} {xs : List Value} (h : w.ownsRow base e size v n xs) (hb : base' ≤ base) : w.ownsRow base' e size v n xs := by
  refine ⟨h.1, ?_⟩
  rcases h.2 with h2 | ⟨g, cap, cur, h3, h4, h5⟩
  · exact .inl h2
  · exact .inr ⟨g, cap, cur, h3, Nat.le_trans hb h4, h5⟩
theorem cell_at {w : World} {S j : Nat} {c : Array Value} {T : TypeId} {f : Nat × Nat} (h : w.heap[S]? = some (.cells c T f)) : w.cell? ⟨S, j, none⟩ = c[j]? := by simp [World.cell?, h]
theorem free_at {w : World} {S j : Nat} {c : Array Value} {T : TypeId} (h : w.heap[S]? = some (.cells c T (0, 0))) : w.frozen? ⟨S, j, none⟩ = false := by simp [World.frozen?, h]
theorem grown_cell {w w' : World} {row : Option Nat} (h : w.grownBy w' row) {g j : Nat} (hg : g < w.heap.size) (hr : some g ≠ row) : w'.cell? ⟨g, j, none⟩ = w.cell? ⟨g, j, none⟩ := World.cell?_of_block (w := w) (h.block g hg hr)

/-- the inner loop: the set in block S has the first k numbers -/
def LoopB (w4 : World) (S : Nat) (x : Int) (zs : List Int) (k : Nat) (wi : World) : Prop :=
  ∃ nv, wi.heap[S]? = some (.cells #[.int .i64 x, nv] 31 (0, 0)) ∧ wi.ownsRow S 3 1 nv k ((zs.take k).map (Value.int .i64)) ∧ w4.grownBy wi none

/-- the outer loop of impl.Sets: 'done' are the sets that lie in the row v -/
def LoopA (w0 : World) (B r b : Nat) (ents : Ents) (ids : Int → List Int) (v : Value) (wr : World) : Prop :=
  ∃ (left : Ents) (done : List SetV), RangeIs wr r b ents left ∧ Grp wr (b + 2) ents ids ∧ Below B w0 wr ∧ r < wr.heap.size ∧ B ≤ b ∧ B ≤ r ∧
    wr.ownsRow B 31 2 v done.length (done.flatMap encSet) ∧ (∀ x ∈ done, NodesOf wr B x (ids x.1)) ∧ (done.map (·.1) ++ left.map (·.1)).Perm (ents.map (·.1))

theorem row_ne_row {w : World} {b1 b2 : Nat} {e1 e2 : TypeId} {s1 s2 : Nat} {v1 v2 : Value} {n1 n2 : Nat} {x1 x2 : List Value} (h1 : w.ownsRow b1 e1 s1 v1 n1 x1) (h2 : w.ownsRow b2 e2 s2 v2 n2 x2) (he : e1 ≠ e2) : v1.ownBlock = none ∨ v1.ownBlock ≠ v2.ownBlock := by
  cases hv : v1.ownBlock with
  | none => exact .inl rfl
  | some g =>
    right
    intro e
    obtain ⟨c1, hc1⟩ := ownBlock_cells h1 hv
    obtain ⟨c2, hc2⟩ := ownBlock_cells h2 e.symm
    rw [hc1] at hc2
    simp at hc2
    exact he hc2.2

set_option maxHeartbeats 1000000 in
theorem implSets_some (v : Value) (l : List (Int × Int)) (w : World) (hv : PairsAt w v l) (hm : l.length ≤ 100) (hl : l ≠ []) (hn : (l.map (·.1)).Nodup) :
    Calls Try.prog 4 #[v] w (SetsDone l w) := by
  have hcol := colored_any v l w hv hm
  go_enter Try.func4, Try.ntmps4
  go_wp2_with fail
  refine hcol.mono ?_
  rintro e w1 ⟨hb1, ⟨h0, _⟩ | ⟨_, b1, rfl, hmap, hB1⟩⟩
  · exact absurd h0 hl
  have hfacts := colMap_facts l
  have hcm := hfacts.2.2.2 hn
  rw [hcm] at hmap ⊢
  have hlen : (((colEnts l).length : Int) == (l.length : Int)) = true := by simp [length_colEnts]
  rw [hlen]
  clear hlen hcm hfacts
  have hsets := sets_any sortI b1 l w1 hmap hm
  go_wp2_with (go_at_call 10; refine hsets.mono ?_)
  rintro e w2 ⟨hb2, b, ents, vis, rfl, hm2, hB2, hperm, hgrp⟩
  have hb12 : Below w.heap.size w w2 := hb1.trans (hb2.mono hb1.size)
  have hBb : w.heap.size ≤ b := Nat.le_trans hb1.size hB2
  go_wp2_with (at_range; refine wpx_range _ rfl _ 39 rfl 3 41 Try.underlying39 b _ rfl hm2 w2.heap.size rfl ?_; intro w3 hr3 hg3 hs3)
  (try go_frame)
  have hb3 := hb12.grown hg3 hb12.size (by simp)
  have hgrp3 := hgrp.kept hg3 (by simp)
  have hrB : w.heap.size ≤ w2.heap.size := hb12.size
  obtain ⟨r, hr⟩ : ∃ r, r = w2.heap.size := ⟨_, rfl⟩
  rw [← hr] at hr3 hs3 hrB ⊢
  have hvl : vis.length = l.length := hperm.length_eq
  have hids : ∀ c, (srt (idsOf vis c)).length ≤ 100 := fun c => by
    unfold idsOf srt
    rw [List.length_mergeSort, List.length_map]
    have := List.length_filter_le (fun p : Int × Int => p.2 == c) vis
    omega
  have hel : ents.length ≤ 100 := by
    have h1 : (ents.map (·.1)).length ≤ (vis.map (·.2)).length := by
      refine List.Nodup.length_le_of_subset hm2.nodup ?_
      intro c hc
      have := (hgrp.keys c).1 hc
      cases hf : vis.filter (fun p => p.2 == c) with
      | nil => exact absurd (by simp [idsOf, hf]) this
      | cons p t =>
        have hp : p ∈ vis.filter (fun p => p.2 == c) := by rw [hf]; exact List.mem_cons_self ..
        have := List.mem_filter.1 hp
        exact List.mem_map.2 ⟨p, this.1, by simpa using this.2⟩
    simp at h1
    omega
  have HP := Lib.hid hperm
  have HI := Lib.hid hids
  clear hm2 hgrp hb12 hb2 hb1 hg3 hsets hmap hcol hr hperm hids hB1 hB2
  go_loopw [2, 6, 7, 8, 10, 21] (fun v _ _ _ _ _ wr => LoopA w w.heap.size r b ents (fun c => srt (idsOf vis c)) v wr) (fun _ _ _ _ _ _ wr => leftLen wr r b)
  case atStart =>
    exact ⟨ents, [], hr3, hgrp3, hb3, by omega, hBb, hrB, World.ownsRow_nil _ _ _ _, by simp, by simp⟩
  case round =>
    obtain ⟨left, done, hrg, hgrp, hbel, hrlt, -, -, hown, hnodes, hpm⟩ := hrel
    have hlen := hrg.len
    have hnd := hrg.nodup
    have hsub := hrg.sub
    have hmap := hrg.map
    go_wp2_with (at_next; refine wpx_next _ rfl _ rfl r b _ _ rfl hrg ?_ ?_)
    · intro hl0
      subst hl0
      have hpm' : (done.map (·.1)).Perm (ents.map (·.1)) := by simpa using hpm
      have hkeys := hgrp.keys
      have hdn : done ≠ [] := by
        rintro rfl
        have h1 : ents = [] := by simpa using hpm'
        have hp := HP.out
        cases vis with
        | nil => exact hl (by simpa using hp)
        | cons p vis =>
          have := (hkeys p.2).2 (by
            intro hh
            have := congrArg List.length hh
            simp [srt, idsOf] at this)
          rw [h1] at this
          cases this
      have hdl : done.length ≤ 1000000 := by
        have := hpm'.length_eq
        simp at this
        omega
      have hsort := sortSets wr _ u2 done hown hdn hdl
      have HX := Lib.hid (And.intro hpm' (And.intro hkeys (And.intro hnodes (And.intro hmap.nodup (And.intro hbel hown)))))
      clear hpm hpm' hkeys hnodes hmap hgrp hrg hlen hnd hsub hown hbel
      go_wp2_with (go_at_call 11; refine hsort.mono ?_; rintro e w5 ⟨rfl, l', hp5, hpw5, hown5, hg5⟩)
      go_ret2
      obtain ⟨hpm, hkeys, hnodes, hnd, hbel, hown⟩ := HX.out
      have hk5 : (l'.map (·.1)).Perm (ents.map (·.1)) := (hp5.map _).trans hpm
      refine ⟨hbel.grown hg5 hbel.size (fun k hk => (hown.lt _ hk).1), .inr ⟨hn, _, rfl, vis, l', HP.out, fun c => ?_, ?_, hown5, fun y hy => ?_⟩⟩
      · rw [hk5.mem_iff, hkeys]
        constructor
        · intro h1 h2
          rw [h2] at h1
          exact h1 (by simp [srt])
        · intro h1 h2
          apply h1
          have := congrArg List.length h2
          simp [srt] at this
          exact this
      · have hnl : (l'.map (·.1)).Nodup := hk5.nodup_iff.2 hnd
        rw [List.Nodup, List.pairwise_map] at hnl
        refine (hpw5.and hnl).imp ?_
        intro a c ⟨h1, h2⟩
        omega
      · have hy' := hnodes y (hp5.mem_iff.1 hy)
        exact World.ownsRow.kept hy' hg5 (row_ne_row hy' hown (by decide))
    · intro x u w4 hin hr4 hg4 hs4 hent
      have hgrp4 := hgrp.kept' hg4 (fun p hp => row_ne_iter' (hgrp.own p hp) hrg)
      have hu : w4.ownsRow (b + 2) 2 1 u (srt (idsOf vis x)).length ((srt (idsOf vis x)).map (Value.int .i64)) := hgrp4.own _ (hsub _ hin)
      rcases hu.2 with ⟨_, h0⟩ | ⟨g, cap, cur, rfl, hbg, hg, hn1, hn2, hn3, htk⟩
      · exact absurd (List.eq_nil_of_length_eq_zero h0) ((hgrp4.keys x).1 (List.mem_map.2 ⟨_, hsub _ hin, rfl⟩))
      have hzl := HI.out x
      obtain ⟨zs, hzs⟩ : ∃ zs, zs = srt (idsOf vis x) := ⟨_, rfl⟩
      rw [← hzs] at hzl hu htk hn1 hent hin ⊢
      have hcells := hu.cells (g := g) rfl
      have hgl : g < w4.heap.size := (Array.getElem?_eq_some_iff.1 hg).1
      obtain ⟨S, hS⟩ : ∃ S, S = w4.heap.size := ⟨_, rfl⟩
      have HZ := Lib.hid hzs
      have HR := Lib.hid (And.intro hlen (And.intro hnd (And.intro hbel (And.intro hrlt (And.intro hown (And.intro hnodes (And.intro hpm (And.intro hrg (And.intro hsub (And.intro hg4 (And.intro hgrp4 (And.intro hu (And.intro hr4 hs4)))))))))))))
      have HS := Lib.hid hS
      have HCc := Lib.hid (And.intro hcells htk)
      clear hzs hlen hnd hbel hrlt hown hnodes hpm hrg hsub hg4 hgrp4 hu hr4 hgrp hmap hcells htk hs4 hS
      go_wp2_with fail
      rw [← HS.out]
      obtain ⟨wo, rfl⟩ : ∃ wo : World, wo = wr := ⟨_, rfl⟩
      go_loopw [10, 30] (fun _ i wi => ∃ k : Nat, k ≤ zs.length ∧ i = .int .i64 k ∧ LoopB w4 S x zs k wi) (fun _ i _ => zs.length - (intOf i).toNat)
      case atStart =>
        refine ⟨0, by omega, rfl, _, ?_, World.ownsRow_nil _ _ _ _, World.grownBy_alloc _ _ _⟩
        rw [HS.out]; exact heap_alloc_new _ _
      case round =>
        obtain ⟨k, hk, rfl, nv, hSb, hnv, hgr⟩ := hrel
        by_cases hlt : k < zs.length
        · have hci : wr.cell? ⟨g, k, none⟩ = some (.int .i64 zs[k]) := by
            rw [grown_cell hgr hgl (by simp)]
            have := HCc.out.1 k (.int .i64 zs[k]) (by simp [hlt])
            rw [addr_add] at this
            simpa using this
          have hcs : wr.cell? ⟨S, 1, none⟩ = some nv := cell_at hSb
          have hSl : S < wr.heap.size := (Array.getElem?_eq_some_iff.1 hSb).1
          have hnS : nv.ownBlock ≠ some S := by
            intro e
            obtain ⟨c, hc⟩ := ownBlock_cells hnv e
            rw [hSb] at hc
            simp at hc
          have hkl : k ≤ 100 := by omega
          have HG := Lib.hid hgr
          have HX := Lib.hid hSb
          have hwsz : w.heap.size ≤ wr.heap.size := by
            have h1 := HR.out.2.2.1.size
            have h2 := hgr.size
            have h3 := HR.out.2.2.2.2.2.2.2.2.2.1.size
            omega
          clear hgr hSb
          go_wp2_with (at_builtin; refine wpx_append elT29 _ rfl (.tmp 35) (.tmp 37) rfl S nv _ _ rfl (hnv.alloc _) ⟨wr.heap.size, 0, none⟩ 1 1 [.int .i64 zs[k]] rfl rfl (cells_new wr [.int .i64 zs[k]] _) (by simp [Value.oneCell']) (by omega) (by unfold maxLen; omega) (by simp; omega) ?_; intro v' w5 hown5 hg5 hnil5 hat5; obtain ⟨va, vn, vc, rfl⟩ := own_slice hown5; have hb5 : w5.heap[S]? = some (.cells #[.int .i64 x, nv] 31 (0, 0)) := (hg5.block S (by simp; omega) hnS.symm).trans ((Below.heap_alloc _ _ _ hSl).trans HX.out); have hc5 : w5.cell? ⟨S, 1, none⟩ = some nv := cell_at hb5; have hf5 : w5.frozen? ⟨S, 1, none⟩ = false := free_at hb5; have HB5 := Lib.hid hb5; clear hb5)
          go_roundw
          case rel =>
            have hSb5 := HB5.out
            refine ⟨k + 1, by omega, by go_num, .slice va vn vc, block_setCell hSb5, ?_, ?_⟩
            · have h5 := hown5.kept (w' := w5.setCell ⟨S, 1, none⟩ (.slice va vn vc)) (row := some S) ⟨rfl, rfl, rfl, by simp [World.setCell], fun i hi hne => Below.heap_setCell _ _ _ _ (fun e => hne (by rw [e]))⟩ ?_
              · rw [List.take_succ_eq_append_getElem hlt, List.map_append]
                exact h5
              · right
                intro e
                obtain ⟨c, hc⟩ := ownBlock_cells hown5 e
                rw [hSb5] at hc
                simp at hc
            · refine grown_new (grown_new (grown_new HG.out (World.grownBy_alloc _ _ none) (by simp)) hg5 (fun k hk => by rw [← HS.out]; exact (hnv.lt _ hk).1)) (grown_setCell _ _ _ _) (fun k hk => by cases hk; rw [HS.out]; exact Nat.le_refl _)
          case measure => simp [intOf]; omega
        · obtain rfl : k = zs.length := by omega
          obtain ⟨va, vn, vc, rfl⟩ := own_slice hnv
          rw [List.take_length] at hnv
          obtain ⟨hlen, hnd, hbel, hrlt, hown, hnodes, hpm, hrg, hsub, hg4, hgrp4, hu, hr4, hs4⟩ := HR.out
          have hownr := own_new (hown.kept hg4 (.inr (row_ne_iter' hown hrg))) hgr
          have hwr : w4.heap.size ≤ wr.heap.size := hgr.size
          have hdl : done.length ≤ 100 := by
            have := hpm.length_eq
            simp at this
            omega
          have hwsz : w.heap.size ≤ wr.heap.size := by have := hbel.size; omega
          have hc0 : wr.cell? ⟨S, 0, none⟩ = some (.int .i64 x) := cell_at hSb
          have hc1 : wr.cell? ⟨S, 1, none⟩ = some (.slice va vn vc) := cell_at hSb
          have HG := Lib.hid hgr
          have HN := Lib.hid (And.intro hnd (And.intro hbel (And.intro hnodes (And.intro hpm (And.intro hsub (And.intro hgrp4 (And.intro hr4 (And.intro hnv (And.intro hlen (And.intro hSb (And.intro hg4 hrg)))))))))))
          clear hlen hnd hbel hrlt hown hnodes hpm hrg hsub hg4 hgrp4 hu hr4 hs4 HR hgr hnv hSb
          go_wp2_with (at_builtin; refine wpx_append elT25 _ rfl (.tmp 41) (.tmp 43) rfl w.heap.size u2 _ _ rfl (hownr.alloc _) ⟨wr.heap.size, 0, none⟩ 1 1 [.int .i64 x, .slice va vn vc] rfl rfl (cells_new wr [.int .i64 x, .slice va vn vc] _) (by simp [Value.oneCell']) (by omega) (by unfold maxLen; omega) (by simp; omega) ?_; intro v' w5 hown5 hg5 hnil5 hat5)
          obtain ⟨hnd, hbel, hnodes, hpm, hsub, hgrp4, hr4, hnv, hlen, hSb, hg4, hrg⟩ := HN.out
          have hgr := HG.out
          have hgrA : w4.grownBy (wr.alloc (.cells #[.int .i64 x, .slice va vn vc] 31)) none := grown_new hgr (World.grownBy_alloc _ _ none) (by simp)
          have hrA := hr4.grown hgrA (by simp) (by simp)
          have hownA := hownr.alloc (.cells #[.int .i64 x, .slice va vn vc] 31)
          have hr5 := hrA.grown hg5 (row_ne_iter' hownA hrA).symm (row_ne_map hownA hrA.map).symm
          have hgrpA := hgrp4.kept hgrA (by simp)
          have hgrp5 := hgrpA.kept' hg5 (fun p hp => by
            rcases row_ne_row (hgrpA.own p hp) hownA (by decide) with h | h
            · obtain ⟨gg, e, _⟩ := hgrpA.blk hp
              rw [e] at h; cases h
            · exact h)
          have hkeep : ∀ (y : SetV) (ys : List Int), NodesOf (wr.alloc (.cells #[.int .i64 x, .slice va vn vc] 31)) w.heap.size y ys → NodesOf w5 w.heap.size y ys := fun y ys hy =>
            World.ownsRow.kept hy hg5 (row_ne_row hy hownA (by decide))
          try go_frame
          go_roundw
          case rel =>
            refine ⟨_, done ++ [(x, va, vn, vc)], hr5, hgrp5, ?_, ?_, hBb, hrB, ?_, ?_, ?_⟩
            · have h1 : w4.heap.size ≤ (wr.alloc (.cells #[.int .i64 x, .slice va vn vc] 31)).heap.size := hgrA.size
              have h2 := hg4.size
              exact ((hbel.grown hg4 hbel.size (by simpa using hrB)).grown hgrA (by have := hbel.size; omega) (by simp)).grown hg5 (by have := hbel.size; omega) (fun k hk => (hownA.lt _ hk).1)
            · exact hr5.lt
            · simpa [encSet, SetV.val] using hown5
            · intro y hy
              refine hkeep _ _ ?_
              rcases List.mem_append.1 hy with hy | hy
              · exact own_new (World.ownsRow.kept (hnodes y hy) hg4 (.inr (row_ne_iter' (hnodes y hy) hrg))) hgrA
              · have : y = (x, va, vn, vc) := by simpa using hy
                subst this
                show World.ownsRow _ _ _ _ (SetV.val (x, va, vn, vc)) (srt (idsOf vis x)).length ((srt (idsOf vis x)).map (Value.int .i64))
                rw [← HZ.out]
                exact own_new (own_mono hnv (by have := hbel.size; have := hg4.size; have := HS.out; omega)) (World.grownBy_alloc _ _ none)
            · refine List.Perm.trans ?_ hpm
              rw [List.map_append, List.append_assoc]
              refine List.Perm.append_left _ ?_
              have := (perm_step hnd hin).map (·.1)
              simpa using this.symm
          case measure =>
            rw [hr5.len, hlen, (perm_step hnd hin).length_eq]
            simp

set_option maxHeartbeats 400000 in
theorem implSets_twice (v : Value) (l : List (Int × Int)) (w : World) (hv : PairsAt w v l) (hm : l.length ≤ 100) (hn : ¬ (l.map (·.1)).Nodup) :
    Calls Try.prog 4 #[v] w (SetsDone l w) := by
  have hcol := colored_any v l w hv hm
  go_enter Try.func4, Try.ntmps4
  go_wp2_with fail
  refine hcol.mono ?_
  rintro e w1 ⟨hb1, ⟨rfl, _⟩ | ⟨_, b1, rfl, hmap, hB1⟩⟩
  · exact absurd (by simp) hn
  have hfacts := colMap_facts l
  have hlen : (((colMap l).length : Int) == (l.length : Int)) = false := by
    have : (colMap l).length ≠ l.length := fun h => hn (hfacts.2.2.1 h)
    simp
    omega
  rw [hlen]
  clear hlen hfacts
  go_wp2_with fail
  go_ret2
  exact ⟨hb1, .inl ⟨hn, rfl⟩⟩

theorem GoodSets.nil {w w' : World} : GoodSets [] w w' (.slice none 0 0) :=
  ⟨[], [], List.Perm.refl _, by simp [idsOf], by simp, World.ownsRow_nil _ _ _ _, by simp⟩

set_option maxHeartbeats 400000 in
theorem implSets_nil (v : Value) (w : World) (hv : PairsAt w v []) : Calls Try.prog 4 #[v] w (SetsDone [] w) := by
  have hcol := colored_any v [] w hv (by simp)
  have hsets := sets_nil
  have hsort := fun fv w => AnyF.slices_SortFunc_none Try.sortSet none 0 fv w
  go_enter Try.func4, Try.ntmps4
  go_wp2_with fail
  refine hcol.mono ?_
  rintro e w1 ⟨hb1, ⟨_, rfl⟩ | ⟨h0, _⟩⟩
  · go_wp2_with (go_at_call 10; refine (hsets _).mono ?_)
    rintro e w2 ⟨hb2, b, rfl, hm2, hB2⟩
    go_wp2_with (at_range; refine wpx_range _ rfl _ 39 rfl 3 41 Try.underlying39 b _ rfl hm2 w2.heap.size rfl ?_; intro w3 hr3 hg3 hs3)
    (try go_frame)
    have hb3 := (hb1.trans (hb2.mono hb1.size)).grown hg3 (hb1.trans (hb2.mono hb1.size)).size (by simp)
    clear hb2 hb1 hg3 hs3 hm2 hcol hsets
    go_loopw [2, 6, 7, 8, 10, 21] (fun v _ _ _ _ _ wr => v = .slice none 0 0 ∧ wr = w3) (fun _ _ _ _ _ _ wr => 0)
    case atStart => exact ⟨rfl, rfl⟩
    case round =>
      obtain ⟨rfl, rfl⟩ := hrel
      go_wp2_with (at_next; refine wpx_next _ rfl _ rfl w2.heap.size b _ _ rfl hr3 ?_ ?_)
      have hs := hsort (.func (.func 12) #[] #[]) wr
      change Calls Try.prog 11 _ _ _ at hs
      refine hs.mono ?_
      rintro e w' ⟨rfl, rfl⟩
      go_wp2_with fail
      go_ret2
      exact ⟨hb3, .inr ⟨by simp, _, rfl, GoodSets.nil⟩⟩
  · exact absurd rfl h0
end Go.Proofs.Ytamjgkoegkgodaa
