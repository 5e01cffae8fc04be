/- linear.NodeQueue within a BreadthFirst: Enqueue. -/
import Derived.Test.YtdllkoiddlcnmabQu
import Derived.Deep.RegionLaw
namespace Go.Proofs.Ytdllkoiddlcnmab
open Go.MapKept Go.RowKit

/-- copy within a row of the call's own, as a step of a region that draws -/
theorem stepx_copy {P : Program} {ops : Array Oper} {o : Oper} {a : Act} {w : World} {K : Act → World → Prop} {Q : Exit → Act → World → Prop} {F : Prop} (hgd : o.guard = none) (d s : Operand) (dT sT : TypeId)
    (ho : o.op = .call { callee := .builtin .copy, args := #[d, s], argTypes := #[dT, sT] }) (elem : TypeId) (hu : P.underlying dT = some (.slice elem)) (hsz : (P.info? elem).map (·.size) = some 1)
    (g off dLen dCap : Nat) (ad : Addr) (sLen sCap : Nat) (hd : a.eval d = .slice (some ⟨g, off, none⟩) dLen dCap) (hs : a.eval s = .slice (some ad) sLen sCap)
    (cur : Array Value) (t : TypeId) (hg : w.heap[g]? = some (.cells cur t (0, 0))) (cs : List Value) (hn : cs.length = Nat.min sLen dLen)
    (hsrc : ∀ j v, cs[j]? = some v → w.cell? (ad.add j) = some v) (hfit : off + cs.length ≤ cur.size) (h1 : ∀ v ∈ cs, v.oneCell' = true)
    (h : ∀ w', w'.heap[g]? = some (.cells (cur.toList.take off ++ (cs ++ cur.toList.drop (off + cs.length))).toArray t (0, 0)) → w.grownBy w' (some g) → K (a.put o.dst (goInt cs.length)) w') :
    if Region.wanted o (yielded ops a.tmps) = true then Oper.wp P o a w K Q else F := by
  have hw : Region.wanted o (yielded ops a.tmps) = true := by simp [Region.wanted, hgd]
  rw [if_pos hw]
  have hrun := run_copy_row (P := P) w dT sT o.type elem g off dLen dCap ad sLen sCap cur t cs hu hsz hg hn hsrc hfit h1
  unfold Oper.wp
  simp [execOp, ho, resolve, invoke, builtin, hd, hs, hrun, Result.andThen]
  refine h _ ?_ ⟨rfl, rfl, rfl, by simp [World.setRow], fun k _ hk => setRow_other w g k _ (fun e => hk (by rw [e]))⟩
  have := setRow_heap w g cur (cur.toList.take off ++ cs ++ cur.toList.drop (off + cs.length)).toArray t (0, 0) hg
  simpa using this

def EnqPost (B b h : Nat) (x0 x1 x4 v : Value) (x : Int) (Q : List Int) (w : World) (e : Ending) (w' : World) : Prop :=
  e = .returned (.tuple #[]) ∧ ∃ (h' : Nat) (v' : Value), QR w' B b x0 x1 x4 h' v' (Q ++ [x]) ∧ h' ≤ h ∧ (∀ j, v'.ownBlock = some j → v.ownBlock = some j ∨ w.heap.size ≤ j) ∧ K2 b v.ownBlock w w'

set_option maxHeartbeats 4000000 in
set_option maxRecDepth 100000 in
/-- where there is room, or nothing stands ahead -/
theorem q_enq_a {w : World} {B b h N c : Nat} {a : Option Addr} {x0 x1 x4 : Value} {x : Int} {Q : List Int} (q : QR w B b x0 x1 x4 h (.slice a N c) Q) (hl : h + Q.length + 1 ≤ 1000000) (hB : B ≤ w.heap.size) (hc : N ≠ c ∨ h = 0) :
    Calls Try.prog 28 #[.pointer (some ⟨b, 2, none⟩), nodeV x] w (EnqPost B b h x0 x1 x4 (.slice a N c) x Q w) := by
  have hN : N = h + Q.length := by
    obtain ⟨a', c', e⟩ := own_slice q.row
    simp only [Value.slice.injEq] at e
    exact e.2.1
  have c2 : w.cell? ⟨b, 2, none⟩ = some (.int .i64 h) := cell_at q.blk
  have c3 : w.cell? ⟨b, 3, none⟩ = some (.slice a N c) := cell_at q.blk
  have hbl := block_lt q.blk
  have HX := Lib.hid (And.intro q (And.intro hN hl))
  have hl2 : N ≤ 1000000 := by omega
  obtain ⟨p, hp⟩ : ∃ p, ((N : Int) == (c : Int)) = p := ⟨_, rfl⟩
  have hpc : p = true → h = 0 := fun e => by
    rw [e, beq_iff_eq] at hp
    rcases hc with hc | hc
    · omega
    · exact hc
  have hh : p = true → decide (0 < h) = false := fun e => by have := hpc e; simp; omega
  have hh2 : p = true → ¬ (0 : Int) < (h : Int) := fun e => by have := hpc e; omega
  clear q hc hN hl hpc
  cases p
  all_goals
    simp only [forall_const, Bool.false_eq_true, false_implies] at hh hh2
    go_enter Try.func28, Try.ntmps28
    go_wp2_with fail
    go_quiet (fail)
    obtain ⟨w1, hw1⟩ : ∃ w1, w1 = w.drewN nq := ⟨_, rfl⟩
    rw [← hw1]
    have h01 : w.grownBy w1 none := by rw [hw1]; exact grown_drewN _ _
    have q1 := HX.out.1.grown h01 (by simp) (by cases h9 : (Value.slice a N c).ownBlock with | none => exact .inl rfl | some k => exact .inr (by simp))
    have d3 : w1.cell? ⟨b, 3, none⟩ = some (.slice a N c) := cell_at q1.blk
    have hbl1 := block_lt q1.blk
    have d3a : ∀ O, (w1.alloc O).cell? ⟨b, 3, none⟩ = some (.slice a N c) := fun O => (World.cell?_alloc_past O b 3 hbl1).trans d3
    have hN := HX.out.2.1
    have HO := Lib.hid (show (w1.alloc (.cells #[nodeV x] nodT)).ownsRow B nodT 1 (.slice a N c) N (List.replicate h .nilIface ++ Q.map nodeV) by rw [hN]; rw [hN] at q1; exact q1.row.alloc _)
    have HO3 := Lib.hid (And.intro (grown_block (grown_alloc w1 (.cells #[nodeV x] nodT)) q1.blk (by simp)) q1.ne)
    have HQ1 := Lib.hid (And.intro q1 h01)
    have hB1 : B ≤ w1.heap.size := Nat.le_trans hB h01.size
    clear hw1 q1 h01 c2 c3 hN
    go_wp2_with (at_builtin; refine wpx_app1 elN rfl (.tmp 58) (.tmp 60) rfl B (.slice a N c) N _ rfl HO.out w1.heap.size #[nodeV x] (heap_alloc_new w1 _) (w1.heap.size + 1) (by simp) 1 rfl rfl (by simp [Value.oneCell']) (by omega) (by unfold maxLen; omega) (by omega) ?_; intro g5 c5 w5 ho5 hg5 hat5 hlt5 hsz5; have hb5 := grown_block hg5 HO3.out.1 HO3.out.2; have hf5 : ∀ j, w5.frozen? ⟨b, j, none⟩ = false := (fun j => free_at hb5); have hc5 : w5.cell? ⟨b, 3, none⟩ = some (.slice a N c) := cell_at hb5)
    go_end0
    obtain ⟨q1, h01⟩ := HQ1.out
    have hN := HX.out.2.1
    have ho6 : w5.ownsRow B nodT 1 (.slice (some ⟨g5, 0, none⟩) (N + 1) c5) (h + (Q ++ [x]).length) (List.replicate h .nilIface ++ (Q ++ [x]).map nodeV) := by
      have e : h + (Q ++ [x]).length = N + 1 := by rw [hN, List.length_append]; rfl
      rw [e, List.map_append, ← List.append_assoc]
      exact ho5
    have hne5 : some b ≠ some g5 := by
      rcases hat5 with h | h
      · rw [← h]; exact q1.ne
      · intro e
        have e9 : b = g5 := by simpa using e
        have hbl9 := block_lt q1.blk
        omega
    refine ⟨rfl, h, _, ⟨block_set hb5 3 _, ho6.kept (grown_setCell w5 b 3 _) (.inr (by intro e; exact hne5 e.symm))⟩, Nat.le_refl _, ?_, ?_⟩
    · intro j hj
      have e9 : g5 = j := by simpa [Value.ownBlock] using hj
      subst e9
      rcases hat5 with h | h
      · exact .inl h
      · exact .inr (by have := h01.size; omega)
    · exact (((K2.none h01).trans (K2.none (row := (Value.slice a N c).ownBlock) (grown_alloc w1 (.cells #[nodeV x] nodT))) (fun j hj => .inl hj)).trans (K2.row hg5) (fun j hj => .inl hj)).trans (K2.at (row := (Value.slice a N c).ownBlock) (grown_setCell w5 b 3 _)) (fun j hj => .inl hj)

theorem own_head {w : World} {B g l N : Nat} {L xs : List Value} (hg : w.heap[g]? = some (.cells L.toArray nodT (0, 0))) (hB : B ≤ g) (hL : L.length = N) (hl : l ≤ N) (hN : N ≤ maxLen) (ht : L.take l = xs) (hx : xs.length = l) : w.ownsRow B nodT 1 (.slice (some ⟨g, 0, none⟩) l N) l xs :=
  ⟨by omega, .inr ⟨g, N, L.toArray, rfl, hB, hg, hl, hN, by simp [hL], by simpa using ht⟩⟩

set_option maxHeartbeats 4000000 in
set_option maxRecDepth 100000 in
/-- where the row is full and something is gone ahead: what is left is laid to the row's begin -/
theorem q_enq_b {w : World} {B b h N g : Nat} {x0 x1 x4 : Value} {x : Int} {Q : List Int} (q : QR w B b x0 x1 x4 h (.slice (some ⟨g, 0, none⟩) N N) Q) (hl : h + Q.length + 1 ≤ 1000000) (_hB : B ≤ w.heap.size) (hh : 0 < h) (hq : 0 < Q.length) :
    Calls Try.prog 28 #[.pointer (some ⟨b, 2, none⟩), nodeV x] w (EnqPost B b h x0 x1 x4 (.slice (some ⟨g, 0, none⟩) N N) x Q w) := by
  have hN : N = h + Q.length := by
    obtain ⟨a', c', e⟩ := own_slice q.row
    simp only [Value.slice.injEq] at e
    exact e.2.1
  have hlen := fun nq => q_len (q.grown (grown_drewN w nq) (by simp) (.inr (by simp [Value.ownBlock]))) (by omega)
  have c2 : w.cell? ⟨b, 2, none⟩ = some (.int .i64 h) := cell_at q.blk
  have c3 : w.cell? ⟨b, 3, none⟩ = some (.slice (some ⟨g, 0, none⟩) N N) := cell_at q.blk
  have hp : ((N : Int) == (N : Int)) = true := by simp
  have hh1 : (0 : Int) < (h : Int) := by omega
  have hh2 : decide (0 < h) = true := by simp; omega
  obtain ⟨l, hll⟩ : ∃ l, l = Q.length := ⟨_, rfl⟩
  rw [← hll] at hlen
  have HX := Lib.hid (And.intro q (And.intro hN (And.intro hl (And.intro hll (And.intro hq hh)))))
  have hsl := run_slice_low (P := Try.prog) elN g 0 N N h (by omega)
  have hl0 : (0 : Int) ≤ (l : Int) := by omega
  have hl1 : (l : Int) ≤ (N : Int) := by omega
  have HLEN := Lib.hid hlen
  clear q hN hl hll hq hlen
  go_enter Try.func28, Try.ntmps28
  go_wp2_with fail
  go_quiet (fail)
  have hlen2 := HLEN.out nq
  go_wp2_with (go_at_call 31; refine hlen2.mono ?_; rintro e w3 ⟨rfl, hg3⟩)
  have h03 : w.grownBy w3 none := grown_tr (grown_drewN w nq) hg3
  have q3 := HX.out.1.grown h03 (by simp) (.inr (by simp [Value.ownBlock]))
  have d2 : w3.cell? ⟨b, 2, none⟩ = some (.int .i64 h) := cell_at q3.blk
  have d3 : w3.cell? ⟨b, 3, none⟩ = some (.slice (some ⟨g, 0, none⟩) N N) := cell_at q3.blk
  have HQ3 := Lib.hid (And.intro q3 h03)
  clear c2 c3 q3 h03 hg3 hlen2
  have hne := HQ3.out.1.ne
  have hcur : ∃ cur : Array Value, w3.heap[g]? = some (.cells cur nodT (0, 0)) ∧ cur.size = N ∧ cur.toList = List.replicate h .nilIface ++ Q.map nodeV ∧ B ≤ g ∧ N ≤ maxLen := by
    rcases HQ3.out.1.row.2 with ⟨h3, -⟩ | ⟨g', cap', cur, h3, h0, h4, h5, h6, h7, h8⟩
    · cases h3
    · simp only [Value.slice.injEq, Option.some.injEq, Addr.mk.injEq, and_true] at h3
      obtain ⟨rfl, e1, rfl⟩ := h3
      have e2 := HX.out.2.1
      refine ⟨cur, h4, by omega, ?_, h0, h6⟩
      rw [← h8]
      exact (List.take_of_length_le (by rw [Array.length_toList]; omega)).symm
  obtain ⟨cur, hcb, hcs, hcl, hBg, hNm⟩ := hcur
  have hda : dropAt g 0 h N 1 = ⟨g, h, none⟩ := by
    have e2 := HX.out.2.1
    have e3 := HX.out.2.2.2.2.1
    unfold dropAt
    rw [if_neg (by omega)]
    simp
  have HSRC : Hid (∀ j v, (Q.map nodeV)[j]? = some v → w3.cell? ((dropAt g 0 h N 1).add j) = some v) := Lib.hid (fun j v hv => by
    rw [hda, addr_add, cell_at hcb, ← Array.getElem?_toList, hcl, List.getElem?_append_right (by simp)]
    simpa using hv)
  have HC := Lib.hid (And.intro hcb (And.intro hcs (And.intro hcl (And.intro hBg (And.intro hNm hne)))))
  have hmin : (Q.map nodeV).length = Nat.min (N - h) N := by
    have e2 := HX.out.2.1
    rw [List.length_map]
    have : Nat.min (N - h) N = N - h := Nat.min_eq_left (by omega)
    omega
  have hfit : 0 + (Q.map nodeV).length ≤ cur.size := by
    have e2 := HX.out.2.1
    rw [List.length_map]; omega
  have hone : ∀ u ∈ Q.map nodeV, u.oneCell' = true := fun u hu => by
    obtain ⟨y, _, rfl⟩ := List.mem_map.1 hu
    rfl
  have hsz : (Try.prog.info? nodT).map (·.size) = some 1 := by kernel_rfl
  clear hda hcl hcs
  obtain ⟨cs, hcse⟩ : ∃ cs, cs = Q.map nodeV := ⟨_, rfl⟩
  rw [← hcse] at HSRC hmin hfit hone
  have HCS := Lib.hid hcse
  clear hcse
  go_region_law (refine stepx_copy rfl (.tmp 28) (.tmp 37) 38 38 rfl nodT Try.underlying38 hsz g 0 N N (dropAt g 0 h N 1) (N - h) (N - h) rfl rfl cur nodT HC.out.1 cs hmin HSRC.out hfit hone ?_; intro w4 hg4 hgr4; have hb4 := grown_block hgr4 HQ3.out.1.blk HC.out.2.2.2.2.2; have s2 : w4.cell? ⟨b, 2, none⟩ = some (.int .i64 h) := cell_at hb4; have s3 : w4.cell? ⟨b, 3, none⟩ = some (.slice (some ⟨g, 0, none⟩) N N) := cell_at hb4; have sf : ∀ j, w4.frozen? ⟨b, j, none⟩ = false := (fun j => free_at hb4); replace hg4 := Lib.hid hg4; replace hgr4 := Lib.hid (grown_opt (by first | exact grown_drew w3 | exact grown_refl w3) hgr4); replace hb4 := Lib.hid hb4)
  all_goals
    obtain ⟨hcb, hcs, hcl, hBg, hNm, hne⟩ := HC.out
    have hlQ := HX.out.2.2.2.1
    have hcsl : cs.length = l := by rw [HCS.out, List.length_map, hlQ]
    have hN2 : l ≤ N := by omega
    have how4 : w4.ownsRow B nodT 1 (.slice (some ⟨g, 0, none⟩) l N) l (Q.map nodeV) := by
      refine own_head hg4.out hBg ?_ hN2 hNm ?_ (by rw [List.length_map, hlQ])
      · have e0 : cur.toList.length = N := by simpa using hcs
        rw [List.take_zero, List.nil_append, List.length_append, List.length_drop, e0]; omega
      · rw [List.take_zero, List.nil_append, List.take_append_of_le_length (by omega), List.take_of_length_le (by omega)]
        exact HCS.out
    have hw4 : (w4.setCell ⟨b, 2, none⟩ (.int .i64 0)).heap.size = w4.heap.size := by simp [World.setCell]
    have hb5 := block_set hb4.out 2 (.int .i64 0)
    have how5 := how4.kept (grown_setCell w4 b 2 (.int .i64 0)) (.inr (by intro e; exact hne e.symm))
    have HO := Lib.hid (how5.alloc (.cells #[nodeV x] nodT))
    have HO2 : Hid (((w4.setCell ⟨b, 2, none⟩ (.int .i64 0)).alloc (.cells #[nodeV x] nodT)).heap[w4.heap.size]? = some (.cells #[nodeV x] nodT (0, 0))) := Lib.hid (by have := heap_alloc_new (w4.setCell ⟨b, 2, none⟩ (.int .i64 0)) (.cells #[nodeV x] nodT); rw [hw4] at this; exact this)
    have HO3 := Lib.hid (And.intro (grown_block (grown_alloc _ (.cells #[nodeV x] nodT)) hb5 (by simp)) hne)
    have HW := Lib.hid (And.intro how5 (And.intro hb5 hw4))
    have hB4 : B ≤ w4.heap.size := by have := block_lt hg4.out; omega
    have hll1 : l ≤ 1000000 := by have := HX.out.2.2.1; omega
    clear hcb hcs hcl hNm hne hlQ hcsl how4 hw4 hb5 how5
    go_wp2_with (at_builtin; refine wpx_app1 elN rfl (.tmp 48) (.tmp 50) rfl B (.slice (some ⟨g, 0, none⟩) l N) l _ rfl HO.out w4.heap.size #[nodeV x] HO2.out (w4.heap.size + 1) (by simp) 1 rfl rfl (by simp [Value.oneCell']) (by omega) (by unfold maxLen; omega) (by omega) ?_; intro g5 c5 w6 ho5 hg5 hat5 hlt5 hsz5; have hb6 := grown_block hg5 HO3.out.1 HO3.out.2; have hf6 : ∀ j, w6.frozen? ⟨b, j, none⟩ = false := (fun j => free_at hb6); have hc6 : w6.cell? ⟨b, 3, none⟩ = some (.slice (some ⟨g, 0, none⟩) N N) := cell_at hb6; replace hb6 := Lib.hid hb6)
    go_end0
    have hlQ := HX.out.2.2.2.1
    obtain ⟨how5, hb5, hw4⟩ := HW.out
    have ho6 : w6.ownsRow B nodT 1 (.slice (some ⟨g5, 0, none⟩) (l + 1) c5) (0 + (Q ++ [x]).length) (List.replicate 0 .nilIface ++ (Q ++ [x]).map nodeV) := by
      have e : 0 + (Q ++ [x]).length = l + 1 := by rw [List.length_append, hlQ]; simp
      rw [e, List.map_append]
      exact ho5
    have hbl := block_lt hb4.out
    have hne5 : some b ≠ some g5 := by
      rcases hat5 with h9 | h9
      · rw [← h9]; exact HO3.out.2
      · intro e
        have e9 : b = g5 := by simpa using e
        omega
    have h03 := HQ3.out.2
    refine ⟨rfl, 0, .slice (some ⟨g5, 0, none⟩) (l + 1) c5, ⟨block_set hb6.out 3 _, ho6.kept (grown_setCell w6 b 3 _) (.inr (by intro e; exact hne5 e.symm))⟩, Nat.zero_le _, ?_, ?_⟩
    · intro j hj
      have e9 : g5 = j := by simpa [Value.ownBlock] using hj
      subst e9
      rcases hat5 with h9 | h9
      · exact .inl h9
      · exact .inr (by have := h03.size; have := hgr4.out.size; omega)
    · have k1 : K2 b (some g) w w4 := (K2.none h03).trans (K2.row hgr4.out) (fun j hj => .inl hj)
      have k2 : K2 b (some g) w (w4.setCell ⟨b, 2, none⟩ (.int .i64 0)) := k1.trans (K2.at (row := some g) (grown_setCell w4 b 2 _)) (fun j hj => .inl hj)
      have k3 := k2.trans (K2.none (row := some g) (grown_alloc _ (.cells #[nodeV x] nodT))) (fun j hj => .inl hj)
      have k4 := k3.trans (K2.row hg5) (fun j hj => .inl hj)
      exact k4.trans (K2.at (row := some g) (grown_setCell w6 b 3 _)) (fun j hj => .inl hj)

theorem q_enq {w : World} {B b h : Nat} {v x0 x1 x4 : Value} {x : Int} {Q : List Int} (q : QR w B b x0 x1 x4 h v Q) (hl : h + Q.length + 1 ≤ 1000000) (hB : B ≤ w.heap.size) (hq : h = 0 ∨ 0 < Q.length) :
    Calls Try.prog 28 #[.pointer (some ⟨b, 2, none⟩), nodeV x] w (EnqPost B b h x0 x1 x4 v x Q w) := by
  obtain ⟨a, c, rfl⟩ := own_slice q.row
  by_cases hc : h + Q.length ≠ c ∨ h = 0
  · exact q_enq_a q hl hB hc
  · have h1 : h + Q.length = c := by omega
    have h2 : 0 < h := by omega
    obtain ⟨g, cap, e, -⟩ := own_row q.row (by omega)
    simp only [Value.slice.injEq, true_and] at e
    obtain ⟨rfl, rfl⟩ := e
    have q' := q
    rw [h1] at q' ⊢
    subst h1
    exact q_enq_b q hl hB h2 (by omega)
end Go.Proofs.Ytdllkoiddlcnmab
