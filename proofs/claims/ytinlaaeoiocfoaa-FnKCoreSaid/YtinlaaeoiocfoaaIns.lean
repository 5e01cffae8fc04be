/- slices.Insert of one element of two cells (impl.arc) into a row of the call's own. -/
import Derived.Test.YtinlaaeoiocfoaaHr
import Derived.Test.YtinlaaeoiocfoaaProg
import Derived.Lib.Overlaps
import Derived.Lib.AppendZeros
import Derived.Lib.AppendZerosOnto
import Derived.Laws.IdiomCopy
import Derived.Laws.Externs
import Derived.Laws.NewBlocks
import Derived.Lib.SliceRun
import Derived.Outline
namespace Go.Proofs.Ytinlaaeoiocfoaa
open Go.MapKept Go.RowKit

theorem cp_wp (P : Program) (w : World) {o : Oper} {a : Act} {K : Act → World → Prop} {Q : Exit → Act → World → Prop} (d s : Operand) (t t' : TypeId)
    (ho : o.op = .call { callee := .builtin .copy, args := #[d, s], argTypes := #[t, t'] }) (v u : Value) (hd : a.eval d = v) (hs : a.eval s = u) {v' : Value} {w' : World}
    (hr : (Builtin.copy_ #[t, t'] o.type #[v, u]).run P w = .ok v' w') (h : K (a.put o.dst v') w') : o.wp P a w K Q := by
  unfold Oper.wp execOp
  simp only [ho, resolve, invoke, builtin, Sem.run_bind, Sem.run_pure, Result.andThen_ok, List.map_toArray, List.map_cons, List.map_nil, hd, hs, hr]
  exact h

theorem wpx_copy_run {P : Program} (w : World) {ops : Array Oper} {rest : List Oper} {o : Oper} {a : Act} {Q : Exit → Act → World → Prop} (hgd : o.guard = none) (d s : Operand) (t t' : TypeId)
    (ho : o.op = .call { callee := .builtin .copy, args := #[d, s], argTypes := #[t, t'] }) (v u : Value) (hd : a.eval d = v) (hs : a.eval s = u) {v' : Value} {w' : World}
    (hr : (Builtin.copy_ #[t, t'] o.type #[v, u]).run P w = .ok v' w') (h : wpList P ops Q rest (a.put o.dst v') w') : wpList P ops Q (o :: rest) a w :=
  wpList_plain hgd fun _ hK => cp_wp P w d s t t' ho v u hd hs hr (hK _ _ h)

theorem stepx_copy_run {P : Program} {ops : Array Oper} {o : Oper} {a : Act} {w : World} {K : Act → World → Prop} {Q : Exit → Act → World → Prop} {E : Prop}
    (hg : o.guard = none) (d x : Operand) (dT sT : TypeId) (hop : o.op = Op.call { callee := Callee.builtin Builtin.copy, args := #[d, x], argTypes := #[dT, sT] })
    (v u : Value) (hd : a.eval d = v) (hx : a.eval x = u) {v' : Value} {w' : World} (hr : (Builtin.copy_ #[dT, sT] o.type #[v, u]).run P w = .ok v' w') (hK : K (a.put o.dst v') w') :
    if Region.wanted o (yielded ops a.tmps) = true then Oper.wp P o a w K Q else E := by
  have hw : Region.wanted o (yielded ops a.tmps) = true := by simp [Region.wanted, hg]
  rw [if_pos hw]
  unfold Oper.wp
  simp [execOp, hop, resolve, invoke, builtin, hd, hx, hr, Result.andThen]
  exact hK

/-- copy, elements of any size -/
theorem run_copy_size {P : Program} (w : World) (dT sT ty elem : TypeId) (size b o dLen dCap : Nat) (a : Addr) (sLen sCap : Nat) (cs : List Value)
    (hu : P.underlying dT = some (.slice elem)) (hs : (P.info? elem).map (·.size) = some size) (m : Nat) (hm : m = Nat.min sLen dLen) (hn : cs.length = m * size)
    (hsrc : ∀ j v, cs[j]? = some v → w.cell? (a.add j) = some v) (hc : ∀ j, j < cs.length → (w.cell? ⟨b, o + j, none⟩).isSome = true) (hf : ∀ j, j < cs.length → w.frozen? ⟨b, o + j, none⟩ = false) (h1 : ∀ v ∈ cs, v.oneCell' = true) :
    (Builtin.copy_ #[dT, sT] ty #[.slice (some ⟨b, o, none⟩) dLen dCap, .slice (some a) sLen sCap]).run P w = .ok (goInt m) (w.setCells b o cs) := by
  have hl := run_loadCells_list (P := P) w a cs hsrc
  have hst := run_storeCells_cells (P := P) b o cs 0 w (by simpa using hc) (by simpa using hf) h1
  cases hq : P.info? elem with
  | none => simp [hq] at hs
  | some i =>
    have hi : i.size = size := by simpa [hq] using hs
    rw [hn] at hl
    simp [Builtin.copy_, run_underlying hu, Builtin.lenOf, Builtin.firstCells, sizeOf, typeInfo, hq, hi, ← hm, hl, hst]

theorem drew_setCells (b : Nat) : ∀ (vs : List Value) (o : Nat) (w : World), (w.setCells b o vs).drew = w.drew.setCells b o vs
  | [], _, _ => rfl
  | v :: r, o, w => by rw [World.setCells, World.setCells, drew_setCells b r]; rfl

/-- a block of which a piece is overwritten -/
def overw (c : Array Value) : Nat → List Value → Array Value
  | _, [] => c
  | o, v :: r => overw (c.setIfInBounds o v) (o + 1) r
theorem overw_size : ∀ (vs : List Value) (c : Array Value) (o : Nat), (overw c o vs).size = c.size
  | [], _, _ => rfl
  | v :: r, c, o => by rw [overw, overw_size r]; simp
theorem overw_get : ∀ (vs : List Value) (c : Array Value) (o : Nat) (j : Nat), o + vs.length ≤ c.size → (overw c o vs)[j]? = if o ≤ j ∧ j < o + vs.length then vs[j - o]? else c[j]?
  | [], c, o, j, _ => by
    rw [overw, if_neg (by simp only [List.length_nil]; omega)]
  | v :: r, c, o, j, h => by
    rw [List.length_cons] at h
    rw [overw, overw_get r _ _ _ (by simp; omega)]
    by_cases h1 : j = o
    · subst h1
      rw [if_neg (by omega), if_pos (by simp)]
      have hj : j < c.size := by omega
      simp [hj]
    · by_cases h2 : o + 1 ≤ j ∧ j < o + 1 + r.length
      · rw [if_pos h2, if_pos (by simp; omega)]
        obtain ⟨d, hd⟩ : ∃ d, j - o = d + 1 := ⟨j - o - 1, by omega⟩
        rw [hd, List.getElem?_cons_succ, show j - (o + 1) = d by omega]
      · rw [if_neg h2, if_neg (by simp; omega)]
        simp [Ne.symm h1]
theorem setCells_block (b : Nat) : ∀ (vs : List Value) (o : Nat) (w : World) {c : Array Value} {T : TypeId} {f : Nat × Nat}, w.heap[b]? = some (.cells c T f) → (w.setCells b o vs).heap[b]? = some (.cells (overw c o vs) T f)
  | [], _, _, _, _, _, h => h
  | v :: r, o, w, c, T, f, h => by
    rw [World.setCells, overw]
    exact setCells_block b r (o + 1) _ (block_set h o v)
theorem setCells_grown (b : Nat) : ∀ (vs : List Value) (o : Nat) (w : World), w.grownBy (w.setCells b o vs) (some b)
  | [], _, w => grown_any (grown_refl w) _
  | v :: r, o, w => grown_row (grown_setCell w b o v) (setCells_grown b r (o + 1) _) (fun k hk => by cases hk; exact .inl rfl)
theorem setCells_size (b : Nat) : ∀ (vs : List Value) (o : Nat) (w : World), (w.setCells b o vs).heap.size = w.heap.size
  | [], _, _ => rfl
  | v :: r, o, w => by rw [World.setCells, setCells_size b r]; simp [World.setCell]
theorem overw_some {c : Array Value} {vs : List Value} {o j : Nat} (hj : j < c.size) : ∃ v, (overw c o vs)[j]? = some v :=
  ⟨_, Array.getElem?_eq_getElem (by rw [overw_size]; exact hj)⟩

/-- the same row, or a new one -/
def Fresh (w : World) (v v' : Value) : Prop := v'.ownBlock = v.ownBlock ∨ ∃ k, v'.ownBlock = some k ∧ w.heap.size ≤ k
theorem grown_opt {a b c : World} (h : a.grownBy b none) {row : Option Nat} (hg : b.grownBy c row) : a.grownBy c row :=
  ⟨hg.os.trans h.os, hg.tape.trans h.tape, hg.output.trans h.output, Nat.le_trans h.size hg.size, fun k hk hne => (hg.block k (Nat.lt_of_lt_of_le hk h.size) hne).trans (h.block k hk (by simp))⟩
theorem Fresh.of {w : World} {v : Value} {g n cap : Nat} (h : v.ownBlock = some g ∨ g = w.heap.size) : Fresh w v (.slice (some ⟨g, 0, none⟩) n cap) := by
  rcases h with h | h
  · exact .inl h.symm
  · exact .inr ⟨g, rfl, by omega⟩
theorem Fresh.step {a b : World} {v v' : Value} (h : a.heap.size ≤ b.heap.size) (k : Fresh b v v') : Fresh a v v' := by
  rcases k with k | ⟨j, k1, k2⟩
  · exact .inl k
  · exact .inr ⟨j, k1, Nat.le_trans h k2⟩

theorem elA : ElT Try.prog 89 112 2 16 (.agg #[.int .i64 0, .float .f64 0]) := ⟨Try.underlying89, by kernel_rfl, rfl, by decide⟩

set_option maxHeartbeats 4000000 in
set_option maxRecDepth 100000 in
theorem insert_end {w : World} {base n : Nat} {v : Value} {xs : List Value} (hown : w.ownsRow base 112 2 v n xs) (hbase : base ≤ w.heap.size) (hn : n ≤ 1000000) {vb : Nat} {lit : Array Value} (hlit : w.heap[vb]? = some (.cells lit 112 (0, 0))) (hl : lit.size = 2) (h1 : ∀ u ∈ lit.toList, u.oneCell' = true) :
    Calls Try.prog 49 #[v, .int .i64 n, .slice (some ⟨vb, 0, none⟩) 1 1] w (fun e w' => ∃ v', e = .returned v' ∧ w'.ownsRow base 112 2 v' (n + 1) (xs ++ lit.toList) ∧ w.grownBy w' v.ownBlock ∧ Fresh w v v') := by
  obtain ⟨a, c, rfl⟩ := own_slice hown
  by_cases hc : c = n
  · subst hc
    go_enter Try.func49, Try.ntmps49
    go_wp2_with (at_builtin; refine wpx_app1 elA rfl (.tmp 23) (.tmp 24) rfl base (.slice a c c) c xs rfl hown vb lit hlit w.heap.size rfl 1 rfl hl h1 (by omega) (by unfold maxLen; omega) hbase ?_; intro g cap w' ho' hg' hat hlt' hsz)
    go_ret
    exact ⟨_, rfl, ho', hg', Fresh.of hat⟩
  · go_enter Try.func49, Try.ntmps49
    go_wp2_with (at_builtin; refine wpx_app1 elA rfl (.tmp 23) (.tmp 24) rfl base (.slice a n c) n xs rfl hown vb lit hlit w.heap.size rfl 1 rfl hl h1 (by omega) (by unfold maxLen; omega) hbase ?_; intro g cap w' ho' hg' hat hlt' hsz)
    go_ret
    exact ⟨_, rfl, ho', hg', Fresh.of hat⟩
theorem size_arc : (Try.prog.info? 112).map (·.size) = some 2 := by kernel_rfl

set_option maxHeartbeats 4000000 in
set_option maxRecDepth 100000 in
theorem insert_shift {w : World} {n i g c : Nat} {cur : Array Value} (hg : w.heap[g]? = some (.cells cur 112 (0, 0))) (hcs : cur.size = c * 2) (hc63 : c ≤ 9223372036854775807) (hi : i < n) (hroom : n + 1 ≤ c) {vb : Nat} {lit : Array Value} (hlit : w.heap[vb]? = some (.cells lit 112 (0, 0))) (hl : lit.size = 2) (h1 : ∀ u ∈ lit.toList, u.oneCell' = true) (hne : vb ≠ g) (hc1 : ∀ u ∈ cur.toList.take (n * 2), u.oneCell' = true) :
    Calls Try.prog 49 #[.slice (some ⟨g, 0, none⟩) n c, .int .i64 i, .slice (some ⟨vb, 0, none⟩) 1 1] w
      (fun e w' => e = .returned (.slice (some ⟨g, 0, none⟩) (n + 1) c) ∧ w' = (w.drew.setCells g ((i + 1) * 2) ((cur.toList.take (n * 2)).drop (i * 2))).setCells g (i * 2) lit.toList) := by
  have hz2 : ¬ ((i : Int) = (n : Int)) := by omega
  have hsb : w.shape? g = some (112, cur.size) := by simp [World.shape?, hg]
  have hsa : w.shape? vb = some (112, 2) := by simp [World.shape?, hlit, hl]
  have hov : ∀ o lb cb, (callFunc 56 #[.slice (some ⟨vb, 0, none⟩) 1 1, .slice (some ⟨g, o, none⟩) lb cb]).run Try.prog w = .ok (.value (.bool false)) w := fun o lb cb => by
    rw [run_callFunc_extern Try.func56 (by kernel_rfl) (by kernel_rfl) (by kernel_rfl) (e := Extern.SlicesOverlaps.overlaps #[89, 89] #[4]) (by kernel_rfl),
      Lib.run_overlaps_apart w 89 4 112 elA.ht 2 (fun w => by kernel_rfl) ⟨vb, 0, none⟩ ⟨g, o, none⟩ 1 1 lb cb hne _ _ _ _ hsa hsb (by omega) (free_at hlit) (free_at hlit)]
    rfl
  have hxl : (cur.toList.take (n * 2)).length = n * 2 := by rw [List.length_take]; simp; omega
  obtain ⟨xs, hxs⟩ : ∃ xs, xs = cur.toList.take (n * 2) := ⟨_, rfl⟩
  have hxc : ∀ j v, xs[j]? = some v → w.cell? ⟨g, j, none⟩ = some v := fun j v hj => by
    rw [cell_at hg]
    rw [hxs, List.getElem?_take] at hj
    split at hj
    · simpa using hj
    · cases hj
  have hxm : ∀ v ∈ xs, v.oneCell' = true := fun v hv => hc1 v (by rw [hxs] at hv; exact hv)
  rw [← hxs] at hxl ⊢
  have hdl : (xs.drop (i * 2)).length = (n - i) * 2 := by rw [List.length_drop, hxl, Nat.sub_mul]
  have hsome : ∀ j, j < c * 2 → (w.cell? ⟨g, j, none⟩).isSome = true := fun j hj => by rw [cell_at hg]; simp; omega
  have hcp1 : ∀ ty dc sc, (Builtin.copy_ #[89, 89] ty #[.slice (some ⟨g, (i + 1) * 2, none⟩) (n - i) dc, .slice (some ⟨g, i * 2, none⟩) (n + 1 - i) sc]).run Try.prog w.drew = .ok (goInt ((n - i : Nat) : Int)) (w.drew.setCells g ((i + 1) * 2) (xs.drop (i * 2))) := fun ty dc sc =>
    run_copy_size w.drew _ _ ty 112 2 g ((i + 1) * 2) (n - i) dc ⟨g, i * 2, none⟩ (n + 1 - i) sc (xs.drop (i * 2)) elA.ht size_arc (n - i) (by simp only [Nat.min_def]; split <;> omega) hdl
      (fun j v hj => by rw [addr_add]; exact hxc (i * 2 + j) v (by rwa [List.getElem?_drop] at hj))
      (fun j hj => hsome _ (by omega)) (fun j hj => free_at hg) (fun v hv => hxm v (List.mem_of_mem_drop hv))
  obtain ⟨W1, hW1⟩ : ∃ W1, W1 = w.drew.setCells g ((i + 1) * 2) (xs.drop (i * 2)) := ⟨_, rfl⟩
  have hgd : w.drew.heap[g]? = some (.cells cur 112 (0, 0)) := hg
  have hblk : W1.heap[g]? = some (.cells (overw cur ((i + 1) * 2) (xs.drop (i * 2))) 112 (0, 0)) := by rw [hW1]; exact setCells_block g _ _ _ hgd
  have hlit1 : W1.heap[vb]? = some (.cells lit 112 (0, 0)) := by rw [hW1]; exact grown_block (setCells_grown g _ _ w.drew) hlit (fun e => hne (by cases e; rfl))
  have hcp2 : ∀ (W : World), W.heap = W1.heap → ∀ ty dc, (Builtin.copy_ #[89, 89] ty #[.slice (some ⟨g, i * 2, none⟩) (n + 1 - i) dc, .slice (some ⟨vb, 0, none⟩) 1 1]).run Try.prog W = .ok (goInt ((1 : Nat) : Int)) (W.setCells g (i * 2) lit.toList) := fun W hW ty dc =>
    run_copy_size W _ _ ty 112 2 g (i * 2) (n + 1 - i) dc ⟨vb, 0, none⟩ 1 1 lit.toList elA.ht size_arc 1 (by simp only [Nat.min_def]; split <;> omega) (by simp [hl])
      (fun j v hj => by rw [addr_add, cell_at (by rw [hW]; exact hlit1), Nat.zero_add]; simpa using hj)
      (fun j hj => by rw [cell_at (by rw [hW]; exact hblk), Array.getElem?_eq_getElem (by rw [overw_size]; simp [hl] at hj; omega)]; rfl) (fun j hj => free_at (by rw [hW]; exact hblk)) h1
  rw [← hW1] at hcp1 ⊢
  have HH := Lib.hid (And.intro hxs hW1)
  clear hxs hW1 hxc hxm hdl hsome hblk hlit1 hgd hxl hg hlit hcs
  have hw1 : IntKind.i64.wrap ((i : Int) + 1) = (i : Int) + 1 := by rw [IntKind.wrap_i64]; omega
  have hb1 : (0 : Int) ≤ (i : Int) + 1 := by omega
  have hin : i ≤ n := by omega
  have htn : ((i : Int) + 1).toNat = i + 1 := by omega
  have hb2 : ¬ (c = i + 1) := by omega
  have hb3 : (i : Int) ≤ (n : Int) + 1 := by omega
  have hb4 : ¬ (c = i) := by omega
  go_enter Try.func49, Try.ntmps49
  go_wp2_with (simp only [hov])
  go_region_law (refine stepx_copy_run rfl _ _ 89 89 rfl _ _ (by simp [Act.eval, Act.put]) (by simp [Act.eval, Act.put]) (hcp1 3 (c - (i + 1)) (c - i)) ?_)
  go_wp2_with (at_builtin; refine wpx_copy_run _ rfl _ _ 89 89 rfl _ _ rfl rfl (hcp2 _ rfl _ _) ?_)
  go_ret
  exact ⟨rfl, rfl⟩

/-- what stands ahead, the new one, what stands behind -/
def insList (xs lit : List Value) (i : Nat) : List Value := xs.take (i * 2) ++ lit ++ xs.drop (i * 2)
theorem overw_two {c : Array Value} {xs lit : List Value} {i n : Nat} (hl : lit.length = 2) (hx : xs.length = n * 2) (hi : i < n) (hc : (n + 1) * 2 ≤ c.size) (ht : ∀ j, j < i * 2 → c[j]? = xs[j]?) :
    (overw (overw c (i * 2) lit) ((i + 1) * 2) (xs.drop (i * 2))).toList.take ((n + 1) * 2) = insList xs lit i ∧ (overw (overw c ((i + 1) * 2) (xs.drop (i * 2))) (i * 2) lit).toList.take ((n + 1) * 2) = insList xs lit i := by
  have hdl : (xs.drop (i * 2)).length = (n - i) * 2 := by rw [List.length_drop, hx, Nat.sub_mul]
  have hR : ∀ j, j < (n + 1) * 2 → (insList xs lit i)[j]? = if j < i * 2 then xs[j]? else if j < (i + 1) * 2 then lit[j - i * 2]? else xs[j - 2]? := by
    intro j hj
    unfold insList
    rw [List.append_assoc, List.getElem?_append, List.length_take, Nat.min_eq_left (by omega)]
    split
    · rw [List.getElem?_take, if_pos (by assumption)]
    · rw [List.getElem?_append, hl]
      by_cases h2 : j < (i + 1) * 2
      · rw [if_pos (by omega), if_pos h2]
      · rw [if_neg (by omega), if_neg h2, List.getElem?_drop]
        congr 1
        omega
  have hlen : (insList xs lit i).length = (n + 1) * 2 := by
    unfold insList
    simp [hl, hx]
    omega
  constructor
  · apply List.ext_getElem?
    intro j
    rw [List.getElem?_take]
    by_cases hj : j < (n + 1) * 2
    · rw [if_pos hj, hR j hj, Array.getElem?_toList, overw_get _ _ _ _ (by rw [overw_size]; omega), overw_get _ _ _ _ (by omega), hdl, hl]
      by_cases h1 : j < i * 2
      · rw [if_neg (by omega), if_neg (by omega), if_pos h1]
        exact ht j h1
      · rw [if_neg h1]
        by_cases h2 : j < (i + 1) * 2
        · rw [if_neg (by omega), if_pos (by omega), if_pos h2]
        · rw [if_pos (by omega), if_neg h2, List.getElem?_drop]
          congr 1
          omega
    · rw [if_neg hj]
      exact (List.getElem?_eq_none (by omega)).symm
  · apply List.ext_getElem?
    intro j
    rw [List.getElem?_take]
    by_cases hj : j < (n + 1) * 2
    · rw [if_pos hj, hR j hj, Array.getElem?_toList, overw_get _ _ _ _ (by rw [overw_size]; omega), overw_get _ _ _ _ (by omega), hdl, hl]
      by_cases h1 : j < i * 2
      · rw [if_neg (by omega), if_neg (by omega), if_pos h1]
        exact ht j h1
      · rw [if_neg h1]
        by_cases h2 : j < (i + 1) * 2
        · rw [if_pos (by omega), if_pos h2]
        · rw [if_neg (by omega), if_pos (by omega), if_neg h2, List.getElem?_drop]
          congr 1
          omega
    · rw [if_neg hj]
      exact (List.getElem?_eq_none (by omega)).symm

theorem zero_size (k : Nat) : (Builtin.zeroCells (Value.agg #[.int .i64 0, .float .f64 0]).cells k).size = k * 2 := by
  simp [Builtin.zeroCells, Value.cells]

def GrowPost (n i : Nat) (xs lit : List Value) (w : World) (e : Ending) (w' : World) : Prop :=
  ∃ G cur', e = .returned (.slice (some ⟨w.heap.size, 0, none⟩) (n + 1) G) ∧ w'.heap[w.heap.size]? = some (.cells cur' 112 (0, 0)) ∧ cur'.size = G * 2 ∧ cur'.toList.take ((n + 1) * 2) = insList xs lit i ∧ w.grownBy w' none ∧ n + 1 ≤ G ∧ G ≤ maxLen

set_option maxHeartbeats 4000000 in
set_option maxRecDepth 100000 in
theorem insert_grow {w : World} {n i g c : Nat} {xs : List Value} (hn : n ≤ 1000000) (hxl : xs.length = n * 2) (hxc : ∀ j v, xs[j]? = some v → w.cell? ⟨g, j, none⟩ = some v) (hxm : ∀ v ∈ xs, v.oneCell' = true) (hgs : g < w.heap.size) (hi : i < n) (hroom : c < n + 1) (hnc : n ≤ c) {vb : Nat} {lit : Array Value} (hlit : w.heap[vb]? = some (.cells lit 112 (0, 0))) (hl : lit.size = 2) (h1 : ∀ u ∈ lit.toList, u.oneCell' = true) :
    Calls Try.prog 49 #[.slice (some ⟨g, 0, none⟩) n c, .int .i64 i, .slice (some ⟨vb, 0, none⟩) 1 1] w (GrowPost n i xs lit.toList w) := by
  obtain ⟨i0, hi0, hz0, hzs, hzb⟩ := info_parts elA.hi
  have hvw : vb < w.heap.size := block_lt hlit
  have hz2 : ¬ ((i : Int) = (n : Int)) := by omega
  have hz3 : (c : Int) < (n : Int) + 1 := by omega
  have hold : (Builtin.firstCells i0.size i (.slice (some ⟨g, 0, none⟩) i c)).run Try.prog w.drew = .ok (xs.take (i * 2)).toArray w.drew := by
    rw [hzs]
    exact run_firstCells_some w.drew 2 i ⟨g, 0, none⟩ i c (xs.take (i * 2)) (by rw [List.length_take]; omega) (fun j v hj => by
      rw [addr_add, Nat.zero_add]
      rw [List.getElem?_take] at hj
      split at hj
      · exact hxc j v hj
      · cases hj)
  obtain ⟨G, hG⟩ : ∃ G, G = grownCap w (n + 1) c 112 := ⟨_, rfl⟩
  obtain ⟨ROW, hROW⟩ : ∃ ROW : Array Value, ROW = (xs.take (i * 2)).toArray ++ Builtin.zeroCells (Value.agg #[.int .i64 0, .float .f64 0]).cells (n + 1 - i) ++ Builtin.zeroCells (Value.agg #[.int .i64 0, .float .f64 0]).cells (G - (n + 1)) := ⟨_, rfl⟩
  have hrz : ∀ ty, (Builtin.append_ #[89, 3] ty #[.slice (some ⟨g, 0, none⟩) i c, .int .i64 ((n : Int) + 1 - (i : Int))]).run Try.prog w =
      .ok (.slice (some ⟨w.heap.size, 0, none⟩) (n + 1) G) (w.drew.alloc (.cells ROW 112)) := fun ty => by
    have h := Lib.run_append_grow_zeros (P := Try.prog) w 89 3 ty 112 i0 _ .i64 .i64 elA.ht Try.underlying3 hi0 hz0 (some ⟨g, 0, none⟩) i c (xs.take (i * 2)) hold (n + 1 - i) (by omega) (by omega) (by omega) (by omega) (by rw [hzb]; omega) (by rw [hzb, show i + (n + 1 - i) = n + 1 by omega]; exact growslice_fits hroom (by omega))
    rw [show i + (n + 1 - i) = n + 1 by omega, show ((n + 1 - i : Nat) : Int) = (n : Int) + 1 - (i : Int) by omega, ← hG, ← hROW] at h
    exact h
  have hGn : n + 1 ≤ G := by rw [hG]; exact grownCap_ge w _ _ _
  have hG63 : G ≤ maxLen := by rw [hG]; exact grownCap_le_maxLen w (n + 1) c _ (by unfold maxLen; omega)
  have hRl : ROW.size = G * 2 := by
    rw [hROW]
    simp only [Array.size_append, zero_size, List.size_toArray, List.length_take]
    omega
  have hRt : ∀ j, j < i * 2 → ROW[j]? = xs[j]? := fun j hj => by
    rw [hROW, Array.append_assoc, Array.getElem?_append_left (by simp; omega)]
    simp [hj]
  obtain ⟨W1, hW1⟩ : ∃ W1, W1 = w.drew.alloc (.cells ROW 112) := ⟨_, rfl⟩
  have hb1 : W1.heap[w.heap.size]? = some (.cells ROW 112 (0, 0)) := by rw [hW1]; exact heap_alloc_new w.drew _
  have hg1 : w.grownBy W1 none := by rw [hW1]; exact grown_tr (grown_drew w) (grown_alloc _ _)
  rw [← hW1] at hrz
  have hdl : (xs.drop (i * 2)).length = (n - i) * 2 := by rw [List.length_drop, hxl, Nat.sub_mul]
  have hcpA : ∀ ty dc, (Builtin.copy_ #[89, 89] ty #[.slice (some ⟨w.heap.size, i * 2, none⟩) (n + 1 - i) dc, .slice (some ⟨vb, 0, none⟩) 1 1]).run Try.prog W1 = .ok (goInt ((1 : Nat) : Int)) (W1.setCells w.heap.size (i * 2) lit.toList) := fun ty dc =>
    run_copy_size W1 _ _ ty 112 2 w.heap.size (i * 2) (n + 1 - i) dc ⟨vb, 0, none⟩ 1 1 lit.toList elA.ht size_arc 1 (by simp only [Nat.min_def]; split <;> omega) (by simp [hl])
      (fun j v hj => by rw [addr_add, cell_at (grown_block hg1 hlit (by simp)), Nat.zero_add]; simpa using hj)
      (fun j hj => by rw [cell_at hb1, Array.getElem?_eq_getElem (by simp [hl] at hj; omega)]; rfl) (fun j hj => free_at hb1) h1
  obtain ⟨W2, hW2⟩ : ∃ W2, W2 = W1.setCells w.heap.size (i * 2) lit.toList := ⟨_, rfl⟩
  rw [← hW2] at hcpA
  have hb2 : W2.heap[w.heap.size]? = some (.cells (overw ROW (i * 2) lit.toList) 112 (0, 0)) := by rw [hW2]; exact setCells_block _ _ _ _ hb1
  have hg2 : w.grownBy W2 none := by rw [hW2]; exact grown_new hg1 (setCells_grown _ _ _ _) (fun k hk => by cases hk; exact Nat.le_refl _)
  have hcpB : ∀ ty dc sc, (Builtin.copy_ #[89, 89] ty #[.slice (some ⟨w.heap.size, (i + 1) * 2, none⟩) (n - i) dc, .slice (some ⟨g, i * 2, none⟩) (n - i) sc]).run Try.prog W2.drew = .ok (goInt ((n - i : Nat) : Int)) (W2.drew.setCells w.heap.size ((i + 1) * 2) (xs.drop (i * 2))) := fun ty dc sc =>
    run_copy_size W2.drew _ _ ty 112 2 w.heap.size ((i + 1) * 2) (n - i) dc ⟨g, i * 2, none⟩ (n - i) sc (xs.drop (i * 2)) elA.ht size_arc (n - i) (by simp) hdl
      (fun j v hj => by rw [addr_add]; exact (grown_cell (grown_tr hg2 (grown_drew W2)) hgs (by simp)).trans (hxc (i * 2 + j) v (by rwa [List.getElem?_drop] at hj)))
      (fun j hj => by rw [cell_at (w := W2.drew) hb2, Array.getElem?_eq_getElem (by rw [overw_size]; omega)]; rfl) (fun j hj => free_at (w := W2.drew) hb2) (fun v hv => hxm v (List.mem_of_mem_drop hv))
  have hFin : GrowPost n i xs lit.toList w (.returned (.slice (some ⟨w.heap.size, 0, none⟩) (n + 1) G)) (W2.drew.setCells w.heap.size ((i + 1) * 2) (xs.drop (i * 2))) :=
    ⟨G, _, rfl, setCells_block _ _ _ W2.drew hb2, by rw [overw_size, overw_size, hRl], (overw_two (by simp [hl]) hxl hi (by omega) hRt).1, grown_new (grown_tr hg2 (grown_drew W2)) (setCells_grown _ _ _ _) (fun k hk => by cases hk; exact Nat.le_refl _), hGn, hG63⟩
  have HF := Lib.hid hFin
  have HH := Lib.hid (And.intro hW1 hW2)
  obtain ⟨H0, hH0⟩ : ∃ H0, H0 = w.heap.size := ⟨_, rfl⟩
  have hG9 : G ≤ 9223372036854775807 := by unfold maxLen at hG63; omega
  clear hFin hW1 hW2 hb1 hg1 hb2 hg2 hRl hRt hROW hG hold hdl hxc hxm hxl hi0 hz0 hzs hzb hlit hG63
  rw [← hH0] at hrz hcpA hcpB HF
  have HH0 := Lib.hid hH0
  clear hH0
  have hw1 : IntKind.i64.wrap ((i : Int) + 1) = (i : Int) + 1 := by rw [IntKind.wrap_i64]; omega
  have hb1 : (0 : Int) ≤ (i : Int) + 1 := by omega
  have hin : i ≤ n := by omega
  have htn : ((i : Int) + 1).toNat = i + 1 := by omega
  have hb3 : (i : Int) ≤ (n : Int) := by omega
  have hGi : ¬ (G = i) := by omega
  have hGim : ¬ (G = i + 1) := by omega
  have hci : ¬ (c = i) := by omega
  go_enter Try.func49, Try.ntmps49
  go_wp2_with (first
    | (at_builtin; refine Lib.wpList_append_run _ rfl _ _ _ _ rfl _ _ rfl rfl _ _ (hrz _) ?_)
    | (at_builtin; refine wpx_copy_run _ rfl _ _ 89 89 rfl _ _ rfl rfl (hcpA _ _) ?_))
  go_region_law (refine stepx_copy_run rfl _ _ 89 89 rfl _ _ (by simp [Act.eval, Act.put]) (by simp [Act.eval, Act.put]) (hcpB 3 (G - (i + 1)) (c - i)) ?_)
  go_wp2_with fail
  go_ret
  exact HF.out

theorem insert_any {w : World} {base n i : Nat} {v : Value} {xs : List Value} (hown : w.ownsRow base 112 2 v n xs) (hbase : base ≤ w.heap.size) (hn : n ≤ 1000000) (hi : i ≤ n) (hxm : ∀ v ∈ xs, v.oneCell' = true) {vb : Nat} {lit : Array Value} (hlit : w.heap[vb]? = some (.cells lit 112 (0, 0))) (hl : lit.size = 2) (h1 : ∀ u ∈ lit.toList, u.oneCell' = true) (hne : v.ownBlock ≠ some vb) :
    Calls Try.prog 49 #[v, .int .i64 i, .slice (some ⟨vb, 0, none⟩) 1 1] w (fun e w' => ∃ v', e = .returned v' ∧ w'.ownsRow base 112 2 v' (n + 1) (insList xs lit.toList i) ∧ w.grownBy w' v.ownBlock ∧ Fresh w v v') := by
  have hxl : xs.length = n * 2 := hown.1
  by_cases hin : i = n
  · subst hin
    refine (insert_end hown hbase hn hlit hl h1).mono ?_
    rintro e w' ⟨v', rfl, k1, k2, k3⟩
    refine ⟨v', rfl, ?_, k2, k3⟩
    have : insList xs lit.toList i = xs ++ lit.toList := by
      unfold insList
      rw [List.take_of_length_le (by omega), List.drop_eq_nil_of_le (by omega), List.append_nil]
    rw [this]
    exact k1
  · obtain ⟨-, h | ⟨g, c, cur, rfl, hbg, hg, hnc, hcm, hcur, hxs⟩⟩ := hown
    · omega
    · have hxc : ∀ j v, xs[j]? = some v → w.cell? ⟨g, j, none⟩ = some v := fun j v hj => by
        rw [cell_at hg]
        rw [← hxs, List.getElem?_take] at hj
        split at hj
        · simpa using hj
        · cases hj
      by_cases hroom : n + 1 ≤ c
      · have hlen : ((cur.toList.take (n * 2)).drop (i * 2)).length = (n - i) * 2 := by rw [hxs, List.length_drop, hxl, Nat.sub_mul]
        refine (insert_shift hg hcur (by unfold maxLen at hcm; omega) (by omega) hroom hlit hl h1 (fun e => hne (by rw [e]; rfl)) (by rw [hxs]; exact hxm)).mono ?_
        rintro e w' ⟨rfl, rfl⟩
        rw [hxs]
        have hgd : w.drew.heap[g]? = some (.cells cur 112 (0, 0)) := hg
        refine ⟨_, rfl, ⟨?_, .inr ⟨g, c, _, rfl, hbg, setCells_block g _ _ _ (setCells_block g _ _ _ hgd), hroom, hcm, by rw [overw_size, overw_size, hcur], ?_⟩⟩, ?_, .inl rfl⟩
        · unfold insList
          simp [hl, hxl]
          omega
        · refine (overw_two (by simp [hl]) hxl (by omega) (by omega) (fun j hj => ?_)).2
          rw [← hxs, List.getElem?_take, if_pos (by omega)]
          simp
        · show w.grownBy _ (some g)
          exact grown_row (grown_row (grown_any (grown_drew w) _) (setCells_grown g _ _ _) (fun k hk => by cases hk; exact .inl rfl)) (setCells_grown g _ _ _) (fun k hk => by cases hk; exact .inl rfl)
      · refine (insert_grow hn hxl hxc hxm (block_lt hg) (by omega) (by omega) hnc hlit hl h1).mono ?_
        rintro e w' ⟨G, cur', rfl, k1, k2, k3, k4, k5, k6⟩
        refine ⟨_, rfl, ⟨?_, .inr ⟨_, G, cur', rfl, hbase, k1, k5, k6, k2, k3⟩⟩, grown_any k4 _, .inr ⟨_, rfl, Nat.le_refl _⟩⟩
        unfold insList
        simp [hl, hxl]
        omega

end Go.Proofs.Ytinlaaeoiocfoaa
