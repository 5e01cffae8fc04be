/- Rows of one cell an element, sorted by a comparison and turned round: the library's contracts in the words of rows that are owned; order.ByID. -/
import Derived.Test.YtdllkoiddlcnmaaGreatShelf
import Derived.Test.YtdllkoiddlcnmaaGreatBi
import Derived.Test.YtdllkoiddlcnmaaGreatSu
import Derived.Sort.OwnSortedInts
namespace Go.Proofs.YtdllkoiddlcnmaaGreat
open Go.RowKit Go.Sort Go.Shelf Go.MapKept

section
variable {α : Type} [Inhabited α] (enc : α → Value)
theorem holds_of_blockE {w : World} {g : Nat} {cur : Array Value} {e : TypeId} {ss : List α} (hb : w.heap[g]? = some (.cells cur e (0, 0))) (ht : cur.toList.take ss.length = ss.map enc) : Holds enc w g 0 ss.toArray := by
  intro j hj
  have hj' : j < ss.length := by simpa using hj
  refine ⟨?_, by simp [World.frozen?, hb]⟩
  have h1 : (cur.toList.take ss.length)[j]? = (ss.map enc)[j]? := by rw [ht]
  rw [List.getElem?_take_of_lt hj'] at h1
  simp only [World.cell?, hb, Nat.zero_add]
  simp only [Option.isSome_none, Bool.false_eq_true, if_false]
  rw [← Array.getElem?_toList, h1]
  simp [hj']
theorem heap_sortedE {w : World} {g n : Nat} {os : Array Obj} {cur : Array Value} {e : TypeId} {fr : Nat × Nat} (d : Array α) (hb : w.heap[g]? = some (.cells cur e fr)) :
    (grow (putRow enc (Sort.ahead w n) g 0 d) os).heap[g]? = some (.cells (putCells enc 0 d cur) e fr) := by
  have hg : g < w.heap.size := (Array.getElem?_eq_some_iff.1 hb).1
  rw [heap_grow_old _ _ (by simpa using hg)]
  simp [putRow, mapBlock, Sort.ahead, Array.getElem?_modify, hb, onCells]
theorem grownBy_sortedE {w : World} {g n : Nat} {os : Array Obj} (d : Array α) : w.grownBy (grow (putRow enc (Sort.ahead w n) g 0 d) os) (some g) := by
  refine ⟨rfl, rfl, rfl, by simp, fun k hk hne => ?_⟩
  rw [heap_grow_old _ _ (by simpa using hk)]
  have : g ≠ k := fun e => hne (by rw [e])
  simp [putRow, mapBlock, Sort.ahead, Array.getElem?_modify, this]
theorem take_putCellsE (cur : Array Value) (ts : List α) (h : ts.length ≤ cur.size) : (putCells enc 0 ts.toArray cur).toList.take ts.length = ts.map enc := by
  apply List.ext_getElem?
  intro j
  by_cases hj : j < ts.length
  · rw [List.getElem?_take_of_lt hj, Array.getElem?_toList]
    simp [putCells, hj, show j < cur.size by omega]
  · rw [List.getElem?_take_eq_none (by omega), List.getElem?_eq_none (by simp; omega)]
theorem ownsRow_sortedE {w : World} {base g cap n : Nat} {e : TypeId} {os : Array Obj} {cur : Array Value} {ss ts : List α} (hl : ts.length = ss.length) (hbase : base ≤ g) (hb : w.heap[g]? = some (.cells cur e (0, 0)))
    (h1 : ss.length ≤ cap) (h2 : cap ≤ maxLen) (h3 : cur.size = cap * 1) :
    (grow (putRow enc (Sort.ahead w n) g 0 ts.toArray) os).ownsRow base e 1 (.slice (some ⟨g, 0, none⟩) ss.length cap) ss.length (ts.map enc) :=
  ⟨by simp [hl], .inr ⟨g, cap, _, rfl, hbase, heap_sortedE enc _ hb, h1, h2, by simp [putCells, h3], by rw [Nat.mul_one, ← hl]; exact take_putCellsE enc cur ts (by omega)⟩⟩
end

/-- what a comparison makes of a list -/
structure SortedBy (cf : Int → Int → Int) (l out : List Int) : Prop where
  perm : out.Perm l
  srt : out.Pairwise (fun x y => ltOf cf y x = false)

theorem SortedBy.of {cf : Int → Int → Int} {l : List Int} {d' : Array Int} (hp : PermIn 0 l.toArray.size l.toArray d') (hs : SortedIn (ltOf cf) 0 l.toArray.size d') : SortedBy cf l d'.toList := by
  obtain ⟨h1, -, h3⟩ := hp
  have e1 : d'.extract 0 l.toArray.size = d' := by rw [← h1]; exact Array.extract_size
  have e2 : l.toArray.extract 0 l.toArray.size = l.toArray := Array.extract_size
  rw [e1, e2] at h3
  refine ⟨by simpa using h3, ?_⟩
  rw [List.pairwise_iff_getElem]
  intro i j hi hj hij
  have hi' : i < d'.size := by simpa using hi
  have hj' : j < d'.size := by simpa using hj
  have := hs i j (Nat.zero_le _) hij (by omega)
  rw [getElem!_pos d' i hi', getElem!_pos d' j hj'] at this
  simpa using this

def SfPost (cf : Int → Int → Int) (l : List Int) (base : Nat) (e : TypeId) (v : Value) (w : World) (en : Ending) (w' : World) : Prop :=
  en = .returned (.tuple #[]) ∧ ∃ out, SortedBy cf l out ∧ w'.ownsRow base e 1 v l.length (out.map nodeV) ∧ w.grownBy w' v.ownBlock

theorem sortFunc_nodes {l : List Int} {base g : Nat} {e : TypeId} {v : Value} {w : World} {cb : Array Value} {cf : Int → Int → Int} (hO : SWO (ltOf cf)) (eg : ∀ args w, (callFunc g args).run Tryz.prog w = .ok (.enter g args) w)
    (hcmp : ∀ W, w.grownBy W v.ownBlock → ∀ x y, Calls Tryz.prog g (#[nodeV x, nodeV y] ++ cb) W (fun e w' => e = .returned (.int .i64 (cf x y)) ∧ ∃ q, w' = W.drewN q))
    (hown : w.ownsRow base e 1 v l.length (l.map nodeV)) (hl : l.length ≤ 1000000) :
    Calls Tryz.prog 45 #[v, .func (.func g) #[] cb] w (SfPost cf l base e v w) := by
  by_cases h0 : l.length = 0
  · obtain rfl := List.eq_nil_of_length_eq_zero h0
    obtain ⟨a, c, rfl⟩ := own_slice hown
    refine (AnyF.slices_SortFunc_none { Tryz.sortNode with } a c _ w).mono ?_
    rintro en w' ⟨rfl, rfl⟩
    exact ⟨rfl, [], ⟨.refl _, .nil⟩, hown, grown_any (grown_refl _) _⟩
  · obtain ⟨-, h | ⟨b, cap, cur, rfl, hbase, hb, hc1, hc2, hc3, ht⟩⟩ := hown
    · omega
    · have hH := holds_of_blockE nodeV hb (by simpa using ht)
      have hcr : CmpReads Tryz.prog g cb nodeV cf b 0 l.toArray.size w := fun m os dk _ x y => hcmp _ (grownBy_sortedE nodeV dk) x y
      refine (Any.slices_SortFunc Tryz.sortNode nodeV (fun _ => rfl) cf hO g cb b 0 cap l.toArray w eg hcr.lays hH (Array.getElem?_eq_some_iff.1 hb).1 (by simp; omega)).mono ?_
      rintro en w' ⟨rfl, d', n, os, hp, hs, rfl⟩
      have hd : d'.toList.length = l.length := by have := hp.1; simpa using this
      refine ⟨rfl, d'.toList, SortedBy.of hp hs, ?_, grownBy_sortedE nodeV d'⟩
      exact ownsRow_sortedE nodeV hd hbase hb hc1 hc2 (by simpa using hc3)

def RevPost (l : List Int) (base : Nat) (e : TypeId) (v : Value) (w : World) (en : Ending) (w' : World) : Prop :=
  en = .returned (.tuple #[]) ∧ w'.ownsRow base e 1 v l.length (l.reverse.map nodeV) ∧ w.grownBy w' v.ownBlock

theorem rev_nodes {α : Type} [Inhabited α] (enc : α → Value) (h1 : OneCell enc) {l : List α} {base : Nat} {e : TypeId} {v : Value} {w : World} (hown : w.ownsRow base e 1 v l.length (l.map enc)) (hl : l.length ≤ 1000000) :
    Calls Tryz.prog 87 #[v] w (fun en w' => en = .returned (.tuple #[]) ∧ w'.ownsRow base e 1 v l.length (l.reverse.map enc) ∧ w.grownBy w' v.ownBlock) := by
  by_cases h0 : l.length = 0
  · obtain rfl := List.eq_nil_of_length_eq_zero h0
    obtain ⟨a, c, rfl⟩ := own_slice hown
    refine (AnyE.slices_Reverse_empty Tryz.revNode a c w).mono ?_
    rintro en w' ⟨rfl, rfl⟩
    exact ⟨rfl, hown, grown_any (grown_refl _) _⟩
  · obtain ⟨-, h | ⟨b, cap, cur, rfl, hbase, hb, hc1, hc2, hc3, ht⟩⟩ := hown
    · omega
    · have hH := holds_of_blockE enc hb (by simpa using ht)
      refine (AnyE.slices_Reverse Tryz.revNode enc h1 b 0 cap l w hH (by omega)).mono ?_
      rintro en w' ⟨rfl, n, rfl⟩
      have hg := grow_empty (putRow enc (Sort.ahead w n) b 0 l.reverse.toArray)
      refine ⟨rfl, ?_, ?_⟩
      · rw [← hg]; exact ownsRow_sortedE enc (by simp) hbase hb hc1 hc2 (by simpa using hc3)
      · rw [← hg]; exact grownBy_sortedE enc _
theorem rev_lists {α : Type} [Inhabited α] (enc : α → Value) (h1 : OneCell enc) {l : List α} {base : Nat} {e : TypeId} {v : Value} {w : World} (hown : w.ownsRow base e 1 v l.length (l.map enc)) (hl : l.length ≤ 1000000) :
    Calls Tryz.prog 86 #[v] w (fun en w' => en = .returned (.tuple #[]) ∧ w'.ownsRow base e 1 v l.length (l.reverse.map enc) ∧ w.grownBy w' v.ownBlock) := by
  by_cases h0 : l.length = 0
  · obtain rfl := List.eq_nil_of_length_eq_zero h0
    obtain ⟨a, c, rfl⟩ := own_slice hown
    refine (AnyE.slices_Reverse_empty Tryz.revNodes a c w).mono ?_
    rintro en w' ⟨rfl, rfl⟩
    exact ⟨rfl, hown, grown_any (grown_refl _) _⟩
  · obtain ⟨-, h | ⟨b, cap, cur, rfl, hbase, hb, hc1, hc2, hc3, ht⟩⟩ := hown
    · omega
    · have hH := holds_of_blockE enc hb (by simpa using ht)
      refine (AnyE.slices_Reverse Tryz.revNodes enc h1 b 0 cap l w hH (by omega)).mono ?_
      rintro en w' ⟨rfl, n, rfl⟩
      have hg := grow_empty (putRow enc (Sort.ahead w n) b 0 l.reverse.toArray)
      refine ⟨rfl, ?_, ?_⟩
      · rw [← hg]; exact ownsRow_sortedE enc (by simp) hbase hb hc1 hc2 (by simpa using hc3)
      · rw [← hg]; exact grownBy_sortedE enc _

set_option maxHeartbeats 400000 in
theorem cmp64 (x y : Int) (w : World) : Calls Tryz.prog 112 #[.int .i64 x, .int .i64 y] w (fun e w' => e = .returned (.int .i64 (Lib.compareInt x y)) ∧ w = w') := by
  rcases Int.lt_trichotomy x y with h | h | h
  · have e0 : Lib.compareInt x y = -1 := by unfold Lib.compareInt; rw [if_pos h]
    go_enter Tryz.func112, Tryz.ntmps112
    go_wp2_with (go_at_call 125; refine (nan_cmp _ _).mono ?_; rintro e w' ⟨rfl, rfl⟩)
    go_ret
    exact ⟨by rw [e0]; rfl, rfl⟩
  · have e0 : Lib.compareInt x y = 0 := by unfold Lib.compareInt; rw [if_neg (by omega), if_neg (by omega)]
    have h1 : ¬ x < y := by omega
    have h2 : ¬ y < x := by omega
    go_enter Tryz.func112, Tryz.ntmps112
    go_wp2_with (go_at_call 125; refine (nan_cmp _ _).mono ?_; rintro e w' ⟨rfl, rfl⟩)
    go_ret
    exact ⟨by rw [e0]; rfl, rfl⟩
  · have e0 : Lib.compareInt x y = 1 := by unfold Lib.compareInt; rw [if_neg (by omega), if_pos h]
    have h1 : ¬ x < y := by omega
    go_enter Tryz.func112, Tryz.ntmps112
    go_wp2_with (go_at_call 125; refine (nan_cmp _ _).mono ?_; rintro e w' ⟨rfl, rfl⟩)
    go_ret
    exact ⟨by rw [e0]; rfl, rfl⟩

set_option maxHeartbeats 400000 in
theorem byID_cmp (x y : Int) (w : World) : Calls Tryz.prog 111 #[nodeV x, nodeV y] w (fun e w' => e = .returned (.int .i64 (Lib.compareInt x y)) ∧ ∃ q, w' = w.drewN q) := by
  obtain ⟨c, hc⟩ : ∃ c, c = Lib.compareInt x y := ⟨_, rfl⟩
  have hcmp := fun W => cmp64 x y W
  rw [← hc] at hcmp ⊢
  clear hc
  go_enter Tryz.func111, Tryz.ntmps111
  go_wp2_with (first
    | (go_at_call 181; refine (id_node _ _).mono ?_; rintro e w' ⟨rfl, rfl⟩)
    | (go_at_call 112; refine (hcmp _).mono ?_; rintro e w' ⟨rfl, rfl⟩))
  go_ret
  exact ⟨rfl, 0, rfl⟩

theorem lt_cmp (x y : Int) : ltOf Lib.compareInt x y = decide (x < y) := by
  unfold ltOf Lib.compareInt
  by_cases h1 : x < y
  · simp [h1]
  · by_cases h2 : y < x <;> simp [h1, h2]
theorem swo_cmp : SWO (ltOf Lib.compareInt) where
  irrefl x := by rw [lt_cmp]; simp
  trans x y z h1 h2 := by rw [lt_cmp] at *; simp at *; omega
  ntrans x y z h1 h2 := by rw [lt_cmp] at *; simp at *; omega
theorem SortedBy.srt_of {l out : List Int} (h : SortedBy Lib.compareInt l out) : out = Go.Proofs.YtdllkoiddlcnmaaGreat.srt l :=
  srt_eq (h.srt.imp (fun {a b} hab => by rw [lt_cmp] at hab; simp at hab; exact hab)) h.perm

def OrdPost (l : List Int) (base : Nat) (e : TypeId) (v : Value) (w : World) (en : Ending) (w' : World) : Prop :=
  en = .returned (.tuple #[]) ∧ w'.ownsRow base e 1 v l.length ((srt l).map nodeV) ∧ w.grownBy w' v.ownBlock

set_option maxHeartbeats 400000 in
theorem byID_any {l : List Int} {base : Nat} {e : TypeId} {v : Value} {w : World} (hown : w.ownsRow base e 1 v l.length (l.map nodeV)) (hl : l.length ≤ 1000000) :
    Calls Tryz.prog 88 #[v] w (OrdPost l base e v w) := by
  have hcall := sortFunc_nodes swo_cmp (fun args w => enters_of Tryz.func111 (by kernel_rfl) rfl args w) (cb := #[]) (fun W _ x y => byID_cmp x y W) hown hl
  obtain ⟨a, c, rfl⟩ := own_slice hown
  clear hown
  go_enter Tryz.func88, Tryz.ntmps88
  go_wp2_with (go_at_call 45; refine hcall.mono ?_; rintro en w' ⟨rfl, out, h1, h2, h3⟩)
  go_end0
  exact ⟨rfl, by rw [← h1.srt_of]; exact h2, h3⟩

set_option maxHeartbeats 400000 in
theorem lexical_any {l : List Int} {base : Nat} {e : TypeId} {v : Value} {w : World} (hown : w.ownsRow base e 1 v l.length (l.map nodeV)) (hl : l.length ≤ 1000000) :
    Calls Tryz.prog 62 #[v] w (OrdPost l base e v w) := by
  have hcall := byID_any hown hl
  obtain ⟨a, c, rfl⟩ := own_slice hown
  clear hown
  go_enter Tryz.func62, Tryz.ntmps62
  go_wp2_with (go_at_call 88; refine hcall.mono ?_; rintro en w' ⟨rfl, h2, h3⟩)
  go_end0
  exact ⟨rfl, h2, h3⟩

/-! ### successors in an order -/
/-- an order makes this of a list -/
def KPost (K : List Int → List Int) (l : List Int) (base : Nat) (e : TypeId) (v : Value) (w : World) (en : Ending) (w' : World) : Prop :=
  en = .returned (.tuple #[]) ∧ w'.ownsRow base e 1 v l.length ((K l).map nodeV) ∧ w.grownBy w' v.ownBlock
abbrev lexV : Value := .func (.func 62) #[] #[]

theorem lex_call {base : Nat} {e : TypeId} {v : Value} {l : List Int} {w : World} (hown : w.ownsRow base e 1 v l.length (l.map nodeV)) (hl : l.length ≤ 1000) :
    Calls Tryz.prog 62 #[v] w (KPost srt l base e v w) := (lexical_any hown (by omega)).mono (fun _ _ h => h)

/-- what the order makes of the list is turned round -/
theorem rev_call {base : Nat} {e : TypeId} {v : Value} {l : List Int} {w : World} (hown : w.ownsRow base e 1 v l.length (l.map nodeV)) (hl : l.length ≤ 1000000) :
    Calls Tryz.prog 87 #[v] w (KPost List.reverse l base e v w) := (rev_nodes nodeV (fun _ => rfl) hown hl).mono (fun _ _ h => h)

set_option maxHeartbeats 1000000 in
set_option maxRecDepth 100000 in
theorem succ_lex {p0 bx : Nat} {ids : List Int} {M : Mat} {w : World} {x : Int} {K : List Int → List Int} (hK : ∀ l, (K l).length = l.length)
    (hord : ∀ W B e v l, w.grownBy W none → w.heap.size ≤ B → W.ownsRow B e 1 v l.length (l.map nodeV) → l.length ≤ 1000 → (∀ y ∈ l, y ∈ ids) → Calls Tryz.prog 62 #[v] W (KPost K l B e v W))
    (h : PlnR w p0 ids M) (hl : ids.length ≤ 1000) (hx : x ∈ ids) (ha : ids.Pairwise (· < ·)) (hb : w.cell? ⟨bx, 0, none⟩ = some (.iface dirT (dirV p0))) (hlt : bx + 1 < w.heap.size) (hbo : w.cell? ⟨bx + 1, 0, none⟩ = some lexV) (hin : ∀ y ∈ outs ids M x, y ∈ ids) :
    Calls Tryz.prog 91 #[.int .i64 x, .pointer (some ⟨bx, 0, none⟩), .pointer (some ⟨bx + 1, 0, none⟩)] w (NlPost (K (outs ids M x)).reverse w) := by
  have hcall := dir_from h hl hx ha
  have hlo : (outs ids M x).length ≤ 1000 := by
    unfold outs
    rw [List.length_map]
    have := length_arcsOf ids.length (M (ix ids x))
    omega
  have HCB : Hid (∀ W, w.grownBy W none → W.cell? ⟨bx + 1, 0, none⟩ = some lexV) := Lib.hid (fun W hW => (grown_cell hW hlt (by simp)).trans hbo)
  have HO := Lib.hid hord
  obtain ⟨L, hL⟩ : ∃ L, L = outs ids M x := ⟨_, rfl⟩
  rw [← hL] at hcall hlo hin ⊢
  have HK := Lib.hid hK
  have HIN := Lib.hid hin
  clear h hord hbo hlt hL hK hin
  go_enter Tryz.func91, Tryz.ntmps91
  go_wp2_with (first
    | (go_at_call 173; refine hcall.mono ?_; intro e w1 hp; obtain ⟨q, vs, rfl, hp1, hp2, hp3, hp4⟩ := hp)
    | (go_at_call 89; refine (nodesOf_it hp1 hp2 (by omega)).mono ?_; intro e w2 hn; have hn' := NlPost.of hp3 hp4 hn; obtain ⟨v, rfl, hn1, hn2⟩ := hn'; clear hn; obtain ⟨av, cv, hav⟩ := own_slice hn1; subst hav; have hbo2 := HCB.out w2 hn2; have hord2 := HO.out w2 _ _ _ L hn2 (Nat.le_refl _) hn1 hlo HIN.out)
    | (go_at_call 62; refine hord2.mono ?_; rintro e w3 ⟨rfl, ho3, hg3⟩; rw [← HK.out L] at ho3; have hrev := rev_call ho3 (by rw [HK.out L]; omega); rw [HK.out L] at hrev)
    | (go_at_call 87; refine hrev.mono ?_; rintro e w4 ⟨rfl, ho4, hg4⟩))
  go_ret
  refine ⟨_, rfl, ?_, grown_new (grown_new hn2 hg3 (fun k hk => (hn1.lt k hk).1)) hg4 (fun k hk => (hn1.lt k hk).1)⟩
  rw [List.length_reverse, HK.out]
  rw [HK.out] at ho4
  exact ho4
abbrev byV (bp : Nat) : Value := .func (.func 44) #[] #[.pointer (some ⟨bp, 0, none⟩)]
set_option maxHeartbeats 1000000 in
set_option maxRecDepth 100000 in
theorem succ_by {bp : Nat}{p0 bx : Nat} {ids : List Int} {M : Mat} {w : World} {x : Int} {K : List Int → List Int} (hK : ∀ l, (K l).length = l.length)
    (hord : ∀ W B e v l, w.grownBy W none → w.heap.size ≤ B → W.ownsRow B e 1 v l.length (l.map nodeV) → l.length ≤ 1000 → (∀ y ∈ l, y ∈ ids) → Calls Tryz.prog 44 #[v, .pointer (some ⟨bp, 0, none⟩)] W (KPost K l B e v W))
    (h : PlnR w p0 ids M) (hl : ids.length ≤ 1000) (hx : x ∈ ids) (ha : ids.Pairwise (· < ·)) (hb : w.cell? ⟨bx, 0, none⟩ = some (.iface dirT (dirV p0))) (hlt : bx + 1 < w.heap.size) (hbo : w.cell? ⟨bx + 1, 0, none⟩ = some (byV bp)) (hin : ∀ y ∈ outs ids M x, y ∈ ids) :
    Calls Tryz.prog 91 #[.int .i64 x, .pointer (some ⟨bx, 0, none⟩), .pointer (some ⟨bx + 1, 0, none⟩)] w (NlPost (K (outs ids M x)).reverse w) := by
  have hcall := dir_from h hl hx ha
  have hlo : (outs ids M x).length ≤ 1000 := by
    unfold outs
    rw [List.length_map]
    have := length_arcsOf ids.length (M (ix ids x))
    omega
  have HCB : Hid (∀ W, w.grownBy W none → W.cell? ⟨bx + 1, 0, none⟩ = some (byV bp)) := Lib.hid (fun W hW => (grown_cell hW hlt (by simp)).trans hbo)
  have HO := Lib.hid hord
  obtain ⟨L, hL⟩ : ∃ L, L = outs ids M x := ⟨_, rfl⟩
  rw [← hL] at hcall hlo hin ⊢
  have HK := Lib.hid hK
  have HIN := Lib.hid hin
  clear h hord hbo hlt hL hK hin
  go_enter Tryz.func91, Tryz.ntmps91
  go_wp2_with (first
    | (go_at_call 173; refine hcall.mono ?_; intro e w1 hp; obtain ⟨q, vs, rfl, hp1, hp2, hp3, hp4⟩ := hp)
    | (go_at_call 89; refine (nodesOf_it hp1 hp2 (by omega)).mono ?_; intro e w2 hn; have hn' := NlPost.of hp3 hp4 hn; obtain ⟨v, rfl, hn1, hn2⟩ := hn'; clear hn; obtain ⟨av, cv, hav⟩ := own_slice hn1; subst hav; have hbo2 := HCB.out w2 hn2; have hord2 := HO.out w2 _ _ _ L hn2 (Nat.le_refl _) hn1 hlo HIN.out)
    | (go_at_call 44; refine hord2.mono ?_; rintro e w3 ⟨rfl, ho3, hg3⟩; rw [← HK.out L] at ho3; have hrev := rev_call ho3 (by rw [HK.out L]; omega); rw [HK.out L] at hrev)
    | (go_at_call 87; refine hrev.mono ?_; rintro e w4 ⟨rfl, ho4, hg4⟩))
  go_ret
  refine ⟨_, rfl, ?_, grown_new (grown_new hn2 hg3 (fun k hk => (hn1.lt k hk).1)) hg4 (fun k hk => (hn1.lt k hk).1)⟩
  rw [List.length_reverse, HK.out]
  rw [HK.out] at ho4
  exact ho4
end Go.Proofs.YtdllkoiddlcnmaaGreat
