/- Iterators over lists of nodes: (*plain).all, (*plain).ends, OrderedNodes, graph.NodesOf. -/
import Derived.Test.YtinlaaeoiocfoaaNo
namespace Go.Proofs.Ytinlaaeoiocfoaa
open Go.MapKept Go.RowKit

abbrev onT : TypeId := 148
abbrev onpT : TypeId := 145

theorem PlnR.ids {w : World} {p0 : Nat} {ids : List Int} {M : Mat} (h : PlnR w p0 ids M) : ∃ vids, w.cell? ⟨p0, 0, none⟩ = some vids ∧ IntsR w vids ids ∧ p0 < w.heap.size := by
  obtain ⟨B, Ro, Ri, vids, V, A⟩ := h
  exact ⟨vids, cell_at A.blk, .of_own A.idr, block_lt A.blk⟩

/-- an iterator over the nodes l, made by the call -/
def ItPost (l : List Int) (w : World) (e : Ending) (w' : World) : Prop :=
  ∃ q vs, e = .returned (.iface onpT (.pointer (some ⟨q, 0, none⟩))) ∧ w'.heap[q]? = some (.cells #[.int .i64 (-1), vs] onT (0, 0)) ∧ w'.ownsRow w.heap.size nodT 1 vs l.length (l.map nodeV) ∧ w.heap.size ≤ q ∧ w.grownBy w' none

set_option maxHeartbeats 400000 in
theorem new_ordered (a : Option Addr) (n c : Nat) (w : World) : Calls Try.prog 84 #[.slice a n c] w (fun e w' => e = .returned (.pointer (some ⟨w.heap.size, 0, none⟩)) ∧ w' = w.alloc (.cells #[.int .i64 (-1), .slice a n c] onT)) := by
  go_enter Try.func84, Try.ntmps84
  go_wp2_with fail
  go_ret
  exact ⟨rfl, rfl⟩

def NodRel (l : List Int) (w : World) (v i : Value) (wr : World) : Prop := ∃ k : Nat, k ≤ l.length ∧ i = .int .i64 k ∧ wr.ownsRow w.heap.size nodT 1 v k ((l.take k).map nodeV) ∧ w.grownBy wr none

theorem ItPost.of {l : List Int} {w wr : World} {v : Value} (hown : wr.ownsRow w.heap.size nodT 1 v l.length (l.map nodeV)) (hg : w.grownBy wr none) :
    ItPost l w (.returned (.iface onpT (.pointer (some ⟨wr.heap.size, 0, none⟩)))) (wr.alloc (.cells #[.int .i64 (-1), v] onT)) :=
  ⟨_, v, rfl, heap_alloc_new wr _, own_new hown (grown_alloc _ _), hg.size, grown_tr hg (grown_alloc _ _)⟩

set_option maxHeartbeats 1000000 in
set_option maxRecDepth 100000 in
theorem all_any {p0 : Nat} {ids : List Int} {M : Mat} {w : World} (h : PlnR w p0 ids M) (hl : ids.length ≤ 1000) : Calls Try.prog 83 #[.pointer (some ⟨p0, 0, none⟩)] w (ItPost ids w) := by
  obtain ⟨vids, hc, ⟨a, c, rfl, h⟩, hp⟩ := h.ids
  have HR := Lib.hid h
  clear h
  have hmk := run_make0 elN ids.length (by omega) (by unfold maxLen; omega)
  have HS : Hid (NodRel ids w (.slice (some ⟨w.heap.size, 0, none⟩) 0 ids.length) (.int .i64 0) (w.alloc (.cells (madeCells #[.nilIface] ids.length) nodT))) :=
    Lib.hid ⟨0, by omega, rfl, own_make1 _ ids.length (by unfold maxLen; omega) w, grown_alloc _ _⟩
  have hc2 : ∀ O, (w.alloc O).cell? ⟨p0, 0, none⟩ = some (.slice a ids.length c) := fun O => by rw [World.cell?_alloc_past _ _ _ hp]; exact hc
  go_enter Try.func83, Try.ntmps83
  go_wp2_with fail
  clear hc hc2 hmk
  go_loopw [3, 5, 17] (fun v _ i wr => NodRel ids w v i wr) (fun _ _ i _ => ids.length - (intOf i).toNat)
  case atStart => exact HS.out
  case round =>
    clear HS
    obtain ⟨k, hk, rfl, hown, hg⟩ := hrel
    by_cases hlt : k < ids.length
    · have hlt' : (k : Int) < ids.length := by omega
      obtain ⟨b, o, rfl, hb, hcell⟩ := HR.out (by omega)
      have c1 := (grown_cell hg hb (by simp)).trans (hcell k hlt)
      obtain ⟨x, hx⟩ : ∃ x, x = ids[k] := ⟨_, rfl⟩
      rw [← hx] at c1
      have HX := Lib.hid (And.intro hx (And.intro hown hg))
      clear hx hown hg hcell
      go_wp2_with (at_builtin; refine wpx_app1 elN rfl (.tmp 21) (.tmp 24) rfl w.heap.size u3 k _ rfl (HX.out.2.1.alloc _) wr.heap.size #[nodeV x] (heap_alloc_new wr _) (wr.heap.size + 1) (by simp) 1 rfl rfl (by simp [Value.oneCell']) (by omega) (by unfold maxLen; omega) (by have := HX.out.2.2.size; omega) ?_; intro g cap w' ho' hg' hat hlt2 hsz)
      go_roundw
      case rel =>
        obtain ⟨hx, hown, hg⟩ := HX.out
        subst hx
        exact ⟨k + 1, by omega, by go_num, own_snoc hlt ho', grown_own hg hown hg'⟩
      case measure => simp [intOf]; omega
    · have hlt' : ¬ (k : Int) < ids.length := by omega
      obtain rfl : k = ids.length := by omega
      rw [List.take_length] at hown
      obtain ⟨av, cv, rfl⟩ := own_slice hown
      have HX := Lib.hid (And.intro hown hg)
      clear hown hg
      go_wp2_with (go_at_call 84; refine (new_ordered _ _ _ _).mono ?_; rintro e w' ⟨rfl, rfl⟩)
      go_ret
      exact ItPost.of HX.out.1 HX.out.2

theorem store_arc (P : Program) (w : World) (tg z : Int) (T : TypeId) : (store ⟨w.heap.size, 1, none⟩ (flt z)).run P (w.alloc (.cells #[.int .i64 tg, .float .f64 0] T)) = .ok () (w.alloc (.cells #[.int .i64 tg, flt z] T)) := by
  rw [store_flt P _ z (u := .float .f64 0) (by rw [World.cell?_alloc_at _ _ _ _ rfl]; rfl) (World.frozen?_alloc_at _ _ _ _ rfl), World.setCell_alloc_at _ _ _ _ _ rfl]
  rfl

theorem grown_own2 {w wr w' : World} {v : Value} {e : TypeId} {n : Nat} {xs : List Value} {O O2 : Obj} (hg : w.grownBy wr none) (hown : wr.ownsRow w.heap.size e 1 v n xs) {W : World} (hg' : W.grownBy w' v.ownBlock) (hW : W.heap = ((wr.alloc O).alloc O2).heap) (ho : W.os = wr.os) (ht : W.tape = wr.tape) (hu : W.output = wr.output) : w.grownBy w' none := by
  have h1 : wr.grownBy W none := ⟨ho, ht, hu, by rw [hW]; simp; omega, fun k hk _ => by rw [hW]; exact (Below.heap_alloc _ _ _ (by simp; omega)).trans (Below.heap_alloc _ _ _ hk)⟩
  exact grown_new (grown_tr hg h1) hg' (fun k hk => (hown.lt k hk).1)

set_option maxHeartbeats 2000000 in
set_option maxRecDepth 100000 in
theorem ends_any {p0 : Nat} {ids : List Int} {M : Mat} {w : World} {va : Value} {l : Arcs} (h : PlnR w p0 ids M) (ha : ArcsR w va l) (hl : l.length ≤ 1000) (hil : ids.length ≤ 1000) (hlt : ∀ p ∈ l, p.1 < ids.length) :
    Calls Try.prog 81 #[.pointer (some ⟨p0, 0, none⟩), va] w (ItPost (l.map fun p => ids.getD p.1 0) w) := by
  obtain ⟨vids, hc, ⟨a, c, rfl, h⟩, hp⟩ := h.ids
  have HR := Lib.hid h
  obtain ⟨a2, c2, rfl, h2⟩ := ha
  have HA := Lib.hid h2
  clear h h2
  obtain ⟨L, hL⟩ : ∃ L : List Int, L = l.map fun p => ids.getD p.1 0 := ⟨_, rfl⟩
  have hLl : L.length = l.length := by rw [hL]; simp
  have HLL := Lib.hid (And.intro hL hLl)
  have hmk := run_make0 elN l.length (by omega) (by unfold maxLen; omega)
  have HS : Hid (NodRel L w (.slice (some ⟨w.heap.size, 0, none⟩) 0 l.length) (.int .i64 0) (w.alloc (.cells (madeCells #[.nilIface] l.length) nodT))) :=
    Lib.hid ⟨0, by omega, rfl, own_make1 _ l.length (by unfold maxLen; omega) w, grown_alloc _ _⟩
  rw [← hL]
  have HP := Lib.hid hc
  clear hL hLl hc
  go_enter Try.func81, Try.ntmps81
  go_wp2_with fail
  clear hmk
  go_loopw [5, 7, 13] (fun v _ i wr => NodRel L w v i wr) (fun _ _ i _ => l.length - (intOf i).toNat)
  case atStart => exact HS.out
  case round =>
    clear HS
    obtain ⟨k, hk, rfl, hown, hg⟩ := hrel
    by_cases hlt2 : k < l.length
    · have hlt' : (k : Int) < l.length := by omega
      obtain ⟨b, o, rfl, hb, hcell⟩ := HA.out (by omega)
      have c1 := (grown_cell hg hb (by simp)).trans (hcell k hlt2).1
      have c3 := (grown_cell hg hb (by simp)).trans (hcell k hlt2).2
      have hto := hlt _ (List.getElem_mem hlt2)
      have hLk : L[k]'(by rw [HLL.out.2]; exact hlt2) = ids.getD l[k].1 0 := by simp [HLL.out.1]
      obtain ⟨q, hq⟩ : ∃ q, q = l[k] := ⟨_, rfl⟩
      rw [← hq] at c1 c3 hto hLk
      obtain ⟨tg, z⟩ := q
      simp only at c1 c3 hto hLk
      obtain ⟨b2, o2, rfl, hb2, hcell2⟩ := HR.out (by omega)
      have d1 := (grown_cell hg hb2 (by simp)).trans (hcell2 tg hto)
      have hxk : L[k]'(by rw [HLL.out.2]; exact hlt2) = ids[tg] := by rw [hLk]; simp [List.getD, hto]
      obtain ⟨x, hx⟩ : ∃ x, x = ids[tg] := ⟨_, rfl⟩
      rw [← hx] at d1 hxk
      have dp : wr.cell? ⟨p0, 0, none⟩ = some (.slice (some ⟨b2, o2, none⟩) ids.length c) := (grown_cell hg hp (by simp)).trans HP.out
      have hps : p0 < wr.heap.size := by have := hg.size; omega
      have hb2s : b2 < wr.heap.size := by have := hg.size; omega
      have dp2 : ∀ O, (wr.alloc O).cell? ⟨p0, 0, none⟩ = some (.slice (some ⟨b2, o2, none⟩) ids.length c) := fun O => by rw [World.cell?_alloc_past _ _ _ hps]; exact dp
      have d2 : ∀ O, (wr.alloc O).cell? ⟨b2, o2 + tg, none⟩ = some (.int .i64 x) := fun O => by rw [World.cell?_alloc_past _ _ _ hb2s]; exact d1
      have hto0 : (0 : Int) ≤ tg := by omega
      have hto1 : (tg : Int) < ids.length := by omega
      have hsz := hg.size
      have HX := Lib.hid (And.intro hxk (And.intro hown hg))
      have HO := Lib.hid ((hown.alloc (.cells #[.int .i64 tg, flt z] 112)).alloc (.cells #[nodeV x] nodT))
      have HO2 := Lib.hid (heap_alloc2 wr (.cells #[.int .i64 tg, flt z] 112) (.cells #[nodeV x] nodT))
      clear hq hcell hcell2 hLk hxk hown hg hx
      have hst := store_arc Try.prog wr tg z 112
      go_wp2_with fail
      go_region_law (refine stepx_app1 elN rfl (.tmp 17) (.tmp 27) rfl w.heap.size u5 k _ rfl (own_heap HO.out rfl) (wr.heap.size + 1) #[nodeV x] HO2.out (wr.heap.size + 2) (by simp) 1 rfl rfl (by simp [Value.oneCell']) (by omega) (by unfold maxLen; omega) (by omega) ?_; intro g cap w' ho' hg' hat hlt3 hsz2)
      all_goals (try go_wp2_with fail)
      all_goals go_roundw
      all_goals first | (simp [intOf]; omega) | skip
      all_goals
        obtain ⟨hxk, hown, hg⟩ := HX.out
        subst hxk
        exact ⟨k + 1, by rw [HLL.out.2]; omega, by go_num, own_snoc (by rw [HLL.out.2]; exact hlt2) ho', grown_own2 hg hown hg' rfl rfl rfl rfl⟩
    · have hlt' : ¬ (k : Int) < l.length := by omega
      have hkl : k = L.length := by rw [HLL.out.2]; rw [HLL.out.2] at hk; omega
      have hkl2 : k = l.length := by rw [hkl]; exact HLL.out.2
      rw [hkl, List.take_length] at hown
      subst hkl2
      obtain ⟨av, cv, rfl⟩ := own_slice hown
      have HX := Lib.hid (And.intro hown hg)
      clear hown hg hkl
      go_wp2_with (go_at_call 84; refine (new_ordered _ _ _ _).mono ?_; rintro e w' ⟨rfl, rfl⟩)
      go_ret
      exact ItPost.of HX.out.1 HX.out.2
end Go.Proofs.Ytinlaaeoiocfoaa
