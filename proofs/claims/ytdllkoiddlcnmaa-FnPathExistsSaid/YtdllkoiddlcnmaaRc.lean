/- The laws' own: reach (Warshall's closure over a table). -/
import Derived.Test.YtdllkoiddlcnmaaRb
import Derived.Test.YtdllkoiddlcnmaaIu
import Derived.Test.YtdllkoiddlcnmaaTbn
import Derived.Test.YtdllkoiddlcnmaaWar
namespace Go.Proofs.Ytdllkoiddlcnmaa
open Go.MapKept Go.RowKit

abbrev boolT : TypeId := 4
abbrev boolsT : TypeId := 44

/-- an edge, or the same place -/
def m0 (M : Mat) : Nat → Nat → Bool := fun i j => (M i j).isSome || decide (j = i)

def RchM (w : World) (B n k : Nat) (vo : Value) (R C : Nat → Nat) (f : Nat → Nat → Bool) : Prop :=
  RowsB w B boolT n k R C (fun i j => .bool (f i j)) ∧ w.ownsRow B boolsT 1 vo k ((List.range k).map (rowC n R C))
theorem RchM.grown {w w' : World} {B n k : Nat} {vo : Value} {R C : Nat → Nat} {f : Nat → Nat → Bool} (h : RchM w B n k vo R C f) (hg : w.grownBy w' none) : RchM w' B n k vo R C f :=
  ⟨h.1.grown hg (by simp), own_new h.2 hg⟩
theorem RchM.congr {w : World} {B n k : Nat} {vo : Value} {R C : Nat → Nat} {f g : Nat → Nat → Bool} (h : RchM w B n k vo R C f) (e : ∀ r i, r < k → i < n → f r i = g r i) : RchM w B n k vo R C g :=
  ⟨h.1.congr (fun r i hr hi => by rw [e r i hr hi]), h.2⟩

/-- one row more, its diagonal set -/
theorem RchM.more {wr w3 W5 w5 : World} {B n k g3 c3 g5 c5 : Nat} {vo : Value} {R C : Nat → Nat} {M : Mat} (h : RchM wr B n k vo R C (m0 M)) (hB : B ≤ wr.heap.size) (hg3 : wr.grownBy w3 none)
    (ho3 : w3.ownsRow wr.heap.size boolT 1 (.slice (some ⟨g3, 0, none⟩) n c3) n ((List.range n).map (fun i => Value.bool (M k i).isSome)))
    (hW : (w3.setCell ⟨g3, k, none⟩ (.bool true)).grownBy W5 none) (hg5 : W5.grownBy w5 vo.ownBlock) (ho5 : w5.ownsRow B boolsT 1 (.slice (some ⟨g5, 0, none⟩) (k + 1) c5) (k + 1) ((List.range k).map (rowC n R C) ++ [.slice (some ⟨g3, 0, none⟩) n c3])) :
    RchM w5 B n (k + 1) (.slice (some ⟨g5, 0, none⟩) (k + 1) c5) (fun r => if r = k then g3 else R r) (fun r => if r = k then c3 else C r) (m0 M) ∧ wr.grownBy w5 vo.ownBlock := by
  have hge := (ho3.lt g3 rfl).1
  have h35 : wr.grownBy W5 none := grown_tr (grown_new hg3 (grown_setCell w3 g3 k (.bool true)) (fun j hj => by cases hj; exact hge)) hW
  have hall : wr.grownBy w5 vo.ownBlock := grown_opt h35 hg5
  have hv5 := own_new h.2 h35
  have hnew : RowB (w3.setCell ⟨g3, k, none⟩ (.bool true)) g3 boolT n c3 (fun j => .bool (m0 M k j)) := by
    refine ((RowB.of_own ho3).set k (.bool true)).congr (fun j _ => ?_)
    unfold m0
    by_cases e : j = k <;> simp [e]
  have hnew5 := hnew.grown hW (by simp)
  refine ⟨⟨h.1.snoc hall (fun r hr => ?_) (hnew5.grown hg5 (hnew5.ne_own hv5 (by decide))) hge (Nat.le_trans hB hge), ?_⟩, hall⟩
  · exact ((h.1.row r hr).grown h35 (by simp)).ne_own hv5 (by decide)
  · rw [rowC_snoc]
    exact ho5

/-- Warshall's step, on its way -/
def wmid (k : Nat) (F : Nat → Nat → Bool) (u v : Nat) : Nat → Nat → Bool := fun a b => if a < u ∨ (a = u ∧ b < v) then wstep k F a b else F a b
theorem wmid_start (k : Nat) (F : Nat → Nat → Bool) : wmid k F 0 0 = F := by funext a b; simp [wmid]
theorem wmid_uk (k : Nat) (F : Nat → Nat → Bool) (u v : Nat) : wmid k F u v u k = F u k := by
  unfold wmid wstep
  split <;> simp
  intro h1 _; exact h1
theorem wmid_kv (k : Nat) (F : Nat → Nat → Bool) (u v : Nat) : wmid k F u v k v = F k v := by
  unfold wmid wstep
  split <;> simp
theorem wmid_uv (k : Nat) (F : Nat → Nat → Bool) (u v : Nat) : wmid k F u v u v = F u v := by
  unfold wmid
  rw [if_neg (by omega)]
theorem wmid_next {k : Nat} {F : Nat → Nat → Bool} {u v : Nat} (h : F u k = true) (a b : Nat) : (if a = u ∧ b = v then (F u v || F k v) else wmid k F u v a b) = wmid k F u (v + 1) a b := by
  unfold wmid
  by_cases e : a = u ∧ b = v
  · obtain ⟨rfl, rfl⟩ := e
    rw [if_pos ⟨rfl, rfl⟩, if_pos (by omega)]
    simp [wstep, h]
  · rw [if_neg e]
    by_cases e2 : a < u ∨ (a = u ∧ b < v)
    · rw [if_pos e2, if_pos (by omega)]
    · rw [if_neg e2, if_neg (by omega)]
theorem wmid_skip {k : Nat} {F : Nat → Nat → Bool} {u v : Nat} (h : F u k = false) (a b : Nat) : wmid k F u v a b = wmid k F (u + 1) 0 a b := by
  unfold wmid
  by_cases e : a = u
  · subst e
    rw [if_pos (show a < a + 1 ∨ (a = a + 1 ∧ b < 0) by omega)]
    have : wstep k F a b = F a b := by simp [wstep, h]
    rw [this]
    split <;> rfl
  · by_cases e2 : a < u
    · rw [if_pos (by omega), if_pos (by omega)]
    · rw [if_neg (by omega), if_neg (by omega)]
theorem wmid_row {k : Nat} {F : Nat → Nat → Bool} {u n : Nat} (a b : Nat) (hb : b < n) : wmid k F u n a b = wmid k F (u + 1) 0 a b := by
  unfold wmid
  by_cases e2 : a < u + 1
  · rw [if_pos (by omega), if_pos (by omega)]
  · rw [if_neg (by omega), if_neg (by omega)]
theorem wmid_all {k : Nat} {f : Nat → Nat → Bool} {n : Nat} (a b : Nat) (ha : a < n) : wmid k (wars f k) n 0 a b = wars f (k + 1) a b := by
  unfold wmid
  rw [if_pos (by omega)]
  rfl

theorem RchM.stored {w : World} {B n u v k : Nat} {vo : Value} {R C : Nat → Nat} {F : Nat → Nat → Bool} (h : RchM w B n n vo R C (wmid k F u v)) (hu : u < n) (ht : F u k = true) {b : Bool} (hb : b = (F u v || F k v)) :
    RchM (w.setCell ⟨R u, v, none⟩ (.bool b)) B n n vo R C (wmid k F u (v + 1)) := by
  subst hb
  have hg := grown_setCell w (R u) v (.bool (F u v || F k v))
  refine ⟨(h.1.stored hu v _).congr (fun a c _ _ => ?_), h.2.kept hg (.inr (fun e => (h.1.row u hu).ne_own h.2 (by decide) e.symm))⟩
  rw [← wmid_next ht]
  split <;> rfl

def Rel1 (M : Mat) (w0 : World) (n : Nat) (vo i : Value) (wr : World) : Prop := ∃ k R C, k ≤ n ∧ i = .int .i64 (k : Nat) ∧ RchM wr w0.heap.size n k vo R C (m0 M) ∧ w0.grownBy wr none
def Rel2 (f : Nat → Nat → Bool) (w0 : World) (n : Nat) (vo : Value) (R C : Nat → Nat) (i : Value) (wr : World) : Prop := ∃ k, k ≤ n ∧ i = .int .i64 (k : Nat) ∧ RchM wr w0.heap.size n n vo R C (wars f k) ∧ w0.grownBy wr none
def Rel3 (k : Nat) (F : Nat → Nat → Bool) (w0 : World) (n : Nat) (vo : Value) (R C : Nat → Nat) (i : Value) (wr : World) : Prop := ∃ u, u ≤ n ∧ i = .int .i64 (u : Nat) ∧ RchM wr w0.heap.size n n vo R C (wmid k F u 0) ∧ w0.grownBy wr none
def Rel4 (k : Nat) (F : Nat → Nat → Bool) (w0 : World) (n : Nat) (vo : Value) (R C : Nat → Nat) (u : Nat) (i : Value) (wr : World) : Prop := ∃ v, v ≤ n ∧ i = .int .i64 (v : Nat) ∧ RchM wr w0.heap.size n n vo R C (wmid k F u v) ∧ w0.grownBy wr none

def RchPost (n : Nat) (f : Nat → Nat → Bool) (w : World) (e : Ending) (w' : World) : Prop := ∃ v, e = .returned v ∧ GridC w' v n n (fun i j => .bool (f i j)) ∧ w.grownBy w' none

theorem RchM.cells {w : World} {B n k : Nat} {vo : Value} {R C : Nat → Nat} {f : Nat → Nat → Bool} (h : RchM w B n k vo R C f) (hk : 0 < k) : ∃ g c, vo = .slice (some ⟨g, 0, none⟩) k c ∧ ∀ r, r < k → w.cell? ⟨g, r, none⟩ = some (.slice (some ⟨R r, 0, none⟩) n (C r)) := by
  obtain ⟨g, cap, rfl, _, hg, _⟩ := own_row h.2 hk
  refine ⟨g, cap, rfl, fun r hr => ?_⟩
  have := h.2.cells (g := g) rfl r (rowC n R C r) (by simp [hr])
  rwa [addr_add, Nat.zero_add] at this

set_option maxHeartbeats 4000000 in
set_option maxRecDepth 100000 in
theorem reach_any {ids : List Int} {M : Mat} {v : Value} {w : World} (h : TabR w v ids M) (hl : ids.length ≤ 1000) :
    Calls Try.prog 16 #[v] w (RchPost ids.length (wars (m0 M) ids.length) w) := by
  obtain ⟨vn, va, vw, rfl, ⟨an, cn, rfl, _⟩, ⟨aa, ca, Ra, rfl, ha1, ha2⟩, ⟨aw, cw, Rw, rfl, _⟩⟩ := h
  obtain ⟨n, hn⟩ : ∃ n, n = ids.length := ⟨_, rfl⟩
  rw [← hn] at ha1 ha2 hl ⊢
  have HA := Lib.hid (And.intro ha1 ha2)
  have HB : Hid (∀ wx, (w.alloc (.cells #[.slice an n cn, .slice aa n ca, .slice aw n cw] tblT)).grownBy wx none → wx.cell? ⟨w.heap.size, 1, none⟩ = some (.slice aa n ca)) := Lib.hid (fun wx hg => by rw [box_at hg 1]; rfl)
  clear ha1 ha2 hn
  go_enter Try.func16, Try.ntmps16
  go_wp2_with fail
  obtain ⟨w0, hw0⟩ : ∃ w0, w0 = w.alloc (.cells #[.slice an n cn, .slice aa n ca, .slice aw n cw] tblT) := ⟨_, rfl⟩
  rw [← hw0] at HB ⊢
  have HW0 : Hid (w.grownBy w0 none) := Lib.hid (by rw [hw0]; exact grown_alloc _ _)
  clear hw0
  go_loopw [4, 5, 6] (fun vo i _ wr => Rel1 M w0 n vo i wr) (fun _ i _ _ => n - (intOf i).toNat)
  case atStart => exact ⟨0, fun _ => 0, fun _ => 0, Nat.zero_le _, rfl, ⟨RowsB.zero _ _ _ _ _ _ _, ⟨rfl, .inl ⟨rfl, rfl⟩⟩⟩, grown_refl _⟩
  case round =>
    obtain ⟨k, R, C, hk, rfl, hM, hg⟩ := hrel
    by_cases hlt : k < n
    · have hlt' : (k : Int) < n := by omega
      have cb := HB.out wr hg
      obtain ⟨ha1, ha2⟩ := HA.out
      obtain ⟨b, o, rfl, hb, hc1⟩ := ha1 (by omega)
      have hbw : b < wr.heap.size := Nat.lt_of_lt_of_le hb (Nat.le_trans HW0.out.size hg.size)
      have c1 := (grown_cell (grown_tr HW0.out hg) hb (by simp)).trans (hc1 k hlt)
      unfold rowV at c1
      have hcl := clone_bool (w := wr) (g := Ra k) (n := n) (cap := n) (f := fun i => (M k i).isSome) (fun i hi => (grown_cell (grown_tr HW0.out hg) (ha2 k hlt).1 (by simp)).trans ((ha2 k hlt).2 i hi)) (by omega)
      have HX := Lib.hid (And.intro hM hg)
      clear ha1 ha2 hc1 hM hg hb hbw
      go_wp2_with fail
      refine hcl.mono ?_
      rintro e w3 ⟨v3, rfl, ho3, hg3⟩
      obtain ⟨g3, c3, rfl, -, -, -⟩ := own_row ho3 (by omega)
      have k1 : w3.cell? ⟨g3, k, none⟩ = some (.bool (M k k).isSome) := by
        have := ho3.cells (g := g3) rfl k (.bool (M k k).isSome) (by simp [hlt])
        rwa [addr_add, Nat.zero_add] at this
      have k2 : w3.frozen? ⟨g3, k, none⟩ = false := ho3.frozenAt k
      have HV : Hid ((w3.setCell ⟨g3, k, none⟩ (.bool true)).ownsRow w0.heap.size boolsT 1 u4 k ((List.range k).map (rowC n R C))) := by
        refine Lib.hid ((own_new HX.out.1.2 hg3).kept (grown_setCell w3 g3 k (.bool true)) ?_)
        exact row_ne_row (own_new HX.out.1.2 hg3) ho3 (by decide)
      have HNW : Hid (((w3.setCell ⟨g3, k, none⟩ (.bool true)).alloc (.cells #[.slice (some ⟨g3, 0, none⟩) n c3] boolsT)).heap[w3.heap.size]? = some (.cells #[.slice (some ⟨g3, 0, none⟩) n c3] boolsT)) := Lib.hid (by
        have := heap_alloc_new (w3.setCell ⟨g3, k, none⟩ (.bool true)) (.cells #[.slice (some ⟨g3, 0, none⟩) n c3] boolsT)
        rwa [World.size_setCell] at this)
      have H3 := Lib.hid (And.intro ho3 hg3)
      clear ho3 hg3 hcl
      go_wp2_with (at_builtin; refine wpx_app1 elBB rfl (.tmp 27) (.tmp 29) rfl w0.heap.size u4 k _ rfl (HV.out.alloc _) w3.heap.size #[.slice (some ⟨g3, 0, none⟩) n c3] HNW.out (w3.heap.size + 1) (by simp) 1 rfl rfl (by simp [Value.oneCell']) (by omega) (by unfold maxLen; omega) (by have := HX.out.2.size; have := H3.out.2.size; omega) ?_; intro g5 c5 w5 ho5 hg5 hat5 hlt5 hsz5)
      go_roundw
      case rel =>
        obtain ⟨hM, hg⟩ := HX.out
        obtain ⟨ho3, hg3⟩ := H3.out
        obtain ⟨hm, hga⟩ := hM.more hg.size hg3 ho3 (grown_alloc _ _) hg5 ho5
        exact ⟨k + 1, _, _, by omega, by go_num, hm, grown_new hg hga (fun j hj => (hM.2.lt j hj).1)⟩
      case measure => simp [intOf]; omega
    · have hlt' : ¬ (k : Int) < n := by omega
      obtain rfl : k = n := by omega
      have HX := Lib.hid (And.intro hM hg)
      clear hM hg HA HB
      go_wp2_with fail
      obtain ⟨w1, rfl⟩ : ∃ w1, w1 = wr := ⟨_, rfl⟩
      go_loopw [7, 8, 9] (fun i _ _ wx => Rel2 (m0 M) w0 k u4 R C i wx) (fun i _ _ _ => k - (intOf i).toNat)
      case atStart => exact ⟨0, Nat.zero_le _, rfl, HX.out.1, HX.out.2⟩
      case round =>
        clear HX
        obtain ⟨j, hj, rfl, hM, hg⟩ := hrel
        by_cases hjn : j < k
        · have hjn' : (j : Int) < k := by omega
          obtain ⟨F, hF⟩ : ∃ F, F = wars (m0 M) j := ⟨_, rfl⟩
          rw [← hF] at hM
          have HX := Lib.hid (And.intro hM (And.intro hg hF))
          clear hM hg hF
          go_wp2_with fail
          obtain ⟨w2, rfl⟩ : ∃ w2, w2 = wr := ⟨_, rfl⟩
          go_loopw [8, 9] (fun i _ wx => Rel3 j F w0 k u4 R C i wx) (fun i _ _ => k - (intOf i).toNat)
          case atStart => exact ⟨0, Nat.zero_le _, rfl, by rw [wmid_start]; exact HX.out.1, HX.out.2.1⟩
          case round =>
            obtain ⟨u, hu, rfl, hM, hg⟩ := hrel
            by_cases hun : u < k
            · have hun' : (u : Int) < k := by omega
              have HY := Lib.hid (And.intro hM hg)
              clear hM hg
              go_wp2_with fail
              obtain ⟨w3, rfl⟩ : ∃ w3, w3 = wr := ⟨_, rfl⟩
              go_loopw [9] (fun i wx => Rel4 j F w0 k u4 R C u i wx) (fun i _ => k - (intOf i).toNat)
              case atStart => exact ⟨0, Nat.zero_le _, rfl, HY.out.1, HY.out.2⟩
              case round =>
                clear HY
                obtain ⟨z, hz, rfl, hM, hg⟩ := hrel
                obtain ⟨go, co, rfl, hcs⟩ := hM.cells (by omega)
                have c1 := hcs u hun
                have c2 := hcs j hjn
                have c3 := (hM.1.row u hun).cell hjn
                rw [wmid_uk] at c3
                by_cases hzn : z < k
                · have hzn' : (z : Int) < k := by omega
                  by_cases hux : F u j = true
                  · rw [hux] at c3
                    have c4 := (hM.1.row u hun).cell hzn
                    have c5 := (hM.1.row j hjn).cell hzn
                    have f4 := (hM.1.row u hun).frozen z
                    rw [wmid_uv] at c4
                    rw [wmid_kv] at c5
                    obtain ⟨b1, hb1⟩ : ∃ b, b = F u z := ⟨_, rfl⟩
                    obtain ⟨b2, hb2⟩ : ∃ b, b = F j z := ⟨_, rfl⟩
                    rw [← hb1] at c4
                    rw [← hb2] at c5
                    have HY := Lib.hid (And.intro hM (And.intro hg (And.intro hux (And.intro hb1 hb2))))
                    clear hM hg hux hb1 hb2 hcs
                    go_wp2_with fail
                    cases b1
                    all_goals go_region
                    all_goals (try go_wp2_with fail)
                    all_goals go_roundw
                    case rel =>
                      obtain ⟨hM, hg, hux, hb1, hb2⟩ := HY.out
                      refine ⟨z + 1, by omega, by go_num, (hM.stored hun hux (by rw [← hb1, ← hb2]; rfl)).grown (grown_drew _), ?_⟩
                      exact grown_tr (grown_new hg (grown_setCell _ _ _ _) (fun j hj => by cases hj; exact hM.1.base u hun)) (grown_drew _)
                    case rel =>
                      obtain ⟨hM, hg, hux, hb1, hb2⟩ := HY.out
                      refine ⟨z + 1, by omega, by go_num, (hM.stored hun hux (by rw [← hb1, ← hb2]; rfl)).grown (grown_drew _), ?_⟩
                      exact grown_tr (grown_new hg (grown_setCell _ _ _ _) (fun j hj => by cases hj; exact hM.1.base u hun)) (grown_drew _)
                    all_goals (simp [intOf]; omega)
                  · have hux' : F u j = false := by simpa using hux
                    rw [hux'] at c3
                    have HY := Lib.hid (And.intro hM (And.intro hg hux'))
                    clear hM hg hux hux' hcs
                    go_wp2_with fail
                    go_roundw
                    case rel => exact ⟨u + 1, by omega, by go_num, HY.out.1.congr (fun a b _ _ => wmid_skip HY.out.2.2 a b), HY.out.2.1⟩
                    case measure => simp [intOf]; omega
                · have hzn' : ¬ (z : Int) < k := by omega
                  obtain rfl : z = k := by omega
                  have HY := Lib.hid (And.intro hM hg)
                  clear hM hg hcs c1 c2 c3
                  go_wp2_with fail
                  go_roundw
                  case rel => exact ⟨u + 1, by omega, by go_num, HY.out.1.congr (fun a b _ hb => wmid_row a b hb), HY.out.2⟩
                  case measure => simp [intOf]; omega
            · have hun' : ¬ (u : Int) < k := by omega
              obtain rfl : u = k := by omega
              have HY := Lib.hid (And.intro hM hg)
              clear hM hg
              go_wp2_with fail
              go_roundw
              case rel => exact ⟨j + 1, by omega, by go_num, HY.out.1.congr (fun a b ha _ => by rw [HX.out.2.2]; exact wmid_all a b ha), HY.out.2⟩
              case measure => simp [intOf]; omega
        · have hjn' : ¬ (j : Int) < k := by omega
          obtain rfl : j = k := by omega
          have HX := Lib.hid (And.intro hM hg)
          clear hM hg
          go_wp2_with fail
          go_ret
          exact ⟨_, rfl, GridC.of HX.out.1.2 HX.out.1.1, grown_tr HW0.out HX.out.2⟩
theorem wars_iff2 {M : Nat → Nat → Bool} {R : Nat → Nat → Prop} {n : Nat} (hR : ∀ u v, R u v → u < n ∧ v < n) (hs : ∀ u v, M u v = true → Rch R u v) (hc : ∀ u, M u u = true) (hr : ∀ u v, R u v → M u v = true) {u v : Nat} : wars M n u v = true ↔ Rch R u v := by
  constructor
  · exact wars_sound hs n u v
  · intro h
    induction h with
    | refl => exact wars_mono n (hc u)
    | tail h1 r ih =>
      obtain ⟨h2, h3⟩ := hR _ _ r
      exact wars_through n _ _ _ h2 ih (wars_mono n (hr _ _ r))
theorem wars_mat {M : Mat} {n : Nat} (hM : ∀ a b, (M a b).isSome = true → a < n ∧ b < n) {u v : Nat} : wars (m0 M) n u v = true ↔ Rch (fun i j => (M i j).isSome = true) u v := by
  refine wars_iff2 hM (fun a b h => ?_) (fun a => by simp [m0]) (fun a b h => by unfold m0; rw [h]; rfl)
  unfold m0 at h
  rw [Bool.or_eq_true] at h
  rcases h with h | h
  · exact .one h
  · rw [of_decide_eq_true h]; exact .refl _

theorem Gr.Well.mat_in {G : Gr} (hG : G.Well) (a b : Nat) (h : (G.mat a b).isSome = true) : a < G.ids.length ∧ b < G.ids.length := by
  rw [Gr.length_ids]
  exact ⟨(hG.mat_lt h).1, (hG.mat_lt h).2.1⟩
theorem TabR.of3 {w w' : World} {ids : List Int} {M : Mat} {tn ta tw : Value} (h1 : IntsR w tn ids) (h2 : GridR w ta ids.length ids.length (arcF M)) (h3 : GridR w tw ids.length ids.length (numF M)) (hg : w.grownBy w' none) : TabR w' (.agg #[tn, ta, tw]) ids M :=
  ⟨tn, ta, tw, rfl, h1.grown hg, h2.grown hg, h3.grown hg⟩

def TrueB (w : World) (e : Ending) (w' : World) : Prop := e = .returned (.bool true) ∧ w.grownBy w' none

end Go.Proofs.Ytdllkoiddlcnmaa
