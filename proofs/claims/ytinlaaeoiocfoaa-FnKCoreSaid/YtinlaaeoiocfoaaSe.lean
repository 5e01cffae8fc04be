/- impl.set: one arc more in a row. -/
import Derived.Test.YtinlaaeoiocfoaaBs
namespace Go.Proofs.Ytinlaaeoiocfoaa
open Go.MapKept Go.RowKit

def putArc (f : Nat → Option Int) (k : Nat) (z : Int) : Nat → Option Int := fun v => if v = k then some z else f v

def SetPost (n : Nat) (f : Nat → Option Int) (base : Nat) (v : Value) (w : World) (e : Ending) (w' : World) : Prop :=
  ∃ v', e = .returned v' ∧ w'.ownsRow base 112 2 v' (arcsOf n f).length (arcCells (arcsOf n f)) ∧ w.grownBy w' v.ownBlock ∧ Fresh w v v'

theorem arcCells_set (l : Arcs) (m : Nat) (h : m < l.length) (z : Int) : (arcCells l).set (m * 2 + 1) (flt z) = arcCells (l.set m (l[m].1, z)) := by
  induction l generalizing m with
  | nil => simp at h
  | cons p l ih =>
    cases m with
    | zero => simp [arcCells_cons]
    | succ m =>
      rw [arcCells_cons, show (m + 1) * 2 + 1 = (m * 2 + 1) + 1 + 1 by omega, List.set_cons_succ, List.set_cons_succ, ih m (by simpa using h)]
      simp [arcCells_cons]

theorem store_flt (P : Program) (w : World) {a : Addr} (z : Int) {u : Value} (hc : w.cell? a = some u) (hf : w.frozen? a = false) : (store a (flt z)).run P w = .ok () (w.setCell a (flt z)) := by
  rw [run_store P w _ _ _ rfl]
  simp [hc, hf]

def FoundPost (l : Arcs) (k : Nat) (w : World) (e : Ending) (w' : World) : Prop :=
  ∃ m : Nat, At l k m ∧ (∃ hm : m < l.length, l[m].1 = k) ∧ e = .returned (.tuple #[.int .i64 m, .bool true]) ∧ w.grownBy w' none
def LostPost (l : Arcs) (k : Nat) (w : World) (e : Ending) (w' : World) : Prop :=
  ∃ m : Nat, At l k m ∧ (¬ ∃ hm : m < l.length, l[m].1 = k) ∧ e = .returned (.tuple #[.int .i64 m, .bool false]) ∧ w.grownBy w' none

set_option maxHeartbeats 1000000 in
set_option maxRecDepth 100000 in
theorem set_any {n : Nat} {f : Nat → Option Int} {base k : Nat} {z : Int} {v : Value} {w : World} (hn : n ≤ 1000) (hk : k < n) (hbase : base ≤ w.heap.size)
    (hown : w.ownsRow base 112 2 v (arcsOf n f).length (arcCells (arcsOf n f))) :
    Calls Try.prog 34 #[v, .int .i64 k, flt z] w (SetPost n (putArc f k z) base v w) := by
  have hlen := length_arcsOf n f
  have hcall := bs_set (arcsOf n f) k v w (.of_own hown) (arcsOf_asc n f) (by omega) (by omega) (fun p hp => by have := (arcsOf_mem.1 hp).1; omega)
  have ha := arcsOf_asc n f
  by_cases hf : (f k).isSome = true
  · have hex : ∃ y, (k, y) ∈ arcsOf n f := by
      obtain ⟨y, hy⟩ := Option.isSome_iff_exists.1 hf
      exact ⟨y, arcsOf_mem.2 ⟨hk, hy⟩⟩
    have hcall2 : Calls Try.prog 47 #[v, .int .i64 k, .func (.func 48) #[] #[]] w (FoundPost (arcsOf n f) k w) :=
      hcall.mono fun e w' ⟨m, k1, k2, k3⟩ => ⟨m, k1, (k1.found ha).1 hex, by rw [k2, decide_eq_true ((k1.found ha).1 hex)], k3⟩
    clear hcall
    obtain ⟨g, cap, rfl, hgb, hgs, _⟩ := own_row hown (by obtain ⟨y, hy⟩ := hex; exact List.length_pos_of_mem hy)
    have HO := Lib.hid hown
    have hst : ∀ m w1, m < (arcsOf n f).length → w.grownBy w1 none → (∃ u, w1.cell? ⟨g, m * 2 + 1, none⟩ = some u) ∧ w1.frozen? ⟨g, m * 2 + 1, none⟩ = false := fun m w1 hm hg =>
      ⟨by
        have := (own_new hown hg).cells (g := g) rfl (m * 2 + 1) _ (arcCells_get _ m hm).2
        rw [addr_add, Nat.zero_add] at this
        exact ⟨_, this⟩, (own_new hown hg).frozenAt (m * 2 + 1)⟩
    have HS := Lib.hid hst
    clear hst hown
    go_enter Try.func34, Try.ntmps34
    go_wp2_with (go_at_call 47; refine hcall2.mono ?_; rintro e w1 ⟨m, hat, ⟨hm, hmk⟩, rfl, hg⟩; obtain ⟨⟨u, c1⟩, c2⟩ := HS.out m w1 hm hg; replace hmk := Lib.hid hmk; have hrun := store_flt Try.prog w1 z c1 c2)
    go_ret
    obtain ⟨o1, g1⟩ := (own_new HO.out hg).stored (m * 2 + 1) (flt z)
    have hl := set_is (z := z) hk hat hm hmk.out
    have h2 := arcCells_set (arcsOf n f) m hm z
    rw [hmk.out, hl] at h2
    rw [h2] at o1
    have h3 : (arcsOf n f).length = (arcsOf n (putArc f k z)).length := by
      have := congrArg List.length hl
      rw [List.length_set] at this
      exact this
    refine ⟨_, rfl, ?_, grown_opt hg g1, .inl rfl⟩
    unfold putArc at h3 ⊢
    rw [← h3]
    exact o1
  · have hex : ¬ ∃ y, (k, y) ∈ arcsOf n f := fun ⟨y, hy⟩ => hf (by rw [(arcsOf_mem.1 hy).2]; rfl)
    have hcall2 : Calls Try.prog 47 #[v, .int .i64 k, .func (.func 48) #[] #[]] w (LostPost (arcsOf n f) k w) :=
      hcall.mono fun e w' ⟨m, k1, k2, k3⟩ => ⟨m, k1, fun h => hex ((k1.found ha).2 h), by rw [k2, decide_eq_false (fun h => hex ((k1.found ha).2 h))], k3⟩
    clear hcall
    have HO := Lib.hid hown
    have hins : ∀ m w1, m ≤ (arcsOf n f).length → w.grownBy w1 none → Calls Try.prog 49 #[v, .int .i64 m, .slice (some ⟨w1.heap.size, 0, none⟩) 1 1] (w1.alloc (.cells #[.int .i64 k, flt z] 112)) (fun e w' => ∃ v', e = .returned v' ∧ w'.ownsRow base 112 2 v' ((arcsOf n f).length + 1) (insList (arcCells (arcsOf n f)) [.int .i64 k, flt z] m) ∧ (w1.alloc (.cells #[.int .i64 k, flt z] 112)).grownBy w' v.ownBlock ∧ Fresh (w1.alloc (.cells #[.int .i64 k, flt z] 112)) v v') := fun m w1 hm hg =>
      insert_any (own_new hown (grown_tr hg (grown_alloc _ _))) (by have := hg.size; simp; omega) (by omega) hm (arcCells_one _) (heap_alloc_new w1 _) rfl (by simp [Value.oneCell']) (fun e => by have h1 := (hown.lt _ e).1; have h2 := (hown.lt _ e).2; have := hg.size; omega)
    have HI := Lib.hid hins
    clear hins hown
    go_enter Try.func34, Try.ntmps34
    go_wp2_with (first
      | (go_at_call 47; refine hcall2.mono ?_; rintro e w1 ⟨m, hat, hmk, rfl, hg⟩; replace hmk := Lib.hid hmk)
      | (go_at_call 49; refine (HI.out m w1 hat.1 hg).mono ?_; rintro e w2 ⟨v', rfl, ho2, hg2, hfr⟩))
    go_ret
    have hl := insert_is (z := z) hk hat hmk.out
    have h2 := arcCells_ins (arcsOf n f) m (k, z)
    rw [hl] at h2
    simp only at h2
    rw [h2] at ho2
    have h3 : (arcsOf n f).length + 1 = (arcsOf n (putArc f k z)).length := by
      have := congrArg List.length hl
      simp only [List.length_append, List.length_take, List.length_drop, List.length_singleton] at this
      have := hat.1
      unfold putArc
      omega
    rw [h3] at ho2
    exact ⟨v', rfl, ho2, grown_opt (grown_tr hg (grown_alloc _ _)) hg2, hfr.step (by have := hg.size; simp; omega)⟩
end Go.Proofs.Ytinlaaeoiocfoaa
