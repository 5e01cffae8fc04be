/- Rows of arcs; slices.BinarySearchFunc over them. -/
import Derived.Test.YtinlaaeoiocfoaaIns
import Derived.Test.YtinlaaeoiocfoaaGr
import Derived.Handy
import Derived.IntWalk
namespace Go.Proofs.Ytinlaaeoiocfoaa
open Go.MapKept Go.RowKit

/-- a weight as the program holds it -/
def fltB (z : Int) : Nat := FloatKind.nearest .f64 z
abbrev flt (z : Int) : Value := .float .f64 (fltB z)
def arcCells (l : Arcs) : List Value := l.flatMap fun p => [.int .i64 p.1, flt p.2]
theorem arcCells_cons (p : Nat × Int) (l : Arcs) : arcCells (p :: l) = .int .i64 p.1 :: flt p.2 :: arcCells l := rfl
theorem arcCells_append (l m : Arcs) : arcCells (l ++ m) = arcCells l ++ arcCells m := by simp [arcCells]
theorem arcCells_length (l : Arcs) : (arcCells l).length = l.length * 2 := by
  induction l with
  | nil => rfl
  | cons p l ih => rw [arcCells_cons]; simp [ih]; omega
theorem arcCells_one (l : Arcs) : ∀ u ∈ arcCells l, u.oneCell' = true := by
  intro u hu
  simp only [arcCells, List.mem_flatMap] at hu
  obtain ⟨p, _, hp⟩ := hu
  simp at hp
  rcases hp with rfl | rfl <;> rfl
theorem arcCells_get : ∀ (l : Arcs) (j : Nat) (h : j < l.length), (arcCells l)[j * 2]? = some (.int .i64 l[j].1) ∧ (arcCells l)[j * 2 + 1]? = some (flt l[j].2)
  | p :: l, 0, _ => ⟨rfl, rfl⟩
  | p :: l, j + 1, h => by
    have := arcCells_get l j (by simpa using h)
    rw [arcCells_cons, show (j + 1) * 2 = j * 2 + 1 + 1 by omega, show j * 2 + 1 + 1 + 1 = (j * 2 + 1) + 1 + 1 by omega]
    simpa using this
theorem arcCells_take (l : Arcs) (i : Nat) : (arcCells l).take (i * 2) = arcCells (l.take i) := by
  induction l generalizing i with
  | nil => simp [arcCells]
  | cons p l ih =>
    cases i with
    | zero => simp [arcCells]
    | succ i => rw [show (i + 1) * 2 = i * 2 + 1 + 1 by omega, arcCells_cons, List.take_succ_cons, List.take_succ_cons, ih, List.take_succ_cons, arcCells_cons]
theorem arcCells_drop (l : Arcs) (i : Nat) : (arcCells l).drop (i * 2) = arcCells (l.drop i) := by
  induction l generalizing i with
  | nil => simp [arcCells]
  | cons p l ih =>
    cases i with
    | zero => simp
    | succ i => rw [show (i + 1) * 2 = i * 2 + 1 + 1 by omega, arcCells_cons, List.drop_succ_cons, List.drop_succ_cons, ih, List.drop_succ_cons]
theorem arcCells_ins (l : Arcs) (i : Nat) (p : Nat × Int) : insList (arcCells l) [.int .i64 p.1, flt p.2] i = arcCells (l.take i ++ [p] ++ l.drop i) := by
  unfold insList
  rw [arcCells_take, arcCells_drop, arcCells_append, arcCells_append]
  rfl

/-- v reads as arcs -/
def ArcsR (w : World) (v : Value) (l : Arcs) : Prop :=
  ∃ a c, v = .slice a l.length c ∧ (0 < l.length → ∃ b o, a = some ⟨b, o, none⟩ ∧ b < w.heap.size ∧ ∀ i, (h : i < l.length) → w.cell? ⟨b, o + i * 2, none⟩ = some (.int .i64 l[i].1) ∧ w.cell? ⟨b, o + i * 2 + 1, none⟩ = some (flt l[i].2))
theorem ArcsR.grown {w w' : World} {v : Value} {l : Arcs} (h : ArcsR w v l) (hg : w.grownBy w' none) : ArcsR w' v l := by
  obtain ⟨a, c, rfl, h⟩ := h
  refine ⟨a, c, rfl, fun hl => ?_⟩
  obtain ⟨b, o, rfl, hb, hc⟩ := h hl
  refine ⟨b, o, rfl, Nat.lt_of_lt_of_le hb hg.size, fun i hi => ?_⟩
  rw [grown_cell hg hb (by simp), grown_cell hg hb (by simp)]
  exact hc i hi
theorem ArcsR.of_own {w : World} {base : Nat} {e : TypeId} {v : Value} {l : Arcs} (h : w.ownsRow base e 2 v l.length (arcCells l)) : ArcsR w v l := by
  obtain ⟨a, c, rfl⟩ := own_slice h
  refine ⟨a, c, rfl, fun hl => ?_⟩
  obtain ⟨g, cap, e1, _, hg, _⟩ := own_row h hl
  simp only [Value.slice.injEq] at e1
  obtain ⟨rfl, _, rfl⟩ := e1
  refine ⟨g, 0, rfl, hg, fun i hi => ?_⟩
  obtain ⟨h1, h2⟩ := arcCells_get l i hi
  have k1 := h.cells (g := g) rfl (i * 2) _ h1
  have k2 := h.cells (g := g) rfl (i * 2 + 1) _ h2
  rw [addr_add] at k1 k2
  exact ⟨k1, k2⟩

set_option maxHeartbeats 400000 in
theorem cmp_set (to : Nat) (z : Int) (k : Nat) (w : World) (h1 : to ≤ 1000000) (h2 : k ≤ 1000000) : Calls Try.prog 48 #[.agg #[.int .i64 to, flt z], .int .i64 k] w (fun e w' => w.grownBy w' none ∧ e = .returned (.int .i64 ((to : Int) - k))) := by
  go_enter Try.func48, Try.ntmps48
  go_wp2_with fail
  go_ret
  exact ⟨Below.asGrown (by go_grown), rfl⟩

def BsPost (l : Arcs) (k : Nat) (w : World) (e : Ending) (w' : World) : Prop :=
  ∃ m : Nat, At l k m ∧ e = .returned (.tuple #[.int .i64 m, .bool (decide (∃ hm : m < l.length, l[m].1 = k))]) ∧ w.grownBy w' none
def BsRel (l : Arcs) (k : Nat) (w : World) (i j : Value) (wr : World) : Prop :=
  ∃ a b : Nat, a ≤ b ∧ b ≤ l.length ∧ i = .int .i64 a ∧ j = .int .i64 b ∧ w.grownBy wr none ∧ (∀ x, (h : x < l.length) → x < a → l[x].1 < k) ∧ (∀ x, (h : x < l.length) → b ≤ x → k ≤ l[x].1)

set_option maxHeartbeats 1000000 in
set_option maxRecDepth 100000 in
theorem bs_set (l : Arcs) (k : Nat) (v : Value) (w : World) (h : ArcsR w v l) (ha : Asc l) (hl : l.length ≤ 1000000) (hk : k ≤ 1000000) (ht : ∀ p ∈ l, p.1 ≤ 1000000) :
    Calls Try.prog 47 #[v, .int .i64 k, .func (.func 48) #[] #[]] w (BsPost l k w) := by
  obtain ⟨a, c, rfl, h⟩ := h
  have HR := Lib.hid h
  clear h
  go_enter Try.func47, Try.ntmps47
  go_wp2_with fail
  go_loopw [9, 10, 11] (fun i j _ wr => BsRel l k w i j wr) (fun i j _ _ => (intOf j - intOf i).toNat)
  case atStart => exact ⟨0, l.length, by omega, Nat.le_refl _, rfl, rfl, grown_refl w, fun x hx h => absurd h (by omega), fun x hx h => absurd h (by omega)⟩
  case round =>
    obtain ⟨i, j, hij, hj, rfl, rfl, hg, hlo, hhi⟩ := hrel
    have HL := Lib.hid (And.intro hlo hhi)
    clear hlo hhi
    by_cases hlt : i < j
    · have hlt' : (i : Int) < j := by omega
      obtain ⟨b, o, rfl, hb, hcell⟩ := HR.out (by omega)
      obtain ⟨m, hm⟩ : ∃ m : Nat, m = (i + j) / 2 := ⟨_, rfl⟩
      have hmid : ((i : Int) + (j : Int)) / 2 = (m : Int) := by omega
      have hml : m < l.length := by omega
      have him : i ≤ m := by omega
      have hmj : m < j := by omega
      have c1 := (grown_cell hg hb (by simp)).trans (hcell m hml).1
      have c2 := (grown_cell hg hb (by simp)).trans (hcell m hml).2
      have hto := ht _ (List.getElem_mem hml)
      obtain ⟨q, hq⟩ : ∃ q, q = l[m] := ⟨_, rfl⟩
      rw [← hq] at c1 c2 hto
      obtain ⟨to, z⟩ := q
      simp only at c1 c2 hto
      have HM := Lib.hid (And.intro hm hq)
      clear hm hq hcell ht
      have hm0 : (0 : Int) ≤ m := by omega
      by_cases hc : to < k
      · have hc' : (to : Int) - k < 0 := by omega
        go_wp2_with (go_at_call 48; refine (cmp_set to z k _ hto hk).mono ?_; rintro e w2 ⟨hg2, rfl⟩)
        go_roundw
        case rel =>
          obtain ⟨hm, hq⟩ := HM.out
          obtain ⟨hlo, hhi⟩ := HL.out
          refine ⟨m + 1, j, by omega, hj, by go_num, rfl, grown_tr hg hg2, fun x hx hxm => ?_, hhi⟩
          have h1 : l[m].1 = to := by rw [← hq]
          by_cases hx2 : x = m
          · subst hx2; omega
          · have := List.pairwise_iff_getElem.1 ha x m hx hml (by omega)
            omega
        case measure => simp [intOf]; omega
      · have hc' : ¬ (to : Int) - k < 0 := by omega
        go_wp2_with (go_at_call 48; refine (cmp_set to z k _ hto hk).mono ?_; rintro e w2 ⟨hg2, rfl⟩)
        go_roundw
        case rel =>
          obtain ⟨hm, hq⟩ := HM.out
          obtain ⟨hlo, hhi⟩ := HL.out
          refine ⟨i, m, by omega, by omega, rfl, rfl, grown_tr hg hg2, hlo, fun x hx hxm => ?_⟩
          have h1 : l[m].1 = to := by rw [← hq]
          by_cases hx2 : x = m
          · subst hx2; omega
          · have := List.pairwise_iff_getElem.1 ha m x hml hx (by omega)
            omega
        case measure => simp [intOf]; omega
    · obtain rfl : i = j := by omega
      have hlt' : ¬ (i : Int) < i := by omega
      by_cases hin : i < l.length
      · obtain ⟨b, o, rfl, hb, hcell⟩ := HR.out (by omega)
        have hin' : decide ((i : Int) < l.length) = true := by simpa using hin
        have c1 := (grown_cell hg hb (by simp)).trans (hcell i hin).1
        have c2 := (grown_cell hg hb (by simp)).trans (hcell i hin).2
        have hto := ht _ (List.getElem_mem hin)
        obtain ⟨q, hq⟩ : ∃ q, q = l[i] := ⟨_, rfl⟩
        rw [← hq] at c1 c2 hto
        obtain ⟨to, z⟩ := q
        simp only at c1 c2 hto
        have HM := Lib.hid hq
        clear hq hcell ht HR hlt hlt' hij
        by_cases hk2 : to = k
        · have hb : (((to : Int) - k) == 0) = true := by rw [beq_iff_eq]; omega
          have HK := Lib.hid hk2
          clear hk2
          go_wp2_with (go_at_call 48; refine (cmp_set to z k _ hto hk).mono ?_; rintro e w2 ⟨hg2, rfl⟩)
          go_ret2
          obtain ⟨hlo, hhi⟩ := HL.out
          have hd : decide (∃ hm : i < l.length, l[i].1 = k) = true := decide_eq_true ⟨hin, by rw [← HM.out]; exact HK.out⟩
          refine ⟨i, ⟨hj, fun x hx h => hlo x hx h, fun x hx h => hhi x hx h⟩, by rw [hd]; rfl, grown_tr hg hg2⟩
        · have hb : (((to : Int) - k) == 0) = false := by rw [beq_eq_false_iff_ne]; omega
          have HK := Lib.hid hk2
          clear hk2
          go_wp2_with (go_at_call 48; refine (cmp_set to z k _ hto hk).mono ?_; rintro e w2 ⟨hg2, rfl⟩)
          go_ret2
          obtain ⟨hlo, hhi⟩ := HL.out
          have hd : decide (∃ hm : i < l.length, l[i].1 = k) = false := decide_eq_false (fun ⟨_, h⟩ => HK.out (by rw [← HM.out] at h; exact h))
          refine ⟨i, ⟨hj, fun x hx h => hlo x hx h, fun x hx h => hhi x hx h⟩, by rw [hd]; rfl, grown_tr hg hg2⟩
      · have hin' : decide ((i : Int) < l.length) = false := by simpa using hin
        go_wp2_with fail
        go_ret2
        obtain ⟨hlo, hhi⟩ := HL.out
        have hd : decide (∃ hm : i < l.length, l[i].1 = k) = false := decide_eq_false (fun ⟨h, _⟩ => hin h)
        refine ⟨i, ⟨hj, fun x hx h => hlo x hx h, fun x hx h => hhi x hx h⟩, by rw [hd]; rfl, hg⟩
end Go.Proofs.Ytinlaaeoiocfoaa
