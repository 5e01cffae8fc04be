/- linear.NodeQueue within a BreadthFirst: Len, Dequeue. -/
import Derived.Test.YtdllkoiddlcnmabNo
import Derived.Laws.CopyOwn
import Derived.BigQuiet
import Derived.BigRegion
namespace Go.Proofs.Ytdllkoiddlcnmab
open Go.MapKept Go.RowKit

abbrev bfT : TypeId := 71

/-- all but block b and the row stand as they did -/
structure K2 (b : Nat) (row : Option Nat) (w w' : World) : Prop where
  os : w'.os = w.os
  tape : w'.tape = w.tape
  output : w'.output = w.output
  size : w.heap.size ≤ w'.heap.size
  blk : ∀ k, k < w.heap.size → k ≠ b → some k ≠ row → w'.heap[k]? = w.heap[k]?
theorem K2.refl (b : Nat) (row : Option Nat) (w : World) : K2 b row w w := ⟨rfl, rfl, rfl, Nat.le_refl _, fun _ _ _ _ => rfl⟩
theorem K2.trans {b : Nat} {row row' : Option Nat} {w w1 w2 : World} (h : K2 b row w w1) (k : K2 b row' w1 w2) (hr : ∀ j, row' = some j → row = some j ∨ w.heap.size ≤ j) : K2 b row w w2 :=
  ⟨k.os.trans h.os, k.tape.trans h.tape, k.output.trans h.output, Nat.le_trans h.size k.size, fun j hj hb hrow =>
    (k.blk j (Nat.lt_of_lt_of_le hj h.size) hb (fun e => by rcases hr j e.symm with h1 | h1; exact hrow h1.symm; omega)).trans (h.blk j hj hb hrow)⟩
theorem K2.none {b : Nat} {row : Option Nat} {w w' : World} (h : w.grownBy w' .none) : K2 b row w w' := ⟨h.os, h.tape, h.output, h.size, fun k hk _ _ => h.block k hk (by simp)⟩
theorem K2.at {b : Nat} {row : Option Nat} {w w' : World} (h : w.grownBy w' (some b)) : K2 b row w w' := ⟨h.os, h.tape, h.output, h.size, fun k hk hb _ => h.block k hk (by simpa using hb)⟩
theorem K2.row {b : Nat} {row : Option Nat} {w w' : World} (h : w.grownBy w' row) : K2 b row w w' := ⟨h.os, h.tape, h.output, h.size, fun k hk _ hr => h.block k hk hr⟩
theorem K2.grown {b : Nat} {row : Option Nat} {w0 w w' : World} (h : K2 b row w w') (hg : w0.grownBy w .none) (hb : w0.heap.size ≤ b) (hr : ∀ j, row = some j → w0.heap.size ≤ j) : w0.grownBy w' .none :=
  ⟨h.os.trans hg.os, h.tape.trans hg.tape, h.output.trans hg.output, Nat.le_trans hg.size h.size, fun k hk hn => (h.blk k (Nat.lt_of_lt_of_le hk hg.size) (by omega) (fun e => by have := hr k e.symm; omega)).trans (hg.block k hk hn)⟩

structure QR (w : World) (B b : Nat) (x0 x1 x4 : Value) (h : Nat) (v : Value) (Q : List Int) : Prop where
  blk : w.heap[b]? = some (.cells #[x0, x1, .int .i64 h, v, x4] bfT (0, 0))
  row : w.ownsRow B nodT 1 v (h + Q.length) (List.replicate h .nilIface ++ Q.map nodeV)
theorem QR.grown {w w' : World} {B b h : Nat} {x0 x1 x4 v : Value} {Q : List Int} {row : Option Nat} (q : QR w B b x0 x1 x4 h v Q) (hg : w.grownBy w' row) (h1 : some b ≠ row) (h2 : v.ownBlock = none ∨ v.ownBlock ≠ row) : QR w' B b x0 x1 x4 h v Q :=
  ⟨grown_block hg q.blk h1, q.row.kept hg h2⟩

theorem QR.ne {w : World} {B b h : Nat} {x0 x1 x4 v : Value} {Q : List Int} (q : QR w B b x0 x1 x4 h v Q) : some b ≠ v.ownBlock := by
  intro e
  rcases q.row.2 with ⟨h3, -⟩ | ⟨g', cap', cur, rfl, -, h4, -⟩
  · rw [h3] at e; cases e
  · have e' : some b = some g' := e
    cases e'
    rw [q.blk] at h4
    simp only [Option.some.injEq, Obj.cells.injEq] at h4
    exact absurd h4.2.1 (by decide)
/-- the first one is taken -/
theorem QR.popped {w : World} {B b h g N cap : Nat} {x0 x1 x4 : Value} {x : Int} {Q : List Int} (q : QR w B b x0 x1 x4 h (.slice (some ⟨g, 0, none⟩) N cap) (x :: Q)) :
    QR (((w.setCell ⟨g, h, none⟩ .nilIface).drew).setCell ⟨b, 2, none⟩ (.int .i64 ((h : Int) + 1))) B b x0 x1 x4 (h + 1) (.slice (some ⟨g, 0, none⟩) N cap) Q ∧ K2 b (some g) w (((w.setCell ⟨g, h, none⟩ .nilIface).drew).setCell ⟨b, 2, none⟩ (.int .i64 ((h : Int) + 1))) := by
  have hne := q.ne
  have hN : N = h + (x :: Q).length := by
    obtain ⟨a, c, e⟩ := own_slice q.row
    simp only [Value.slice.injEq] at e
    exact e.2.1
  subst hN
  obtain ⟨o1, g1⟩ := q.row.stored h .nilIface
  have hb1 := grown_block g1 q.blk hne
  have hl : (List.replicate h Value.nilIface ++ (x :: Q).map nodeV).set h .nilIface = List.replicate (h + 1) .nilIface ++ Q.map nodeV := by
    rw [List.set_append_right _ _ (by simp), List.length_replicate, Nat.sub_self, List.map_cons, List.set_cons_zero, List.replicate_succ', List.append_assoc]
    rfl
  rw [hl] at o1
  have e1 : h + (x :: Q).length = h + 1 + Q.length := by simp; omega
  have hr : (Value.slice (some ⟨g, 0, none⟩) (h + (x :: Q).length) cap).ownBlock = none ∨ (Value.slice (some ⟨g, 0, none⟩) (h + (x :: Q).length) cap).ownBlock ≠ some b := .inr hne.symm
  refine ⟨⟨block_set (w := (w.setCell ⟨g, h, none⟩ .nilIface).drew) hb1 2 _, by rw [← e1]; exact (own_new o1 (grown_drew _)).kept (grown_setCell _ b 2 _) hr⟩, ?_⟩
  exact ((K2.row g1).trans (K2.none (row := some g) (grown_drew _)) (fun j hj => .inl hj) : K2 b _ _ _).trans (K2.at (row := some g) (grown_setCell _ b 2 _)) (fun j hj => .inl hj)
/-- an empty one begins anew -/
theorem QR.anew {w : World} {B b h g N cap : Nat} {x0 x1 x4 : Value} (q : QR w B b x0 x1 x4 h (.slice (some ⟨g, 0, none⟩) N cap) []) :
    QR ((w.setCell ⟨b, 2, none⟩ (.int .i64 0)).setCell ⟨b, 3, none⟩ (.slice (some ⟨g, 0, none⟩) 0 cap)) B b x0 x1 x4 0 (.slice (some ⟨g, 0, none⟩) 0 cap) [] ∧ K2 b (some g) w ((w.setCell ⟨b, 2, none⟩ (.int .i64 0)).setCell ⟨b, 3, none⟩ (.slice (some ⟨g, 0, none⟩) 0 cap)) := by
  have hne := q.ne
  have hr : w.ownsRow B nodT 1 (.slice (some ⟨g, 0, none⟩) 0 cap) 0 [] := by
    rcases q.row.2 with ⟨h3, -⟩ | ⟨g', cap', cur, h3, hB, h4, h5, h6, h7, -⟩
    · cases h3
    · simp only [Value.slice.injEq, Option.some.injEq, Addr.mk.injEq, and_true] at h3
      obtain ⟨rfl, rfl, rfl⟩ := h3
      exact ⟨rfl, .inr ⟨g, cap, cur, rfl, hB, h4, Nat.zero_le _, h6, h7, by simp⟩⟩
  have hb2 := block_set (block_set q.blk 2 (.int .i64 0)) 3 (.slice (some ⟨g, 0, none⟩) 0 cap)
  have hgr := grown_row (grown_setCell w b 2 (.int .i64 0)) (grown_setCell _ b 3 (.slice (some ⟨g, 0, none⟩) 0 cap)) (fun j hj => by cases hj; exact .inl rfl)
  exact ⟨⟨hb2, hr.kept hgr (.inr hne.symm)⟩, K2.at hgr⟩

set_option maxHeartbeats 400000 in
theorem q_len {w : World} {B b h : Nat} {x0 x1 x4 v : Value} {Q : List Int} (q : QR w B b x0 x1 x4 h v Q) (hl : h + Q.length ≤ 1000000) :
    Calls Try.prog 31 #[.pointer (some ⟨b, 2, none⟩)] w (fun e w' => e = .returned (.int .i64 (Q.length : Nat)) ∧ w.grownBy w' none) := by
  obtain ⟨a, c, rfl⟩ := own_slice q.row
  have c2 : w.cell? ⟨b, 2, none⟩ = some (.int .i64 h) := cell_at q.blk
  have c3 : w.cell? ⟨b, 3, none⟩ = some (.slice a (h + Q.length) c) := cell_at q.blk
  obtain ⟨n, hn⟩ : ∃ n, n = Q.length := ⟨_, rfl⟩
  obtain ⟨N, hN⟩ : ∃ N, N = h + Q.length := ⟨_, rfl⟩
  rw [← hN] at c3
  have hw : IntKind.i64.wrap ((N : Int) - h) = n := by rw [IntKind.wrap_i64]; omega
  rw [← hn]
  clear q hl hN hn
  go_enter Try.func31, Try.ntmps31
  go_wp2_with fail
  go_quiet (fail)
  go_wp2_with fail
  go_ret
  exact ⟨rfl, grown_drewN _ _⟩

def DeqPost (B b h : Nat) (x0 x1 x4 v : Value) (x : Int) (Q : List Int) (w : World) (e : Ending) (w' : World) : Prop :=
  e = .returned (nodeV x) ∧ ∃ (h' : Nat) (v' : Value), QR w' B b x0 x1 x4 h' v' Q ∧ (h' = 0 ∨ 0 < Q.length) ∧ h' ≤ h + 1 ∧ v'.ownBlock = v.ownBlock ∧ K2 b v.ownBlock w w'

set_option maxHeartbeats 4000000 in
set_option maxRecDepth 100000 in
theorem q_deq {w : World} {B b h : Nat} {x0 x1 x4 v : Value} {x : Int} {Q : List Int} (q : QR w B b x0 x1 x4 h v (x :: Q)) (hl : h + Q.length + 1 ≤ 1000000) :
    Calls Try.prog 32 #[.pointer (some ⟨b, 2, none⟩)] w (DeqPost B b h x0 x1 x4 v x Q w) := by
  have hlen := q_len q (by simp; omega)
  obtain ⟨g, cap, rfl, hBg, hgl, hnc⟩ := own_row q.row (by simp; omega)
  have c2 : w.cell? ⟨b, 2, none⟩ = some (.int .i64 h) := cell_at q.blk
  have c3 : w.cell? ⟨b, 3, none⟩ = some (.slice (some ⟨g, 0, none⟩) (h + (x :: Q).length) cap) := cell_at q.blk
  have f2 : ∀ j, w.frozen? ⟨b, j, none⟩ = false := fun j => free_at q.blk
  have cx : w.cell? ⟨g, h, none⟩ = some (nodeV x) := by
    rw [q.row.cellAt h (by simp)]
    simp
  have fx : ∀ j, w.frozen? ⟨g, j, none⟩ = false := fun j => q.row.frozenAt j
  have hgb : some b ≠ some g := by
    intro e
    have h2 := q.row.2
    rcases h2 with ⟨h3, -⟩ | ⟨g', cap', cur, h3, -, h4, -⟩
    · simp at h3
    · simp only [Value.slice.injEq, Option.some.injEq, Addr.mk.injEq, and_true] at h3
      rw [← h3.1] at h4
      cases e
      rw [q.blk] at h4
      simp only [Option.some.injEq, Obj.cells.injEq] at h4
      exact absurd h4.2.1 (by decide)
  have HQ := Lib.hid (And.intro q (And.intro hBg hgb))
  obtain ⟨n, hn⟩ : ∃ n, n = Q.length := ⟨_, rfl⟩
  obtain ⟨N, hN⟩ : ∃ N, N = h + (x :: Q).length := ⟨_, rfl⟩
  have hNn : N = h + n + 1 := by rw [hN, hn, List.length_cons]; omega
  rw [← hN] at c3
  have hl1 : ((x :: Q).length : Int) = n + 1 := by rw [hn]; simp
  have hhN : (h : Int) < N := by omega
  have hln : Calls Try.prog 31 #[.pointer (some ⟨b, 2, none⟩)] w (fun e w' => e = .returned (.int .i64 ((n : Int) + 1)) ∧ w.grownBy w' none) := by
    rw [← hl1]; exact hlen
  have hz : (((n : Int) + 1) == 0) = false := by simp; omega
  have HN := Lib.hid (And.intro hn (And.intro hN (And.intro hNn hl)))
  clear hlen q hBg hgb hn hN hNn hl1 hl
  go_enter Try.func32, Try.ntmps32
  go_wp2_with (go_at_call 31; refine hln.mono ?_; rintro e w1 ⟨rfl, hg1⟩)
  have d2 : w1.cell? ⟨b, 2, none⟩ = some (.int .i64 h) := (grown_cell hg1 (block_lt HQ.out.1.blk) (by simp)).trans c2
  have d3 : w1.cell? ⟨b, 3, none⟩ = some (.slice (some ⟨g, 0, none⟩) N cap) := (grown_cell hg1 (block_lt HQ.out.1.blk) (by simp)).trans c3
  have dx : w1.cell? ⟨g, h, none⟩ = some (nodeV x) := (grown_cell hg1 hgl (by simp)).trans cx
  have q1 := HQ.out.1.grown hg1 (by simp) (.inr (by simp [Value.ownBlock]))
  have e2 : ∀ j, w1.frozen? ⟨b, j, none⟩ = false := fun j => free_at q1.blk
  have ex : ∀ j, w1.frozen? ⟨g, j, none⟩ = false := fun j => q1.row.frozenAt j
  have hNe : N = h + (x :: Q).length := HN.out.2.1
  rw [← hNe] at q1
  have HQ1 := Lib.hid q1
  clear hNe q1 c2 c3 cx f2 fx hln
  have hw1 : IntKind.i64.wrap ((h : Int) + 1) = (h : Int) + 1 := by rw [IntKind.wrap_i64]; have := HN.out.2.2.2; omega
  obtain ⟨qp, kp⟩ := HQ1.out.popped
  have hlen2 := q_len qp (by have := HN.out.2.2.2; omega)
  rw [← HN.out.1] at hlen2
  have HQP := Lib.hid (And.intro qp kp)
  have p2 := cell_at (j := 2) qp.blk
  have p3 := cell_at (j := 3) qp.blk
  have pf : ∀ j, (((w1.setCell ⟨g, h, none⟩ .nilIface).drew).setCell ⟨b, 2, none⟩ (.int .i64 ((h : Int) + 1))).frozen? ⟨b, j, none⟩ = false := fun j => free_at qp.blk
  clear qp kp
  go_region
  have b2 : (w1.setCell ⟨g, h, none⟩ .nilIface).drew.cell? ⟨b, 2, none⟩ = some (.int .i64 h) := cell_at (w := (w1.setCell ⟨g, h, none⟩ .nilIface).drew) (grown_block (grown_setCell w1 g h .nilIface) HQ1.out.blk HQ.out.2.2)
  have b2f : (w1.setCell ⟨g, h, none⟩ .nilIface).drew.frozen? ⟨b, 2, none⟩ = false := free_at (w := (w1.setCell ⟨g, h, none⟩ .nilIface).drew) (grown_block (grown_setCell w1 g h .nilIface) HQ1.out.blk HQ.out.2.2)
  by_cases hn0 : n = 0
  · have hz2 : ((n : Int) == 0) = true := by simp [hn0]
    have HN0 := Lib.hid hn0
    clear hn0
    go_wp2_with (go_at_call 31; refine hlen2.mono ?_; rintro e w5 ⟨rfl, hg5⟩; have q5 := HQP.out.1.grown hg5 (by simp) (.inr (by simp [Value.ownBlock])); have s2 : w5.cell? ⟨b, 2, none⟩ = some (.int .i64 ((h + 1 : Nat) : Int)) := cell_at q5.blk; have s3 : w5.cell? ⟨b, 3, none⟩ = some (.slice (some ⟨g, 0, none⟩) N cap) := cell_at q5.blk; have sf : ∀ j, w5.frozen? ⟨b, j, none⟩ = false := fun j => free_at q5.blk; replace q5 := Lib.hid q5)
    go_ret
    have hQ : Q = [] := List.eq_nil_of_length_eq_zero (by rw [← HN.out.1]; exact HN0.out)
    have q5 := q5.out
    rw [hQ] at q5 ⊢
    obtain ⟨qa, ka⟩ := q5.anew
    refine ⟨rfl, 0, _, qa, .inl rfl, Nat.zero_le _, rfl, ?_⟩
    exact (((K2.none hg1).trans HQP.out.2 (fun j hj => .inl hj)).trans (K2.none hg5) (fun j hj => .inl hj)).trans ka (fun j hj => .inl hj)
  · have hz2 : ((n : Int) == 0) = false := by simp; omega
    have HN0 := Lib.hid hn0
    clear hn0
    go_wp2_with (go_at_call 31; refine hlen2.mono ?_; rintro e w5 ⟨rfl, hg5⟩)
    go_ret
    have q5 := HQP.out.1.grown hg5 (by simp) (.inr (by simp [Value.ownBlock]))
    exact ⟨rfl, h + 1, _, q5, .inr (by have := HN.out.1; have := HN0.out; omega), Nat.le_refl _, rfl, ((K2.none hg1).trans HQP.out.2 (fun j hj => .inl hj)).trans (K2.none (row := some g) hg5) (fun j hj => .inl hj)⟩
end Go.Proofs.Ytdllkoiddlcnmab
