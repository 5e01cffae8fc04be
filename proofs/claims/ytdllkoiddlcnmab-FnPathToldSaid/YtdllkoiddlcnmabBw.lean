/- traverse.BreadthFirst.Walk, with neither Visit nor Traverse, until a node is met: begun. -/
import Derived.Test.YtdllkoiddlcnmabBx
import Derived.Deep.RegionHeld3
namespace Go.Proofs.Ytdllkoiddlcnmab
open Go.MapKept Go.RowKit

abbrev untilV (bx : Nat) : Value := .func (.func 20) #[] #[.pointer (some ⟨bx, 0, none⟩)]

set_option maxHeartbeats 1000000 in
set_option maxRecDepth 100000 in
theorem until_any {bx : Nat} {t v z : Int} {w : World} (hb : w.cell? ⟨bx, 0, none⟩ = some (nodeV v)) :
    Calls Try.prog 20 #[nodeV t, .int .i64 z, .pointer (some ⟨bx, 0, none⟩)] w (fun e w' => e = .returned (.bool (decide (t = v))) ∧ w.grownBy w' none) := by
  obtain ⟨p, hp⟩ : ∃ p, p = decide (t = v) := ⟨_, rfl⟩
  have hq : (t == v) = p := by rw [hp]; rfl
  rw [← hp]
  clear hp
  go_enter Try.func20, Try.ntmps20
  go_wp2_with fail
  go_region_held3 (fun W => W.cell? ⟨bx, 0, none⟩ = some (nodeV v))
    (first | go_keep | exact hb)
    (first
      | (go_at_call 78; refine (id_node _ _).mono ?_; rintro e w' ⟨rfl, rfl⟩))
  go_wp2_with fail
  go_ret
  exact ⟨rfl, by first | exact grown_refl _ | exact grown_drew _ | exact grown_drewN _ _ | exact grown_tr (grown_drew _) (grown_drew _)⟩

def BwPost (f : Int → List Int) (u v : Int) (w0 : World) (e : Ending) (w' : World) : Prop :=
  (Rch (fun x y => y ∈ f x) u v → e = .returned (nodeV v)) ∧ (¬ Rch (fun x y => y ∈ f x) u v → e = .returned .nilIface) ∧ w0.grownBy w' none

def BwRel (f : Int → List Int) (u v : Int) (B b m : Nat) (w0 : World) (a9 a10 a11 : Value) (wr : World) : Prop :=
  ∃ (z1 z2 z3 : Int) (h : Nat) (vq : Value) (V Q : List Int), a9 = .int .i64 z1 ∧ a10 = .int .i64 z2 ∧ a11 = .int .i64 z3 ∧ BwR wr B b m .nilFunc .nilFunc h vq V Q ∧ Bfs (fun x y => y ∈ f x) u (fun x => x ≠ v) V Q ∧ w0.grownBy wr none

def BwIn (f : Int → List Int) (u v t : Int) (d B b m q : Nat) (vs : Value) (w0 : World) (a10 : Value) (wr : World) : Prop :=
  ∃ (z2 : Int) (h k : Nat) (vq : Value) (V Q : List Int), a10 = .int .i64 z2 ∧ V.length = Q.length + d ∧ k ≤ (f t).length ∧ BwR wr B b m .nilFunc .nilFunc h vq V Q ∧ OwnIt wr B q vs (f t) ((k : Int) - 1) ∧ (vs.ownBlock = none ∨ vs.ownBlock ≠ vq.ownBlock) ∧ some q ≠ vq.ownBlock ∧ BfsAt (fun x y => y ∈ f x) u (fun x => x ≠ v) t V Q ((f t).drop k) ∧ w0.grownBy wr none

theorem bw_rch_in {f : Int → List Int} {ids : List Int} {u : Int} (hu : u ∈ ids) (hcl : ∀ x ∈ ids, ∀ y ∈ f x, y ∈ ids) : ∀ x, Rch (fun x y => y ∈ f x) u x → x ∈ ids := by
  intro x h
  induction h with
  | refl => exact hu
  | tail _ h2 ih => exact hcl _ ih _ h2

theorem nil_visit (W : World) : (binOp .neq 64 .nilFunc .nilFunc).run Try.prog W = .ok (.bool false) W := by kernel_rfl
theorem nil_traverse (W : World) : (binOp .neq 65 .nilFunc .nilFunc).run Try.prog W = .ok (.bool false) W := by kernel_rfl
theorem has_until (bx : Nat) (W : World) : (binOp .neq 73 (untilV bx) .nilFunc).run Try.prog W = .ok (.bool true) W := by kernel_rfl
theorem nil_set (W : World) : (binOp .eql 69 (.map none) (.map none)).run Try.prog W = .ok (.bool true) W := by kernel_rfl
theorem SetMap.made (w : World) : SetMap (w.alloc (.map #[] 0)) w.heap.size [] := ⟨[], MapIs.made w, fun x => by simp [lkp], fun x => by simp [lkp]⟩

set_option maxHeartbeats 8000000 in
set_option maxRecDepth 100000 in
theorem bw_dir {w0 w : World} {p0 b bx : Nat} {ids : List Int} {f : Int → List Int} {u v : Int} (hfrom : ∀ W x, w0.grownBy W none → x ∈ ids → Calls Try.prog 80 #[dirV p0, .int .i64 x] W (ItPost (f x) W)) (hl : ids.length ≤ 1000) (hfl : ∀ x, (f x).length ≤ 1000) (hu : u ∈ ids) (hcl : ∀ x ∈ ids, ∀ y ∈ f x, y ∈ ids)
    (hbx : w0.cell? ⟨bx, 0, none⟩ = some (nodeV v)) (hbl : bx < w0.heap.size) (hg : w0.grownBy w none) (hb : w.heap[b]? = some (.cells #[.nilFunc, .nilFunc, .int .i64 0, .slice none 0 0, .map none] bfT (0, 0))) (hbs : w0.heap.size ≤ b) :
    Calls Try.prog 19 #[.pointer (some ⟨b, 0, none⟩), .iface dirT (dirV p0), nodeV u, untilV bx] w (BwPost f u v w0) := by
  have c4 : w.cell? ⟨b, 4, none⟩ = some (.map none) := cell_at hb
  have f4 : ∀ j, w.frozen? ⟨b, j, none⟩ = false := fun j => free_at hb
  have c4a : ∀ O, (w.alloc O).cell? ⟨b, 4, none⟩ = some (.map none) := fun O => (World.cell?_alloc_past O b 4 (block_lt hb)).trans c4
  have f4a : ∀ O, (w.alloc O).frozen? ⟨b, 4, none⟩ = false := fun O => free_at (grown_block (grown_alloc w O) hb (by simp))
  have hmm := @run_makeMap Try.prog
  have hns := nil_set
  obtain ⟨m, hm⟩ : ∃ m, m = w.heap.size := ⟨_, rfl⟩
  obtain ⟨w2, hw2⟩ : ∃ w2, w2 = (w.alloc (.map #[] 0)).setCell ⟨b, 4, none⟩ (.map (some w.heap.size)) := ⟨_, rfl⟩
  have hb1 := grown_block (grown_alloc w (.map #[] 0)) hb (by simp)
  have hb2 : w2.heap[b]? = some (.cells #[.nilFunc, .nilFunc, .int .i64 0, .slice none 0 0, .map (some w.heap.size)] bfT (0, 0)) := by rw [hw2]; exact block_set hb1 4 _
  have hs2 : SetMap w2 w.heap.size [] := by rw [hw2]; exact (SetMap.made w).grown (grown_setCell _ b 4 _) (by have := block_lt hb; simp; omega)
  have hg2 : w0.grownBy w2 none := by rw [hw2]; exact grown_new (grown_tr hg (grown_alloc _ _)) (grown_setCell _ b 4 _) (fun k hk => by cases hk; exact hbs)
  have hq2 : QR w2 w0.heap.size b .nilFunc .nilFunc (.map (some w.heap.size)) 0 (.slice none 0 0) [] := ⟨hb2, ⟨rfl, .inl ⟨rfl, rfl⟩⟩⟩
  have henq := q_enq (x := u) hq2 (by simp) hg2.size (.inl rfl)
  have hmb : w.heap.size ≠ b := by have := block_lt hb; omega
  have hmg : w0.heap.size ≤ w.heap.size := hg.size
  rw [← hm] at hs2 hmb hmg
  have H2 := Lib.hid (And.intro hg2 (And.intro hs2 hmb))
  have HF := Lib.hid hfrom
  have HP := Lib.hid (And.intro hl (And.intro hfl (And.intro hu (And.intro hcl (And.intro hbx (And.intro hbl (And.intro hbs hmg)))))))
  have HM := Lib.hid hm
  rw [hw2] at henq
  clear hfrom hl hfl hu hcl hbx hbl hbs hg hb hb1 hb2 hs2 hg2 hq2 hmb hm hmg
  go_enter Try.func19, Try.ntmps19
  go_wp2_with (go_at_call 28; refine henq.mono ?_; rintro e w3 ⟨rfl, h3, v3, q3, hh3, hv3, k3⟩)
  rw [← HM.out] at q3
  rw [← hw2] at k3
  obtain ⟨rfl⟩ : h3 = 0 := by omega
  have hg3 : w0.grownBy w3 none := k3.grown H2.out.1 HP.out.2.2.2.2.2.2.1 (by simp [Value.ownBlock])
  have hs3 : SetMap w3 m [] := k3.set H2.out.2.1 H2.out.2.2 (by simp [Value.ownBlock])
  have d0 : w3.cell? ⟨b, 0, none⟩ = some .nilFunc := cell_at q3.blk
  have nv := nil_visit
  have HQ3 := Lib.hid (And.intro q3 (And.intro hs3 hg3))
  clear henq hmm hns c4 f4 c4a f4a hw2 hv3 hh3 k3 hs3 hg3 q3
  go_quiet (fail)
  have h34 := grown_drewN w3 nq
  obtain ⟨w4, hw4⟩ : ∃ w4, w4 = w3.drewN nq := ⟨_, rfl⟩
  rw [← hw4] at h34 ⊢
  go_wp2_with fail
  obtain ⟨q3, hs3, hg3⟩ := HQ3.out
  have q4 := q3.grown h34 (by simp) (by cases h9 : v3.ownBlock with | none => exact .inl rfl | some k => exact .inr (by simp))
  have hs4 := hs3.grown h34 (by simp)
  have d4 : w4.cell? ⟨b, 4, none⟩ = some (.map (some m)) := cell_at q4.blk
  have HADD := Lib.hid (fun W (hW : w4.grownBy W none) => set_add (x := u) (hs4.grown hW (by simp)))
  have hbl4 := block_lt q4.blk
  have hmb := H2.out.2.2
  have HQ4 := Lib.hid (And.intro q4 (And.intro hs4 (grown_tr hg3 h34)))
  clear d0 nv q3 hs3 hg3 q4 hs4 h34 hw4 HQ3 H2
  go_region_held3 (fun W => W.cell? ⟨b, 4, none⟩ = some (.map (some m)))
    (first | go_keep | exact d4 | exact (grown_cell hg5 (by first | exact hbl4 | simpa using hbl4) (by simp; omega)).trans (by first | exact d4 | simpa using d4))
    (first
      | (go_at_call 78; refine (id_node _ _).mono ?_; rintro e w' ⟨rfl, rfl⟩)
      | (go_at_call 30; refine (HADD.out _ (by first | exact grown_refl _ | exact grown_drew _)).mono ?_; rintro e w5 ⟨rfl, hs5, hg5⟩))
  obtain ⟨q4, hs4, hg4⟩ := HQ4.out
  have h45 : w4.grownBy w5 (some m) := by first | exact hg5 | exact grown_opt (grown_drew _) hg5
  have R5 : BwR w5 w0.heap.size b m .nilFunc .nilFunc 0 v3 [u] [u] := ⟨q4.grown h45 (by simp; omega) (.inr (hs4.row q4.row).symm), hs5, .inl rfl, by simp⟩
  have HR5 := Lib.hid (And.intro R5 (grown_new hg4 h45 (fun k hk => by cases hk; exact HP.out.2.2.2.2.2.2.2)))
  clear HADD HQ4 d4 hmb hbl4 q4 hs4 hg4 h45 R5 hg5 hs5
  go_wp2_with fail
  go_loopw [9, 10, 11] (fun a9 a10 a11 wr => BwRel f u v w0.heap.size b m w0 a9 a10 a11 wr) (fun _ _ _ wr => ids.length + 2 - (mlen m wr - qlen b wr))
  case atStart => exact ⟨0, 0, 1, 0, v3, [u], [u], rfl, rfl, rfl, HR5.out.1, Bfs.start _ _ _, HR5.out.2⟩
  case round =>
    obtain ⟨z1, z2, z3, h, vq, V, Q, rfl, rfl, rfl, R, hB, hg⟩ := hrel
    obtain ⟨wa, rfl⟩ : ∃ wa : World, wa = wr := ⟨_, rfl⟩
    have hlen := hB.len (bw_rch_in HP.out.2.2.1 HP.out.2.2.2.1)
    have hhl := R.hl
    have hid := HP.out.1
    have HV := Lib.hid (And.intro hlen hhl)
    cases Q with
    | nil =>
      have hln := q_len R.q (by simp at *; omega)
      rw [List.length_nil] at hln
      have HX := Lib.hid (And.intro R (And.intro hB hg))
      clear R hB hg hlen hhl
      go_wp2_with (go_at_call 31; refine hln.mono ?_; rintro e w1 ⟨rfl, hg1⟩)
      go_ret
      obtain ⟨R, hB, hg⟩ := HX.out
      have hno : ¬ Rch (fun x y => y ∈ f x) u v := fun hr => (hB.done v (hB.all.2 hr) (by simp)).1 rfl
      exact ⟨fun h9 => absurd h9 hno, fun _ => rfl, grown_tr hg hg1⟩
    | cons t Q =>
      have hln := q_len R.q (by simp at *; omega)
      have hnz : (0 : Int) < ((t :: Q).length : Nat) := by simp only [List.length_cons]; omega
      obtain ⟨n, hn⟩ : ∃ n, n = (t :: Q).length := ⟨_, rfl⟩
      rw [← hn] at hln hnz
      have HDEQ := Lib.hid (fun W (hW : wa.grownBy W none) => q_deq (R.grown hW).q (by simp at *; omega))
      have HX := Lib.hid (And.intro R (And.intro hB (And.intro hg hn)))
      have HUN : Hid (∀ W, w0.grownBy W none → _) := Lib.hid (fun W hW => until_any (t := t) (z := z1) ((grown_cell hW HP.out.2.2.2.2.2.1 (by simp)).trans HP.out.2.2.2.2.1))
      have htin : t ∈ ids := bw_rch_in HP.out.2.2.1 HP.out.2.2.2.1 t (hB.rch t (hB.sub t (by simp)))
      clear R hB hg hlen hhl hn
      have hhu := has_until bx
      obtain ⟨p, hp⟩ : ∃ p, p = decide (t = v) := ⟨_, rfl⟩
      rw [← hp] at HUN
      have HPP := Lib.hid hp
      clear hp
      go_wp2_with (first
        | (go_at_call 31; refine hln.mono ?_; rintro e w1 ⟨rfl, hg1⟩)
        | (go_at_call 32; refine (HDEQ.out _ hg1).mono ?_; intro e w2 hd; obtain ⟨rfl, hr2, k2⟩ := (HX.out.1.grown hg1).deq hd; have hg2 := k2.grown (grown_tr HX.out.2.2.1 hg1) HP.out.2.2.2.2.2.2.1 (HX.out.1.base); have hun := HUN.out _ hg2; replace hr2 := Lib.hid hr2; replace k2 := Lib.hid k2))
      have HD2 := Lib.hid hd
      clear hln HDEQ HUN hd
      cases p
      case true =>
        go_wp2_with (go_at_call 20; refine hun.mono ?_; rintro e w3 ⟨rfl, hg3⟩)
        go_ret
        obtain ⟨R, hB, hg, hn⟩ := HX.out
        have htv : t = v := of_decide_eq_true HPP.out.symm
        have hr : Rch (fun x y => y ∈ f x) u v := htv ▸ hB.rch t (hB.sub t (by simp))
        exact ⟨fun _ => by rw [htv]; rfl, fun h9 => absurd hr h9, grown_tr hg2 hg3⟩
      case false =>
        have htv : t ≠ v := of_decide_eq_false HPP.out.symm
        have HTV := Lib.hid htv
        clear htv
        go_wp2_with (first
          | (go_at_call 20; refine hun.mono ?_; rintro e w3 ⟨rfl, hg3⟩; have hfr := HF.out w3 t (grown_tr hg2 hg3) htin)
          | (go_at_call 78; refine (id_node _ _).mono ?_; rintro e w' ⟨rfl, rfl⟩)
          | (go_at_call 80; refine hfr.mono ?_; intro e w4 hp; obtain ⟨q, vs, rfl, hq4, ho4, hqs4, hg4⟩ := hp))
        have hg04 := grown_tr (grown_tr hg2 hg3) hg4
        obtain ⟨d, hd⟩ : ∃ d, V.length = Q.length + d := ⟨V.length - Q.length, by have := HV.out.1.2; simp only [List.length_cons] at this; omega⟩
        have HD := Lib.hid hd
        clear hd
        have HIN : Hid (BwIn f u v t d w0.heap.size b m q vs w0 (.int .i64 z2) w4) := by
          obtain ⟨h', v', R2⟩ := hr2.out
          obtain ⟨R, hB, hg, hn⟩ := HX.out
          have R4 := (R2.grown hg3).grown hg4
          have hs3 : w0.heap.size ≤ w3.heap.size := (grown_tr hg2 hg3).size
          have hlt : ∀ j, v'.ownBlock = some j → j < w3.heap.size := fun j hj => ((R2.grown hg3).q.row.lt j hj).2
          refine Lib.hid ⟨z2, h', 0, v', V, Q, rfl, HD.out, Nat.zero_le _, R4, ⟨hq4, own_mono ho4 hs3, by omega⟩, ?_, ?_, ?_, hg04⟩
          · cases h9 : vs.ownBlock with
            | none => exact .inl rfl
            | some k =>
              refine .inr (fun e => ?_)
              have h1 := (ho4.lt k h9).1
              have h2 := hlt k e.symm
              omega
          · intro e
            have h2 := hlt q e.symm
            omega
          · rw [List.drop_zero]
            exact hB.take HTV.out (fun y => Iff.rfl)
        clear hfr hun hhu hnz hg1 hg2 hg3 hq4 ho4 hqs4 hg4 hr2 k2 HD2 hg04
        go_loopw [10] (fun a10 wr => BwIn f u v t d w0.heap.size b m q vs w0 a10 wr) (fun _ wr => (f t).length - idxIn q wr)
        case atStart => exact HIN.out
        case round =>
          obtain ⟨z, h9, k, vq9, V9, Q9, rfl, hd9, hk, R, O, hne, hqn, hB, hg⟩ := hrel
          have HD9 := Lib.hid hd9
          clear hd9
          obtain ⟨w6, rfl⟩ : ∃ w6 : World, w6 = wr := ⟨_, rfl⟩
          have hfl := HP.out.2.1 t
          have hlen := hB.len (bw_rch_in HP.out.2.2.1 HP.out.2.2.2.1)
          have hid : idxIn q w6 = k := by unfold idxIn; rw [cell_at O.blk]; simp
          obtain ⟨an, cn, rfl⟩ := own_slice O.own
          by_cases hlt : k < (f t).length
          · have hnx := on_next O.blk hlt (by omega)
            have hdr := List.drop_eq_getElem_cons hlt
            obtain ⟨y, hy⟩ : ∃ y, y = (f t)[k] := ⟨_, rfl⟩
            have HND := Lib.hid (fun W (o : OnR W q (.slice an (f t).length cn) (f t) k) => on_node o hlt (by omega))
            rw [← hy] at HND hdr
            rw [hdr] at hB
            have HX2 := Lib.hid (And.intro R (And.intro O (And.intro hne (And.intro hqn (And.intro hB (And.intro hg hlen))))))
            clear R O hne hqn hB hg hlen hdr hy
            go_wp2_with (first
              | (go_at_call 114; refine hnx.mono ?_; rintro e w7 ⟨rfl, hb7, hg7⟩; have R7 := HX2.out.1.next HX2.out.2.1 hg7; have O7 := HX2.out.2.1.moved hg7 hb7; have hnd := HND.out _ O7.on; replace R7 := Lib.hid R7; replace O7 := Lib.hid O7)
              | (go_at_call 115; refine hnd.mono ?_; rintro e w8 ⟨rfl, hg8⟩; have R8 := R7.out.grown hg8; have O8 := O7.out.grown hg8; have d1 : w8.cell? ⟨b, 1, none⟩ = some .nilFunc := cell_at R8.q.blk; replace R8 := Lib.hid R8; replace O8 := Lib.hid O8)
              | (go_at_call 78; refine (id_node _ _).mono ?_; rintro e w' ⟨rfl, rfl⟩))
            have R8 := R8.out
            have O8 := O8.out
            have nt := nil_traverse
            have HRO := Lib.hid (And.intro R8 O8)
            clear hnx hnd HND R7 O7 R8 O8
            go_quiet (fail)
            have h89 := grown_drewN w8 nq
            obtain ⟨w9, hw9⟩ : ∃ w9, w9 = w8.drewN nq := ⟨_, rfl⟩
            rw [← hw9] at h89 ⊢
            have R9 := HRO.out.1.grown h89
            have O9 := HRO.out.2.grown h89
            have hg69 : w6.grownBy w9 (some q) := grown_row hg7 (grown_tr hg8 h89) (by simp)
            have hg09 : w0.grownBy w9 none := grown_new HX2.out.2.2.2.2.2.1 hg69 (fun k hk => by cases hk; exact O9.ge)
            have c4 : w9.cell? ⟨b, 4, none⟩ = some (.map (some m)) := cell_at R9.q.blk
            have hhas := set_has (x := y) R9.s
            clear d1 nt HRO hw9
            by_cases hyV : y ∈ V9
            · have HYV := Lib.hid hyV
              rw [decide_eq_true hyV] at hhas
              have HX3 := Lib.hid (And.intro R9 (And.intro O9 hg09))
              clear hyV R9 O9 hg09
              go_wp2_with (go_at_call 29; refine hhas.mono ?_; rintro e w10 ⟨rfl, hg10⟩)
              go_roundw
              case rel =>
                obtain ⟨R, O, hne, hqn, hB, hg, hlen⟩ := HX2.out
                obtain ⟨R9, O9, hg09⟩ := HX3.out
                have e1 : ((k : Int)) = ((k + 1 : Nat) : Int) - 1 := by omega
                have O10 := O9.grown hg10
                rw [e1] at O10
                exact ⟨z, h9, k + 1, vq9, V9, Q9, rfl, HD9.out, by omega, R9.grown hg10, O10, hne, hqn, hB.old HYV.out, grown_tr hg09 hg10⟩
              case measure =>
                have e3 : idxIn q w10 = k + 1 := by unfold idxIn; rw [cell_at (HX3.out.2.1.grown hg10).blk]; simp
                omega
            · have HYV := Lib.hid hyV
              rw [decide_eq_false hyV] at hhas
              have nv := nil_visit
              have c0 : w9.cell? ⟨b, 0, none⟩ = some .nilFunc := cell_at R9.q.blk
              have HX3 := Lib.hid (And.intro R9 (And.intro O9 hg09))
              have HAD := Lib.hid (fun W (hW : w9.grownBy W none) => set_add (x := y) (R9.s.grown hW (by simp)))
              clear hyV R9 O9 hg09
              obtain ⟨R, O, hne, hqn, hB, hg, hlen⟩ := HX2.out
              have hl9 : h9 + Q9.length + 1 ≤ (V9 ++ [y]).length ∧ h9 + Q9.length + 1 ≤ 1000000 := by
                have h1 := R.hl
                have h2 := HP.out.1
                rw [List.length_append, List.length_singleton]
                omega
              have HL9 := Lib.hid hl9
              clear R O hne hqn hB hg hlen hl9
              go_wp2_with (first
                | (go_at_call 29; refine hhas.mono ?_; rintro e w10 ⟨rfl, hg10⟩; have hcc0 : w10.cell? ⟨b, 0, none⟩ = some .nilFunc := cell_at (HX3.out.1.grown hg10).q.blk; have hcc4 : w10.cell? ⟨b, 4, none⟩ = some (.map (some m)) := cell_at (HX3.out.1.grown hg10).q.blk)
                | (go_at_call 30; refine (HAD.out _ hg10).mono ?_; rintro e w11 ⟨rfl, hs11, hg11⟩; have R11 := (HX3.out.1.grown hg10).add hs11 hg11; have O11 := (HX3.out.2.1.grown hg10).set (HX3.out.1.grown hg10).s hg11; have hg011 := grown_new (grown_tr HX3.out.2.2 hg10) hg11 (fun j hj => by cases hj; exact HP.out.2.2.2.2.2.2.2); have henq := q_enq (x := y) R11.q HL9.out.2 hg011.size R11.hq; replace R11 := Lib.hid R11; replace O11 := Lib.hid O11)
                | (go_at_call 28; refine henq.mono ?_; intro e w12 he; obtain ⟨rfl, hr12, k12⟩ := R11.out.enq HL9.out.1 he; replace hr12 := Lib.hid hr12))
              go_roundw
              case rel =>
                obtain ⟨R, O, hne, hqn, hB, hg, hlen⟩ := HX2.out
                obtain ⟨h12, v12, R12, hv12⟩ := hr12.out
                have e1 : ((k : Int)) = ((k + 1 : Nat) : Int) - 1 := by omega
                have O12 := O11.out.k2 R11.out.q.blk k12 hqn hne
                rw [e1] at O12
                refine ⟨_, h12, k + 1, v12, V9 ++ [y], Q9 ++ [y], rfl, by have := HD9.out; simp only [List.length_append, List.length_singleton]; omega, by omega, R12, O12, ?_, ?_, hB.new HYV.out, k12.grown hg011 HP.out.2.2.2.2.2.2.1 R11.out.base⟩
                · rcases hne with h | h
                  · exact .inl h
                  · cases h8 : (Value.slice an (f t).length cn).ownBlock with
                    | none => exact .inl rfl
                    | some g =>
                      refine .inr (fun e => ?_)
                      rcases hv12 g e.symm with h7 | h7
                      · exact h (by rw [h8, h7])
                      · have := (O11.out.own.lt g h8).2
                        omega
                · intro e
                  rcases hv12 q e.symm with h7 | h7
                  · exact hqn h7.symm
                  · have := block_lt O11.out.blk
                    omega
              case measure =>
                obtain ⟨R, O, hne, hqn, hB, hg, hlen⟩ := HX2.out
                have O12 := O11.out.k2 R11.out.q.blk k12 hqn hne
                have e3 : idxIn q w12 = k + 1 := by unfold idxIn; rw [cell_at O12.blk]; simp
                omega
          · obtain rfl : k = (f t).length := by omega
            have hnx := on_next_end O.blk (by omega)
            have HX2 := Lib.hid (And.intro R (And.intro O (And.intro hne (And.intro hqn (And.intro hB (And.intro hg hlen))))))
            clear R O hne hqn hB hg hlen
            have HE : Hid (∀ w7, w6.grownBy w7 (some q) → ∀ a1 a2 a3 : Int, BwRel f u v w0.heap.size b m w0 (.int .i64 a1) (.int .i64 a2) (.int .i64 a3) w7 ∧ ids.length + 2 - (mlen m w7 - qlen b w7) < ids.length + 2 - (mlen m wa - qlen b wa)) := by
              refine Lib.hid (fun w7 hg7 a1 a2 a3 => ?_)
              obtain ⟨R, O, hne, hqn, hB, hg, hlen⟩ := HX2.out
              obtain ⟨Ra, hBa, hga, hna⟩ := HX.out
              have R7 := R.next O hg7
              rw [List.drop_length] at hB
              refine ⟨⟨a1, a2, a3, h9, vq9, V9, Q9, rfl, rfl, rfl, R7, hB.over, grown_new hg hg7 (fun j hj => by cases hj; exact O.ge)⟩, ?_⟩
              rw [R7.s.len hB.nd, R7.q.qlen, Ra.s.len hBa.nd, Ra.q.qlen]
              have e1 := HD9.out
              have e2 := HD.out
              have e3 := hlen.1
              have e4 := HV.out.1.1
              simp only [List.length_cons]
              omega
            go_wp2_with (go_at_call 114; refine hnx.mono ?_; rintro e w7 ⟨rfl, hb7, hg7⟩)
            all_goals exact HE.out w7 hg7 _ _ _
set_option maxHeartbeats 8000000 in
set_option maxRecDepth 100000 in
theorem bw_und {w0 w : World} {p0 b bx : Nat} {ids : List Int} {f : Int → List Int} {u v : Int} (hfrom : ∀ W x, w0.grownBy W none → x ∈ ids → Calls Try.prog 94 #[dirV p0, .int .i64 x] W (ItPost (f x) W)) (hl : ids.length ≤ 1000) (hfl : ∀ x, (f x).length ≤ 1000) (hu : u ∈ ids) (hcl : ∀ x ∈ ids, ∀ y ∈ f x, y ∈ ids)
    (hbx : w0.cell? ⟨bx, 0, none⟩ = some (nodeV v)) (hbl : bx < w0.heap.size) (hg : w0.grownBy w none) (hb : w.heap[b]? = some (.cells #[.nilFunc, .nilFunc, .int .i64 0, .slice none 0 0, .map none] bfT (0, 0))) (hbs : w0.heap.size ≤ b) :
    Calls Try.prog 19 #[.pointer (some ⟨b, 0, none⟩), .iface undT (dirV p0), nodeV u, untilV bx] w (BwPost f u v w0) := by
  have c4 : w.cell? ⟨b, 4, none⟩ = some (.map none) := cell_at hb
  have f4 : ∀ j, w.frozen? ⟨b, j, none⟩ = false := fun j => free_at hb
  have c4a : ∀ O, (w.alloc O).cell? ⟨b, 4, none⟩ = some (.map none) := fun O => (World.cell?_alloc_past O b 4 (block_lt hb)).trans c4
  have f4a : ∀ O, (w.alloc O).frozen? ⟨b, 4, none⟩ = false := fun O => free_at (grown_block (grown_alloc w O) hb (by simp))
  have hmm := @run_makeMap Try.prog
  have hns := nil_set
  obtain ⟨m, hm⟩ : ∃ m, m = w.heap.size := ⟨_, rfl⟩
  obtain ⟨w2, hw2⟩ : ∃ w2, w2 = (w.alloc (.map #[] 0)).setCell ⟨b, 4, none⟩ (.map (some w.heap.size)) := ⟨_, rfl⟩
  have hb1 := grown_block (grown_alloc w (.map #[] 0)) hb (by simp)
  have hb2 : w2.heap[b]? = some (.cells #[.nilFunc, .nilFunc, .int .i64 0, .slice none 0 0, .map (some w.heap.size)] bfT (0, 0)) := by rw [hw2]; exact block_set hb1 4 _
  have hs2 : SetMap w2 w.heap.size [] := by rw [hw2]; exact (SetMap.made w).grown (grown_setCell _ b 4 _) (by have := block_lt hb; simp; omega)
  have hg2 : w0.grownBy w2 none := by rw [hw2]; exact grown_new (grown_tr hg (grown_alloc _ _)) (grown_setCell _ b 4 _) (fun k hk => by cases hk; exact hbs)
  have hq2 : QR w2 w0.heap.size b .nilFunc .nilFunc (.map (some w.heap.size)) 0 (.slice none 0 0) [] := ⟨hb2, ⟨rfl, .inl ⟨rfl, rfl⟩⟩⟩
  have henq := q_enq (x := u) hq2 (by simp) hg2.size (.inl rfl)
  have hmb : w.heap.size ≠ b := by have := block_lt hb; omega
  have hmg : w0.heap.size ≤ w.heap.size := hg.size
  rw [← hm] at hs2 hmb hmg
  have H2 := Lib.hid (And.intro hg2 (And.intro hs2 hmb))
  have HF := Lib.hid hfrom
  have HP := Lib.hid (And.intro hl (And.intro hfl (And.intro hu (And.intro hcl (And.intro hbx (And.intro hbl (And.intro hbs hmg)))))))
  have HM := Lib.hid hm
  rw [hw2] at henq
  clear hfrom hl hfl hu hcl hbx hbl hbs hg hb hb1 hb2 hs2 hg2 hq2 hmb hm hmg
  go_enter Try.func19, Try.ntmps19
  go_wp2_with (go_at_call 28; refine henq.mono ?_; rintro e w3 ⟨rfl, h3, v3, q3, hh3, hv3, k3⟩)
  rw [← HM.out] at q3
  rw [← hw2] at k3
  obtain ⟨rfl⟩ : h3 = 0 := by omega
  have hg3 : w0.grownBy w3 none := k3.grown H2.out.1 HP.out.2.2.2.2.2.2.1 (by simp [Value.ownBlock])
  have hs3 : SetMap w3 m [] := k3.set H2.out.2.1 H2.out.2.2 (by simp [Value.ownBlock])
  have d0 : w3.cell? ⟨b, 0, none⟩ = some .nilFunc := cell_at q3.blk
  have nv := nil_visit
  have HQ3 := Lib.hid (And.intro q3 (And.intro hs3 hg3))
  clear henq hmm hns c4 f4 c4a f4a hw2 hv3 hh3 k3 hs3 hg3 q3
  go_quiet (fail)
  have h34 := grown_drewN w3 nq
  obtain ⟨w4, hw4⟩ : ∃ w4, w4 = w3.drewN nq := ⟨_, rfl⟩
  rw [← hw4] at h34 ⊢
  go_wp2_with fail
  obtain ⟨q3, hs3, hg3⟩ := HQ3.out
  have q4 := q3.grown h34 (by simp) (by cases h9 : v3.ownBlock with | none => exact .inl rfl | some k => exact .inr (by simp))
  have hs4 := hs3.grown h34 (by simp)
  have d4 : w4.cell? ⟨b, 4, none⟩ = some (.map (some m)) := cell_at q4.blk
  have HADD := Lib.hid (fun W (hW : w4.grownBy W none) => set_add (x := u) (hs4.grown hW (by simp)))
  have hbl4 := block_lt q4.blk
  have hmb := H2.out.2.2
  have HQ4 := Lib.hid (And.intro q4 (And.intro hs4 (grown_tr hg3 h34)))
  clear d0 nv q3 hs3 hg3 q4 hs4 h34 hw4 HQ3 H2
  go_region_held3 (fun W => W.cell? ⟨b, 4, none⟩ = some (.map (some m)))
    (first | go_keep | exact d4 | exact (grown_cell hg5 (by first | exact hbl4 | simpa using hbl4) (by simp; omega)).trans (by first | exact d4 | simpa using d4))
    (first
      | (go_at_call 78; refine (id_node _ _).mono ?_; rintro e w' ⟨rfl, rfl⟩)
      | (go_at_call 30; refine (HADD.out _ (by first | exact grown_refl _ | exact grown_drew _)).mono ?_; rintro e w5 ⟨rfl, hs5, hg5⟩))
  obtain ⟨q4, hs4, hg4⟩ := HQ4.out
  have h45 : w4.grownBy w5 (some m) := by first | exact hg5 | exact grown_opt (grown_drew _) hg5
  have R5 : BwR w5 w0.heap.size b m .nilFunc .nilFunc 0 v3 [u] [u] := ⟨q4.grown h45 (by simp; omega) (.inr (hs4.row q4.row).symm), hs5, .inl rfl, by simp⟩
  have HR5 := Lib.hid (And.intro R5 (grown_new hg4 h45 (fun k hk => by cases hk; exact HP.out.2.2.2.2.2.2.2)))
  clear HADD HQ4 d4 hmb hbl4 q4 hs4 hg4 h45 R5 hg5 hs5
  go_wp2_with fail
  go_loopw [9, 10, 11] (fun a9 a10 a11 wr => BwRel f u v w0.heap.size b m w0 a9 a10 a11 wr) (fun _ _ _ wr => ids.length + 2 - (mlen m wr - qlen b wr))
  case atStart => exact ⟨0, 0, 1, 0, v3, [u], [u], rfl, rfl, rfl, HR5.out.1, Bfs.start _ _ _, HR5.out.2⟩
  case round =>
    obtain ⟨z1, z2, z3, h, vq, V, Q, rfl, rfl, rfl, R, hB, hg⟩ := hrel
    obtain ⟨wa, rfl⟩ : ∃ wa : World, wa = wr := ⟨_, rfl⟩
    have hlen := hB.len (bw_rch_in HP.out.2.2.1 HP.out.2.2.2.1)
    have hhl := R.hl
    have hid := HP.out.1
    have HV := Lib.hid (And.intro hlen hhl)
    cases Q with
    | nil =>
      have hln := q_len R.q (by simp at *; omega)
      rw [List.length_nil] at hln
      have HX := Lib.hid (And.intro R (And.intro hB hg))
      clear R hB hg hlen hhl
      go_wp2_with (go_at_call 31; refine hln.mono ?_; rintro e w1 ⟨rfl, hg1⟩)
      go_ret
      obtain ⟨R, hB, hg⟩ := HX.out
      have hno : ¬ Rch (fun x y => y ∈ f x) u v := fun hr => (hB.done v (hB.all.2 hr) (by simp)).1 rfl
      exact ⟨fun h9 => absurd h9 hno, fun _ => rfl, grown_tr hg hg1⟩
    | cons t Q =>
      have hln := q_len R.q (by simp at *; omega)
      have hnz : (0 : Int) < ((t :: Q).length : Nat) := by simp only [List.length_cons]; omega
      obtain ⟨n, hn⟩ : ∃ n, n = (t :: Q).length := ⟨_, rfl⟩
      rw [← hn] at hln hnz
      have HDEQ := Lib.hid (fun W (hW : wa.grownBy W none) => q_deq (R.grown hW).q (by simp at *; omega))
      have HX := Lib.hid (And.intro R (And.intro hB (And.intro hg hn)))
      have HUN : Hid (∀ W, w0.grownBy W none → _) := Lib.hid (fun W hW => until_any (t := t) (z := z1) ((grown_cell hW HP.out.2.2.2.2.2.1 (by simp)).trans HP.out.2.2.2.2.1))
      have htin : t ∈ ids := bw_rch_in HP.out.2.2.1 HP.out.2.2.2.1 t (hB.rch t (hB.sub t (by simp)))
      clear R hB hg hlen hhl hn
      have hhu := has_until bx
      obtain ⟨p, hp⟩ : ∃ p, p = decide (t = v) := ⟨_, rfl⟩
      rw [← hp] at HUN
      have HPP := Lib.hid hp
      clear hp
      go_wp2_with (first
        | (go_at_call 31; refine hln.mono ?_; rintro e w1 ⟨rfl, hg1⟩)
        | (go_at_call 32; refine (HDEQ.out _ hg1).mono ?_; intro e w2 hd; obtain ⟨rfl, hr2, k2⟩ := (HX.out.1.grown hg1).deq hd; have hg2 := k2.grown (grown_tr HX.out.2.2.1 hg1) HP.out.2.2.2.2.2.2.1 (HX.out.1.base); have hun := HUN.out _ hg2; replace hr2 := Lib.hid hr2; replace k2 := Lib.hid k2))
      have HD2 := Lib.hid hd
      clear hln HDEQ HUN hd
      cases p
      case true =>
        go_wp2_with (go_at_call 20; refine hun.mono ?_; rintro e w3 ⟨rfl, hg3⟩)
        go_ret
        obtain ⟨R, hB, hg, hn⟩ := HX.out
        have htv : t = v := of_decide_eq_true HPP.out.symm
        have hr : Rch (fun x y => y ∈ f x) u v := htv ▸ hB.rch t (hB.sub t (by simp))
        exact ⟨fun _ => by rw [htv]; rfl, fun h9 => absurd hr h9, grown_tr hg2 hg3⟩
      case false =>
        have htv : t ≠ v := of_decide_eq_false HPP.out.symm
        have HTV := Lib.hid htv
        clear htv
        go_wp2_with (first
          | (go_at_call 20; refine hun.mono ?_; rintro e w3 ⟨rfl, hg3⟩; have hfr := HF.out w3 t (grown_tr hg2 hg3) htin)
          | (go_at_call 78; refine (id_node _ _).mono ?_; rintro e w' ⟨rfl, rfl⟩)
          | (go_at_call 94; refine hfr.mono ?_; intro e w4 hp; obtain ⟨q, vs, rfl, hq4, ho4, hqs4, hg4⟩ := hp))
        have hg04 := grown_tr (grown_tr hg2 hg3) hg4
        obtain ⟨d, hd⟩ : ∃ d, V.length = Q.length + d := ⟨V.length - Q.length, by have := HV.out.1.2; simp only [List.length_cons] at this; omega⟩
        have HD := Lib.hid hd
        clear hd
        have HIN : Hid (BwIn f u v t d w0.heap.size b m q vs w0 (.int .i64 z2) w4) := by
          obtain ⟨h', v', R2⟩ := hr2.out
          obtain ⟨R, hB, hg, hn⟩ := HX.out
          have R4 := (R2.grown hg3).grown hg4
          have hs3 : w0.heap.size ≤ w3.heap.size := (grown_tr hg2 hg3).size
          have hlt : ∀ j, v'.ownBlock = some j → j < w3.heap.size := fun j hj => ((R2.grown hg3).q.row.lt j hj).2
          refine Lib.hid ⟨z2, h', 0, v', V, Q, rfl, HD.out, Nat.zero_le _, R4, ⟨hq4, own_mono ho4 hs3, by omega⟩, ?_, ?_, ?_, hg04⟩
          · cases h9 : vs.ownBlock with
            | none => exact .inl rfl
            | some k =>
              refine .inr (fun e => ?_)
              have h1 := (ho4.lt k h9).1
              have h2 := hlt k e.symm
              omega
          · intro e
            have h2 := hlt q e.symm
            omega
          · rw [List.drop_zero]
            exact hB.take HTV.out (fun y => Iff.rfl)
        clear hfr hun hhu hnz hg1 hg2 hg3 hq4 ho4 hqs4 hg4 hr2 k2 HD2 hg04
        go_loopw [10] (fun a10 wr => BwIn f u v t d w0.heap.size b m q vs w0 a10 wr) (fun _ wr => (f t).length - idxIn q wr)
        case atStart => exact HIN.out
        case round =>
          obtain ⟨z, h9, k, vq9, V9, Q9, rfl, hd9, hk, R, O, hne, hqn, hB, hg⟩ := hrel
          have HD9 := Lib.hid hd9
          clear hd9
          obtain ⟨w6, rfl⟩ : ∃ w6 : World, w6 = wr := ⟨_, rfl⟩
          have hfl := HP.out.2.1 t
          have hlen := hB.len (bw_rch_in HP.out.2.2.1 HP.out.2.2.2.1)
          have hid : idxIn q w6 = k := by unfold idxIn; rw [cell_at O.blk]; simp
          obtain ⟨an, cn, rfl⟩ := own_slice O.own
          by_cases hlt : k < (f t).length
          · have hnx := on_next O.blk hlt (by omega)
            have hdr := List.drop_eq_getElem_cons hlt
            obtain ⟨y, hy⟩ : ∃ y, y = (f t)[k] := ⟨_, rfl⟩
            have HND := Lib.hid (fun W (o : OnR W q (.slice an (f t).length cn) (f t) k) => on_node o hlt (by omega))
            rw [← hy] at HND hdr
            rw [hdr] at hB
            have HX2 := Lib.hid (And.intro R (And.intro O (And.intro hne (And.intro hqn (And.intro hB (And.intro hg hlen))))))
            clear R O hne hqn hB hg hlen hdr hy
            go_wp2_with (first
              | (go_at_call 114; refine hnx.mono ?_; rintro e w7 ⟨rfl, hb7, hg7⟩; have R7 := HX2.out.1.next HX2.out.2.1 hg7; have O7 := HX2.out.2.1.moved hg7 hb7; have hnd := HND.out _ O7.on; replace R7 := Lib.hid R7; replace O7 := Lib.hid O7)
              | (go_at_call 115; refine hnd.mono ?_; rintro e w8 ⟨rfl, hg8⟩; have R8 := R7.out.grown hg8; have O8 := O7.out.grown hg8; have d1 : w8.cell? ⟨b, 1, none⟩ = some .nilFunc := cell_at R8.q.blk; replace R8 := Lib.hid R8; replace O8 := Lib.hid O8)
              | (go_at_call 78; refine (id_node _ _).mono ?_; rintro e w' ⟨rfl, rfl⟩))
            have R8 := R8.out
            have O8 := O8.out
            have nt := nil_traverse
            have HRO := Lib.hid (And.intro R8 O8)
            clear hnx hnd HND R7 O7 R8 O8
            go_quiet (fail)
            have h89 := grown_drewN w8 nq
            obtain ⟨w9, hw9⟩ : ∃ w9, w9 = w8.drewN nq := ⟨_, rfl⟩
            rw [← hw9] at h89 ⊢
            have R9 := HRO.out.1.grown h89
            have O9 := HRO.out.2.grown h89
            have hg69 : w6.grownBy w9 (some q) := grown_row hg7 (grown_tr hg8 h89) (by simp)
            have hg09 : w0.grownBy w9 none := grown_new HX2.out.2.2.2.2.2.1 hg69 (fun k hk => by cases hk; exact O9.ge)
            have c4 : w9.cell? ⟨b, 4, none⟩ = some (.map (some m)) := cell_at R9.q.blk
            have hhas := set_has (x := y) R9.s
            clear d1 nt HRO hw9
            by_cases hyV : y ∈ V9
            · have HYV := Lib.hid hyV
              rw [decide_eq_true hyV] at hhas
              have HX3 := Lib.hid (And.intro R9 (And.intro O9 hg09))
              clear hyV R9 O9 hg09
              go_wp2_with (go_at_call 29; refine hhas.mono ?_; rintro e w10 ⟨rfl, hg10⟩)
              go_roundw
              case rel =>
                obtain ⟨R, O, hne, hqn, hB, hg, hlen⟩ := HX2.out
                obtain ⟨R9, O9, hg09⟩ := HX3.out
                have e1 : ((k : Int)) = ((k + 1 : Nat) : Int) - 1 := by omega
                have O10 := O9.grown hg10
                rw [e1] at O10
                exact ⟨z, h9, k + 1, vq9, V9, Q9, rfl, HD9.out, by omega, R9.grown hg10, O10, hne, hqn, hB.old HYV.out, grown_tr hg09 hg10⟩
              case measure =>
                have e3 : idxIn q w10 = k + 1 := by unfold idxIn; rw [cell_at (HX3.out.2.1.grown hg10).blk]; simp
                omega
            · have HYV := Lib.hid hyV
              rw [decide_eq_false hyV] at hhas
              have nv := nil_visit
              have c0 : w9.cell? ⟨b, 0, none⟩ = some .nilFunc := cell_at R9.q.blk
              have HX3 := Lib.hid (And.intro R9 (And.intro O9 hg09))
              have HAD := Lib.hid (fun W (hW : w9.grownBy W none) => set_add (x := y) (R9.s.grown hW (by simp)))
              clear hyV R9 O9 hg09
              obtain ⟨R, O, hne, hqn, hB, hg, hlen⟩ := HX2.out
              have hl9 : h9 + Q9.length + 1 ≤ (V9 ++ [y]).length ∧ h9 + Q9.length + 1 ≤ 1000000 := by
                have h1 := R.hl
                have h2 := HP.out.1
                rw [List.length_append, List.length_singleton]
                omega
              have HL9 := Lib.hid hl9
              clear R O hne hqn hB hg hlen hl9
              go_wp2_with (first
                | (go_at_call 29; refine hhas.mono ?_; rintro e w10 ⟨rfl, hg10⟩; have hcc0 : w10.cell? ⟨b, 0, none⟩ = some .nilFunc := cell_at (HX3.out.1.grown hg10).q.blk; have hcc4 : w10.cell? ⟨b, 4, none⟩ = some (.map (some m)) := cell_at (HX3.out.1.grown hg10).q.blk)
                | (go_at_call 30; refine (HAD.out _ hg10).mono ?_; rintro e w11 ⟨rfl, hs11, hg11⟩; have R11 := (HX3.out.1.grown hg10).add hs11 hg11; have O11 := (HX3.out.2.1.grown hg10).set (HX3.out.1.grown hg10).s hg11; have hg011 := grown_new (grown_tr HX3.out.2.2 hg10) hg11 (fun j hj => by cases hj; exact HP.out.2.2.2.2.2.2.2); have henq := q_enq (x := y) R11.q HL9.out.2 hg011.size R11.hq; replace R11 := Lib.hid R11; replace O11 := Lib.hid O11)
                | (go_at_call 28; refine henq.mono ?_; intro e w12 he; obtain ⟨rfl, hr12, k12⟩ := R11.out.enq HL9.out.1 he; replace hr12 := Lib.hid hr12))
              go_roundw
              case rel =>
                obtain ⟨R, O, hne, hqn, hB, hg, hlen⟩ := HX2.out
                obtain ⟨h12, v12, R12, hv12⟩ := hr12.out
                have e1 : ((k : Int)) = ((k + 1 : Nat) : Int) - 1 := by omega
                have O12 := O11.out.k2 R11.out.q.blk k12 hqn hne
                rw [e1] at O12
                refine ⟨_, h12, k + 1, v12, V9 ++ [y], Q9 ++ [y], rfl, by have := HD9.out; simp only [List.length_append, List.length_singleton]; omega, by omega, R12, O12, ?_, ?_, hB.new HYV.out, k12.grown hg011 HP.out.2.2.2.2.2.2.1 R11.out.base⟩
                · rcases hne with h | h
                  · exact .inl h
                  · cases h8 : (Value.slice an (f t).length cn).ownBlock with
                    | none => exact .inl rfl
                    | some g =>
                      refine .inr (fun e => ?_)
                      rcases hv12 g e.symm with h7 | h7
                      · exact h (by rw [h8, h7])
                      · have := (O11.out.own.lt g h8).2
                        omega
                · intro e
                  rcases hv12 q e.symm with h7 | h7
                  · exact hqn h7.symm
                  · have := block_lt O11.out.blk
                    omega
              case measure =>
                obtain ⟨R, O, hne, hqn, hB, hg, hlen⟩ := HX2.out
                have O12 := O11.out.k2 R11.out.q.blk k12 hqn hne
                have e3 : idxIn q w12 = k + 1 := by unfold idxIn; rw [cell_at O12.blk]; simp
                omega
          · obtain rfl : k = (f t).length := by omega
            have hnx := on_next_end O.blk (by omega)
            have HX2 := Lib.hid (And.intro R (And.intro O (And.intro hne (And.intro hqn (And.intro hB (And.intro hg hlen))))))
            clear R O hne hqn hB hg hlen
            have HE : Hid (∀ w7, w6.grownBy w7 (some q) → ∀ a1 a2 a3 : Int, BwRel f u v w0.heap.size b m w0 (.int .i64 a1) (.int .i64 a2) (.int .i64 a3) w7 ∧ ids.length + 2 - (mlen m w7 - qlen b w7) < ids.length + 2 - (mlen m wa - qlen b wa)) := by
              refine Lib.hid (fun w7 hg7 a1 a2 a3 => ?_)
              obtain ⟨R, O, hne, hqn, hB, hg, hlen⟩ := HX2.out
              obtain ⟨Ra, hBa, hga, hna⟩ := HX.out
              have R7 := R.next O hg7
              rw [List.drop_length] at hB
              refine ⟨⟨a1, a2, a3, h9, vq9, V9, Q9, rfl, rfl, rfl, R7, hB.over, grown_new hg hg7 (fun j hj => by cases hj; exact O.ge)⟩, ?_⟩
              rw [R7.s.len hB.nd, R7.q.qlen, Ra.s.len hBa.nd, Ra.q.qlen]
              have e1 := HD9.out
              have e2 := HD.out
              have e3 := hlen.1
              have e4 := HV.out.1.1
              simp only [List.length_cons]
              omega
            go_wp2_with (go_at_call 114; refine hnx.mono ?_; rintro e w7 ⟨rfl, hb7, hg7⟩)
            all_goals exact HE.out w7 hg7 _ _ _
end Go.Proofs.Ytdllkoiddlcnmab
