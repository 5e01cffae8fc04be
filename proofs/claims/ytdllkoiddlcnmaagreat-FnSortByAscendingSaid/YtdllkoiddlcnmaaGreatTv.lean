/- strongconnect, where the successors come in an order. -/
import Derived.Test.YtdllkoiddlcnmaaGreatTa
namespace Go.Proofs.YtdllkoiddlcnmaaGreat.Ord
open Go.MapKept Go.RowKit

abbrev succV (bx : Nat) : Value := .func (.func 91) #[] #[.pointer (some ⟨bx, 0, none⟩), .pointer (some ⟨bx + 1, 0, none⟩)]
abbrev numT : TypeId := 126


theorem av_row {w w' : World} {B bt m1 m2 m3 : Nat} {fv vs vo : Value} {vals : List Value} {s : TSt} {os : List Int} {R : Nat → Prop} (T : TarB w B bt m1 m2 m3 fv vs vo vals s os R) {row : Option Nat} (hg : w.grownBy w' row) (hr : ∀ k, R k → some k ≠ row) : Kp R w w' := Kp.of hg T.rlt hr


structure Ctx (w0 : World) (bx B : Nat) (ids : List Int) (S : Int → List Int) : Prop where
  len : ids.length ≤ 1000
  clo : ∀ x ∈ ids, ∀ y ∈ S x, y ∈ ids
  few : ∀ x, (S x).length ≤ 1000
  suc : ∀ W x, w0.grownBy W none → x ∈ ids → Calls Tryz.prog 91 #[.int .i64 x, .pointer (some ⟨bx, 0, none⟩), .pointer (some ⟨bx + 1, 0, none⟩)] W (NlPost (S x) W)
  base : w0.heap.size ≤ B

def StrongPost (B bt m1 m2 m3 : Nat) (fv : Value) (t : TSt) (R : Nat → Prop) (w : World) (e : Ending) (w' : World) : Prop :=
  e = .returned (.tuple #[]) ∧ (∃ vs vo vals, TarB w' B bt m1 m2 m3 fv vs vo vals t t.stk R) ∧ Kp R w w'

def foldK (_ids : List Int) (S : Int → List Int) (f : Nat) (v : Int) (s : TSt) (k : Nat) : TSt := ((S v).take k).foldl (tstep (tvisit S f) v) (s.push v)

def SLoop (ids : List Int) (S : Int → List Int) (f : Nat) (gray : List Int) (v : Int) (s : TSt) (B bt m1 m2 m3 : Nat) (fv : Value) (R : Nat → Prop) (w6 : World) (i : Value) (wr : World) : Prop :=
  ∃ k vs vo vals, k ≤ (S v).length ∧ i = .int .i64 (k : Nat) ∧ TarB wr B bt m1 m2 m3 fv vs vo vals (foldK ids S f v s k) (foldK ids S f v s k).stk R ∧
    TLoop S gray v s (foldK ids S f v s k) ((S v).take k) ∧ whites ids (foldK ids S f v s k) + (foldK ids S f v s k).idx ≤ 1000 ∧ (∀ x ∈ (foldK ids S f v s k).stk, x ∈ ids) ∧ Kp R w6 wr

theorem len_of_nodup : ∀ {l ids : List Int}, l.Nodup → (∀ x ∈ l, x ∈ ids) → l.length ≤ ids.length
  | [], _, _, _ => Nat.zero_le _
  | x :: l, ids, hn, hs => by
    rw [List.nodup_cons] at hn
    have h1 := len_of_nodup (l := l) (ids := ids.erase x) hn.2 (fun y hy => (List.mem_erase_of_ne (fun e : y = x => hn.1 (by rw [← e]; exact hy))).2 (hs y (by simp [hy])))
    rw [List.length_erase_of_mem (hs x (by simp))] at h1
    have h2 : 0 < ids.length := List.length_pos_of_mem (hs x (by simp))
    rw [List.length_cons]
    omega

theorem foldK_succ (ids : List Int) (S : Int → List Int) (f : Nat) (v : Int) (s : TSt) {k : Nat} (hk : k < (S v).length) : foldK ids S f v s (k + 1) = tstep (tvisit S f) v (foldK ids S f v s k) (S v)[k] := by
  unfold foldK
  rw [List.take_succ_eq_append_getElem hk, List.foldl_append]
  rfl

theorem elNN : ElT Tryz.prog 109 nodsT 1 24 (.slice none 0 0) := ⟨Tryz.underlying109, by kernel_rfl, by kernel_rfl, by decide⟩

def stkLen (bt : Nat) (w : World) : Nat := match w.cell? ⟨bt, 5, none⟩ with
  | some (.slice _ n _) => n
  | _ => 0

def PLoop (B bt m1 m2 m3 : Nat) (fv vo : Value) (vals : List Value) (t : TSt) (new sstk : List Int) (v : Int) (gs cap H0 : Nat) (R R0 : Nat → Prop) (w0 : World) (a8 : Value) (wr : World) : Prop :=
  ∃ j, j ≤ new.length ∧ wr.ownsRow H0 nodT 1 a8 j ((new.take j).map nodeV) ∧ TarB wr B bt m1 m2 m3 fv (.slice (some ⟨gs, 0, none⟩) (new.drop j ++ v :: sstk).length cap) vo vals { t with stk := new.drop j ++ v :: sstk } (new.drop j ++ v :: sstk) R ∧ Kp R0 w0 wr ∧ H0 ≤ wr.heap.size

theorem top_cell {w : World} {B bt m1 m2 m3 gs cap : Nat} {fv vo : Value} {vals : List Value} {s : TSt} {os : List Int} {R : Nat → Prop} {x : Int} {l : List Int} (T : TarB w B bt m1 m2 m3 fv (.slice (some ⟨gs, 0, none⟩) (l.length + 1) cap) vo vals s os R) (hs : s.stk = x :: l) : w.cell? ⟨gs, l.length, none⟩ = some (nodeV x) := by
  have h := T.stk
  rw [hs] at h
  have := h.cells (g := gs) rfl l.length (nodeV x) (by simp)
  rw [addr_add, Nat.zero_add] at this
  exact this

theorem own_cap {w : World} {b e sz n cap g : Nat} {xs : List Value} (h : w.ownsRow b e sz (.slice (some ⟨g, 0, none⟩) n cap) n xs) : n ≤ cap ∧ cap ≤ maxLen := by
  obtain ⟨-, h | ⟨g', cap', cur, e1, hb, hh, hc, hm, hs, ht⟩⟩ := h
  · simp at h
  · simp only [Value.slice.injEq, Option.some.injEq, Addr.mk.injEq, and_true, true_and] at e1
    obtain ⟨rfl, rfl⟩ := e1
    exact ⟨hc, hm⟩

/-- what is known of the calls below -/
def StrongAt (w0 : World) (bx B bt m1 m2 m3 : Nat) (ids : List Int) (S : Int → List Int) (f : Nat) : Prop :=
  ∀ (w : World) (gray : List Int) (vs vo : Value) (vals : List Value) (s : TSt) (v : Int) (R : Nat → Prop), TarB w B bt m1 m2 m3 (succV bx) vs vo vals s s.stk R → TInv S gray s → v ∈ ids → s.tab v = 0 → (∀ y ∈ gray, Rch (SE S) y v) → whites ids s ≤ f → whites ids s + s.idx ≤ 1000 → (∀ x ∈ s.stk, x ∈ ids) → s.out.length ≤ s.idx → w0.grownBy w none → (∀ k, k < w0.heap.size → R k) →
    Calls Tryz.prog 92 #[.pointer (some ⟨bt, 0, none⟩), nodeV v] w (StrongPost B bt m1 m2 m3 (succV bx) (tvisit S f v s) R w)

set_option maxHeartbeats 8000000 in
set_option maxRecDepth 100000 in
theorem strong_step {w0 : World} {bx B bt m1 m2 m3 : Nat} {ids : List Int} {S : Int → List Int} (X : Ctx w0 bx B ids S) (f : Nat) (IH : Hid (StrongAt w0 bx B bt m1 m2 m3 ids S f)) : StrongAt w0 bx B bt m1 m2 m3 ids S (f + 1) := by
    intro w gray vs vo vals s v R T hI hv h0 hgr hf hsum hsk hout hw0 hR
    have hi : s.idx ≤ 1000 := by omega
    have hob : (S v).length ≤ 1000 := X.few v
    have hst : s.stk.length ≤ 1000 := Nat.le_trans (len_of_nodup hI.nodup hsk) X.len
    have HOUT := Lib.hid (show ∀ k, (foldK ids S f v s k).out.length + 1 ≤ (foldK ids S f v s k).idx from fun k => by
      have h1 := foldl_outs (tvisit S f) (fun y t => tvisit_outs f y t) v ((S v).take k) (s.push v)
      have h3 : (s.push v).idx = s.idx + 1 := rfl
      have h4 : (s.push v).out = s.out := rfl
      rw [h3, h4] at h1
      unfold foldK
      omega)
    clear hout
    have HYP := Lib.hid (And.intro hI (And.intro hv (And.intro h0 (And.intro hgr (And.intro hf (And.intro hsum (And.intro hsk (And.intro hw0 hR))))))))
    clear hI hv h0 hgr hf hsum hsk hw0 hR
    have c1 : w.cell? ⟨bt, 1, none⟩ = some (.int .i64 s.idx) := T.c 1
    have f1 := T.f 1
    have T1 := T.setIdx (s.idx + 1)
    have e1 : ((s.idx + 1 : Nat) : Int) = (s.idx : Int) + 1 := by omega
    rw [e1] at T1
    have HT := Lib.hid T1
    have HT0 := Lib.hid T
    clear T1 T e1
    have hw : IntKind.i64.wrap ((s.idx : Int) + 1) = (s.idx : Int) + 1 := by rw [IntKind.wrap_i64]; omega
    go_enter Tryz.func92, Tryz.ntmps92
    go_wp2_with (go_at_call 181; refine (id_node _ _).mono ?_; rintro e w' ⟨rfl, rfl⟩)
    obtain ⟨wa, hwa⟩ : ∃ wa, wa = w.setCell ⟨bt, 1, none⟩ (.int .i64 ((s.idx : Int) + 1)) := ⟨_, rfl⟩
    rw [← hwa] at HT
    rw [← hwa]
    have HG : Hid (Kp R w wa) := Lib.hid (by rw [hwa]; exact Kp.of (grown_setCell w bt 1 _) HT0.out.rlt (fun k hk e => (HT0.out.av k hk).1 (by cases e; rfl)))
    clear hwa c1 f1
    have T := HT.out
    have d1 : wa.cell? ⟨bt, 1, none⟩ = some (.int .i64 ((s.idx : Int) + 1)) := T.c 1
    have d2 : wa.cell? ⟨bt, 2, none⟩ = some (.map (some m1)) := T.c 2
    obtain ⟨wb, hrun, k1, k2⟩ := (T.grown (grown_drew wa)).tab.upd v (s.idx + 1)
    have TB := (T.grown (grown_drew wa)).setTab k2 k1
    rw [show ((s.idx + 1 : Nat) : Int) = (s.idx : Int) + 1 by omega] at hrun
    have KB : Kp R wa wb := (av_row T (grown_drew wa) (by simp)).trans (av_row (T.grown (grown_drew wa)) k2 (fun k hk e => (T.av k hk).2.1 (by cases e; rfl)))
    have b1 : wb.cell? ⟨bt, 1, none⟩ = some (.int .i64 ((s.idx : Int) + 1)) := TB.c 1
    have b2 : wb.cell? ⟨bt, 2, none⟩ = some (.map (some m1)) := TB.c 2
    have b3 : wb.cell? ⟨bt, 3, none⟩ = some (.map (some m2)) := TB.c 3
    have HTB := Lib.hid (And.intro TB KB)
    clear T TB KB k1 k2 HT
    go_region_held3 (fun w' => w'.cell? ⟨bt, 1, none⟩ = some (.int .i64 ((s.idx : Int) + 1)) ∧ w'.cell? ⟨bt, 2, none⟩ = some (.map (some m1))) (first | go_keep | exact ⟨b1, b2⟩) (fail)
    clear hrun d1 d2 b2
    obtain ⟨TB, KB⟩ := HTB.out
    obtain ⟨wc, hrun, k1, k2⟩ := (TB.grown (grown_drew wb)).low.upd v (s.idx + 1)
    have TC := (TB.grown (grown_drew wb)).setLow k2 k1
    rw [show ((s.idx + 1 : Nat) : Int) = (s.idx : Int) + 1 by omega] at hrun
    have KC : Kp R wb wc := (av_row TB (grown_drew wb) (by simp)).trans (av_row (TB.grown (grown_drew wb)) k2 (fun k hk e => (TB.av k hk).2.2.1 (by cases e; rfl)))
    have g1 : wc.cell? ⟨bt, 1, none⟩ = some (.int .i64 ((s.idx : Int) + 1)) := TC.c 1
    have g3 : wc.cell? ⟨bt, 3, none⟩ = some (.map (some m2)) := TC.c 3
    have g4 : wc.cell? ⟨bt, 4, none⟩ = some (.map (some m3)) := TC.c 4
    have g5 : wc.cell? ⟨bt, 5, none⟩ = some vs := TC.c 5
    have HTC := Lib.hid (And.intro TC (HG.out.trans (KB.trans KC)))
    clear TB TC KB KC k1 k2 HTB HG
    go_wp2_with fail
    go_region_held3 (fun w' => w'.cell? ⟨bt, 1, none⟩ = some (.int .i64 ((s.idx : Int) + 1)) ∧ w'.cell? ⟨bt, 3, none⟩ = some (.map (some m2))) (first | go_keep | exact ⟨g1, g3⟩) (fail)
    clear hrun b1 b3 g1 g3
    obtain ⟨TC, KC⟩ := HTC.out
    have hn5 : ∀ O, (wc.alloc O).cell? ⟨bt, 5, none⟩ = some vs := fun O => by rw [World.cell?_alloc_past _ _ _ TC.m_lt.1]; exact g5
    have hv1 := (TC.row_ne TC.stk (by decide)).1
    have HB2 := Lib.hid (show (wc.alloc (.cells #[nodeV v] nodT)).heap[bt]? = _ from grown_block (grown_alloc wc _) TC.blk (by simp))
    clear TC KC
    go_wp2_with (at_builtin; refine wpx_app1 elN rfl (.tmp 41) (.tmp 43) rfl B vs s.stk.length _ rfl (HTC.out.1.stk.alloc _) wc.heap.size #[nodeV v] (heap_alloc_new wc _) (wc.heap.size + 1) (by simp) 1 rfl rfl (by simp [Value.oneCell']) (by omega) (by unfold maxLen; omega) (by have := HTC.out.1.m_lt.1; have := HTC.out.1.ge.1; omega) ?_; intro g cap wd ho' hg' hat hlt2 hsz; have hb' := grown_block hg' HB2.out hv1; have hcb : wd.cell? ⟨bt, 5, none⟩ = some vs := cell_at hb'; have hcb4 : wd.cell? ⟨bt, 4, none⟩ = some (.map (some m3)) := cell_at hb'; have hfb : wd.frozen? ⟨bt, 5, none⟩ = false := free_at hb')

    have HTD : Hid (TarB (wd.setCell ⟨bt, 5, none⟩ (.slice (some ⟨g, 0, none⟩) (s.stk.length + 1) cap)) B bt m1 m2 m3 (succV bx) (.slice (some ⟨g, 0, none⟩) (s.stk.length + 1) cap) vo vals (s.push v) s.stk R ∧ Kp R w (wd.setCell ⟨bt, 5, none⟩ (.slice (some ⟨g, 0, none⟩) (s.stk.length + 1) cap))) := by
      obtain ⟨TC, KC⟩ := HTC.out
      refine Lib.hid ⟨TC.push (grown_alloc _ _) hg' ho' (by rcases hat with h | h; · exact .inl h
                                                            · exact .inr (by omega)), KC.trans ((av_row TC (grown_alloc _ _) (by simp)).trans ((Kp.of hg' (fun k hk => by have := TC.rlt k hk; simp; omega) (fun k hk => (TC.av k hk).2.2.2.2.1)).trans (Kp.of (grown_setCell wd bt 5 _) (fun k hk => ?_) (fun k hk e => (TC.av k hk).1 (by cases e; rfl)))))⟩
      have h1 := TC.rlt k hk
      omega
    generalize wd.setCell ⟨bt, 5, none⟩ (.slice (some ⟨g, 0, none⟩) (s.stk.length + 1) cap) = we at HTD ⊢
    clear HTC hn5 hv1 HB2 ho' hg' hat hlt2 hsz hb' hcb hcb4 hfb g4 g5
    refine (set_add HTD.out.1.on (x := v)).mono ?_
    rintro e wf ⟨rfl, hon, hgf⟩
    have TF := HTD.out.1.setOn hgf hon
    have KF : Kp R w wf := HTD.out.2.trans (Kp.of hgf HTD.out.1.rlt (fun k hk e => (HTD.out.1.av k hk).2.2.2.1 (by cases e; rfl)))
    have hwf : w0.grownBy wf none := Kp.grown HYP.out.2.2.2.2.2.2.2.1 HYP.out.2.2.2.2.2.2.2.2 KF
    have hsucc := X.suc wf v hwf HYP.out.2.1
    have cf : wf.cell? ⟨bt, 0, none⟩ = some (succV bx) := TF.c 0
    have HF := Lib.hid (And.intro TF (And.intro KF hwf))
    clear HTD hon hgf TF KF hwf
    go_wp2_with (go_at_call 91; refine hsucc.mono ?_; intro e wg hn; obtain ⟨vl, rfl, hl1, hl2⟩ := hn; obtain ⟨al, cl, hvl⟩ := own_slice hl1; subst hvl)
    have HL := Lib.hid (And.intro hl1 hl2)
    clear hl1 hl2 hsucc cf
    go_loopw [6, 7, 60] (fun _ _ i wr => SLoop ids S f gray v s B bt m1 m2 m3 (succV bx) (Prot R (.slice al (S v).length cl)) wg i wr) (fun _ _ i _ => (S v).length - (intOf i).toNat)
    case atStart =>
      obtain ⟨hI, hv, h0, hgr, hf, hsum, hsk, hw0, hR⟩ := HYP.out
      have TG := HF.out.1.protect HL.out.2 HL.out.1
      have hwp := whites_push hv h0
      have hpi : (s.push v).idx = s.idx + 1 := rfl
      refine ⟨0, _, _, _, Nat.zero_le _, rfl, TG, TLoop.start hI h0 hgr, ?_, ?_, Kp.refl _ _⟩
      · show whites ids (s.push v) + (s.push v).idx ≤ 1000
        omega
      · intro x hx
        have hx' : x ∈ v :: s.stk := hx
        rcases List.mem_cons.1 hx' with rfl | h
        · exact hv
        · exact hsk x h
    case round =>
      obtain ⟨k, vs2, vo2, vals2, hk, rfl, T, hL, hsum, hsk, hkp⟩ := hrel
      by_cases hlt : k < (S v).length
      · have hlt' : (k : Int) < (S v).length := by omega
        have hrow := Kp.own HL.out.1 hkp
        obtain ⟨gl, cgl, hvl, -, -, -⟩ := own_row hrow (by omega)
        simp only [Value.slice.injEq, true_and] at hvl
        obtain ⟨rfl, rfl⟩ := hvl
        have c0 : wr.cell? ⟨gl, k, none⟩ = some (nodeV (S v)[k]) := by
          rw [hrow.cellAt k (by omega)]; simp [hlt]
        have hyo : (S v)[k] ∈ S v := List.getElem_mem hlt
        have hys : foldK ids S f v s (k + 1) = tstep (tvisit S f) v (foldK ids S f v s k) (S v)[k] := foldK_succ ids S f v s hlt
        have hyt : (S v).take (k + 1) = (S v).take k ++ [(S v)[k]] := List.take_succ_eq_append_getElem hlt
        obtain ⟨y, hy⟩ : ∃ y, y = (S v)[k] := ⟨_, rfl⟩
        rw [← hy] at c0 hyo hys hyt
        have hyi : y ∈ ids := X.clo v HYP.out.2.1 y hyo
        obtain ⟨t, ht⟩ : ∃ t, t = foldK ids S f v s k := ⟨_, rfl⟩
        rw [← ht] at T hL hsum hsk hys
        have HN : Hid (∀ wr' vs vo vals, TarB wr' B bt m1 m2 m3 (succV bx) vs vo vals (tstep (tvisit S f) v t y) (tstep (tvisit S f) v t y).stk (Prot R (.slice (some ⟨gl, 0, none⟩) (S v).length cl)) → Kp (Prot R (.slice (some ⟨gl, 0, none⟩) (S v).length cl)) wr wr' →
            SLoop ids S f gray v s B bt m1 m2 m3 (succV bx) (Prot R (.slice (some ⟨gl, 0, none⟩) (S v).length cl)) wg (.int .i64 ((k : Int) + 1)) wr') := by
          obtain ⟨hI, hv, h0, hgr, hf, -⟩ := HYP.out
          refine Lib.hid (fun wr' vs vo vals T' K' => ⟨k + 1, vs, vo, vals, by omega, by go_num, ?_, ?_, ?_, ?_, hkp.trans K'⟩)
          · rw [hys]; exact T'
          · rw [hys, hyt]; exact TLoop.step X.clo hI hv h0 hgr hf hL hyo
          · rw [hys]; exact Nat.le_trans (tstep_sum X.clo f v y t hyi) hsum
          · rw [hys]; exact tstep_stk X.clo f v y t hyi hsk
        have hrun := T.tab.look y
        have c2 : wr.cell? ⟨bt, 2, none⟩ = some (.map (some m1)) := T.c 2
        by_cases hz : t.tab y = 0
        · have hcall := IH.out wr (v :: gray) vs2 vo2 vals2 t y (Prot R (.slice (some ⟨gl, 0, none⟩) (S v).length cl)) T hL.inv hyi hz (by
              intro q hq
              rcases List.mem_cons.1 hq with rfl | hq
              · exact .one hyo
              · exact .tail (HYP.out.2.2.2.1 q hq) hyo) (by have := hL.whites_lt HYP.out.2.1 HYP.out.2.2.1; have := HYP.out.2.2.2.2.1; omega) hsum hsk (by have := HOUT.out k; rw [← ht] at this; omega) (Kp.grown (grown_tr HF.out.2.2 HL.out.2) (fun k hk => .inl (HYP.out.2.2.2.2.2.2.2.2 k hk)) hkp) (fun k hk => .inl (HYP.out.2.2.2.2.2.2.2.2 k hk))
          have hst2 : tstep (tvisit S f) v t y = (tvisit S f y t).setLow v (min ((tvisit S f y t).low v) ((tvisit S f y t).low y)) := by unfold tstep; rw [if_pos hz]
          rw [hst2] at HN
          rw [hz] at hrun
          obtain ⟨r, hr⟩ : ∃ r, r = tvisit S f y t := ⟨_, rfl⟩
          rw [← hr] at HN hcall
          have HT := Lib.hid T
          clear hst2 hr hz hy hys hyt hrow hL hsum hsk hkp T ht
          go_wp2_with (first
            | (go_at_call 181; refine (id_node _ _).mono ?_; rintro e w' ⟨rfl, rfl⟩)
            | (go_at_call 92; refine hcall.mono ?_; rintro e w7 ⟨rfl, ⟨vs7, vo7, vals7, T7⟩, K7⟩))
          obtain ⟨ma, hma⟩ : ∃ ma, ma = r.low v := ⟨_, rfl⟩
          obtain ⟨mb, hmb⟩ : ∃ mb, mb = r.low y := ⟨_, rfl⟩
          rw [← hma, ← hmb] at HN
          have q1 := (T7.grown (grown_drew w7)).low.look v
          have q2 := (T7.grown (grown_drew w7)).low.look y
          obtain ⟨w8, q3, k1, k2⟩ := (T7.grown (grown_drew w7)).low.upd v (min ma mb)
          rw [← hma] at q1
          rw [← hmb] at q2
          have T8 := (T7.grown (grown_drew w7)).setLow k2 k1
          have K8 : Kp (Prot R (.slice (some ⟨gl, 0, none⟩) (S v).length cl)) wr w8 := K7.trans ((av_row T7 (grown_drew w7) (by simp)).trans (av_row (T7.grown (grown_drew w7)) k2 (fun k hk e => (T7.av k hk).2.2.1 (by cases e; rfl))))
          have d3 : w7.cell? ⟨bt, 3, none⟩ = some (.map (some m2)) := T7.c 3
          have e3 : w8.cell? ⟨bt, 3, none⟩ = some (.map (some m2)) := T8.c 3
          rw [show ((min ma mb : Nat) : Int) = min (ma : Int) (mb : Int) by omega] at q3
          have HE := Lib.hid (HN.out _ _ _ _ T8 K8)
          clear T8 K8 k1 k2 T7 K7 hma hmb HN HT hcall c0 c2 hrun
          go_region_held3 (fun w' => w'.cell? ⟨bt, 3, none⟩ = some (.map (some m2))) (first | go_keep | exact e3) (fail)
          clear q1 q2 q3 d3 e3
          go_wp2_with fail
          all_goals exact ⟨HE.out, by simp [intOf]; omega⟩
        · have hbz : (((t.tab y : Nat) : Int) == 0) = false := by rw [beq_eq_false_iff_ne]; omega
          have hhas := set_has (x := y) T.on
          have c4 : wr.cell? ⟨bt, 4, none⟩ = some (.map (some m3)) := T.c 4
          have HT := Lib.hid T
          by_cases hin : y ∈ t.stk
          · have hst2 : tstep (tvisit S f) v t y = t.setLow v (min (t.low v) (t.tab y)) := by unfold tstep; rw [if_neg hz, if_pos hin]
            rw [hst2] at HN
            have hd : decide (y ∈ t.stk) = true := decide_eq_true hin
            rw [hd] at hhas
            obtain ⟨ma, hma⟩ : ∃ ma, ma = t.low v := ⟨_, rfl⟩
            obtain ⟨mb, hmb⟩ : ∃ mb, mb = t.tab y := ⟨_, rfl⟩
            rw [← hma, ← hmb] at HN
            rw [← hmb] at hbz hrun
            have HM := Lib.hid (And.intro hma hmb)
            clear hst2 hz hy hys hyt hrow hL hsum hsk hkp T ht hd hin hma hmb
            go_wp2_with (first
              | (go_at_call 181; refine (id_node _ _).mono ?_; rintro e w' ⟨rfl, rfl⟩)
              | (go_at_call 114; refine hhas.mono ?_; rintro e w7 ⟨rfl, hg7⟩))
            have T7 := HT.out.grown hg7
            have q1 := (T7.grown (grown_drew w7)).low.look v
            have q2 := (T7.grown (grown_drew w7)).tab.look y
            obtain ⟨w8, q3, k1, k2⟩ := (T7.grown (grown_drew w7)).low.upd v (min ma mb)
            rw [← HM.out.1] at q1
            rw [← HM.out.2] at q2
            have T8 := (T7.grown (grown_drew w7)).setLow k2 k1
            have K8 : Kp (Prot R (.slice (some ⟨gl, 0, none⟩) (S v).length cl)) wr w8 := (av_row HT.out hg7 (by simp)).trans ((av_row T7 (grown_drew w7) (by simp)).trans (av_row (T7.grown (grown_drew w7)) k2 (fun k hk e => (T7.av k hk).2.2.1 (by cases e; rfl))))
            have d3 : w7.cell? ⟨bt, 3, none⟩ = some (.map (some m2)) := T7.c 3
            have d2 : w7.cell? ⟨bt, 2, none⟩ = some (.map (some m1)) := T7.c 2
            have e3 : w8.cell? ⟨bt, 3, none⟩ = some (.map (some m2)) := T8.c 3
            have e2 : w8.cell? ⟨bt, 2, none⟩ = some (.map (some m1)) := T8.c 2
            rw [show ((min ma mb : Nat) : Int) = min (ma : Int) (mb : Int) by omega] at q3
            have HE := Lib.hid (HN.out _ _ _ _ T8 K8)
            clear T8 K8 k1 k2 T7 hg7 HM HN HT hhas c0 c2 c4 hrun
            go_region_held3 (fun w' => w'.cell? ⟨bt, 2, none⟩ = some (.map (some m1)) ∧ w'.cell? ⟨bt, 3, none⟩ = some (.map (some m2))) (first | go_keep | exact ⟨e2, e3⟩) (fail)
            clear q1 q2 q3 d3 e3 d2 e2
            go_wp2_with fail
            all_goals exact ⟨HE.out, by simp [intOf]; omega⟩
          · have hst2 : tstep (tvisit S f) v t y = t := by unfold tstep; rw [if_neg hz, if_neg hin]
            rw [hst2] at HN
            have hd : decide (y ∈ t.stk) = false := decide_eq_false hin
            rw [hd] at hhas
            clear hst2 hz hy hys hyt hrow hL hsum hsk hkp T ht hd hin
            go_wp2_with (first
              | (go_at_call 181; refine (id_node _ _).mono ?_; rintro e w' ⟨rfl, rfl⟩)
              | (go_at_call 114; refine hhas.mono ?_; rintro e w7 ⟨rfl, hg7⟩))
            all_goals exact ⟨HN.out _ _ _ _ (HT.out.grown hg7) (av_row HT.out hg7 (by simp)), by simp [intOf]; omega⟩
      · have hlt' : ¬ (k : Int) < (S v).length := by omega
        obtain rfl : k = (S v).length := by omega
        have htake : (S v).take (S v).length = S v := List.take_length
        have hfin : tvisit S (f + 1) v s = tfin v (foldK ids S f v s (S v).length) := by unfold foldK; rw [htake]; rfl
        rw [htake] at hL
        obtain ⟨t, ht⟩ : ∃ t, t = foldK ids S f v s (S v).length := ⟨_, rfl⟩
        rw [← ht] at T hL hsum hsk hfin
        have HKR : Hid (∀ w', Kp (Prot R (.slice al (S v).length cl)) wr w' → Kp R w w') := Lib.hid (fun w' h => HF.out.2.1.trans ((av_row HF.out.1 HL.out.2 (by simp)).trans ((hkp.trans h).sub (fun k hk => .inl hk))))
        have q1 := fun nq => (T.grown (grown_drewN wr nq)).low.look v
        have q2 := fun nq => (T.grown (grown_drewN wr nq)).tab.look v
        have d2 : wr.cell? ⟨bt, 2, none⟩ = some (.map (some m1)) := T.c 2
        have d3 : wr.cell? ⟨bt, 3, none⟩ = some (.map (some m2)) := T.c 3
        have HT := Lib.hid T
        have htl : t.stk.length ≤ 1000 := Nat.le_trans (len_of_nodup hL.inv.nodup hsk) X.len
        have hol : t.out.length ≤ 1000 := by have := HOUT.out (S v).length; rw [← ht] at this; omega
        clear T hsum hsk hkp htake ht
        by_cases hlow : t.low v = t.tab v
        · have hb : (((t.low v : Nat) : Int) == ((t.tab v : Nat) : Int)) = true := by rw [beq_iff_eq]; omega
          have hb2 : (t.low v == t.tab v) = true := by rw [beq_iff_eq]; omega
          obtain ⟨new, hnew, -, -⟩ := hL.new
          have hnd := hL.inv.nodup
          rw [hnew] at hnd
          have hvn : v ∉ new := fun h => by
            rw [List.nodup_append] at hnd
            exact hnd.2.2 v h v (by simp) rfl
          have hcl : tfin v t = { t with stk := s.stk, out := (new ++ [v]) :: t.out } := by
            obtain ⟨t1, t2⟩ := take_stop (rest := s.stk) hvn
            unfold tfin
            rw [if_pos hlow]
            unfold TSt.close
            rw [hnew, t1, t2]
            rfl
          rw [hcl] at hfin
          have hnl1 : new.length ≤ 1000 := by have := congrArg List.length hnew; simp at this; omega
          have HX := Lib.hid (And.intro hfin (And.intro hnew (And.intro hnd hvn)))
          clear hfin hnew hnd hvn hcl hlow hL
          obtain ⟨ma, hma⟩ : ∃ ma, ma = t.low v := ⟨_, rfl⟩
          obtain ⟨mb, hmb⟩ : ∃ mb, mb = t.tab v := ⟨_, rfl⟩
          rw [← hma, ← hmb] at hb hb2
          rw [← hma] at q1
          rw [← hmb] at q2
          clear hma hmb
          go_wp2_with fail
          go_quiet (fail)
          clear q1 q2 d2 d3 hb hb2
          obtain ⟨wp, hwc⟩ : ∃ wp, wp = wr.drewN nq := ⟨_, rfl⟩
          rw [← hwc]
          have HTP : Hid (TarB wp B bt m1 m2 m3 (succV bx) vs2 vo2 vals2 t t.stk (Prot R (.slice al (S v).length cl)) ∧ Kp R w wp) := Lib.hid (by rw [hwc]; exact ⟨HT.out.grown (grown_drewN wr nq), HKR.out _ (av_row HT.out (grown_drewN wr nq) (by simp))⟩)
          clear hwc HT HKR HL
          go_wp2_with fail
          obtain ⟨gs, caps, hvs, -, -, -⟩ := own_row HTP.out.1.stk (by rw [HX.out.2.1]; simp; omega)
          have HPL : Hid (PLoop B bt m1 m2 m3 (succV bx) vo2 vals2 t new s.stk v gs caps wp.heap.size (Prot R (.slice al (S v).length cl)) R w (.slice none 0 0) wp) := by
            refine Lib.hid ⟨0, Nat.zero_le _, ⟨rfl, .inl ⟨rfl, rfl⟩⟩, ?_, HTP.out.2, Nat.le_refl _⟩
            rw [List.drop_zero, ← HX.out.2.1, ← hvs]
            exact HTP.out.1
          have HLI := Lib.hid (show Lim wp.heap.size bt m1 m2 m3 (.slice (some ⟨gs, 0, none⟩) 0 0) vo2 vals2 from (by have L := HTP.out.1.lim; rw [hvs] at L; exact ⟨L.ms, L.vs, L.vo, L.vals⟩))
          have hH0 : w.heap.size ≤ wp.heap.size := HTP.out.2.size
          clear HTP hvs
          obtain ⟨sk, hsk⟩ : ∃ sk, sk = s.stk := ⟨_, rfl⟩
          rw [← hsk] at HPL HX
          have HSK := Lib.hid hsk
          clear hsk
          go_loopw [8, 9] (fun a8 _ wr => PLoop B bt m1 m2 m3 (succV bx) vo2 vals2 t new sk v gs caps wp.heap.size (Prot R (.slice al (S v).length cl)) R w a8 wr) (fun _ _ wr => stkLen bt wr)
          case atStart => exact HPL.out
          case round =>
            clear HPL
            obtain ⟨j, hj, hown, T, hkp, hH⟩ := hrel
            obtain ⟨x, l, hdr⟩ : ∃ x l, new.drop j ++ v :: sk = x :: l := by
              cases new.drop j with
              | nil => exact ⟨_, _, rfl⟩
              | cons y r => exact ⟨_, _, rfl⟩
            rw [hdr] at T
            have hxl : x ∉ l := by
              have h1 : (new.drop j ++ v :: sk).Nodup := HX.out.2.2.1.sublist ((List.drop_sublist j new).append_right _)
              rw [hdr, List.nodup_cons] at h1
              exact h1.1
            have HXJ := Lib.hid (And.intro hdr hxl)
            clear hdr hxl
            have hs0 : (({ t with stk := x :: l } : TSt)).stk = x :: l := rfl
            have c5 : wr.cell? ⟨bt, 5, none⟩ = some (.slice (some ⟨gs, 0, none⟩) ((l).length + 1) caps) := T.c 5
            have f5 := T.f 5
            have ct := top_cell T hs0
            have hlc : (0 : Int) ≤ ((l).length : Int) := by omega
            have hsl : ((l).length : Int) < ((l).length : Int) + 1 := by omega
            obtain ⟨hcp1, hcp2⟩ := own_cap T.stk
            have hnc : (l).length ≤ caps := by have : (x :: l).length ≤ caps := hcp1; rw [List.length_cons] at this; omega
            have hnc2 : (((l).length : Nat) : Int) ≤ (caps : Int) := by omega
            have hwr : IntKind.i64.wrap (((l).length : Nat) : Int) = (((l).length : Nat) : Int) := by rw [IntKind.wrap_i64]; unfold maxLen at hcp2; omega
            have HTR := Lib.hid (And.intro T (And.intro hown (And.intro hkp hH)))
            clear hcp1 hcp2
            obtain ⟨nl, hnl⟩ : ∃ nl, nl = (l).length := ⟨_, rfl⟩
            rw [← hnl] at c5 ct hlc hsl hnc hnc2 hwr
            have HNL := Lib.hid hnl
            clear T hown hkp hH hnl
            go_wp2_with fail
            go_cut [9] (fun a9 wx => a9 = nodeV x ∧ TarB wx B bt m1 m2 m3 (succV bx) (.slice (some ⟨gs, 0, none⟩) (l).length caps) vo2 vals2 { t with stk := l } (x :: l) (Prot R (.slice al (S v).length cl)) ∧ wr.grownBy wx (some bt))
            case first =>
              go_region
              all_goals (try go_wp2_with fail)
              all_goals go_meet
              all_goals
                obtain ⟨T, hown, hkp, hH⟩ := HTR.out
                refine ⟨rfl, ?_, grown_row (grown_setCell wr bt 5 _) (grown_drew _) (by simp)⟩
                rw [HNL.out]
                exact (T.pop (show (({ t with stk := x :: l } : TSt)).stk = x :: l from rfl)).grown (grown_drew _)
            case rest =>
              clear c5 f5 ct hlc hsl hnc hnc2 hwr
              obtain ⟨rfl, TC, hgc⟩ := hcut
              have c4 : wc.cell? ⟨bt, 4, none⟩ = some (.map (some m3)) := TC.c 4
              have hrem := set_remove (TC.grown (grown_drew wc)).on HXJ.out.2
              have hm3 : some bt ≠ some m3 := by have := TC.m_ne.2.2; simpa using this.symm
              have hbl := TC.m_lt.1
              have HTC := Lib.hid (And.intro TC hgc)
              clear TC hgc
              go_wp2_with fail
              go_region_held3 (fun w' => w'.cell? ⟨bt, 4, none⟩ = some (.map (some m3))) (first | go_keep | exact (grown_cell hg2 hbl hm3).trans c4) (first
                | (go_at_call 181; refine (id_node _ _).mono ?_; rintro e w' ⟨rfl, rfl⟩)
                | (go_at_call 115; refine hrem.mono ?_; rintro e w2 ⟨rfl, hon, hg2⟩))
              have HW2 : Hid (w2.ownsRow wp.heap.size nodT 1 u8 j ((new.take j).map nodeV) ∧ TarB w2 B bt m1 m2 m3 (succV bx) (.slice (some ⟨gs, 0, none⟩) (l).length caps) vo2 vals2 { t with stk := l } (l) (Prot R (.slice al (S v).length cl)) ∧ Kp R w w2 ∧ wp.heap.size ≤ w2.heap.size) := by
                obtain ⟨T, hown, hkp, hH⟩ := HTR.out
                obtain ⟨TC, hgc⟩ := HTC.out
                obtain ⟨r1, -, -, r4⟩ := T.row_ne hown (by decide)
                have TD := TC.grown (grown_drew wc)
                refine Lib.hid ⟨?_, TD.setOn hg2 hon, hkp.trans (((Kp.of hgc T.rlt (fun k hk e => (T.av k hk).1 (by cases e; rfl))).trans ((av_row TC (grown_drew wc) (by simp)).trans (av_row TD hg2 (fun k hk e => (TD.av k hk).2.2.2.1 (by cases e; rfl))))).sub (fun k hk => .inl hk)), ?_⟩
                · exact (own_new (hown.kept hgc (.inr r1.symm)) (grown_drew wc)).kept hg2 (.inr r4.symm)
                · have := hgc.size; have := hg2.size; simp at this; omega
              clear hon hg2 hrem c4 hm3 hbl HTC
              have hj9 : j ≤ 1000 := by omega
              by_cases hxv : x = v
              · have hbx : (x == v) = true := by simpa using hxv
                have HXV := Lib.hid hxv
                clear hxv
                have HAP : Hid (∀ w3, (w2.alloc (.cells #[nodeV x] nodT)).grownBy w3 u8.ownBlock → TarB w3 B bt m1 m2 m3 (succV bx) (.slice (some ⟨gs, 0, none⟩) (l).length caps) vo2 vals2 { t with stk := l } (l) (Prot R (.slice al (S v).length cl)) ∧ w3.cell? ⟨bt, 6, none⟩ = some vo2 ∧ (∀ O, (w3.alloc O).cell? ⟨bt, 6, none⟩ = some vo2) ∧ some bt ≠ vo2.ownBlock) := by
                  obtain ⟨hown, T2, K2, hH2⟩ := HW2.out
                  refine Lib.hid (fun w3 hg3 => ?_)
                  have T3 := (T2.grown (grown_alloc w2 (.cells #[nodeV x] nodT))).far (H := wp.heap.size) ⟨HLI.out.ms, HLI.out.vs, HLI.out.vo, HLI.out.vals⟩ hg3 (fun k hk => (hown.lt k hk).1)
                  exact ⟨T3, T3.c 6, fun O => (World.cell?_alloc_past _ _ _ T3.m_lt.1).trans (T3.c 6), (T3.row_ne T3.out (by decide)).1⟩
                go_wp2_with (first
                  | (at_builtin; refine wpx_app1 elN rfl (.tmp 165) (.tmp 167) rfl wp.heap.size u8 j _ rfl (HW2.out.1.alloc _) w2.heap.size #[nodeV x] (heap_alloc_new w2 _) (w2.heap.size + 1) (by simp) 1 rfl rfl (by simp [Value.oneCell']) (by omega) (by unfold maxLen; omega) (by have := HW2.out.2.2.2; omega) ?_; intro g2 cap2 w3 ho3 hg3 hat3 hlt3 hsz3; obtain ⟨T3, k6, k6a, kne⟩ := HAP.out w3 hg3; replace T3 := Lib.hid T3)
                  | (at_builtin; refine wpx_app1 elNN rfl (.tmp 177) (.tmp 179) rfl B vo2 t.out.length _ rfl (T3.out.out.alloc _) w3.heap.size #[.slice (some ⟨g2, 0, none⟩) (j + 1) cap2] (heap_alloc_new w3 _) (w3.heap.size + 1) (by simp) 1 rfl rfl (by simp [Value.oneCell']) (by omega) (by unfold maxLen; omega) (by have := T3.out.m_lt.1; have := T3.out.ge.1; omega) ?_; intro g4 cap4 w4 ho4 hg4 hat4 hlt4 hsz4; have hb4 := grown_block hg4 (grown_block (grown_alloc w3 _) T3.out.blk (by simp)) kne; have m6 : w4.cell? ⟨bt, 6, none⟩ = some vo2 := cell_at hb4; have mf : w4.frozen? ⟨bt, 6, none⟩ = false := free_at hb4)
                  | (go_at_call 181; refine (id_node _ _).mono ?_; rintro e w' ⟨rfl, rfl⟩))
                go_end0
                obtain ⟨hown, T2, K2, hH2⟩ := HW2.out
                obtain ⟨hdr, -⟩ := HXJ.out
                obtain ⟨hfin, hnew, hnd, hvn⟩ := HX.out
                have hjl : ¬ j < new.length := fun h => by
                  rw [List.drop_eq_getElem_cons h, List.cons_append, List.cons.injEq] at hdr
                  exact hvn (by rw [← HXV.out, ← hdr.1]; exact List.getElem_mem h)
                rw [List.drop_eq_nil_of_le (by omega), List.nil_append, List.cons.injEq] at hdr
                obtain ⟨-, hl⟩ := hdr
                have hBw : B ≤ wp.heap.size := by have := HLI.out.ms.1; have := T2.ge.1; omega
                have hcl : (new ++ [v]).length = j + 1 := by simp; omega
                have hscc : w3.ownsRow B nodT 1 (.slice (some ⟨g2, 0, none⟩) (j + 1) cap2) (new ++ [v]).length ((new ++ [v]).map nodeV) := by
                  rw [hcl, List.map_append]
                  have := own_mono ho3 hBw
                  rw [List.take_of_length_le (by omega), HXV.out] at this
                  exact this
                have hg2 : wp.heap.size ≤ g2 := by
                  rcases hat3 with h | h
                  · exact (hown.lt g2 h).1
                  · omega
                have hgs := HLI.out.vs gs rfl
                have TM := T3.out.more (c := new ++ [v]) hscc (.inr (by show some g2 ≠ some gs; intro e; cases e; omega)) (grown_alloc w3 _) hg4 ho4 (hat4.elim Or.inl (fun h => Or.inr (by omega)))
                refine ⟨rfl, ?_, ?_⟩
                · rw [hfin, hl]
                  exact ⟨_, _, _, TM.sub (fun k hk => .inl hk)⟩
                · have hR0 := HT0.out.rlt
                  have hR3 : ∀ k, R k → k < w3.heap.size := fun k hk => by have := hR0 k hk; have := hg3.size; simp at this; omega
                  refine K2.trans ((Kp.of (grown_opt (grown_alloc w2 _) hg3) (fun k hk => ?_) (fun k hk e => ?_)).trans ((Kp.of (grown_opt (grown_alloc w3 _) hg4) hR3 (fun k hk => (T3.out.av k (.inl hk)).2.2.2.2.2)).trans (Kp.of (grown_setCell w4 bt 6 _) (fun k hk => ?_) (fun k hk e => (T3.out.av k (.inl hk)).1 (by cases e; rfl)))))
                  · have := hR0 k hk; omega
                  · have := hR0 k hk; have := (hown.lt k e.symm).1; omega
                  · have := hR3 k hk; omega
              · have hbx : (x == v) = false := by simpa using hxv
                have HXV := Lib.hid hxv
                clear hxv
                go_wp2_with (first
                  | (at_builtin; refine wpx_app1 elN rfl (.tmp 165) (.tmp 167) rfl wp.heap.size u8 j _ rfl (HW2.out.1.alloc _) w2.heap.size #[nodeV x] (heap_alloc_new w2 _) (w2.heap.size + 1) (by simp) 1 rfl rfl (by simp [Value.oneCell']) (by omega) (by unfold maxLen; omega) (by have := HW2.out.2.2.2; omega) ?_; intro g2 cap2 w3 ho3 hg3 hat3 hlt3 hsz3)
                  | (go_at_call 181; refine (id_node _ _).mono ?_; rintro e w' ⟨rfl, rfl⟩))
                refine ⟨?_, ?_⟩
                · obtain ⟨hown, T2, K2, hH2⟩ := HW2.out
                  obtain ⟨hdr, -⟩ := HXJ.out
                  have hjl : j < new.length := by
                    by_cases h : j < new.length
                    · exact h
                    · rw [List.drop_eq_nil_of_le (by omega), List.nil_append, List.cons.injEq] at hdr
                      exact absurd hdr.1.symm HXV.out
                  rw [List.drop_eq_getElem_cons hjl, List.cons_append, List.cons.injEq] at hdr
                  obtain ⟨hx, hl⟩ := hdr
                  refine ⟨j + 1, by omega, ?_, ?_, K2.trans (Kp.of (grown_opt (grown_alloc w2 _) hg3) (fun k hk => ?_) (fun k hk e => ?_)), by have := hg3.size; simp at this; omega⟩
                  · rw [← hx] at ho3
                    exact own_snoc hjl ho3
                  · rw [hl]
                    exact (T2.grown (grown_alloc w2 _)).far (H := wp.heap.size) ⟨HLI.out.ms, HLI.out.vs, HLI.out.vo, HLI.out.vals⟩ hg3 (fun k hk => (hown.lt k hk).1)
                  · have := HT0.out.rlt k hk; omega
                  · have := HT0.out.rlt k hk; have := (hown.lt k e.symm).1; omega
                · obtain ⟨hown, T2, K2, hH2⟩ := HW2.out
                  have T3 := (T2.grown (grown_alloc w2 (.cells #[nodeV x] nodT))).far (H := wp.heap.size) ⟨HLI.out.ms, HLI.out.vs, HLI.out.vo, HLI.out.vals⟩ hg3 (fun k hk => (hown.lt k hk).1)
                  have e1 : stkLen bt w3 = (l).length := by unfold stkLen; rw [T3.c 5]; rfl
                  have e2 : stkLen bt wr = (l).length + 1 := by unfold stkLen; rw [HTR.out.1.c 5]; rfl
                  rw [e1, e2]
                  omega
        · have hb : (((t.low v : Nat) : Int) == ((t.tab v : Nat) : Int)) = false := by rw [beq_eq_false_iff_ne]; omega
          have hb2 : (t.low v == t.tab v) = false := by rw [beq_eq_false_iff_ne]; omega
          have hcl : tfin v t = t := by unfold tfin; rw [if_neg hlow]
          rw [hcl] at hfin
          have HX := Lib.hid hfin
          clear hfin hcl hlow hL
          obtain ⟨ma, hma⟩ : ∃ ma, ma = t.low v := ⟨_, rfl⟩
          obtain ⟨mb, hmb⟩ : ∃ mb, mb = t.tab v := ⟨_, rfl⟩
          rw [← hma, ← hmb] at hb hb2
          rw [← hma] at q1
          rw [← hmb] at q2
          clear hma hmb
          go_wp2_with fail
          go_quiet (fail)
          go_wp2_with fail
          go_end0
          refine ⟨rfl, ?_, HKR.out _ (av_row HT.out (grown_drewN wr nq) (by simp))⟩
          rw [HX.out]
          exact ⟨_, _, _, (HT.out.grown (grown_drewN wr nq)).sub (fun k hk => .inl hk)⟩

theorem strong_at {w0 : World} {bx B bt m1 m2 m3 : Nat} {ids : List Int} {S : Int → List Int} (X : Ctx w0 bx B ids S) : ∀ f, StrongAt w0 bx B bt m1 m2 m3 ids S f
  | 0 => fun w gray vs vo vals s v R T hI hv h0 hgr hf hsum hsk hout hw0 hR => by
    have := whites_push hv h0
    omega
  | f + 1 => strong_step X f (Lib.hid (strong_at X f))
theorem strong_any {w0 : World} {bx B bt m1 m2 m3 : Nat} {ids : List Int} {S : Int → List Int} (X : Ctx w0 bx B ids S) : ∀ (f : Nat) {w : World} {gray : List Int} {vs vo : Value} {vals : List Value} {s : TSt} {v : Int} {R : Nat → Prop}
    (_ : TarB w B bt m1 m2 m3 (succV bx) vs vo vals s s.stk R) (_ : TInv S gray s) (_ : v ∈ ids) (_ : s.tab v = 0) (_ : ∀ y ∈ gray, Rch (SE S) y v) (_ : whites ids s ≤ f) (_ : whites ids s + s.idx ≤ 1000) (_ : ∀ x ∈ s.stk, x ∈ ids) (_ : s.out.length ≤ s.idx)
    (_ : w0.grownBy w none) (_ : ∀ k, k < w0.heap.size → R k),
    Calls Tryz.prog 92 #[.pointer (some ⟨bt, 0, none⟩), nodeV v] w (StrongPost B bt m1 m2 m3 (succV bx) (tvisit S f v s) R w) :=
  fun f w gray vs vo vals s v R => strong_at X f w gray vs vo vals s v R
end Go.Proofs.YtdllkoiddlcnmaaGreat.Ord
