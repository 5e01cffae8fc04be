/- The laws' own: arc, at a directed graph; slices.Equal at one list of slots. -/
import Derived.Test.YtdllkoiddlcnmaaGreatSk
import Derived.Test.YtdllkoiddlcnmaaGreatOu
import Derived.Test.YtdllkoiddlcnmaaGreatLe
import Derived.Laws.StructEq
namespace Go.Proofs.YtdllkoiddlcnmaaGreat
open Go.MapKept Go.RowKit

abbrev slotT : TypeId := 50
def encSl : Option Int → List Value
  | none => [.bool true, .int .i64 0]
  | some x => [.bool false, .int .i64 x]
theorem elSl : ElT Tryz.prog 45 slotT 2 16 (.agg #[.bool false, .int .i64 0]) := ⟨Tryz.underlying45, by kernel_rfl, by kernel_rfl, by decide⟩

def SlRel (os : List (Option Int)) (w : World) (a4 i : Value) (wr : World) : Prop := ∃ k : Nat, k ≤ os.length ∧ i = .int .i64 k ∧ wr.ownsRow w.heap.size slotT 2 a4 k ((os.take k).flatMap encSl) ∧ w.grownBy wr none
theorem sl_snoc {w' : World} {base g cap k : Nat} {os : List (Option Int)} (hk : k < os.length) (ho : w'.ownsRow base slotT 2 (.slice (some ⟨g, 0, none⟩) (k + 1) cap) (k + 1) ((os.take k).flatMap encSl ++ encSl os[k])) :
    w'.ownsRow base slotT 2 (.slice (some ⟨g, 0, none⟩) (k + 1) cap) (k + 1) ((os.take (k + 1)).flatMap encSl) := by
  rw [List.take_succ_eq_append_getElem hk, List.flatMap_append]
  simpa using ho
theorem grown_own2' {w wr w' : World} {v : Value} {e : TypeId} {n s : Nat} {xs : List Value} {O : Obj} (hg : w.grownBy wr none) (hown : wr.ownsRow w.heap.size e s v n xs) (hg' : (wr.alloc O).grownBy w' v.ownBlock) : w.grownBy w' none :=
  grown_new (grown_tr hg (grown_alloc wr O)) hg' (fun k hk => (hown.lt k hk).1)

theorem nil_eql (W : World) : (binOp .eql 87 .nilIface .nilIface).run Tryz.prog W = .ok (.bool true) W := by kernel_rfl
theorem node_eql (x : Int) (W : World) : (binOp .eql 87 (nodeV x) .nilIface).run Tryz.prog W = .ok (.bool false) W := by kernel_rfl
theorem err_nil (W : World) : (binOp .eql 72 .nilIface .nilIface).run Tryz.prog W = .ok (.bool true) W := by kernel_rfl
theorem err_some (s : Value) (W : World) : (binOp .eql 72 (.iface unoT s) .nilIface).run Tryz.prog W = .ok (.bool false) W := by kernel_rfl
theorem as_uno (s : Value) (W : World) : (Instr.typeAssert (.iface unoT s) 72 unoT true).run Tryz.prog W = .ok (.tuple #[s, .bool true]) W := by kernel_rfl

def Cyc (w : World) (B n : Nat) (s7 : Value) : Prop := ∃ cv : List Value, w.ownsRow B nodsT 1 s7 cv.length cv ∧ cv.length ≤ n ∧ ∀ v ∈ cv, ∃ c : List Int, c.length ≤ 1000 ∧ w.ownsRow B nodT 1 v c.length (c.map nodeV)

def SlOk (os : List (Option Int)) (w : World) (e : Ending) (w' : World) : Prop := ∃ vo, e = .returned (.tuple #[vo, .slice none 0 0, .bool true]) ∧ w'.ownsRow w.heap.size slotT 2 vo os.length (os.flatMap encSl) ∧ w.grownBy w' none
def SlBad (os : List (Option Int)) (w : World) (e : Ending) (w' : World) : Prop := ∃ vo vc, e = .returned (.tuple #[vo, vc, .bool false]) ∧ w'.ownsRow w.heap.size slotT 2 vo os.length (os.flatMap encSl) ∧ w.grownBy w' none


set_option maxHeartbeats 2000000 in
set_option maxRecDepth 100000 in
theorem slots_ok {os : List (Option Int)} {v6 : Value} {B : Nat} {w : World} (o6 : w.ownsRow B nodT 1 v6 os.length (os.map encO)) (hl : os.length ≤ 1000) :
    Calls Tryz.prog 40 #[v6, .nilIface] w (SlOk os w) := by
  obtain ⟨a6, c6, rfl⟩ := own_slice o6
  have HC : Hid (∀ W, w.grownBy W none → ∀ i, (hi : i < os.length) → ∃ b, a6 = some ⟨b, 0, none⟩ ∧ W.cell? ⟨b, i, none⟩ = some (encO os[i])) := Lib.hid (fun W hW i hi => by
    obtain ⟨b, cap, e, -, hb, -⟩ := own_row o6 (by omega)
    simp only [Value.slice.injEq] at e
    obtain ⟨rfl, -, rfl⟩ := e
    refine ⟨b, rfl, ?_⟩
    rw [grown_cell hW hb (by simp)]
    have := o6.cells (g := b) rfl i (encO os[i]) (by simp [hi])
    rwa [addr_add, Nat.zero_add] at this)
  clear o6
  go_enter Tryz.func40, Tryz.ntmps40
  go_wp2_with fail
  go_loopw [4, 8, 15] (fun a4 _ i wr => SlRel os w a4 i wr) (fun _ _ i _ => os.length - (intOf i).toNat)
  case atStart => exact ⟨0, Nat.zero_le _, rfl, ⟨rfl, .inl ⟨rfl, rfl⟩⟩, grown_refl w⟩
  case round =>
    obtain ⟨k, hk, rfl, hown, hg⟩ := hrel
    by_cases hlt : k < os.length
    · have hlt' : (k : Int) < os.length := by omega
      obtain ⟨b, rfl, c1⟩ := HC.out wr hg k hlt
      obtain ⟨o, ho⟩ : ∃ o, o = os[k] := ⟨_, rfl⟩
      rw [← ho] at c1
      have HX := Lib.hid (And.intro ho (And.intro hown hg))
      have hsz := hg.size
      clear ho hown hg
      cases o with
      | none =>
        have c1' : wr.cell? ⟨b, k, none⟩ = some .nilIface := c1
        have heq := nil_eql wr
        clear c1
        go_wp2_with (at_builtin; refine wpx_app1 elSl rfl (.tmp 21) (.tmp 23) rfl w.heap.size u4 k _ rfl (HX.out.2.1.alloc _) wr.heap.size #[.bool true, .int .i64 0] (heap_alloc_new wr _) (wr.heap.size + 1) (by simp) 1 rfl rfl (by simp [Value.oneCell']) (by omega) (by unfold maxLen; omega) (by omega) ?_; intro g cap w' ho' hg' hat hlt2 hsz2)
        go_roundw
        case rel =>
          obtain ⟨hx, hown, hg⟩ := HX.out
          exact ⟨k + 1, by omega, by go_num, sl_snoc hlt (by rw [← hx]; exact ho'), grown_own2' hg hown hg'⟩
        case measure => simp [intOf]; omega
      | some x =>
        have c1' : wr.cell? ⟨b, k, none⟩ = some (nodeV x) := c1
        have heq := node_eql x wr
        clear c1
        go_wp2_with (first
          | (go_at_call 48; refine (number_any _ _).mono ?_; rintro e w' ⟨rfl, rfl⟩)
          | (at_builtin; refine wpx_app1 elSl rfl (.tmp 25) (.tmp 29) rfl w.heap.size u4 k _ rfl (HX.out.2.1.alloc _) wr.heap.size #[.bool false, .int .i64 x] (heap_alloc_new wr _) (wr.heap.size + 1) (by simp) 1 rfl rfl (by simp [Value.oneCell']) (by omega) (by unfold maxLen; omega) (by omega) ?_; intro g cap w' ho' hg' hat hlt2 hsz2))
        go_roundw
        case rel =>
          obtain ⟨hx, hown, hg⟩ := HX.out
          exact ⟨k + 1, by omega, by go_num, sl_snoc hlt (by rw [← hx]; exact ho'), grown_own2' hg hown hg'⟩
        case measure => simp [intOf]; omega
    · have hlt' : ¬ (k : Int) < os.length := by omega
      obtain rfl : k = os.length := by omega
      rw [List.take_length] at hown
      have HX := Lib.hid (And.intro hown hg)
      have heq := err_nil wr
      clear hown hg
      go_wp2_with fail
      refine bodyPost_ret (v := .tuple #[u4, .slice none 0 0, .bool true]) (by simp [results, Tryz.results40, go_sem]) rfl ⟨u4, rfl, HX.out.1, HX.out.2⟩

set_option maxHeartbeats 2000000 in
set_option maxRecDepth 100000 in
theorem slots_bad {os : List (Option Int)} {v6 s7 : Value} {B : Nat} {w : World} (o6 : w.ownsRow B nodT 1 v6 os.length (os.map encO)) (hl : os.length ≤ 1000) (hcy : Cyc w B 1000 s7) :
    Calls Tryz.prog 40 #[v6, .iface unoT s7] w (SlBad os w) := by
  obtain ⟨a6, c6, rfl⟩ := own_slice o6
  have HC : Hid (∀ W, w.grownBy W none → ∀ i, (hi : i < os.length) → ∃ b, a6 = some ⟨b, 0, none⟩ ∧ W.cell? ⟨b, i, none⟩ = some (encO os[i])) := Lib.hid (fun W hW i hi => by
    obtain ⟨b, cap, e, -, hb, -⟩ := own_row o6 (by omega)
    simp only [Value.slice.injEq] at e
    obtain ⟨rfl, -, rfl⟩ := e
    refine ⟨b, rfl, ?_⟩
    rw [grown_cell hW hb (by simp)]
    have := o6.cells (g := b) rfl i (encO os[i]) (by simp [hi])
    rwa [addr_add, Nat.zero_add] at this)
  clear o6
  have HY := Lib.hid hcy
  clear hcy
  go_enter Tryz.func40, Tryz.ntmps40
  go_wp2_with fail
  go_loopw [4, 8, 15] (fun a4 _ i wr => SlRel os w a4 i wr) (fun _ _ i _ => os.length - (intOf i).toNat)
  case atStart => exact ⟨0, Nat.zero_le _, rfl, ⟨rfl, .inl ⟨rfl, rfl⟩⟩, grown_refl w⟩
  case round =>
    obtain ⟨k, hk, rfl, hown, hg⟩ := hrel
    by_cases hlt : k < os.length
    · have hlt' : (k : Int) < os.length := by omega
      obtain ⟨b, rfl, c1⟩ := HC.out wr hg k hlt
      obtain ⟨o, ho⟩ : ∃ o, o = os[k] := ⟨_, rfl⟩
      rw [← ho] at c1
      have HX := Lib.hid (And.intro ho (And.intro hown hg))
      have hsz := hg.size
      clear ho hown hg
      cases o with
      | none =>
        have c1' : wr.cell? ⟨b, k, none⟩ = some .nilIface := c1
        have heq := nil_eql wr
        clear c1
        go_wp2_with (at_builtin; refine wpx_app1 elSl rfl (.tmp 21) (.tmp 23) rfl w.heap.size u4 k _ rfl (HX.out.2.1.alloc _) wr.heap.size #[.bool true, .int .i64 0] (heap_alloc_new wr _) (wr.heap.size + 1) (by simp) 1 rfl rfl (by simp [Value.oneCell']) (by omega) (by unfold maxLen; omega) (by omega) ?_; intro g cap w' ho' hg' hat hlt2 hsz2)
        go_roundw
        case rel =>
          obtain ⟨hx, hown, hg⟩ := HX.out
          exact ⟨k + 1, by omega, by go_num, sl_snoc hlt (by rw [← hx]; exact ho'), grown_own2' hg hown hg'⟩
        case measure => simp [intOf]; omega
      | some x =>
        have c1' : wr.cell? ⟨b, k, none⟩ = some (nodeV x) := c1
        have heq := node_eql x wr
        clear c1
        go_wp2_with (first
          | (go_at_call 48; refine (number_any _ _).mono ?_; rintro e w' ⟨rfl, rfl⟩)
          | (at_builtin; refine wpx_app1 elSl rfl (.tmp 25) (.tmp 29) rfl w.heap.size u4 k _ rfl (HX.out.2.1.alloc _) wr.heap.size #[.bool false, .int .i64 x] (heap_alloc_new wr _) (wr.heap.size + 1) (by simp) 1 rfl rfl (by simp [Value.oneCell']) (by omega) (by unfold maxLen; omega) (by omega) ?_; intro g cap w' ho' hg' hat hlt2 hsz2))
        go_roundw
        case rel =>
          obtain ⟨hx, hown, hg⟩ := HX.out
          exact ⟨k + 1, by omega, by go_num, sl_snoc hlt (by rw [← hx]; exact ho'), grown_own2' hg hown hg'⟩
        case measure => simp [intOf]; omega
    · have hlt' : ¬ (k : Int) < os.length := by omega
      obtain rfl : k = os.length := by omega
      rw [List.take_length] at hown
      obtain ⟨wa, rfl⟩ : ∃ wa : World, wa = wr := ⟨_, rfl⟩
      obtain ⟨cv, o7, hl7, hea⟩ := HY.out
      obtain ⟨a7, c7, rfl⟩ := own_slice o7
      have HX := Lib.hid (And.intro hown hg)
      have heq := err_some (.slice a7 cv.length c7) wa
      have hta := as_uno (.slice a7 cv.length c7) wa
      have HC7 : Hid (∀ W, w.grownBy W none → ∀ i, (hi : i < cv.length) → ∃ b, a7 = some ⟨b, 0, none⟩ ∧ W.cell? ⟨b, i, none⟩ = some cv[i] ∧ ∃ c : List Int, c.length ≤ 1000 ∧ NodesR W cv[i] c) := Lib.hid (fun W hW i hi => by
        obtain ⟨b, cap, e, -, hb, -⟩ := own_row o7 (by omega)
        simp only [Value.slice.injEq] at e
        obtain ⟨rfl, -, rfl⟩ := e
        refine ⟨b, rfl, ?_, ?_⟩
        · rw [grown_cell hW hb (by simp)]
          have := o7.cells (g := b) rfl i cv[i] (by simp [hi])
          rwa [addr_add, Nat.zero_add] at this
        · obtain ⟨c, k1, k2⟩ := hea _ (List.getElem_mem hi)
          exact ⟨c, k1, (NodesR.of_own k2).grown hW⟩)
      have hw0 := hg.size
      clear hown hg o7 hea HC
      go_wp2_with fail
      go_loopw [5, 12, 42] (fun a5 _ i wr => ∃ k : Nat, k ≤ cv.length ∧ i = .int .i64 k ∧ (∃ vs, wr.ownsRow wa.heap.size intsT 1 a5 k vs) ∧ wa.grownBy wr none) (fun _ _ i _ => cv.length - (intOf i).toNat)
      case atStart => exact ⟨0, Nat.zero_le _, rfl, ⟨[], ⟨rfl, .inl ⟨rfl, rfl⟩⟩⟩, grown_refl _⟩
      case round =>
        obtain ⟨k, hk, rfl, ⟨vs, hvs⟩, hg⟩ := hrel
        by_cases hlt : k < cv.length
        · have hlt' : (k : Int) < cv.length := by omega
          obtain ⟨b, rfl, c1, c, hc, hn⟩ := HC7.out wr (grown_tr HX.out.2 hg) k hlt
          obtain ⟨v, hv⟩ : ∃ v, v = cv[k] := ⟨_, rfl⟩
          rw [← hv] at c1 hn
          have hnum := numbers_any hn (by omega)
          obtain ⟨av, cc, rfl, -⟩ := hn
          have HV := Lib.hid (And.intro hvs hg)
          have hsz := hg.size
          clear hvs hg hv
          go_wp2_with (first
            | (go_at_call 63; refine hnum.mono ?_; intro e w1 hp; obtain ⟨v1, rfl, o1, hg1⟩ := hp; have hvs1 := own_new HV.out.1 hg1; have hsz1 := hg1.size; obtain ⟨av1, cv1, rfl⟩ := own_slice o1; clear o1; replace hvs1 := Lib.hid hvs1)
            | (at_builtin; refine wpx_app1 elLL rfl (.tmp 46) (.tmp 49) rfl wa.heap.size u5 k vs rfl (hvs1.out.alloc _) w1.heap.size #[.slice av1 c.length cv1] (heap_alloc_new w1 _) (w1.heap.size + 1) (by simp) 1 rfl rfl (by simp [Value.oneCell']) (by omega) (by unfold maxLen; omega) (by omega) ?_; intro g cap w' ho' hg' hat hlt2 hsz2))
          go_roundw
          case rel => exact ⟨k + 1, by omega, by go_num, ⟨_, ho'⟩, grown_own2' (grown_tr HV.out.2 hg1) hvs1.out hg'⟩
          case measure => simp [intOf]; omega
        · have hlt' : ¬ (k : Int) < cv.length := by omega
          have HV := Lib.hid (And.intro hvs hg)
          clear hvs hg
          go_wp2_with fail
          refine bodyPost_ret (v := .tuple #[u4, u5, .bool false]) (by simp [results, Tryz.results40, go_sem]) rfl ⟨u4, u5, rfl, own_new HX.out.1 HV.out.2, grown_tr HX.out.2 HV.out.2⟩
end Go.Proofs.YtdllkoiddlcnmaaGreat
namespace Go.Proofs.YtdllkoiddlcnmaaGreat
open Go.MapKept Go.RowKit

/-- the order's places -/
def ord (C : List (List Int)) : List (Option Int) := C.map slotO
def TOk (C : List (List Int)) (w : World) (e : Ending) (w' : World) : Prop := ∃ v6, e = .returned (.tuple #[v6, .nilIface]) ∧ w'.ownsRow w.heap.size nodT 1 v6 (ord C).length ((ord C).map encO) ∧ w.grownBy w' none
def TBad (C : List (List Int)) (w : World) (e : Ending) (w' : World) : Prop := ∃ v6 s7, e = .returned (.tuple #[v6, .iface unoT s7]) ∧ w'.ownsRow w.heap.size nodT 1 v6 (ord C).length ((ord C).map encO) ∧ Cyc w' w.heap.size 1000 s7 ∧ w.grownBy w' none
def StOk (C : List (List Int)) (w : World) (e : Ending) (w' : World) : Prop := ∃ vo, e = .returned (.tuple #[vo, .slice none 0 0, .bool true, .bool false]) ∧ w'.ownsRow w.heap.size slotT 2 vo (ord C).length ((ord C).flatMap encSl) ∧ w.grownBy w' none
def StBad (C : List (List Int)) (w : World) (e : Ending) (w' : World) : Prop := ∃ vo vc, e = .returned (.tuple #[vo, vc, .bool false, .bool false]) ∧ w'.ownsRow w.heap.size slotT 2 vo (ord C).length ((ord C).flatMap encSl) ∧ w.grownBy w' none

theorem ord_eq (C : List (List Int)) : C.reverse.reverse.map (fun c => encO (slotO c)) = (ord C).map encO := by unfold ord; simp
theorem SdPost.good {C : List (List Int)} {w : World} {e : Ending} {w' : World} (ha : AllOne C) (h : SdPost w C.reverse w e w') : TOk C w e w' := by
  obtain ⟨v6, err, h1, h2, h3, -, h5⟩ := h
  rw [h3 (fun c hc => ha c (by simpa using hc))] at h1
  rw [ord_eq, List.length_reverse] at h2
  exact ⟨v6, h1, by unfold ord at *; rw [List.length_map]; exact h2, h5⟩
theorem SdPost.bad {C : List (List Int)} {w : World} {e : Ending} {w' : World} (ok : CompOk C.reverse) (ha : ¬ AllOne C) (h : SdPost w C.reverse w e w') : TBad C w e w' := by
  obtain ⟨v6, err, h1, h2, -, h4, h5⟩ := h
  obtain ⟨s7, cv, e7, k1, k2, k3⟩ := h4 (fun hh => ha (fun c hc => hh c (by simpa using hc)))
  rw [e7] at h1
  rw [ord_eq, List.length_reverse] at h2
  have := ok.len
  exact ⟨v6, s7, h1, by unfold ord at *; rw [List.length_map]; exact h2, ⟨cv, k1, by omega, k3⟩, h5⟩

set_option maxHeartbeats 2000000 in
set_option maxRecDepth 100000 in
theorem isort_ok {G : Gr} {v : Value} {w : World} (h : GrR w v G) (hG : G.Well) (hd : G.dir = true) (hnl : G.nodes.length ≤ 1000) (hel : G.edges.length ≤ 8000) (ha : AllOne (compA G.ids G.mat)) :
    Calls Tryz.prog 19 #[v] w (StOk (compA G.ids G.mat) w) := by
  have hone : ∀ O, Calls Tryz.prog 38 #[v] (w.alloc O) (fun e w' => ∃ p0, e = .returned (.tuple #[dirV p0, .bool true]) ∧ PlnR w' p0 G.ids G.mat ∧ (w.alloc O).grownBy w' none) := fun O =>
    (oneWay_any (h.grown (grown_alloc w O)) hG hnl (by omega)).mono (fun e w' ⟨p0, h1, h2⟩ => ⟨p0, by rw [h1, hd], h2⟩)
  have hids : G.ids.length ≤ 1000 := by rw [Gr.length_ids]; exact hnl
  have hclo : ∀ x ∈ G.ids, ∀ y ∈ outs G.ids G.mat x, y ∈ G.ids := fun x _ y hy => outs_in hy
  have hnd : G.ids.Nodup := hG.ids.imp (by intro a b h; omega)
  have hok := (compA_ok hclo).comp hnd hids
  have htar : ∀ W p0, PlnR W p0 G.ids G.mat → _ := fun W p0 hp => sort_any (w := W) (p0 := p0) hp hids hG.ids hclo
  have HLEN : Hid ((ord (compA G.ids G.mat)).length ≤ 1000) := Lib.hid (by have := hok.len; unfold ord; rw [List.length_map]; simpa using this)
  obtain ⟨C, hC⟩ : ∃ C, C = compA G.ids G.mat := ⟨_, rfl⟩
  rw [← hC] at HLEN
  have htp : ∀ W p0, PlnR W p0 G.ids G.mat → Calls Tryz.prog 39 #[.iface dirT (dirV p0)] W (TOk C W) := fun W p0 hp => by rw [hC]; exact (htar W p0 hp).mono (fun _ _ k => SdPost.good ha k)
  rw [← hC]
  have HT := Lib.hid htp
  obtain ⟨vn, ve, rfl, ⟨an, cn, rfl, _⟩, ⟨ae, ce, rfl, _⟩⟩ := h.parts
  clear h hC htp htar hok ha hclo hnd hG hel hnl hids hd
  go_enter Tryz.func19, Tryz.ntmps19
  go_wp2_with (first
    | (go_at_call 38; refine (hone _).mono ?_; intro e w1 hp; obtain ⟨p0, rfl, hp1, hg1⟩ := hp; replace hp1 := Lib.hid hp1; replace hg1 := Lib.hid hg1)
    | (go_at_call 39; refine (HT.out _ _ (by have := hp1.out; exact this.grown (grown_alloc _ _))).mono ?_; intro e w2 hp; obtain ⟨v6, rfl, o6, hg2⟩ := hp; have hsl := slots_ok o6 HLEN.out; have hgw : Hid (w.grownBy w2 none) := Lib.hid (grown_tr (grown_tr (grown_tr (grown_alloc _ _) hg1.out) (grown_alloc _ _)) hg2); clear o6 hg2)
    | (go_at_call 40; refine hsl.mono ?_; intro e w3 hp; obtain ⟨vo, rfl, o9, hg3⟩ := hp; replace o9 := Lib.hid o9))
  refine bodyPost_ret (v := .tuple #[vo, .slice none 0 0, .bool true, .bool false]) (by simp [results, Tryz.results19, go_sem]) rfl ⟨vo, rfl, own_mono o9.out (hgw.out).size, grown_tr hgw.out hg3⟩
set_option maxHeartbeats 2000000 in
set_option maxRecDepth 100000 in
theorem isort_bad {G : Gr} {v : Value} {w : World} (h : GrR w v G) (hG : G.Well) (hd : G.dir = true) (hnl : G.nodes.length ≤ 1000) (hel : G.edges.length ≤ 8000) (ha : ¬ AllOne (compA G.ids G.mat)) :
    Calls Tryz.prog 19 #[v] w (StBad (compA G.ids G.mat) w) := by
  have hone : ∀ O, Calls Tryz.prog 38 #[v] (w.alloc O) (fun e w' => ∃ p0, e = .returned (.tuple #[dirV p0, .bool true]) ∧ PlnR w' p0 G.ids G.mat ∧ (w.alloc O).grownBy w' none) := fun O =>
    (oneWay_any (h.grown (grown_alloc w O)) hG hnl (by omega)).mono (fun e w' ⟨p0, h1, h2⟩ => ⟨p0, by rw [h1, hd], h2⟩)
  have hids : G.ids.length ≤ 1000 := by rw [Gr.length_ids]; exact hnl
  have hclo : ∀ x ∈ G.ids, ∀ y ∈ outs G.ids G.mat x, y ∈ G.ids := fun x _ y hy => outs_in hy
  have hnd : G.ids.Nodup := hG.ids.imp (by intro a b h; omega)
  have hok := (compA_ok hclo).comp hnd hids
  have htar : ∀ W p0, PlnR W p0 G.ids G.mat → _ := fun W p0 hp => sort_any (w := W) (p0 := p0) hp hids hG.ids hclo
  have HLEN : Hid ((ord (compA G.ids G.mat)).length ≤ 1000) := Lib.hid (by have := hok.len; unfold ord; rw [List.length_map]; simpa using this)
  obtain ⟨C, hC⟩ : ∃ C, C = compA G.ids G.mat := ⟨_, rfl⟩
  rw [← hC] at HLEN
  have htp : ∀ W p0, PlnR W p0 G.ids G.mat → Calls Tryz.prog 39 #[.iface dirT (dirV p0)] W (TBad C W) := fun W p0 hp => by rw [hC]; exact (htar W p0 hp).mono (fun _ _ k => SdPost.bad hok ha k)
  rw [← hC]
  have HT := Lib.hid htp
  obtain ⟨vn, ve, rfl, ⟨an, cn, rfl, _⟩, ⟨ae, ce, rfl, _⟩⟩ := h.parts
  clear h hC htp htar hok ha hclo hnd hG hel hnl hids hd
  go_enter Tryz.func19, Tryz.ntmps19
  go_wp2_with (first
    | (go_at_call 38; refine (hone _).mono ?_; intro e w1 hp; obtain ⟨p0, rfl, hp1, hg1⟩ := hp; replace hp1 := Lib.hid hp1; replace hg1 := Lib.hid hg1)
    | (go_at_call 39; refine (HT.out _ _ (by have := hp1.out; exact this.grown (grown_alloc _ _))).mono ?_; intro e w2 hp; obtain ⟨v6, s7, rfl, o6, hcy, hg2⟩ := hp; have hsl := slots_bad o6 HLEN.out hcy; clear hcy; have hgw : Hid (w.grownBy w2 none) := Lib.hid (grown_tr (grown_tr (grown_tr (grown_alloc _ _) hg1.out) (grown_alloc _ _)) hg2); clear o6 hg2)
    | (go_at_call 40; refine hsl.mono ?_; intro e w3 hp; obtain ⟨vo, vc, rfl, o9, hg3⟩ := hp; replace o9 := Lib.hid o9))
  refine bodyPost_ret (v := .tuple #[vo, vc, .bool false, .bool false]) (by simp [results, Tryz.results19, go_sem]) rfl ⟨vo, vc, rfl, own_mono o9.out (hgw.out).size, grown_tr hgw.out hg3⟩
set_option maxHeartbeats 2000000 in
set_option maxRecDepth 100000 in
theorem isortSt_ok {G : Gr} {v : Value} {w : World} (h : GrR w v G) (hG : G.Well) (hd : G.dir = true) (hnl : G.nodes.length ≤ 1000) (hel : G.edges.length ≤ 8000) (ha : AllOne (compB G.ids G.mat)) :
    Calls Tryz.prog 20 #[v] w (StOk (compB G.ids G.mat) w) := by
  have hone : ∀ O, Calls Tryz.prog 38 #[v] (w.alloc O) (fun e w' => ∃ p0, e = .returned (.tuple #[dirV p0, .bool true]) ∧ PlnR w' p0 G.ids G.mat ∧ (w.alloc O).grownBy w' none) := fun O =>
    (oneWay_any (h.grown (grown_alloc w O)) hG hnl (by omega)).mono (fun e w' ⟨p0, h1, h2⟩ => ⟨p0, by rw [h1, hd], h2⟩)
  have hids : G.ids.length ≤ 1000 := by rw [Gr.length_ids]; exact hnl
  have hclo : ∀ x ∈ G.ids, ∀ y ∈ outs G.ids G.mat x, y ∈ G.ids := fun x _ y hy => outs_in hy
  have hnd : G.ids.Nodup := hG.ids.imp (by intro a b h; omega)
  have hok := (compB_ok hclo).comp hnd hids
  have htar : ∀ W p0, PlnR W p0 G.ids G.mat → _ := fun W p0 hp => sortSt_any (w := W) (p0 := p0) hp hids hG.ids hclo
  have HLEN : Hid ((ord (compB G.ids G.mat)).length ≤ 1000) := Lib.hid (by have := hok.len; unfold ord; rw [List.length_map]; simpa using this)
  obtain ⟨C, hC⟩ : ∃ C, C = compB G.ids G.mat := ⟨_, rfl⟩
  rw [← hC] at HLEN
  have htp : ∀ W p0, PlnR W p0 G.ids G.mat → Calls Tryz.prog 41 #[.iface dirT (dirV p0), .nilFunc] W (TOk C W) := fun W p0 hp => by rw [hC]; exact (htar W p0 hp).mono (fun _ _ k => SdPost.good ha k)
  rw [← hC]
  have HT := Lib.hid htp
  obtain ⟨vn, ve, rfl, ⟨an, cn, rfl, _⟩, ⟨ae, ce, rfl, _⟩⟩ := h.parts
  clear h hC htp htar hok ha hclo hnd hG hel hnl hids hd
  go_enter Tryz.func20, Tryz.ntmps20
  go_wp2_with (first
    | (go_at_call 38; refine (hone _).mono ?_; intro e w1 hp; obtain ⟨p0, rfl, hp1, hg1⟩ := hp; replace hp1 := Lib.hid hp1; replace hg1 := Lib.hid hg1)
    | (go_at_call 41; refine (HT.out _ _ (by have := hp1.out; exact this.grown (grown_alloc _ _))).mono ?_; intro e w2 hp; obtain ⟨v6, rfl, o6, hg2⟩ := hp; have hsl := slots_ok o6 HLEN.out; have hgw : Hid (w.grownBy w2 none) := Lib.hid (grown_tr (grown_tr (grown_tr (grown_alloc _ _) hg1.out) (grown_alloc _ _)) hg2); clear o6 hg2)
    | (go_at_call 40; refine hsl.mono ?_; intro e w3 hp; obtain ⟨vo, rfl, o9, hg3⟩ := hp; replace o9 := Lib.hid o9))
  refine bodyPost_ret (v := .tuple #[vo, .slice none 0 0, .bool true, .bool false]) (by simp [results, Tryz.results20, go_sem]) rfl ⟨vo, rfl, own_mono o9.out (hgw.out).size, grown_tr hgw.out hg3⟩
set_option maxHeartbeats 2000000 in
set_option maxRecDepth 100000 in
theorem isortSt_bad {G : Gr} {v : Value} {w : World} (h : GrR w v G) (hG : G.Well) (hd : G.dir = true) (hnl : G.nodes.length ≤ 1000) (hel : G.edges.length ≤ 8000) (ha : ¬ AllOne (compB G.ids G.mat)) :
    Calls Tryz.prog 20 #[v] w (StBad (compB G.ids G.mat) w) := by
  have hone : ∀ O, Calls Tryz.prog 38 #[v] (w.alloc O) (fun e w' => ∃ p0, e = .returned (.tuple #[dirV p0, .bool true]) ∧ PlnR w' p0 G.ids G.mat ∧ (w.alloc O).grownBy w' none) := fun O =>
    (oneWay_any (h.grown (grown_alloc w O)) hG hnl (by omega)).mono (fun e w' ⟨p0, h1, h2⟩ => ⟨p0, by rw [h1, hd], h2⟩)
  have hids : G.ids.length ≤ 1000 := by rw [Gr.length_ids]; exact hnl
  have hclo : ∀ x ∈ G.ids, ∀ y ∈ outs G.ids G.mat x, y ∈ G.ids := fun x _ y hy => outs_in hy
  have hnd : G.ids.Nodup := hG.ids.imp (by intro a b h; omega)
  have hok := (compB_ok hclo).comp hnd hids
  have htar : ∀ W p0, PlnR W p0 G.ids G.mat → _ := fun W p0 hp => sortSt_any (w := W) (p0 := p0) hp hids hG.ids hclo
  have HLEN : Hid ((ord (compB G.ids G.mat)).length ≤ 1000) := Lib.hid (by have := hok.len; unfold ord; rw [List.length_map]; simpa using this)
  obtain ⟨C, hC⟩ : ∃ C, C = compB G.ids G.mat := ⟨_, rfl⟩
  rw [← hC] at HLEN
  have htp : ∀ W p0, PlnR W p0 G.ids G.mat → Calls Tryz.prog 41 #[.iface dirT (dirV p0), .nilFunc] W (TBad C W) := fun W p0 hp => by rw [hC]; exact (htar W p0 hp).mono (fun _ _ k => SdPost.bad hok ha k)
  rw [← hC]
  have HT := Lib.hid htp
  obtain ⟨vn, ve, rfl, ⟨an, cn, rfl, _⟩, ⟨ae, ce, rfl, _⟩⟩ := h.parts
  clear h hC htp htar hok ha hclo hnd hG hel hnl hids hd
  go_enter Tryz.func20, Tryz.ntmps20
  go_wp2_with (first
    | (go_at_call 38; refine (hone _).mono ?_; intro e w1 hp; obtain ⟨p0, rfl, hp1, hg1⟩ := hp; replace hp1 := Lib.hid hp1; replace hg1 := Lib.hid hg1)
    | (go_at_call 41; refine (HT.out _ _ (by have := hp1.out; exact this.grown (grown_alloc _ _))).mono ?_; intro e w2 hp; obtain ⟨v6, s7, rfl, o6, hcy, hg2⟩ := hp; have hsl := slots_bad o6 HLEN.out hcy; clear hcy; have hgw : Hid (w.grownBy w2 none) := Lib.hid (grown_tr (grown_tr (grown_tr (grown_alloc _ _) hg1.out) (grown_alloc _ _)) hg2); clear o6 hg2)
    | (go_at_call 40; refine hsl.mono ?_; intro e w3 hp; obtain ⟨vo, vc, rfl, o9, hg3⟩ := hp; replace o9 := Lib.hid o9))
  refine bodyPost_ret (v := .tuple #[vo, vc, .bool false, .bool false]) (by simp [results, Tryz.results20, go_sem]) rfl ⟨vo, vc, rfl, own_mono o9.out (hgw.out).size, grown_tr hgw.out hg3⟩

/-! ### two roads to an order, plainly: where each step of the one is an edge, the other is the same -/
theorem sortS_mem {ids : List Int} {M : Mat} {x y : Int} : y ∈ sortS ids M x ↔ y ∈ outs ids M x := by simp [sortS, mem_srt]
theorem one_same {ids : List Int} {M : Mat} (hclo : ∀ x ∈ ids, ∀ y ∈ outs ids M x, y ∈ ids) : AllOne (compB ids M) ↔ AllOne (compA ids M) := by
  have hr : ∀ u v, Rch (SE (sortS ids M)) u v ↔ Rch (SE (outs ids M)) u v := fun u v => ⟨fun h => h.mono (fun a b r => sortS_mem.1 r), fun h => h.mono (fun a b r => sortS_mem.2 r)⟩
  rw [(compA_ok hclo).one_iff, (compB_ok hclo).one_iff]
  simp only [hr]
theorem one_nil {M : Mat} : AllOne (compA [] M) := by
  have hclo : ∀ x ∈ ([] : List Int), ∀ y ∈ outs [] M x, y ∈ ([] : List Int) := fun x hx => by simp at hx
  rw [(compA_ok hclo).one_iff]
  intro u hu
  simp at hu

theorem ord_one : ∀ {C : List (List Int)}, AllOne C → ord C = C.flatten.map some
  | [], _ => rfl
  | c :: C, h => by
    obtain ⟨x, rfl⟩ := List.length_eq_one_iff.1 (h c (List.mem_cons_self ..))
    have := ord_one (C := C) (fun d hd => h d (List.mem_cons_of_mem _ hd))
    unfold ord at this ⊢
    rw [List.map_cons, this]
    rfl

theorem order_only {G : Gr} (hG : G.Well) (h1 : AllOne (compA G.ids G.mat)) (h2 : AllOne (compB G.ids G.mat))
    (hc : ∀ j (h : j + 1 < (ord (compA G.ids G.mat)).length), edgeOf G.ids G.mat ((ord (compA G.ids G.mat))[j].getD 0) ((ord (compA G.ids G.mat))[j + 1].getD 0)) :
    ord (compB G.ids G.mat) = ord (compA G.ids G.mat) := by
  have hclo : ∀ x ∈ G.ids, ∀ y ∈ outs G.ids G.mat x, y ∈ G.ids := fun x _ y hy => outs_in hy
  have a1 := compA_ok hclo
  have b1 := compB_ok hclo
  have e1 := ord_one h1
  have e2 := ord_one h2
  have hl : (ord (compA G.ids G.mat)).length = (compA G.ids G.mat).flatten.length := by rw [e1, List.length_map]
  have hg : ∀ j (h : j < (compA G.ids G.mat).flatten.length), ((ord (compA G.ids G.mat))[j]'(by omega)).getD 0 = (compA G.ids G.mat).flatten[j] := fun j h => by
    simp only [e1, List.getElem_map, Option.getD_some]
  have hch : Chain (edgeOf G.ids G.mat) (compA G.ids G.mat).flatten := fun j h => by
    have := hc j (by omega)
    rw [hg j (by omega), hg (j + 1) h] at this
    exact this
  have hf := ok_fwd b1.ok b1.nd h2
  have hf2 : (compB G.ids G.mat).flatten.Pairwise (fun a b => ¬ edgeOf G.ids G.mat b a) := hf.imp (fun {a b} hab he => hab (sortS_mem.2 ((outs_iff hG.ids he.1).2 he)))
  have hp : (compA G.ids G.mat).flatten.Perm (compB G.ids G.mat).flatten := (List.perm_ext_iff_of_nodup a1.nd b1.nd).2 (fun x => (a1.mem x).trans (b1.mem x).symm)
  have := chain_only (fun a b he hab => by
    subst hab
    exact (hG.mat_lt he.2.2).2.2 rfl) hp a1.nd hch hf2
  rw [e1, e2, this]
end Go.Proofs.YtdllkoiddlcnmaaGreat
namespace Go.Proofs.YtdllkoiddlcnmaaGreat
open Go.MapKept Go.RowKit

def ArcPost (G : Gr) (u v : Int) (w : World) (e : Ending) (w' : World) : Prop := ∃ b : Bool, e = .returned (.bool b) ∧ (b = true → edgeOf G.ids G.mat u v) ∧ w.grownBy w' none

theorem edge_in {G : Gr} (hW : G.Well) {e : E3} (he : e ∈ G.edges) : edgeOf G.ids G.mat e.1 e.2.1 :=
  ⟨(hW.in_ids he).1, (hW.in_ids he).2, mat_some.2 ⟨e, he, .inl ⟨rfl, rfl⟩⟩⟩

set_option maxHeartbeats 1000000 in
set_option maxRecDepth 100000 in
theorem arc_any {G : Gr} {vg : Value} {u v : Int} {w : World} (h : GrR w vg G) (hd : G.dir = true) (hW : G.Well) (hel : G.edges.length ≤ 10000) :
    Calls Tryz.prog 21 #[vg, .int .i64 u, .int .i64 v] w (ArcPost G u v w) := by
  obtain ⟨vn, ve, rfl, ⟨an, cn, rfl, _⟩, ⟨ae, ce, rfl, he⟩⟩ := h.parts
  rw [hd]
  have HE : Hid (∀ W, w.grownBy W none → ∀ i, (hi : i < G.edges.length) → ∃ b o, ae = some ⟨b, o, none⟩ ∧ W.cell? ⟨b, o + i * 3, none⟩ = some (.int .i64 G.edges[i].1) ∧ W.cell? ⟨b, o + i * 3 + 1, none⟩ = some (.int .i64 G.edges[i].2.1) ∧ W.cell? ⟨b, o + i * 3 + 2, none⟩ = some (.int .i64 G.edges[i].2.2)) := Lib.hid (fun W hg i hi => by
    obtain ⟨b, o, rfl, hb, hc⟩ := he (by omega)
    obtain ⟨c0, c1, c2⟩ := hc i hi
    exact ⟨b, o, rfl, (grown_cell hg hb (by simp)).trans c0, (grown_cell hg hb (by simp)).trans c1, (grown_cell hg hb (by simp)).trans c2⟩)
  have HB : Hid (∀ wx, (w.alloc (.cells #[.bool true, .slice an G.nodes.length cn, .slice ae G.edges.length ce] 25)).grownBy wx none → wx.cell? ⟨w.heap.size, 0, none⟩ = some (.bool true) ∧ wx.cell? ⟨w.heap.size, 2, none⟩ = some (.slice ae G.edges.length ce)) := Lib.hid (fun wx hg => ⟨by rw [box_at hg 0]; rfl, by rw [box_at hg 2]; rfl⟩)
  have HW := Lib.hid hW
  clear h he hd hW
  go_enter Tryz.func21, Tryz.ntmps21
  go_wp2_with fail
  go_loopw [7, 8] (fun i _ wr => ∃ k : Nat, k ≤ G.edges.length ∧ i = .int .i64 k ∧ (w.alloc (.cells #[.bool true, .slice an G.nodes.length cn, .slice ae G.edges.length ce] 25)).grownBy wr none) (fun i _ _ => G.edges.length - (intOf i).toNat)
  case atStart => exact ⟨0, Nat.zero_le _, rfl, grown_refl _⟩
  case round =>
    obtain ⟨k, hk, rfl, hg⟩ := hrel
    obtain ⟨b0, b2⟩ := HB.out wr hg
    have b0a := fun O => (HB.out (wr.alloc O) (grown_tr hg (grown_alloc _ _))).1
    by_cases hlt : k < G.edges.length
    · have hlt' : (k : Int) < G.edges.length := by omega
      obtain ⟨b, o, rfl, c0, c1, c2⟩ := HE.out wr (grown_tr (grown_alloc _ _) hg) k hlt
      have hmem : G.edges[k] ∈ G.edges := List.getElem_mem hlt
      obtain ⟨e, hee⟩ : ∃ e, e = G.edges[k] := ⟨_, rfl⟩
      rw [← hee] at c0 c1 c2 hmem
      obtain ⟨x, y, z⟩ := e
      simp only at c0 c1 c2
      have HX := Lib.hid (And.intro hmem hg)
      clear hmem hg hee
      by_cases hx : x = u
      · have hxb : (x == u) = true := by rw [beq_iff_eq]; exact hx
        by_cases hy : y = v
        · have hyb : (y == v) = true := by rw [beq_iff_eq]; exact hy
          have HY := Lib.hid (And.intro hx hy)
          clear hx hy
          go_wp2_with fail
          go_ret
          refine ⟨true, rfl, fun _ => ?_, grown_tr (grown_alloc _ _) (grown_tr HX.out.2 (grown_alloc _ _))⟩
          have := edge_in HW.out HX.out.1
          rw [← HY.out.1, ← HY.out.2]
          exact this
        · have hyb : (y == v) = false := by rw [beq_eq_false_iff_ne]; exact hy
          clear hx hy
          go_wp2_with fail
          go_roundw
          case rel => exact ⟨k + 1, by omega, by go_num, grown_tr HX.out.2 (grown_alloc _ _)⟩
          case measure => simp [intOf]; omega
      · have hxb : (x == u) = false := by rw [beq_eq_false_iff_ne]; exact hx
        clear hx
        go_wp2_with fail
        go_roundw
        case rel => exact ⟨k + 1, by omega, by go_num, grown_tr HX.out.2 (grown_alloc _ _)⟩
        case measure => simp [intOf]; omega
    · have hlt' : ¬ (k : Int) < G.edges.length := by omega
      have HX := Lib.hid hg
      clear hg
      go_wp2_with fail
      go_ret
      exact ⟨false, rfl, fun h => absurd h (by simp), grown_tr (grown_alloc _ _) HX.out⟩

/-- v reads as places of an order -/
def SlotsR (w : World) (v : Value) (l : List (Option Int)) : Prop :=
  ∃ a c, v = .slice a l.length c ∧ (0 < l.length → ∃ b, a = some ⟨b, 0, none⟩ ∧ b < w.heap.size ∧ ∀ i, (h : i < l.length) → w.cell? ⟨b, i * 2, none⟩ = some (.bool l[i].isNone) ∧ w.cell? ⟨b, i * 2 + 1, none⟩ = some (.int .i64 (l[i].getD 0)))
theorem SlotsR.grown {w w' : World} {v : Value} {l : List (Option Int)} (h : SlotsR w v l) (hg : w.grownBy w' none) : SlotsR w' v l := by
  obtain ⟨a, c, rfl, h⟩ := h
  refine ⟨a, c, rfl, fun hl => ?_⟩
  obtain ⟨b, rfl, hb, hc⟩ := h hl
  exact ⟨b, rfl, Nat.lt_of_lt_of_le hb hg.size, fun i hi => by rw [grown_cell hg hb (by simp), grown_cell hg hb (by simp)]; exact hc i hi⟩
theorem encSl_eq (o : Option Int) : encSl o = [.bool o.isNone, .int .i64 (o.getD 0)] := by cases o <;> rfl
theorem sl_get : ∀ (l : List (Option Int)) (j : Nat) (h : j < l.length), (l.flatMap encSl)[j * 2]? = some (.bool l[j].isNone) ∧ (l.flatMap encSl)[j * 2 + 1]? = some (.int .i64 (l[j].getD 0))
  | o :: l, 0, _ => by rw [List.flatMap_cons, encSl_eq]; exact ⟨rfl, rfl⟩
  | o :: l, j + 1, h => by
    have := sl_get l j (by simpa using h)
    rw [List.flatMap_cons, encSl_eq, show (j + 1) * 2 = j * 2 + 1 + 1 by omega, show j * 2 + 1 + 1 + 1 = (j * 2 + 1) + 1 + 1 by omega]
    simpa using this
theorem SlotsR.of_own {w : World} {base : Nat} {v : Value} {l : List (Option Int)} (h : w.ownsRow base slotT 2 v l.length (l.flatMap encSl)) : SlotsR w v l := by
  obtain ⟨a, c, rfl⟩ := own_slice h
  refine ⟨a, c, rfl, fun hl => ?_⟩
  obtain ⟨g, cap, e1, _, hg, _⟩ := own_row h hl
  simp only [Value.slice.injEq] at e1
  obtain ⟨rfl, _, rfl⟩ := e1
  refine ⟨g, rfl, hg, fun i hi => ?_⟩
  obtain ⟨h1, h2⟩ := sl_get l i hi
  have k1 := h.cells (g := g) rfl (i * 2) _ h1
  have k2 := h.cells (g := g) rfl (i * 2 + 1) _ h2
  rw [addr_add, Nat.zero_add] at k1 k2
  exact ⟨k1, k2⟩

set_option maxHeartbeats 1000000 in
set_option maxRecDepth 100000 in
theorem equalSl_same {E : List (Option Int)} {v1 v2 : Value} {w : World} (h1 : SlotsR w v1 E) (h2 : SlotsR w v2 E) (hl : E.length ≤ 1000000) :
    Calls Tryz.prog 22 #[v1, v2] w (fun e w' => e = .returned (.bool true) ∧ w.grownBy w' none) := by
  obtain ⟨a1, c1, rfl, h1⟩ := h1
  obtain ⟨a2, c2, rfl, h2⟩ := h2
  have H1 := Lib.hid h1
  have H2 := Lib.hid h2
  clear h1 h2
  go_enter Tryz.func22, Tryz.ntmps22
  go_wp2_with fail
  go_loopw [5, 13] (fun _ i wr => ∃ k : Nat, k ≤ E.length ∧ i = .int .i64 k ∧ w.grownBy wr none) (fun _ i _ => E.length - (intOf i).toNat)
  case atStart => exact ⟨0, Nat.zero_le _, rfl, grown_refl _⟩
  case round =>
    obtain ⟨k, hk, rfl, hg⟩ := hrel
    by_cases hlt : k < E.length
    · have hlt' : (k : Int) < E.length := by omega
      obtain ⟨b1, rfl, hb1, q1⟩ := H1.out (by omega)
      obtain ⟨b2, rfl, hb2, q2⟩ := H2.out (by omega)
      obtain ⟨q10, q11⟩ := q1 k hlt
      obtain ⟨q20, q21⟩ := q2 k hlt
      have m10 := (grown_cell hg hb1 (by simp)).trans q10
      have m11 := (grown_cell hg hb1 (by simp)).trans q11
      have m20 := (grown_cell hg hb2 (by simp)).trans q20
      have m21 := (grown_cell hg hb2 (by simp)).trans q21
      obtain ⟨d, hd⟩ : ∃ d, d = E[k].isNone := ⟨_, rfl⟩
      obtain ⟨x, hx⟩ : ∃ x, x = E[k].getD 0 := ⟨_, rfl⟩
      rw [← hd] at m10 m20
      rw [← hx] at m11 m21
      have HG := Lib.hid hg
      clear hg hd hx q1 q2 q10 q11 q20 q21
      go_wp2_with fail
      go_quiet (fail)
      go_wp2_with fail
      exact ⟨⟨k + 1, by omega, by go_num, grown_tr HG.out (grown_drewN _ _)⟩, by simp [intOf]; omega⟩
    · have hlt' : ¬ (k : Int) < E.length := by omega
      have HG := Lib.hid hg
      clear hg
      go_wp2_with fail
      go_ret
      exact ⟨rfl, HG.out⟩
end Go.Proofs.YtdllkoiddlcnmaaGreat
