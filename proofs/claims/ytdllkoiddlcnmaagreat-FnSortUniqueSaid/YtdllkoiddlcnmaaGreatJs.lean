/- impl.slots. -/
import Derived.Test.YtdllkoiddlcnmaaGreatSk
namespace Go.Proofs.YtdllkoiddlcnmaaGreat
open Go.MapKept Go.RowKit

abbrev slotT : TypeId := 50
def encSl : Option Int → List Value
  | none => [.bool true, .int .i64 0]
  | some x => [.bool false, .int .i64 x]
theorem elSl : ElT Tryz.prog 45 slotT 2 16 (.agg #[.bool false, .int .i64 0]) := ⟨Tryz.underlying45, by kernel_rfl, by kernel_rfl, by decide⟩

def SlRel (os : List (Option Int)) (w : World) (a4 i : Value) (wr : World) : Prop := ∃ k : Nat, k ≤ os.length ∧ i = .int .i64 k ∧ wr.ownsRow w.heap.size slotT 2 a4 k ((os.take k).flatMap encSl) ∧ w.grownBy wr none
theorem sl_snoc {w' : World} {base g cap k : Nat} {os : List (Option Int)} (hk : k < os.length) (ho : w'.ownsRow base slotT 2 (.slice (some ⟨g, 0, none⟩) (k + 1) cap) (k + 1) ((os.take k).flatMap encSl ++ encSl os[k])) :
    w'.ownsRow base slotT 2 (.slice (some ⟨g, 0, none⟩) (k + 1) cap) (k + 1) ((os.take (k + 1)).flatMap encSl) := by
  rw [List.take_succ_eq_append_getElem hk, List.flatMap_append]
  simpa using ho
theorem grown_own2' {w wr w' : World} {v : Value} {e : TypeId} {n s : Nat} {xs : List Value} {O : Obj} (hg : w.grownBy wr none) (hown : wr.ownsRow w.heap.size e s v n xs) (hg' : (wr.alloc O).grownBy w' v.ownBlock) : w.grownBy w' none :=
  grown_new (grown_tr hg (grown_alloc wr O)) hg' (fun k hk => (hown.lt k hk).1)

theorem nil_eql (W : World) : (binOp .eql 87 .nilIface .nilIface).run Tryz.prog W = .ok (.bool true) W := by kernel_rfl
theorem node_eql (x : Int) (W : World) : (binOp .eql 87 (nodeV x) .nilIface).run Tryz.prog W = .ok (.bool false) W := by kernel_rfl
theorem err_nil (W : World) : (binOp .eql 72 .nilIface .nilIface).run Tryz.prog W = .ok (.bool true) W := by kernel_rfl
theorem err_some (s : Value) (W : World) : (binOp .eql 72 (.iface unoT s) .nilIface).run Tryz.prog W = .ok (.bool false) W := by kernel_rfl
theorem as_uno (s : Value) (W : World) : (Instr.typeAssert (.iface unoT s) 72 unoT true).run Tryz.prog W = .ok (.tuple #[s, .bool true]) W := by kernel_rfl

def Cyc (w : World) (B n : Nat) (s7 : Value) : Prop := ∃ cv : List Value, w.ownsRow B nodsT 1 s7 cv.length cv ∧ cv.length ≤ n ∧ ∀ v ∈ cv, ∃ c : List Int, c.length ≤ 1000 ∧ w.ownsRow B nodT 1 v c.length (c.map nodeV)

def SlOk (os : List (Option Int)) (w : World) (e : Ending) (w' : World) : Prop := ∃ vo, e = .returned (.tuple #[vo, .slice none 0 0, .bool true]) ∧ w'.ownsRow w.heap.size slotT 2 vo os.length (os.flatMap encSl) ∧ w.grownBy w' none
def SlBad (os : List (Option Int)) (w : World) (e : Ending) (w' : World) : Prop := ∃ vo vc, e = .returned (.tuple #[vo, vc, .bool false]) ∧ w'.ownsRow w.heap.size slotT 2 vo os.length (os.flatMap encSl) ∧ w.grownBy w' none


set_option maxHeartbeats 2000000 in
set_option maxRecDepth 100000 in
theorem slots_ok {os : List (Option Int)} {v6 : Value} {B : Nat} {w : World} (o6 : w.ownsRow B nodT 1 v6 os.length (os.map encO)) (hl : os.length ≤ 1000) :
    Calls Tryz.prog 40 #[v6, .nilIface] w (SlOk os w) := by
  obtain ⟨a6, c6, rfl⟩ := own_slice o6
  have HC : Hid (∀ W, w.grownBy W none → ∀ i, (hi : i < os.length) → ∃ b, a6 = some ⟨b, 0, none⟩ ∧ W.cell? ⟨b, i, none⟩ = some (encO os[i])) := Lib.hid (fun W hW i hi => by
    obtain ⟨b, cap, e, -, hb, -⟩ := own_row o6 (by omega)
    simp only [Value.slice.injEq] at e
    obtain ⟨rfl, -, rfl⟩ := e
    refine ⟨b, rfl, ?_⟩
    rw [grown_cell hW hb (by simp)]
    have := o6.cells (g := b) rfl i (encO os[i]) (by simp [hi])
    rwa [addr_add, Nat.zero_add] at this)
  clear o6
  go_enter Tryz.func40, Tryz.ntmps40
  go_wp2_with fail
  go_loopw [4, 8, 15] (fun a4 _ i wr => SlRel os w a4 i wr) (fun _ _ i _ => os.length - (intOf i).toNat)
  case atStart => exact ⟨0, Nat.zero_le _, rfl, ⟨rfl, .inl ⟨rfl, rfl⟩⟩, grown_refl w⟩
  case round =>
    obtain ⟨k, hk, rfl, hown, hg⟩ := hrel
    by_cases hlt : k < os.length
    · have hlt' : (k : Int) < os.length := by omega
      obtain ⟨b, rfl, c1⟩ := HC.out wr hg k hlt
      obtain ⟨o, ho⟩ : ∃ o, o = os[k] := ⟨_, rfl⟩
      rw [← ho] at c1
      have HX := Lib.hid (And.intro ho (And.intro hown hg))
      have hsz := hg.size
      clear ho hown hg
      cases o with
      | none =>
        have c1' : wr.cell? ⟨b, k, none⟩ = some .nilIface := c1
        have heq := nil_eql wr
        clear c1
        go_wp2_with (at_builtin; refine wpx_app1 elSl rfl (.tmp 21) (.tmp 23) rfl w.heap.size u4 k _ rfl (HX.out.2.1.alloc _) wr.heap.size #[.bool true, .int .i64 0] (heap_alloc_new wr _) (wr.heap.size + 1) (by simp) 1 rfl rfl (by simp [Value.oneCell']) (by omega) (by unfold maxLen; omega) (by omega) ?_; intro g cap w' ho' hg' hat hlt2 hsz2)
        go_roundw
        case rel =>
          obtain ⟨hx, hown, hg⟩ := HX.out
          exact ⟨k + 1, by omega, by go_num, sl_snoc hlt (by rw [← hx]; exact ho'), grown_own2' hg hown hg'⟩
        case measure => simp [intOf]; omega
      | some x =>
        have c1' : wr.cell? ⟨b, k, none⟩ = some (nodeV x) := c1
        have heq := node_eql x wr
        clear c1
        go_wp2_with (first
          | (go_at_call 48; refine (number_any _ _).mono ?_; rintro e w' ⟨rfl, rfl⟩)
          | (at_builtin; refine wpx_app1 elSl rfl (.tmp 25) (.tmp 29) rfl w.heap.size u4 k _ rfl (HX.out.2.1.alloc _) wr.heap.size #[.bool false, .int .i64 x] (heap_alloc_new wr _) (wr.heap.size + 1) (by simp) 1 rfl rfl (by simp [Value.oneCell']) (by omega) (by unfold maxLen; omega) (by omega) ?_; intro g cap w' ho' hg' hat hlt2 hsz2))
        go_roundw
        case rel =>
          obtain ⟨hx, hown, hg⟩ := HX.out
          exact ⟨k + 1, by omega, by go_num, sl_snoc hlt (by rw [← hx]; exact ho'), grown_own2' hg hown hg'⟩
        case measure => simp [intOf]; omega
    · have hlt' : ¬ (k : Int) < os.length := by omega
      obtain rfl : k = os.length := by omega
      rw [List.take_length] at hown
      have HX := Lib.hid (And.intro hown hg)
      have heq := err_nil wr
      clear hown hg
      go_wp2_with fail
      refine bodyPost_ret (v := .tuple #[u4, .slice none 0 0, .bool true]) (by simp [results, Tryz.results40, go_sem]) rfl ⟨u4, rfl, HX.out.1, HX.out.2⟩

set_option maxHeartbeats 2000000 in
set_option maxRecDepth 100000 in
theorem slots_bad {os : List (Option Int)} {v6 s7 : Value} {B : Nat} {w : World} (o6 : w.ownsRow B nodT 1 v6 os.length (os.map encO)) (hl : os.length ≤ 1000) (hcy : Cyc w B 1000 s7) :
    Calls Tryz.prog 40 #[v6, .iface unoT s7] w (SlBad os w) := by
  obtain ⟨a6, c6, rfl⟩ := own_slice o6
  have HC : Hid (∀ W, w.grownBy W none → ∀ i, (hi : i < os.length) → ∃ b, a6 = some ⟨b, 0, none⟩ ∧ W.cell? ⟨b, i, none⟩ = some (encO os[i])) := Lib.hid (fun W hW i hi => by
    obtain ⟨b, cap, e, -, hb, -⟩ := own_row o6 (by omega)
    simp only [Value.slice.injEq] at e
    obtain ⟨rfl, -, rfl⟩ := e
    refine ⟨b, rfl, ?_⟩
    rw [grown_cell hW hb (by simp)]
    have := o6.cells (g := b) rfl i (encO os[i]) (by simp [hi])
    rwa [addr_add, Nat.zero_add] at this)
  clear o6
  have HY := Lib.hid hcy
  clear hcy
  go_enter Tryz.func40, Tryz.ntmps40
  go_wp2_with fail
  go_loopw [4, 8, 15] (fun a4 _ i wr => SlRel os w a4 i wr) (fun _ _ i _ => os.length - (intOf i).toNat)
  case atStart => exact ⟨0, Nat.zero_le _, rfl, ⟨rfl, .inl ⟨rfl, rfl⟩⟩, grown_refl w⟩
  case round =>
    obtain ⟨k, hk, rfl, hown, hg⟩ := hrel
    by_cases hlt : k < os.length
    · have hlt' : (k : Int) < os.length := by omega
      obtain ⟨b, rfl, c1⟩ := HC.out wr hg k hlt
      obtain ⟨o, ho⟩ : ∃ o, o = os[k] := ⟨_, rfl⟩
      rw [← ho] at c1
      have HX := Lib.hid (And.intro ho (And.intro hown hg))
      have hsz := hg.size
      clear ho hown hg
      cases o with
      | none =>
        have c1' : wr.cell? ⟨b, k, none⟩ = some .nilIface := c1
        have heq := nil_eql wr
        clear c1
        go_wp2_with (at_builtin; refine wpx_app1 elSl rfl (.tmp 21) (.tmp 23) rfl w.heap.size u4 k _ rfl (HX.out.2.1.alloc _) wr.heap.size #[.bool true, .int .i64 0] (heap_alloc_new wr _) (wr.heap.size + 1) (by simp) 1 rfl rfl (by simp [Value.oneCell']) (by omega) (by unfold maxLen; omega) (by omega) ?_; intro g cap w' ho' hg' hat hlt2 hsz2)
        go_roundw
        case rel =>
          obtain ⟨hx, hown, hg⟩ := HX.out
          exact ⟨k + 1, by omega, by go_num, sl_snoc hlt (by rw [← hx]; exact ho'), grown_own2' hg hown hg'⟩
        case measure => simp [intOf]; omega
      | some x =>
        have c1' : wr.cell? ⟨b, k, none⟩ = some (nodeV x) := c1
        have heq := node_eql x wr
        clear c1
        go_wp2_with (first
          | (go_at_call 48; refine (number_any _ _).mono ?_; rintro e w' ⟨rfl, rfl⟩)
          | (at_builtin; refine wpx_app1 elSl rfl (.tmp 25) (.tmp 29) rfl w.heap.size u4 k _ rfl (HX.out.2.1.alloc _) wr.heap.size #[.bool false, .int .i64 x] (heap_alloc_new wr _) (wr.heap.size + 1) (by simp) 1 rfl rfl (by simp [Value.oneCell']) (by omega) (by unfold maxLen; omega) (by omega) ?_; intro g cap w' ho' hg' hat hlt2 hsz2))
        go_roundw
        case rel =>
          obtain ⟨hx, hown, hg⟩ := HX.out
          exact ⟨k + 1, by omega, by go_num, sl_snoc hlt (by rw [← hx]; exact ho'), grown_own2' hg hown hg'⟩
        case measure => simp [intOf]; omega
    · have hlt' : ¬ (k : Int) < os.length := by omega
      obtain rfl : k = os.length := by omega
      rw [List.take_length] at hown
      obtain ⟨wa, rfl⟩ : ∃ wa : World, wa = wr := ⟨_, rfl⟩
      obtain ⟨cv, o7, hl7, hea⟩ := HY.out
      obtain ⟨a7, c7, rfl⟩ := own_slice o7
      have HX := Lib.hid (And.intro hown hg)
      have heq := err_some (.slice a7 cv.length c7) wa
      have hta := as_uno (.slice a7 cv.length c7) wa
      have HC7 : Hid (∀ W, w.grownBy W none → ∀ i, (hi : i < cv.length) → ∃ b, a7 = some ⟨b, 0, none⟩ ∧ W.cell? ⟨b, i, none⟩ = some cv[i] ∧ ∃ c : List Int, c.length ≤ 1000 ∧ NodesR W cv[i] c) := Lib.hid (fun W hW i hi => by
        obtain ⟨b, cap, e, -, hb, -⟩ := own_row o7 (by omega)
        simp only [Value.slice.injEq] at e
        obtain ⟨rfl, -, rfl⟩ := e
        refine ⟨b, rfl, ?_, ?_⟩
        · rw [grown_cell hW hb (by simp)]
          have := o7.cells (g := b) rfl i cv[i] (by simp [hi])
          rwa [addr_add, Nat.zero_add] at this
        · obtain ⟨c, k1, k2⟩ := hea _ (List.getElem_mem hi)
          exact ⟨c, k1, (NodesR.of_own k2).grown hW⟩)
      have hw0 := hg.size
      clear hown hg o7 hea HC
      go_wp2_with fail
      go_loopw [5, 12, 42] (fun a5 _ i wr => ∃ k : Nat, k ≤ cv.length ∧ i = .int .i64 k ∧ (∃ vs, wr.ownsRow wa.heap.size intsT 1 a5 k vs) ∧ wa.grownBy wr none) (fun _ _ i _ => cv.length - (intOf i).toNat)
      case atStart => exact ⟨0, Nat.zero_le _, rfl, ⟨[], ⟨rfl, .inl ⟨rfl, rfl⟩⟩⟩, grown_refl _⟩
      case round =>
        obtain ⟨k, hk, rfl, ⟨vs, hvs⟩, hg⟩ := hrel
        by_cases hlt : k < cv.length
        · have hlt' : (k : Int) < cv.length := by omega
          obtain ⟨b, rfl, c1, c, hc, hn⟩ := HC7.out wr (grown_tr HX.out.2 hg) k hlt
          obtain ⟨v, hv⟩ : ∃ v, v = cv[k] := ⟨_, rfl⟩
          rw [← hv] at c1 hn
          have hnum := numbers_any hn (by omega)
          obtain ⟨av, cc, rfl, -⟩ := hn
          have HV := Lib.hid (And.intro hvs hg)
          have hsz := hg.size
          clear hvs hg hv
          go_wp2_with (first
            | (go_at_call 63; refine hnum.mono ?_; intro e w1 hp; obtain ⟨v1, rfl, o1, hg1⟩ := hp; have hvs1 := own_new HV.out.1 hg1; have hsz1 := hg1.size; obtain ⟨av1, cv1, rfl⟩ := own_slice o1; clear o1; replace hvs1 := Lib.hid hvs1)
            | (at_builtin; refine wpx_app1 elLL rfl (.tmp 46) (.tmp 49) rfl wa.heap.size u5 k vs rfl (hvs1.out.alloc _) w1.heap.size #[.slice av1 c.length cv1] (heap_alloc_new w1 _) (w1.heap.size + 1) (by simp) 1 rfl rfl (by simp [Value.oneCell']) (by omega) (by unfold maxLen; omega) (by omega) ?_; intro g cap w' ho' hg' hat hlt2 hsz2))
          go_roundw
          case rel => exact ⟨k + 1, by omega, by go_num, ⟨_, ho'⟩, grown_own2' (grown_tr HV.out.2 hg1) hvs1.out hg'⟩
          case measure => simp [intOf]; omega
        · have hlt' : ¬ (k : Int) < cv.length := by omega
          have HV := Lib.hid (And.intro hvs hg)
          clear hvs hg
          go_wp2_with fail
          refine bodyPost_ret (v := .tuple #[u4, u5, .bool false]) (by simp [results, Tryz.results40, go_sem]) rfl ⟨u4, u5, rfl, own_new HX.out.1 HV.out.2, grown_tr HX.out.2 HV.out.2⟩
end Go.Proofs.YtdllkoiddlcnmaaGreat
