/- topo.IsPathIn. -/
import Derived.Test.YtdllkoiddlcnmabIp
import Derived.Stop.Asserts
namespace Go.Proofs.Ytdllkoiddlcnmab
open Go.MapKept Go.RowKit

def IsPost (ids : List Int) (M : Mat) (l : List Int) (w : World) (e : Ending) (w' : World) : Prop := ∃ p : Bool, e = .returned (.bool p) ∧ (p = true ↔ PathP ids M l) ∧ w.grownBy w' none
def IsRel (ids : List Int) (M : Mat) (l : List Int) (w : World) (i : Value) (wr : World) : Prop := ∃ k : Nat, k + 1 ≤ l.length ∧ i = .int .i64 k ∧ (∀ j (h : j + 1 < l.length), j < k → edgeOf ids M l[j] l[j + 1]) ∧ w.grownBy wr none

theorem nodeO_neq (ids : List Int) (x : Int) (W : World) : (binOp .neq 56 (nodeO ids x) .nilIface).run Try.prog W = .ok (.bool (decide (x ∈ ids))) W := by
  unfold nodeO
  by_cases h : x ∈ ids
  · rw [if_pos h, decide_eq_true h]
    kernel_rfl
  · rw [if_neg h, decide_eq_false h]
    kernel_rfl

theorem nodeO_guard (ids : List Int) (x : Int) (W : World) : (eqGuard .neq 56 (.tmp 57) (.const .nilIface) (nodeO ids x) .nilIface).run Try.prog W = .ok () W := by
  unfold nodeO
  by_cases h : x ∈ ids
  · rw [if_pos h]
    kernel_rfl
  · rw [if_neg h]
    kernel_rfl
theorem as_dir (p0 : Nat) (W : World) : (Instr.typeAssert (.iface dirT (dirV p0)) 54 61 true).run Try.prog W = .ok (.tuple #[.iface dirT (dirV p0), .bool true]) W := by kernel_rfl
theorem as_und (p0 : Nat) (W : World) : (Instr.typeAssert (.iface undT (dirV p0)) 54 61 true).run Try.prog W = .ok (.tuple #[.nilIface, .bool false]) W := run_typeAssert_lacksB Try.underlying61 (by kernel_rfl) (by kernel_rfl) _ _ _
theorem ahead_dir (n p0 : Nat) (W : World) : (nilAhead (n + 1) dirT (dirV p0) "Node").run Try.prog W = .ok (some false) W := by kernel_rfl
theorem ahead_und (n p0 : Nat) (W : World) : (nilAhead (n + 1) undT (dirV p0) "Node").run Try.prog W = .ok (some false) W := by kernel_rfl


set_option maxHeartbeats 4000000 in
set_option maxRecDepth 100000 in
theorem is_dir {w : World} {p0 B : Nat} {ids : List Int} {M : Mat} {l : List Int} {vl : Value} (h : PlnR w p0 ids M) (hl : ids.length ≤ 1000) (hasc : ids.Pairwise (· < ·)) (hown : w.ownsRow B nodT 1 vl l.length (l.map nodeV)) (hll : l.length ≤ 1000) :
    Calls Try.prog 10 #[.iface dirT (dirV p0), vl] w (IsPost ids M l w) := by
  by_cases h0 : l.length = 0
  · obtain rfl := List.eq_nil_of_length_eq_zero h0
    obtain ⟨a, c, rfl⟩ := own_slice hown
    clear h hown
    go_enter Try.func10, Try.ntmps10
    go_wp2_with fail
    go_ret
    exact ⟨true, rfl, ⟨fun _ => PathP.nil _ _, fun _ => rfl⟩, grown_refl _⟩
  obtain ⟨b, cap, rfl, -, hb, -⟩ := own_row hown (by omega)
  obtain ⟨hcp1, hcp2⟩ := own_caps hown
  have HC : Hid (∀ W, w.grownBy W none → ∀ i, (hi : i < l.length) → W.cell? ⟨b, i, none⟩ = some (nodeV l[i])) := Lib.hid (fun W hW i hi => by
    rw [grown_cell hW hb (by simp)]
    have := hown.cells (g := b) rfl i (nodeV l[i]) (by simp [hi])
    rwa [addr_add, Nat.zero_add] at this)
  clear hown
  by_cases h1 : l.length = 1
  · have c0 := HC.out w (grown_refl w) 0 (by omega)
    have hp : PathP ids M l ↔ l[0] ∈ ids := ⟨fun hp => hp.1 h1, fun hx => ⟨fun _ => hx, fun j hj => by omega⟩⟩
    have hh := Lib.hid hp
    have hnd : ∀ W, w.grownBy W none → _ := fun W hW => dir_nodeO (x := l[0]) (h.grown hW) hl hasc
    have hnq := nodeO_neq ids l[0]
    have hgd := nodeO_guard ids l[0]
    have hah := ahead_dir 265 p0
    simp only [Nat.reduceAdd] at hah
    obtain ⟨x, hx⟩ : ∃ x, x = l[0] := ⟨_, rfl⟩
    rw [← hx] at c0 hh hnd hnq hgd
    obtain ⟨y, hy⟩ : ∃ y, y = nodeO ids x := ⟨_, rfl⟩
    rw [← hy] at hnd hnq hgd
    obtain ⟨d, hd⟩ : ∃ d, d = decide (x ∈ ids) := ⟨_, rfl⟩
    rw [← hd] at hnq
    have HD := Lib.hid hd
    rw [h1]
    clear h hp hx hy hd HC h0 hcp1 hcp2
    go_enter Try.func10, Try.ntmps10
    go_wp2_with fail
    go_region_with (first
      | (go_at_call 78; refine (id_node _ _).mono ?_; rintro e w' ⟨rfl, rfl⟩)
      | (go_at_call 83; refine (hnd _ (grown_drew _)).mono ?_; rintro e w2 ⟨rfl, hg2⟩))
    all_goals go_wp2_with fail
    all_goals go_ret
    all_goals exact ⟨d, rfl, by rw [hh.out, HD.out]; exact decide_eq_true_iff, grown_tr (grown_drew _) hg2⟩
  · obtain ⟨n, hn⟩ : ∃ n, l.length = n + 1 := ⟨l.length - 1, by omega⟩
    have hn1 : 1 ≤ n := by omega
    have HH := Lib.hid (fun W x y (hW : w.grownBy W none) => dir_fromTo (u := x) (v := y) (h.grown hW) hl hasc)
    have HN := Lib.hid (And.intro hn hll)
    rw [hn] at hcp1 ⊢
    have hn0 : (0 : Int) ≤ (n : Int) := by omega
    have hcapn : ((n : Nat) : Int) ≤ (cap : Int) := by omega
    have hne0 : ¬ (((n : Nat) : Int) + 1 = 0) := by omega
    have hne1 : ¬ (((n : Nat) : Int) + 1 = 1) := by omega
    have hnb : n ≤ 1000 := by omega
    have hq0 : (((n : Nat) : Int) + 1 == 0) = false := by rw [beq_eq_false_iff_ne]; exact hne0
    have hq1 : (((n : Nat) : Int) + 1 == 1) = false := by rw [beq_eq_false_iff_ne]; exact hne1
    have hta := as_dir p0
    clear h hasc hl hn hll h0 h1 hcp1 hb
    go_enter Try.func10, Try.ntmps10
    go_wp2_with fail
    go_loopw [8, 9, 28] (fun _ _ i wr => IsRel ids M l w i wr) (fun _ _ i _ => n - (intOf i).toNat)
    case atStart => exact ⟨0, by have := HN.out.1; omega, rfl, fun j hj h => absurd h (by omega), grown_refl _⟩
    case round =>
      clear hta
      obtain ⟨k, hk, rfl, hed, hg⟩ := hrel
      have hln := HN.out.1
      by_cases hlt : k < n
      · have hlt' : (k : Int) < n := by omega
        have hk0 : k < l.length := by omega
        have hk1 : k + 1 < l.length := by omega
        have c1 := HC.out wr hg k hk0
        have c2 := HC.out wr hg (k + 1) hk1
        have hc2 := fun W (hW : wr.grownBy W none) => HC.out W (grown_tr hg hW) (k + 1) hk1
        have hk00 : (0 : Int) ≤ (k : Int) + 1 := by omega
        have hk01 : (0 : Int) ≤ (k : Int) := by omega
        have e1 : ((k + 1 : Nat) : Int) = (k : Int) + 1 := by omega
        have hix : (k : Int) + 1 < (n : Int) + 1 := by omega
        have hwrp : IntKind.i64.wrap ((k : Int) + 1) = (k : Int) + 1 := by rw [IntKind.wrap_i64]; omega
        have hcan := fun W hW => HH.out W l[k] l[k + 1] hW
        have HE : Hid (edgeB ids M l[k] l[k + 1] = true ↔ edgeOf ids M l[k] l[k + 1]) := Lib.hid edgeB_iff
        unfold EdgePost at hcan
        obtain ⟨x, hx⟩ : ∃ x, x = l[k] := ⟨_, rfl⟩
        obtain ⟨y, hy⟩ : ∃ y, y = l[k + 1] := ⟨_, rfl⟩
        obtain ⟨d, hd⟩ : ∃ d, d = edgeB ids M x y := ⟨_, rfl⟩
        rw [← hx] at c1 hcan HE
        rw [← hy] at c2 hcan HE hc2
        have HC2 := Lib.hid hc2
        rw [← hd] at hcan HE
        have HX := Lib.hid (And.intro hed (And.intro hg (And.intro hx hy)))
        have hcan2 : ∀ W, wr.grownBy W none → _ := fun W hW => hcan W (grown_tr hg hW)
        clear hed hg hx hy hd hcan HC HH hc2
        cases d
        case false =>
          go_wp2_with fail
          go_region_held3 (fun w' => w'.cell? ⟨b, k + 1, none⟩ = some (nodeV y)) (first | go_keep | exact HC2.out _ (grown_tr (grown_drew _) hg2)) (first
            | (go_at_call 78; refine (id_node _ _).mono ?_; rintro e w' ⟨rfl, rfl⟩)
            | (go_at_call 82; refine (hcan2 _ (grown_drew _)).mono ?_; rintro e w2 ⟨rfl, hg2⟩))
          go_wp2_with fail
          go_ret
          obtain ⟨hed, hg, hx, hy⟩ := HX.out
          refine ⟨false, rfl, ⟨fun h => absurd h (by simp), fun hp => ?_⟩, grown_tr (grown_tr hg (grown_drew _)) hg2⟩
          have := HE.out.2 (by rw [hx, hy]; exact hp.2 k hk1)
          cases this
        case true =>
          go_wp2_with fail
          go_region_held3 (fun w' => w'.cell? ⟨b, k + 1, none⟩ = some (nodeV y)) (first | go_keep | exact HC2.out _ (grown_tr (grown_drew _) hg2)) (first
            | (go_at_call 78; refine (id_node _ _).mono ?_; rintro e w' ⟨rfl, rfl⟩)
            | (go_at_call 82; refine (hcan2 _ (grown_drew _)).mono ?_; rintro e w2 ⟨rfl, hg2⟩))
          go_wp2_with fail
          go_roundw
          case rel =>
            obtain ⟨hed, hg, hx, hy⟩ := HX.out
            refine ⟨k + 1, by omega, by go_num, fun j hj hjk => ?_, grown_tr (grown_tr hg (grown_drew _)) hg2⟩
            by_cases hjk2 : j < k
            · exact hed j hj hjk2
            · obtain rfl : j = k := by omega
              rw [← hx, ← hy]
              exact HE.out.1 (by first | rfl | trivial)
          case measure => simp [intOf]; omega
      · have hlt' : ¬ (k : Int) < n := by omega
        have HX := Lib.hid (And.intro hed hg)
        clear hed hg
        go_wp2_with fail
        go_ret
        obtain ⟨hed, hg⟩ := HX.out
        exact ⟨true, rfl, ⟨fun _ => ⟨fun h => by omega, fun j hj => hed j hj (by omega)⟩, fun _ => rfl⟩, hg⟩
set_option maxHeartbeats 4000000 in
set_option maxRecDepth 100000 in
theorem is_und {w : World} {p0 B : Nat} {ids : List Int} {M : Mat} {l : List Int} {vl : Value} (h : PlnR w p0 ids M) (hl : ids.length ≤ 1000) (hasc : ids.Pairwise (· < ·)) (hown : w.ownsRow B nodT 1 vl l.length (l.map nodeV)) (hll : l.length ≤ 1000) :
    Calls Try.prog 10 #[.iface undT (dirV p0), vl] w (IsPost ids M l w) := by
  by_cases h0 : l.length = 0
  · obtain rfl := List.eq_nil_of_length_eq_zero h0
    obtain ⟨a, c, rfl⟩ := own_slice hown
    clear h hown
    go_enter Try.func10, Try.ntmps10
    go_wp2_with fail
    go_ret
    exact ⟨true, rfl, ⟨fun _ => PathP.nil _ _, fun _ => rfl⟩, grown_refl _⟩
  obtain ⟨b, cap, rfl, -, hb, -⟩ := own_row hown (by omega)
  obtain ⟨hcp1, hcp2⟩ := own_caps hown
  have HC : Hid (∀ W, w.grownBy W none → ∀ i, (hi : i < l.length) → W.cell? ⟨b, i, none⟩ = some (nodeV l[i])) := Lib.hid (fun W hW i hi => by
    rw [grown_cell hW hb (by simp)]
    have := hown.cells (g := b) rfl i (nodeV l[i]) (by simp [hi])
    rwa [addr_add, Nat.zero_add] at this)
  clear hown
  by_cases h1 : l.length = 1
  · have c0 := HC.out w (grown_refl w) 0 (by omega)
    have hp : PathP ids M l ↔ l[0] ∈ ids := ⟨fun hp => hp.1 h1, fun hx => ⟨fun _ => hx, fun j hj => by omega⟩⟩
    have hh := Lib.hid hp
    have hnd : ∀ W, w.grownBy W none → _ := fun W hW => und_nodeO (x := l[0]) (h.grown hW) hl hasc
    have hnq := nodeO_neq ids l[0]
    have hgd := nodeO_guard ids l[0]
    have hah := ahead_und 265 p0
    simp only [Nat.reduceAdd] at hah
    obtain ⟨x, hx⟩ : ∃ x, x = l[0] := ⟨_, rfl⟩
    rw [← hx] at c0 hh hnd hnq hgd
    obtain ⟨y, hy⟩ : ∃ y, y = nodeO ids x := ⟨_, rfl⟩
    rw [← hy] at hnd hnq hgd
    obtain ⟨d, hd⟩ : ∃ d, d = decide (x ∈ ids) := ⟨_, rfl⟩
    rw [← hd] at hnq
    have HD := Lib.hid hd
    rw [h1]
    clear h hp hx hy hd HC h0 hcp1 hcp2
    go_enter Try.func10, Try.ntmps10
    go_wp2_with fail
    go_region_with (first
      | (go_at_call 78; refine (id_node _ _).mono ?_; rintro e w' ⟨rfl, rfl⟩)
      | (go_at_call 96; refine (hnd _ (grown_drew _)).mono ?_; rintro e w2 ⟨rfl, hg2⟩))
    all_goals go_wp2_with fail
    all_goals go_ret
    all_goals exact ⟨d, rfl, by rw [hh.out, HD.out]; exact decide_eq_true_iff, grown_tr (grown_drew _) hg2⟩
  · obtain ⟨n, hn⟩ : ∃ n, l.length = n + 1 := ⟨l.length - 1, by omega⟩
    have hn1 : 1 ≤ n := by omega
    have HH := Lib.hid (fun W x y (hW : w.grownBy W none) => und_between (u := x) (v := y) (h.grown hW) hl hasc)
    have HN := Lib.hid (And.intro hn hll)
    rw [hn] at hcp1 ⊢
    have hn0 : (0 : Int) ≤ (n : Int) := by omega
    have hcapn : ((n : Nat) : Int) ≤ (cap : Int) := by omega
    have hne0 : ¬ (((n : Nat) : Int) + 1 = 0) := by omega
    have hne1 : ¬ (((n : Nat) : Int) + 1 = 1) := by omega
    have hnb : n ≤ 1000 := by omega
    have hq0 : (((n : Nat) : Int) + 1 == 0) = false := by rw [beq_eq_false_iff_ne]; exact hne0
    have hq1 : (((n : Nat) : Int) + 1 == 1) = false := by rw [beq_eq_false_iff_ne]; exact hne1
    have hta := as_und p0
    clear h hasc hl hn hll h0 h1 hcp1 hb
    go_enter Try.func10, Try.ntmps10
    go_wp2_with fail
    go_loopw [8, 9, 28] (fun _ _ i wr => IsRel ids M l w i wr) (fun _ _ i _ => n - (intOf i).toNat)
    case atStart => exact ⟨0, by have := HN.out.1; omega, rfl, fun j hj h => absurd h (by omega), grown_refl _⟩
    case round =>
      clear hta
      obtain ⟨k, hk, rfl, hed, hg⟩ := hrel
      have hln := HN.out.1
      by_cases hlt : k < n
      · have hlt' : (k : Int) < n := by omega
        have hk0 : k < l.length := by omega
        have hk1 : k + 1 < l.length := by omega
        have c1 := HC.out wr hg k hk0
        have c2 := HC.out wr hg (k + 1) hk1
        have hc2 := fun W (hW : wr.grownBy W none) => HC.out W (grown_tr hg hW) (k + 1) hk1
        have hk00 : (0 : Int) ≤ (k : Int) + 1 := by omega
        have hk01 : (0 : Int) ≤ (k : Int) := by omega
        have e1 : ((k + 1 : Nat) : Int) = (k : Int) + 1 := by omega
        have hix : (k : Int) + 1 < (n : Int) + 1 := by omega
        have hwrp : IntKind.i64.wrap ((k : Int) + 1) = (k : Int) + 1 := by rw [IntKind.wrap_i64]; omega
        have hcan := fun W hW => HH.out W l[k] l[k + 1] hW
        have HE : Hid (edgeB ids M l[k] l[k + 1] = true ↔ edgeOf ids M l[k] l[k + 1]) := Lib.hid edgeB_iff
        unfold EdgePost at hcan
        obtain ⟨x, hx⟩ : ∃ x, x = l[k] := ⟨_, rfl⟩
        obtain ⟨y, hy⟩ : ∃ y, y = l[k + 1] := ⟨_, rfl⟩
        obtain ⟨d, hd⟩ : ∃ d, d = edgeB ids M x y := ⟨_, rfl⟩
        rw [← hx] at c1 hcan HE
        rw [← hy] at c2 hcan HE hc2
        have HC2 := Lib.hid hc2
        rw [← hd] at hcan HE
        have HX := Lib.hid (And.intro hed (And.intro hg (And.intro hx hy)))
        have hcan2 : ∀ W, wr.grownBy W none → _ := fun W hW => hcan W (grown_tr hg hW)
        clear hed hg hx hy hd hcan HC HH hc2
        cases d
        case false =>
          go_wp2_with fail
          go_region_held3 (fun w' => w'.cell? ⟨b, k + 1, none⟩ = some (nodeV y)) (first | go_keep | exact HC2.out _ (grown_tr (grown_drew _) hg2)) (first
            | (go_at_call 78; refine (id_node _ _).mono ?_; rintro e w' ⟨rfl, rfl⟩)
            | (go_at_call 95; refine (hcan2 _ (grown_drew _)).mono ?_; rintro e w2 ⟨rfl, hg2⟩))
          go_wp2_with fail
          go_ret
          obtain ⟨hed, hg, hx, hy⟩ := HX.out
          refine ⟨false, rfl, ⟨fun h => absurd h (by simp), fun hp => ?_⟩, grown_tr (grown_tr hg (grown_drew _)) hg2⟩
          have := HE.out.2 (by rw [hx, hy]; exact hp.2 k hk1)
          cases this
        case true =>
          go_wp2_with fail
          go_region_held3 (fun w' => w'.cell? ⟨b, k + 1, none⟩ = some (nodeV y)) (first | go_keep | exact HC2.out _ (grown_tr (grown_drew _) hg2)) (first
            | (go_at_call 78; refine (id_node _ _).mono ?_; rintro e w' ⟨rfl, rfl⟩)
            | (go_at_call 95; refine (hcan2 _ (grown_drew _)).mono ?_; rintro e w2 ⟨rfl, hg2⟩))
          go_wp2_with fail
          go_roundw
          case rel =>
            obtain ⟨hed, hg, hx, hy⟩ := HX.out
            refine ⟨k + 1, by omega, by go_num, fun j hj hjk => ?_, grown_tr (grown_tr hg (grown_drew _)) hg2⟩
            by_cases hjk2 : j < k
            · exact hed j hj hjk2
            · obtain rfl : j = k := by omega
              rw [← hx, ← hy]
              exact HE.out.1 (by first | rfl | trivial)
          case measure => simp [intOf]; omega
      · have hlt' : ¬ (k : Int) < n := by omega
        have HX := Lib.hid (And.intro hed hg)
        clear hed hg
        go_wp2_with fail
        go_ret
        obtain ⟨hed, hg⟩ := HX.out
        exact ⟨true, rfl, ⟨fun _ => ⟨fun h => by omega, fun j hj => hed j hj (by omega)⟩, fun _ => rfl⟩, hg⟩
end Go.Proofs.Ytdllkoiddlcnmab
