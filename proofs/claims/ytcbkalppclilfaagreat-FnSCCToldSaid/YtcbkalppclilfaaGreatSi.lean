/- The reference's own: sortInts, Nodes. -/
import Derived.Test.YtcbkalppclilfaaGreatProg
import Derived.Test.YtcbkalppclilfaaGreatNo
import Derived.Test.YtcbkalppclilfaaGreatWj
import Derived.Deep.RegionLawGrows
namespace Go.Proofs.YtcbkalppclilfaaGreat
open Go.MapKept Go.RowKit


/-- append onto a row of the call's own, as a step of a region that draws -/
theorem stepx_append {P : Program} {t e : TypeId} {size bytes : Nat} {z : Value} (E : ElT P t e size bytes z) {W : World} {ops : Array Oper} {o : Oper} {a : Act} {K : Act → World → Prop} {Q : Exit → Act → World → Prop} {F : Prop} (hgd : o.guard = none) (s x : Operand)
    (ho : o.op = .call { callee := .builtin .append, args := #[s, x], argTypes := #[t, t] }) (base : Nat)
    (v : Value) (n : Nat) (xs : List Value) (hs : a.eval s = v) (hown : W.ownsRow base e size v n xs)
    (ad : Addr) (m c : Nat) (news : List Value) (hx : a.eval x = .slice (some ad) m c) (hl : news.length = m * size) (hnews : ∀ j u, news[j]? = some u → W.cell? (ad.add j) = some u) (h1 : ∀ u ∈ news, u.oneCell' = true)
    (hsmall : (n + m) * bytes ≤ 140737488355328) (h63 : n + m ≤ maxLen) (hbase : base ≤ W.heap.size)
    (h : ∀ v' w', w'.ownsRow base e size v' (n + m) (xs ++ news) → W.grownBy w' v.ownBlock → (v' = .slice none 0 0 ↔ v = .slice none 0 0 ∧ m = 0) → (v'.ownBlock = v.ownBlock ∨ v'.ownBlock = some W.heap.size) → K (a.put o.dst v') w') :
    if Region.wanted o (yielded ops a.tmps) = true then Oper.wp P o a W K Q else F := by
  obtain ⟨i, h1i, h2, h3, h4⟩ := info_parts E.hi
  have hw : Region.wanted o (yielded ops a.tmps) = true := by simp [Region.wanted, hgd]
  rw [if_pos hw]
  obtain ⟨v', w', hrun, r1, r2, r3, r4⟩ := run_append_own_at (P := P) W base t o.type e i z size bytes E.ht h1i h2 h3 h4 E.hzs E.pos v n xs hown ad m c news hl hnews h1 h63 hsmall hbase
  unfold Oper.wp
  simp [execOp, ho, resolve, invoke, builtin, hs, hx, hrun, Result.andThen]
  exact h v' w' r1 r2 r3 r4

/-- .. of nothing (a nil slice) -/
theorem stepx_append_none {P : Program} {t e : TypeId} {size bytes : Nat} {z : Value} (E : ElT P t e size bytes z) {W : World} {ops : Array Oper} {o : Oper} {a : Act} {K : Act → World → Prop} {Q : Exit → Act → World → Prop} {F : Prop} (hgd : o.guard = none) (s x : Operand)
    (ho : o.op = .call { callee := .builtin .append, args := #[s, x], argTypes := #[t, t] }) (base : Nat)
    (v : Value) (n : Nat) (xs : List Value) (hs : a.eval s = v) (hown : W.ownsRow base e size v n xs) (hx : a.eval x = .slice none 0 0)
    (h : K (a.put o.dst v) W) :
    if Region.wanted o (yielded ops a.tmps) = true then Oper.wp P o a W K Q else F := by
  obtain ⟨i, h1i, h2, h3, h4⟩ := info_parts E.hi
  have hw : Region.wanted o (yielded ops a.tmps) = true := by simp [Region.wanted, hgd]
  rw [if_pos hw]
  have hrun := run_append_owned_none (P := P) (w := W) base t o.type e i size E.ht h1i v n xs hown
  unfold Oper.wp
  simp [execOp, ho, resolve, invoke, builtin, hs, hx, hrun, Result.andThen]
  exact h

theorem lit_own (W : World) (lit : Array Value) (e : TypeId) (hl : lit.size ≤ maxLen) : (W.alloc (.cells lit e)).ownsRow W.heap.size e 1 (.slice (some ⟨W.heap.size, 0, none⟩) lit.size lit.size) lit.size lit.toList := by
  refine ⟨by simp, .inr ⟨W.heap.size, lit.size, lit, rfl, Nat.le_refl _, heap_alloc_new W _, Nat.le_refl _, hl, by simp, ?_⟩⟩
  rw [Nat.mul_one]
  exact List.take_of_length_le (by simp)

/-- .. that must grow -/
theorem stepx_grows {P : Program} {t e : TypeId} {size bytes : Nat} {z : Value} (E : ElT P t e size bytes z) {W : World} {ops : Array Oper} {o : Oper} {a : Act} {K : Act → World → Prop} {Q : Exit → Act → World → Prop} {F : Prop} (hgd : o.guard = none) (s x : Operand)
    (ho : o.op = .call { callee := .builtin .append, args := #[s, x], argTypes := #[t, t] })
    (ao : Option Addr) (n cap : Nat) (olds : List Value) (hs : a.eval s = .slice ao n cap) (hnone : ao = none → n = 0 ∧ cap = 0) (hlo : olds.length = n * size) (holds : ∀ b, ao = some b → ∀ j u, olds[j]? = some u → W.cell? (b.add j) = some u)
    (B : Nat) (v : Value) (m : Nat) (news : List Value) (hx : a.eval x = v) (hown : W.ownsRow B e size v m news) (hm : 0 < m) (h1c : ∀ u ∈ news, u.oneCell' = true)
    (hfull : cap < n + m) (b1 : n + m ≤ maxLen) (b2 : (n + m) * bytes ≤ 140737488355328)
    (hK : ∀ v' w', w'.ownsRow W.heap.size e size v' (n + m) (olds ++ news) → W.grownBy w' none → K (a.put o.dst v') w') :
    if Region.wanted o (yielded ops a.tmps) = true then Oper.wp P o a W K Q else F := by
  obtain ⟨i, h1i, h2, h3, h4⟩ := info_parts E.hi
  obtain ⟨hl, h | ⟨g, c, cur, rfl, hb, hh, hc, hmx, hsz, ht⟩⟩ := id hown
  · omega
  · exact step_append_grows hgd s x t ho e i z size bytes E.ht h1i h2 h3 h4 E.hzs E.pos ao n cap olds hs hnone hlo holds ⟨g, 0, none⟩ m c news hx hl (fun j u hu => by have := hown.cells (g := g) rfl j u hu; exact this) h1c hfull b1 b2 hK

def SiPost (l : List Int) (w : World) (e : Ending) (w' : World) : Prop := ∃ v, e = .returned v ∧ w'.ownsRow w.heap.size 3 1 v l.length ((srt l).map (Value.int .i64)) ∧ w.grownBy w' none
def SiRel (l : List Int) (w : World) (v i : Value) (wr : World) : Prop := ∃ k : Nat, k ≤ l.length ∧ i = .int .i64 k ∧ wr.ownsRow w.heap.size 3 1 v k ((srt (l.take k)).map (Value.int .i64)) ∧ w.grownBy wr none


theorem run_slice3 {P : Program} {t e : TypeId} {size bytes : Nat} {z : Value} (E : ElT P t e size bytes z) (g o n cap k : Nat) (hk : k ≤ cap) (w : World) :
    (Instr.sliceAt t (.slice (some ⟨g, o, none⟩) n cap) none (some (.int .i64 (k : Int))) (some (.int .i64 (k : Int)))).run P w = .ok (.slice (some ⟨g, o, none⟩) k k) w := by
  obtain ⟨i, h1i, h2, h3, h4⟩ := info_parts E.hi
  have e1 : (0 : Int) ≤ (k : Int) ∧ (k : Int) ≤ (cap : Int) := by omega
  have e2 : (⟨g, o, none⟩ : Addr).add 0 = ⟨g, o, none⟩ := by rw [addr_add]; rfl
  simp [Instr.sliceAt, Instr.slice, Instr.sliceBounds, Instr.sliceBound, run_underlying E.ht, asIntOf, e1, sizeOf, typeInfo, h1i, hk, e2]

theorem si_one (xs : List Int) : ∀ u ∈ xs.map (Value.int .i64), u.oneCell' = true := by
  intro u hu
  obtain ⟨y, _, rfl⟩ := List.mem_map.1 hu
  rfl

theorem si_take {w w2 : World} {xs : List Int} {g : Nat} (hc : ∀ j, (h : j < xs.length) → w.cell? ⟨g, j, none⟩ = some (.int .i64 xs[j])) (hg : g < w.heap.size) (hgw : w.grownBy w2 none) (k : Nat) :
    ∀ j u, ((xs.take k).map (Value.int .i64))[j]? = some u → w2.cell? ((⟨g, 0, none⟩ : Addr).add j) = some u := by
  intro j u hu
  rw [addr_add, Nat.zero_add, grown_cell hgw hg (by simp)]
  rw [List.getElem?_map] at hu
  cases hj : (xs.take k)[j]? with
  | none => rw [hj] at hu; cases hu
  | some y =>
    rw [hj] at hu
    rw [List.getElem?_take] at hj
    split at hj
    · obtain ⟨h1, h2⟩ := List.getElem?_eq_some_iff.1 hj
      rw [hc j h1, h2]
      exact hu
    · cases hj

theorem si_drop {w w2 : World} {xs : List Int} {g : Nat} (hc : ∀ j, (h : j < xs.length) → w.cell? ⟨g, j, none⟩ = some (.int .i64 xs[j])) (hg : g < w.heap.size) (hgw : w.grownBy w2 none) (k cap : Nat) (hn : xs.length ≤ cap) :
    ∀ j u, ((xs.drop k).map (Value.int .i64))[j]? = some u → w2.cell? ((dropAt g 0 k cap 1).add j) = some u := by
  intro j u hu
  rw [List.getElem?_map, List.getElem?_drop] at hu
  cases hj : xs[k + j]? with
  | none => rw [hj] at hu; cases hu
  | some y =>
    rw [hj] at hu
    obtain ⟨h1, h2⟩ := List.getElem?_eq_some_iff.1 hj
    have e : dropAt g 0 k cap 1 = ⟨g, k, none⟩ := by unfold dropAt; rw [if_neg (by omega)]; simp
    rw [e, addr_add, grown_cell hgw hg (by simp), hc _ h1, h2]
    exact hu

theorem si_fin {w w4 : World} {l S : List Int} {x : Int} {k j n B : Nat} {v : Value} {ys : List Value} (hts : l.take (k + 1) = l.take k ++ [x]) (hS : S = srt (l.take k))
    (h1 : ∀ i, (h : i < S.length) → j ≤ i → x < S[i]) (h2 : j = 0 ∨ ∃ h : j - 1 < S.length, S[j - 1] ≤ x) (ho : w4.ownsRow B 3 1 v n ys) (hys : ys = (S.take j ++ x :: S.drop j).map (Value.int .i64)) (hn : n = k + 1) (hB : w.heap.size ≤ B) :
    w4.ownsRow w.heap.size 3 1 v (k + 1) ((srt (l.take (k + 1))).map (Value.int .i64)) := by
  subst hn hys
  rw [hts, ← srt_put hS h1 h2]
  exact own_mono ho hB

set_option maxHeartbeats 2000000 in
theorem sortInts_any {l : List Int} {v : Value} {w : World} (h : IntsR w v l) (hl : l.length ≤ 1000000) :
    Calls Tryz.prog 49 #[v] w (SiPost l w) := by
  obtain ⟨a, c, rfl, h⟩ := h
  have HR := Lib.hid h
  clear h
  go_enter Tryz.func49, Tryz.ntmps49
  go_wp2_with fail
  go_loopw [3, 5, 6, 9] (fun v _ _ i wr => SiRel l w v i wr) (fun _ _ _ i _ => l.length - (intOf i).toNat)
  case atStart => exact ⟨0, Nat.zero_le _, rfl, ⟨by rw [List.length_map, length_srt]; rfl, .inl ⟨rfl, rfl⟩⟩, grown_refl _⟩
  case round =>
    obtain ⟨k, hk, rfl, hown, hg⟩ := hrel
    by_cases hlt : k < l.length
    · have hlt' : (k : Int) < l.length := by omega
      obtain ⟨b, o, rfl, hb, hcell⟩ := HR.out (by omega)
      have c1 := (grown_cell hg hb (by simp)).trans (hcell k hlt)
      have hts : l.take (k + 1) = l.take k ++ [l[k]] := List.take_succ_eq_append_getElem hlt
      obtain ⟨x, hx⟩ : ∃ x, x = l[k] := ⟨_, rfl⟩
      rw [← hx] at c1 hts
      obtain ⟨S, hS⟩ : ∃ S, S = srt (l.take k) := ⟨_, rfl⟩
      have hSl : S.length = k := by rw [hS, length_srt, List.length_take]; omega
      rw [← hS] at hown
      have HX := Lib.hid (And.intro hts (And.intro hS (And.intro hown hg)))
      rcases hown.2 with ⟨rfl, hk0⟩ | ⟨g, cap, cur, rfl, hgb, hgh, hcap, hmx, -, -⟩
      · have HK0 := Lib.hid hk0
        clear hts hS hown hg hcell hx hk0 hSl
        go_wp2_with fail
        go_loop [6] (fun j => j = .int .i64 0) (fun _ => 0)
        case atStart => rfl
        case round =>
          subst hrel
          go_wp2_with fail
          have HL : Hid (∀ W : World, (W.alloc (.cells #[.int .i64 x] 3)).ownsRow W.heap.size 3 1 (.slice (some ⟨W.heap.size, 0, none⟩) 1 1) 1 [.int .i64 x]) := Lib.hid (fun W => lit_own W #[.int .i64 x] 3 (show 1 ≤ maxLen by decide))
          go_region_law (first
            | (refine stepx_append_none elI rfl (.tmp 33) (.tmp 36) rfl _ _ 1 _ rfl (HL.out _) rfl ?_)
            | (refine stepx_grows elI rfl (.tmp 31) (.tmp 37) rfl none 0 0 [] rfl (fun _ => ⟨rfl, rfl⟩) rfl (fun b hb => by cases hb) _ _ 1 [.int .i64 x] rfl (HL.out _) (by decide) (by simp [Value.oneCell']) (by decide) (by decide) (by decide) ?_; intro v4 w4 ho4 hg4))
          all_goals go_wp2_with fail
          all_goals go_roundw
          case rel =>
            obtain ⟨hts, hS, hown, hg⟩ := HX.out
            have hS0 : S = [] := by rw [hS, HK0.out]; simp [srt]
            subst hS0
            exact ⟨k + 1, by omega, by go_num, si_fin (j := 0) hts hS (fun i h => by simp at h) (.inl rfl) ho4 rfl (by have := HK0.out; omega) (by have := hg.size; simp; omega), grown_tr hg (grown_tr (grown_tr (grown_alloc _ _) (grown_drew _)) hg4)⟩
          case measure => simp [intOf]; omega
      · have HC : Hid ((∀ W, wr.grownBy W none → ∀ q, ∀ i u, ((S.take q).map (Value.int .i64))[i]? = some u → W.cell? ((⟨g, 0, none⟩ : Addr).add i) = some u) ∧ (∀ W, wr.grownBy W none → ∀ q, ∀ i u, ((S.drop q).map (Value.int .i64))[i]? = some u → W.cell? ((dropAt g 0 q cap 1).add i) = some u)) := by
          have hgl : g < wr.heap.size := by
            by_cases h : g < wr.heap.size
            · exact h
            · rw [Array.getElem?_eq_none (by omega)] at hgh; cases hgh
          have hcc : ∀ j, (h : j < S.length) → wr.cell? ⟨g, j, none⟩ = some (.int .i64 S[j]) := fun j h => by
            rw [hown.cellAt j (by omega)]
            simp [h]
          exact Lib.hid ⟨fun W hW q => si_take hcc hgl hW q, fun W hW q => si_drop hcc hgl hW q cap (by omega)⟩
        have HCC : Hid (∀ j, (h : j < S.length) → wr.cell? ⟨g, j, none⟩ = some (.int .i64 S[j])) := Lib.hid (fun j h => by
            rw [hown.cellAt j (by omega)]
            simp [h])
        have HL : Hid (∀ W : World, (W.alloc (.cells #[.int .i64 x] 3)).ownsRow W.heap.size 3 1 (.slice (some ⟨W.heap.size, 0, none⟩) 1 1) 1 [.int .i64 x]) := Lib.hid (fun W => lit_own W #[.int .i64 x] 3 (show 1 ≤ maxLen by decide))
        unfold maxLen at hmx
        replace hSl := Lib.hid hSl
        clear hts hS hown hg hcell hx hgh hgb
        go_wp2_with fail
        go_loop [6] (fun i => ∃ j : Nat, j ≤ k ∧ i = .int .i64 j ∧ ∀ i, (h : i < S.length) → j ≤ i → x < S[i]) (fun i => (intOf i).toNat)
        case atStart => exact ⟨k, Nat.le_refl _, rfl, fun i h h' => absurd h (by have := hSl.out; omega)⟩
        case round =>
          obtain ⟨j, hj, rfl, h1x⟩ := hrel
          by_cases hj0 : j = 0
          · have h2x : j = 0 ∨ ∃ h : j - 1 < S.length, S[j - 1] ≤ x := .inl hj0
            have hj0' : ¬ (0 : Int) < j := by omega
            have HJ0 := Lib.hid hj0
            clear hj0
            have hs3 := run_slice3 (P := Tryz.prog) elI g 0 k cap j (by omega)
            have hsl := run_slice_low (P := Tryz.prog) elI g 0 k cap j (by omega)
            have HH := Lib.hid (And.intro h1x h2x)
            clear h1x h2x
            go_wp2_with fail
            go_region_law (first
              | (refine stepx_append elI rfl (.tmp 33) (.tmp 36) rfl _ _ 1 _ rfl (HL.out _) (dropAt g 0 j cap 1) (k - j) (cap - j) ((S.drop j).map (Value.int .i64)) rfl (by rw [List.length_map, List.length_drop, hSl.out, Nat.mul_one]) (HC.out.2 _ (by first | exact grown_alloc _ _ | exact grown_tr (grown_alloc _ _) (grown_drew _)) _) (si_one _) (by omega) (by unfold maxLen; omega) (by simp) ?_; intro v3 w3 ho3 hg3 hnil3 hat3; have hgw : wr.grownBy w3 none := grown_new (by first | exact grown_alloc _ _ | exact grown_tr (grown_alloc _ _) (grown_drew _)) hg3 (by intro q hq; cases hq; exact Nat.le_refl _))
              | (refine stepx_grows elI rfl (.tmp 31) (.tmp 37) rfl (some ⟨g, 0, none⟩) j j ((S.take j).map (Value.int .i64)) rfl (fun h => by cases h) (by rw [List.length_map, List.length_take, hSl.out]; omega) (fun b hb => by cases hb; exact HC.out.1 _ hgw _) _ _ (1 + (k - j)) _ rfl ho3 (by omega) (si_one (x :: S.drop j)) (by omega) (by unfold maxLen; omega) (by omega) ?_; intro v4 w4 ho4 hg4))
            all_goals go_wp2_with fail
            all_goals go_roundw
            case rel =>
              obtain ⟨hts, hS, hown, hg⟩ := HX.out
              have hs1 := hgw.size
              have hs2 := hg.size
              exact ⟨k + 1, by omega, by go_num, si_fin hts hS HH.out.1 HH.out.2 ho4 (by simp) (by omega) (by omega), grown_tr hg (grown_tr hgw hg4)⟩
            case measure => simp [intOf]; omega
          · have hj0' : (0 : Int) < j := by omega
            have hjs : j - 1 < S.length := by have := hSl.out; omega
            have hcj := HCC.out (j - 1) hjs
            obtain ⟨y, hy⟩ : ∃ y, y = S[j - 1] := ⟨_, rfl⟩
            rw [← hy] at hcj
            have HY := Lib.hid hy
            clear hy
            by_cases hxy : x < y
            · have hb1 : decide (x < y) = true := by simpa using hxy
              have HXY := Lib.hid hxy
              replace h1x := Lib.hid h1x
              clear hxy
              go_wp2_with fail
              go_round
              case rel =>
                refine ⟨j - 1, by omega, by go_num, fun i h h' => ?_⟩
                by_cases e : i = j - 1
                · subst e; rw [← HY.out]; exact HXY.out
                · exact h1x.out i h (by omega)
              case measure => simp [intOf]; omega
            · have hb1 : decide (x < y) = false := by simpa using hxy
              have h2x : j = 0 ∨ ∃ h : j - 1 < S.length, S[j - 1] ≤ x := .inr ⟨hjs, by rw [← HY.out]; omega⟩
              clear hxy
              have hs3 := run_slice3 (P := Tryz.prog) elI g 0 k cap j (by omega)
              have hsl := run_slice_low (P := Tryz.prog) elI g 0 k cap j (by omega)
              have HH := Lib.hid (And.intro h1x h2x)
              clear h1x h2x
              go_wp2_with fail
              go_region_law (first
                | (refine stepx_append elI rfl (.tmp 33) (.tmp 36) rfl _ _ 1 _ rfl (HL.out _) (dropAt g 0 j cap 1) (k - j) (cap - j) ((S.drop j).map (Value.int .i64)) rfl (by rw [List.length_map, List.length_drop, hSl.out, Nat.mul_one]) (HC.out.2 _ (by first | exact grown_alloc _ _ | exact grown_tr (grown_alloc _ _) (grown_drew _)) _) (si_one _) (by omega) (by unfold maxLen; omega) (by simp) ?_; intro v3 w3 ho3 hg3 hnil3 hat3; have hgw : wr.grownBy w3 none := grown_new (by first | exact grown_alloc _ _ | exact grown_tr (grown_alloc _ _) (grown_drew _)) hg3 (by intro q hq; cases hq; exact Nat.le_refl _))
                | (refine stepx_grows elI rfl (.tmp 31) (.tmp 37) rfl (some ⟨g, 0, none⟩) j j ((S.take j).map (Value.int .i64)) rfl (fun h => by cases h) (by rw [List.length_map, List.length_take, hSl.out]; omega) (fun b hb => by cases hb; exact HC.out.1 _ hgw _) _ _ (1 + (k - j)) _ rfl ho3 (by omega) (si_one (x :: S.drop j)) (by omega) (by unfold maxLen; omega) (by omega) ?_; intro v4 w4 ho4 hg4))
              all_goals go_wp2_with fail
              all_goals go_roundw
              case rel =>
                obtain ⟨hts, hS, hown, hg⟩ := HX.out
                have hs1 := hgw.size
                have hs2 := hg.size
                exact ⟨k + 1, by omega, by go_num, si_fin hts hS HH.out.1 HH.out.2 ho4 (by simp) (by omega) (by omega), grown_tr hg (grown_tr hgw hg4)⟩
              case measure => simp [intOf]; omega
    · have hlt' : ¬ (k : Int) < l.length := by omega
      obtain rfl : k = l.length := by omega
      rw [List.take_length] at hown
      have HX := Lib.hid (And.intro hown hg)
      clear hown hg
      go_wp2_with fail
      go_ret
      exact ⟨_, rfl, HX.out.1, HX.out.2⟩
end Go.Proofs.YtcbkalppclilfaaGreat
