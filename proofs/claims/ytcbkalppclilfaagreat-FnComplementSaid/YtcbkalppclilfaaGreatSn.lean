/- impl.seen over a complement, without weights. -/
import Derived.Test.YtcbkalppclilfaaGreatCm
import Derived.Test.YtcbkalppclilfaaGreatEr
namespace Go.Proofs.YtcbkalppclilfaaGreat
open Go.MapKept Go.RowKit

def seenB (d : Bool) (u v : Int) : Bool := d || !decide (v < u)
def seenRow (d : Bool) (u : Int) (l : List Int) : List E3 := (l.filter (seenB d u)).map (fun v => (u, v, 0))
def seenE (d : Bool) (f : Int → List Int) (us : List Int) : List E3 := us.flatMap (fun u => seenRow d u (srt (f u)))
theorem seenE_snoc (d : Bool) (f : Int → List Int) (us : List Int) (u : Int) : seenE d f (us ++ [u]) = seenE d f us ++ seenRow d u (srt (f u)) := by simp [seenE]
theorem seenRow_take {d : Bool} {u : Int} {l : List Int} {m : Nat} (hm : m < l.length) : seenRow d u (l.take (m + 1)) = seenRow d u (l.take m) ++ if seenB d u l[m] then [(u, l[m], 0)] else [] := by
  unfold seenRow
  rw [nf_take hm, List.map_append]
  split <;> rfl
theorem seenRow_len (d : Bool) (u : Int) (l : List Int) : (seenRow d u l).length ≤ l.length := by
  unfold seenRow
  rw [List.length_map]
  exact List.length_filter_le _ _
theorem seenE_len {d : Bool} {f : Int → List Int} : ∀ {us : List Int}, (∀ x ∈ us, (f x).length ≤ 1000) → (seenE d f us).length ≤ us.length * 1000
  | [], _ => Nat.zero_le _
  | u :: us, h => by
    have h1 := seenE_len (d := d) (f := f) (us := us) (fun x hx => h x (by simp [hx]))
    have h2 := seenRow_len d u (srt (f u))
    have h3 := h u (by simp)
    rw [length_srt] at h2
    have e : seenE d f (u :: us) = seenRow d u (srt (f u)) ++ seenE d f us := by simp [seenE]
    rw [e, List.length_append, List.length_cons]
    omega

def SeenPost (d : Bool) (ids : List Int) (E : List E3) (w : World) (e : Ending) (w' : World) : Prop := ∃ vn ve, e = .returned (.agg #[.bool d, vn, ve]) ∧ w'.ownsRow w.heap.size ntT 1 vn ids.length (ids.map (Value.int .i64)) ∧ w'.ownsRow w.heap.size edgT 3 ve E.length (edgeCells E) ∧ w.grownBy w' none
def SnRel (d : Bool) (ids : List Int) (f : Int → List Int) (B g : Nat) (vn : Value) (w5 : World) (i : Value) (wr : World) : Prop :=
  ∃ (k : Nat) (ve : Value), k ≤ ids.length ∧ i = .int .i64 k ∧ GBox wr B g d vn ve ids (seenE d f (ids.take k)) ∧ w5.grownBy wr none
def SnIn (d : Bool) (ids : List Int) (E0 : List E3) (u : Int) (N : List Int) (lv : Value) (B g : Nat) (vn : Value) (w5 : World) (i : Value) (wr : World) : Prop :=
  ∃ (m : Nat) (ve : Value), m ≤ N.length ∧ i = .int .i64 m ∧ GBox wr B g d vn ve ids (E0 ++ seenRow d u (N.take m)) ∧ wr.ownsRow B ntT 1 lv N.length (N.map (Value.int .i64)) ∧ w5.grownBy wr none

theorem nil_func (W : World) : (binOp .neq 83 .nilFunc .nilFunc).run Tryz.prog W = .ok (.bool false) W := by kernel_rfl
set_option maxHeartbeats 4000000 in
set_option maxRecDepth 100000 in
theorem seen_cmd {p0 : Nat} {ids : List Int} {f : Int → List Int} {d : Bool} {w : World} (hasc : ids.Pairwise (· < ·)) (hl : ids.length ≤ 1000) (hfl : ∀ x ∈ ids, (f x).length ≤ 1000)
    (hnodes : ∀ W, w.grownBy W none → Calls Tryz.prog 134 #[dirV p0] W (ItHand ids W))
    (hfrom : ∀ W x, w.grownBy W none → x ∈ ids → Calls Tryz.prog 127 #[cmV dirT p0, .int .i64 x] W (ItHand (f x) W)) :
    Calls Tryz.prog 23 #[.iface cmT (cmV dirT p0), .bool d, .nilFunc] w (SeenPost d ids (seenE d f ids) w) := by
  have hsrt : srt ids = ids := (srt_eq (hasc.imp (fun h => by omega)) (.refl _)).symm
  have HA := Lib.hid (And.intro hfl (And.intro hfrom hsrt))
  clear hfl hfrom hasc hsrt
  obtain ⟨w5, hw5⟩ : ∃ w5, w5 = w.alloc (.cells #[.bool false, .slice none 0 0, .slice none 0 0] grT) := ⟨_, rfl⟩
  have hn5 := hnodes w5 (by rw [hw5]; exact grown_alloc _ _)
  have HW5 : Hid (w.grownBy w5 none ∧ w5.heap.size = w.heap.size + 1 ∧ w5.heap[w.heap.size]? = some (.cells #[.bool false, .slice none 0 0, .slice none 0 0] grT)) := Lib.hid (by rw [hw5]; exact ⟨grown_alloc _ _, by simp, heap_alloc_new w _⟩)
  rw [hw5] at hn5
  clear hnodes
  go_enter Tryz.func23, Tryz.ntmps23
  go_wp2_with (first
    | (go_at_call 134; refine hn5.mono ?_; intro e w6 hp; obtain ⟨it, rfl, ⟨q, hq, hit⟩, hg6⟩ := hp; clear hn5; have hit6 := hit w6 (grown_refl _))
    | (go_at_call 43; refine hit6.mono ?_; intro e w7 hp; obtain ⟨vn, rfl, hon, hg7⟩ := hp; obtain ⟨an, cn, rfl⟩ := own_slice hon))
  rw [← hw5] at hq hg6
  have HS : Hid (SnRel d ids f w5.heap.size w7.heap.size (.slice an ids.length cn) w5 (.int .i64 0) (w7.alloc (.cells #[.bool d, .slice an ids.length cn, .slice none 0 0] grT))) := by
    have h57 : w5.grownBy w7 none := grown_new hg6 hg7 (fun b hb => by cases hb; exact hq)
    have hon' := own_mono hon hg6.size
    rw [HA.out.2.2] at hon'
    exact Lib.hid ⟨0, _, Nat.zero_le _, rfl, ⟨heap_alloc_new w7 _, own_new hon' (grown_alloc _ _), ⟨rfl, .inl ⟨rfl, rfl⟩⟩⟩, grown_tr h57 (grown_alloc _ _)⟩
  obtain ⟨g, hg⟩ : ∃ g, g = w7.heap.size := ⟨_, rfl⟩
  obtain ⟨w8, hw8⟩ : ∃ w8, w8 = w7.alloc (.cells #[.bool d, .slice an ids.length cn, .slice none 0 0] grT) := ⟨_, rfl⟩
  have HG : Hid (w5.heap.size ≤ g ∧ w8.cell? ⟨g, 1, none⟩ = some (.slice an ids.length cn)) := Lib.hid ⟨by have := hg6.size; have := hg7.size; omega, by rw [hw8, hg, cell_at (heap_alloc_new w7 _)]; rfl⟩
  rw [← hg, ← hw8] at HS
  rw [← hw8, ← hg]
  obtain ⟨B, hB⟩ : ∃ B, B = w5.heap.size := ⟨_, rfl⟩
  rw [← hB] at HS HG
  have HBB := Lib.hid hB
  clear hw8 hg hon hg7 hg6 hq hit6 hit hw5 hB
  go_loopw [23] (fun i wr => SnRel d ids f B g (.slice an ids.length cn) w5 i wr) (fun i _ => ids.length - (intOf i).toNat)
  case atStart => exact HS.out
  case round =>
    clear HS
    obtain ⟨k, ve, hk, rfl, hb, hg⟩ := hrel
    obtain ⟨av, cv, rfl⟩ := own_slice hb.edg
    by_cases hlt : k < ids.length
    · have hlt' : (k : Int) < ids.length := by omega
      obtain ⟨gn, cnn, e, -, hgn, -⟩ := own_row hb.nod (by omega)
      simp only [Value.slice.injEq, true_and] at e
      obtain ⟨rfl, rfl⟩ := e
      have c0 : wr.cell? ⟨gn, k, none⟩ = some (.int .i64 ids[k]) := by
        rw [hb.nod.cellAt k (by omega)]
        simp [hlt]
      have hts : ids.take (k + 1) = ids.take k ++ [ids[k]] := List.take_succ_eq_append_getElem hlt
      have hui : ids[k] ∈ ids := List.getElem_mem hlt
      obtain ⟨u, hu⟩ : ∃ u, u = ids[k] := ⟨_, rfl⟩
      rw [← hu] at c0 hts hui
      have hfr := HA.out.2.1 wr u (grown_tr HW5.out.1 hg) hui
      have hfl := HA.out.1 u hui
      have hel : (seenE d f (ids.take k)).length ≤ 1000000 := Nat.le_trans (seenE_len (fun x hx => HA.out.1 x (List.mem_of_mem_take hx))) (by rw [List.length_take]; omega)
      have hse : seenE d f (ids.take (k + 1)) = seenE d f (ids.take k) ++ seenRow d u (srt (f u)) := by rw [hts, seenE_snoc]
      obtain ⟨E0, hE0⟩ : ∃ E0, E0 = seenE d f (ids.take k) := ⟨_, rfl⟩
      rw [← hE0] at hb hel hse
      have HX := Lib.hid (And.intro hb (And.intro hg hse))
      clear hb hg hse hE0 hts hui hu
      go_wp2_with (first
        | (go_at_call 127; refine hfr.mono ?_; intro e w2 hp; obtain ⟨it2, rfl, ⟨q, hq, hit⟩, hg2⟩ := hp; have hit2 := hit w2 (grown_refl _); clear hfr)
        | (go_at_call 43; refine hit2.mono ?_; intro e w3 hp; obtain ⟨lv, rfl, hol, hg3⟩ := hp; obtain ⟨al, cl, rfl⟩ := own_slice hol))
      have hNl : (srt (f u)).length = (f u).length := length_srt _
      have HI0 : Hid (SnIn d ids E0 u (srt (f u)) (.slice al (f u).length cl) B g (.slice (some ⟨gn, 0, none⟩) ids.length cn) w5 (.int .i64 0) w3) := by
        obtain ⟨hb, hg, hse⟩ := HX.out
        have h23 : wr.grownBy w3 none := grown_new hg2 hg3 (fun b hb' => by cases hb'; exact hq)
        have hbw : B ≤ w2.heap.size := by have := HBB.out; have := hg.size; have := hg2.size; omega
        refine Lib.hid ⟨0, .slice av E0.length cv, Nat.zero_le _, rfl, ?_, ?_, grown_tr hg h23⟩
        · have e : E0 ++ seenRow d u ((srt (f u)).take 0) = E0 := by simp [seenRow]
          rw [e]; exact hb.grown h23
        · rw [hNl]; exact own_mono hol hbw
      have HSE := Lib.hid HX.out.2.2
      obtain ⟨N, hN⟩ : ∃ N, N = srt (f u) := ⟨_, rfl⟩
      obtain ⟨n, hn⟩ : ∃ n, n = (f u).length := ⟨_, rfl⟩
      rw [← hN] at HI0 HSE hNl
      rw [← hn] at HI0 hNl hfl ⊢
      have HNL := Lib.hid hNl
      clear hN hn hol hg2 hg3 hq hit2 hit HX c0 hNl hgn
      go_wp2_with fail
      go_loopw [32] (fun i wr => SnIn d ids E0 u N (.slice al n cl) B g (.slice (some ⟨gn, 0, none⟩) ids.length cn) w5 i wr) (fun i _ => n - (intOf i).toNat)
      case atStart => exact HI0.out
      case round =>
        clear HI0
        obtain ⟨m, ve2, hm, rfl, hb, hol, hg⟩ := hrel
        obtain ⟨av2, cv2, rfl⟩ := own_slice hb.edg
        have hNl := HNL.out
        by_cases hmlt : m < n
        · have hmlt' : (m : Int) < n := by omega
          have hmN : m < N.length := by omega
          obtain ⟨gl, cll, e, -, -, -⟩ := own_row hol (by omega)
          simp only [Value.slice.injEq] at e
          obtain ⟨rfl, -, rfl⟩ := e
          have c0 : wr.cell? ⟨gl, m, none⟩ = some (.int .i64 N[m]) := by
            have hol2 := hol
            rw [hNl] at hol2
            rw [hol2.cellAt m (by omega)]
            simp [hmN]
          have hsr := seenRow_take (d := d) (u := u) hmN
          obtain ⟨x, hx⟩ : ∃ x, x = N[m] := ⟨_, rfl⟩
          rw [← hx] at c0 hsr
          have hrl := seenRow_len d u (N.take m)
          obtain ⟨R, hR⟩ : ∃ R, R = seenRow d u (N.take m) := ⟨_, rfl⟩
          rw [← hR] at hb hsr hrl
          have hrl2 : R.length ≤ 1000 := by rw [List.length_take] at hrl; omega
          obtain ⟨E, hE⟩ : ∃ E, E = E0 ++ R := ⟨_, rfl⟩
          have hEl : E.length ≤ 1001000 := by rw [hE, List.length_append]; omega
          rw [← hE] at hb
          have HSR := Lib.hid (And.intro hsr hE)
          have hc2 : ∀ O, (wr.alloc O).cell? ⟨g, 2, none⟩ = some (.slice av2 E.length cv2) := fun O => (hb.grown (grown_alloc wr O)).cells.2.2
          have HB := Lib.hid (And.intro hb (And.intro hol hg))
          clear hb hol hg hsr hE hR hx hrl hmN hNl
          cases d
          · by_cases hxu : x < u
            · have hd1 : decide (x < u) = true := decide_eq_true hxu
              have HXU := Lib.hid hxu
              clear hxu hc2
              go_wp2_with fail
              go_roundw
              case rel =>
                obtain ⟨hb, hol, hg⟩ := HB.out
                obtain ⟨hsr, hE⟩ := HSR.out
                refine ⟨m + 1, .slice av2 E.length cv2, by have := HNL.out; omega, by go_num, ?_, hol, hg⟩
                have hsb : seenB false u x = false := by unfold seenB; rw [decide_eq_true HXU.out]; rfl
                rw [hsr, hsb, if_neg (by simp), List.append_nil, ← hE]
                exact hb
              case measure => simp [intOf]; omega
            · have hd1 : decide (x < u) = false := decide_eq_false hxu
              have hsb : seenB false u x = true := by unfold seenB; rw [hd1]; rfl
              have HSB := Lib.hid hsb
              clear hxu hsb
              have hnf := nil_func
              have HO : Hid (((wr.alloc (.cells #[.int .i64 u, .int .i64 x, .int .i64 0] edgT)).alloc (.cells #[.int .i64 u, .int .i64 x, .int .i64 0] edgT)).ownsRow B edgT 3 (.slice av2 E.length cv2) E.length (edgeCells E)) := Lib.hid (own_new HB.out.1.edg (grown_tr (grown_alloc _ _) (grown_alloc _ _)))
              have HO2 : Hid (((wr.alloc (.cells #[.int .i64 u, .int .i64 x, .int .i64 0] edgT)).alloc (.cells #[.int .i64 u, .int .i64 x, .int .i64 0] edgT)).heap[wr.heap.size + 1]? = _) := Lib.hid (heap_alloc2 wr (.cells #[.int .i64 u, .int .i64 x, .int .i64 0] edgT) (.cells #[.int .i64 u, .int .i64 x, .int .i64 0] edgT))
              go_wp2_with (at_builtin; refine wpx_app1 elE rfl (.tmp 59) (.tmp 61) rfl B (.slice av2 E.length cv2) E.length _ rfl HO.out (wr.heap.size + 1) #[.int .i64 u, .int .i64 x, .int .i64 0] HO2.out (wr.heap.size + 2) (by simp) 1 rfl rfl (by simp [Value.oneCell']) (by omega) (by unfold maxLen; omega) (by have := HB.out.2.2.size; have := HBB.out; omega) ?_; intro g5 c5 w9 ho5 hg5 hat5 hlt5 hsz5; obtain ⟨hb6, hf6, u6, hc6⟩ := (HB.out.1.grown (grown_tr (grown_alloc _ _) (grown_alloc _ _))).append hg5 (own_edge ho5 rfl); replace hb6 := Lib.hid hb6)
              go_roundw
              case rel =>
                obtain ⟨hb, hol, hg⟩ := HB.out
                obtain ⟨hsr, hE⟩ := HSR.out
                have h2a : wr.grownBy ((wr.alloc (.cells #[.int .i64 u, .int .i64 x, .int .i64 0] edgT)).alloc (.cells #[.int .i64 u, .int .i64 x, .int .i64 0] edgT)) none := grown_tr (grown_alloc _ _) (grown_alloc _ _)
                have ho2 := own_new hol h2a
                have hb2 := hb.grown h2a
                have ho9 := ho2.kept hg5 (row_ne_row ho2 hb2.edg (by decide))
                have hb9 := grown_block hg5 hb2.blk (row_ne_cells hb2.edg hb2.blk (by decide))
                refine ⟨m + 1, .slice (some ⟨g5, 0, none⟩) (E.length + 1) c5, by have := HNL.out; omega, by go_num, ?_, ho9.kept (grown_setCell w9 g 2 _) (.inr (row_ne_cells ho9 hb9 (by decide)).symm), ?_⟩
                · rw [hsr, HSB.out, if_pos rfl, ← List.append_assoc, ← hE]
                  exact hb6.out
                · exact grown_new (grown_new (grown_tr hg h2a) hg5 (fun b hb' => by have := (hb2.edg.lt b hb').1; have := HBB.out; omega)) (grown_setCell w9 g 2 _) (fun b hb' => by cases hb'; have := HG.out.1; have := HBB.out; omega)
              case measure => simp [intOf]; omega
          · have hsb : seenB true u x = true := rfl
            have HSB := Lib.hid hsb
            clear hsb
            have hnf := nil_func
            have HO : Hid (((wr.alloc (.cells #[.int .i64 u, .int .i64 x, .int .i64 0] edgT)).alloc (.cells #[.int .i64 u, .int .i64 x, .int .i64 0] edgT)).ownsRow B edgT 3 (.slice av2 E.length cv2) E.length (edgeCells E)) := Lib.hid (own_new HB.out.1.edg (grown_tr (grown_alloc _ _) (grown_alloc _ _)))
            have HO2 : Hid (((wr.alloc (.cells #[.int .i64 u, .int .i64 x, .int .i64 0] edgT)).alloc (.cells #[.int .i64 u, .int .i64 x, .int .i64 0] edgT)).heap[wr.heap.size + 1]? = _) := Lib.hid (heap_alloc2 wr (.cells #[.int .i64 u, .int .i64 x, .int .i64 0] edgT) (.cells #[.int .i64 u, .int .i64 x, .int .i64 0] edgT))
            go_wp2_with (at_builtin; refine wpx_app1 elE rfl (.tmp 59) (.tmp 61) rfl B (.slice av2 E.length cv2) E.length _ rfl HO.out (wr.heap.size + 1) #[.int .i64 u, .int .i64 x, .int .i64 0] HO2.out (wr.heap.size + 2) (by simp) 1 rfl rfl (by simp [Value.oneCell']) (by omega) (by unfold maxLen; omega) (by have := HB.out.2.2.size; have := HBB.out; omega) ?_; intro g5 c5 w9 ho5 hg5 hat5 hlt5 hsz5; obtain ⟨hb6, hf6, u6, hc6⟩ := (HB.out.1.grown (grown_tr (grown_alloc _ _) (grown_alloc _ _))).append hg5 (own_edge ho5 rfl); replace hb6 := Lib.hid hb6)
            go_roundw
            case rel =>
              obtain ⟨hb, hol, hg⟩ := HB.out
              obtain ⟨hsr, hE⟩ := HSR.out
              have h2a : wr.grownBy ((wr.alloc (.cells #[.int .i64 u, .int .i64 x, .int .i64 0] edgT)).alloc (.cells #[.int .i64 u, .int .i64 x, .int .i64 0] edgT)) none := grown_tr (grown_alloc _ _) (grown_alloc _ _)
              have ho2 := own_new hol h2a
              have hb2 := hb.grown h2a
              have ho9 := ho2.kept hg5 (row_ne_row ho2 hb2.edg (by decide))
              have hb9 := grown_block hg5 hb2.blk (row_ne_cells hb2.edg hb2.blk (by decide))
              refine ⟨m + 1, .slice (some ⟨g5, 0, none⟩) (E.length + 1) c5, by have := HNL.out; omega, by go_num, ?_, ho9.kept (grown_setCell w9 g 2 _) (.inr (row_ne_cells ho9 hb9 (by decide)).symm), ?_⟩
              · rw [hsr, HSB.out, if_pos rfl, ← List.append_assoc, ← hE]
                exact hb6.out
              · exact grown_new (grown_new (grown_tr hg h2a) hg5 (fun b hb' => by have := (hb2.edg.lt b hb').1; have := HBB.out; omega)) (grown_setCell w9 g 2 _) (fun b hb' => by cases hb'; have := HG.out.1; have := HBB.out; omega)
            case measure => simp [intOf]; omega
        · have hmlt' : ¬ (m : Int) < n := by omega
          have hmN : N.take m = N := List.take_of_length_le (by omega)
          rw [hmN] at hb
          have HB := Lib.hid (And.intro hb hg)
          clear hb hol hg hmN hNl
          go_wp2_with fail
          go_roundw
          case rel =>
            obtain ⟨hb, hg⟩ := HB.out
            refine ⟨k + 1, .slice av2 (E0 ++ seenRow d u N).length cv2, by omega, by go_num, ?_, hg⟩
            rw [HSE.out]
            exact hb
          case measure => simp [intOf]; omega
    · have hlt' : ¬ (k : Int) < ids.length := by omega
      have hkl : k = ids.length := by omega
      rw [hkl, List.take_length] at hb
      have hcs := hb.cells
      obtain ⟨d0, d1, d2⟩ := hcs
      have hres := grown_block hg HW5.out.2.2 (by simp)
      have hf0 : ∀ j, wr.frozen? ⟨w.heap.size, j, none⟩ = false := fun j => free_at hres
      have r0 : wr.cell? ⟨w.heap.size, 0, none⟩ = some (.bool false) := cell_at hres
      have r1 : wr.cell? ⟨w.heap.size, 1, none⟩ = some (.slice none 0 0) := cell_at hres
      have r2 : wr.cell? ⟨w.heap.size, 2, none⟩ = some (.slice none 0 0) := cell_at hres
      have HB := Lib.hid (And.intro hb hg)
      have HR := Lib.hid hres
      clear hb hg hres hkl
      go_wp2_with fail
      obtain ⟨hb, hg⟩ := HB.out
      obtain ⟨h1, h2, h3⟩ := HW5.out
      have k3 := block_set (block_set (block_set HR.out 0 (.bool d)) 1 (.slice an ids.length cn)) 2 (.slice av (seenE d f ids).length cv)
      have e0 : ((((wr.setCell ⟨w.heap.size, 0, none⟩ (.bool d)).setCell ⟨w.heap.size, 1, none⟩ (.slice an ids.length cn)).setCell ⟨w.heap.size, 2, none⟩ (.slice av (seenE d f ids).length cv))).cell? ⟨w.heap.size, 0, none⟩ = some (.bool d) := cell_at k3
      have e1 : ((((wr.setCell ⟨w.heap.size, 0, none⟩ (.bool d)).setCell ⟨w.heap.size, 1, none⟩ (.slice an ids.length cn)).setCell ⟨w.heap.size, 2, none⟩ (.slice av (seenE d f ids).length cv))).cell? ⟨w.heap.size, 1, none⟩ = some (.slice an ids.length cn) := cell_at k3
      have e2 : ((((wr.setCell ⟨w.heap.size, 0, none⟩ (.bool d)).setCell ⟨w.heap.size, 1, none⟩ (.slice an ids.length cn)).setCell ⟨w.heap.size, 2, none⟩ (.slice av (seenE d f ids).length cv))).cell? ⟨w.heap.size, 2, none⟩ = some (.slice av (seenE d f ids).length cv) := cell_at k3
      have hgF := grown_row (grown_row (grown_setCell wr w.heap.size 0 (.bool d)) (grown_setCell _ w.heap.size 1 (.slice an ids.length cn)) (fun b hb' => by cases hb'; exact .inl rfl)) (grown_setCell _ w.heap.size 2 (.slice av (seenE d f ids).length cv)) (fun b hb' => by cases hb'; exact .inl rfl)
      have hBw : w.heap.size < B := by have := HBB.out; omega
      have hn1 : ∀ {v : Value} {n s : Nat} {e : TypeId} {xs : List Value}, wr.ownsRow B e s v n xs → v.ownBlock = none ∨ v.ownBlock ≠ some w.heap.size := fun ho => .inr (fun e => by have := (ho.lt _ e).1; omega)
      refine bodyPost_ret (v := .agg #[.bool d, .slice an ids.length cn, .slice av (seenE d f ids).length cv]) (by simp [results, Tryz.results23, go_sem, e0, e1, e2]) rfl ⟨_, _, rfl, own_mono (hb.nod.kept hgF (hn1 hb.nod)) (Nat.le_of_lt hBw), own_mono (hb.edg.kept hgF (hn1 hb.edg)) (Nat.le_of_lt hBw), ?_⟩
      exact grown_new (grown_tr h1 hg) hgF (fun b hb' => by cases hb'; exact Nat.le_refl _)
set_option maxHeartbeats 4000000 in
set_option maxRecDepth 100000 in
theorem seen_cmu {p0 : Nat} {ids : List Int} {f : Int → List Int} {d : Bool} {w : World} (hasc : ids.Pairwise (· < ·)) (hl : ids.length ≤ 1000) (hfl : ∀ x ∈ ids, (f x).length ≤ 1000)
    (hnodes : ∀ W, w.grownBy W none → Calls Tryz.prog 145 #[dirV p0] W (ItHand ids W))
    (hfrom : ∀ W x, w.grownBy W none → x ∈ ids → Calls Tryz.prog 127 #[cmV undT p0, .int .i64 x] W (ItHand (f x) W)) :
    Calls Tryz.prog 23 #[.iface cmT (cmV undT p0), .bool d, .nilFunc] w (SeenPost d ids (seenE d f ids) w) := by
  have hsrt : srt ids = ids := (srt_eq (hasc.imp (fun h => by omega)) (.refl _)).symm
  have HA := Lib.hid (And.intro hfl (And.intro hfrom hsrt))
  clear hfl hfrom hasc hsrt
  obtain ⟨w5, hw5⟩ : ∃ w5, w5 = w.alloc (.cells #[.bool false, .slice none 0 0, .slice none 0 0] grT) := ⟨_, rfl⟩
  have hn5 := hnodes w5 (by rw [hw5]; exact grown_alloc _ _)
  have HW5 : Hid (w.grownBy w5 none ∧ w5.heap.size = w.heap.size + 1 ∧ w5.heap[w.heap.size]? = some (.cells #[.bool false, .slice none 0 0, .slice none 0 0] grT)) := Lib.hid (by rw [hw5]; exact ⟨grown_alloc _ _, by simp, heap_alloc_new w _⟩)
  rw [hw5] at hn5
  clear hnodes
  go_enter Tryz.func23, Tryz.ntmps23
  go_wp2_with (first
    | (go_at_call 145; refine hn5.mono ?_; intro e w6 hp; obtain ⟨it, rfl, ⟨q, hq, hit⟩, hg6⟩ := hp; clear hn5; have hit6 := hit w6 (grown_refl _))
    | (go_at_call 43; refine hit6.mono ?_; intro e w7 hp; obtain ⟨vn, rfl, hon, hg7⟩ := hp; obtain ⟨an, cn, rfl⟩ := own_slice hon))
  rw [← hw5] at hq hg6
  have HS : Hid (SnRel d ids f w5.heap.size w7.heap.size (.slice an ids.length cn) w5 (.int .i64 0) (w7.alloc (.cells #[.bool d, .slice an ids.length cn, .slice none 0 0] grT))) := by
    have h57 : w5.grownBy w7 none := grown_new hg6 hg7 (fun b hb => by cases hb; exact hq)
    have hon' := own_mono hon hg6.size
    rw [HA.out.2.2] at hon'
    exact Lib.hid ⟨0, _, Nat.zero_le _, rfl, ⟨heap_alloc_new w7 _, own_new hon' (grown_alloc _ _), ⟨rfl, .inl ⟨rfl, rfl⟩⟩⟩, grown_tr h57 (grown_alloc _ _)⟩
  obtain ⟨g, hg⟩ : ∃ g, g = w7.heap.size := ⟨_, rfl⟩
  obtain ⟨w8, hw8⟩ : ∃ w8, w8 = w7.alloc (.cells #[.bool d, .slice an ids.length cn, .slice none 0 0] grT) := ⟨_, rfl⟩
  have HG : Hid (w5.heap.size ≤ g ∧ w8.cell? ⟨g, 1, none⟩ = some (.slice an ids.length cn)) := Lib.hid ⟨by have := hg6.size; have := hg7.size; omega, by rw [hw8, hg, cell_at (heap_alloc_new w7 _)]; rfl⟩
  rw [← hg, ← hw8] at HS
  rw [← hw8, ← hg]
  obtain ⟨B, hB⟩ : ∃ B, B = w5.heap.size := ⟨_, rfl⟩
  rw [← hB] at HS HG
  have HBB := Lib.hid hB
  clear hw8 hg hon hg7 hg6 hq hit6 hit hw5 hB
  go_loopw [23] (fun i wr => SnRel d ids f B g (.slice an ids.length cn) w5 i wr) (fun i _ => ids.length - (intOf i).toNat)
  case atStart => exact HS.out
  case round =>
    clear HS
    obtain ⟨k, ve, hk, rfl, hb, hg⟩ := hrel
    obtain ⟨av, cv, rfl⟩ := own_slice hb.edg
    by_cases hlt : k < ids.length
    · have hlt' : (k : Int) < ids.length := by omega
      obtain ⟨gn, cnn, e, -, hgn, -⟩ := own_row hb.nod (by omega)
      simp only [Value.slice.injEq, true_and] at e
      obtain ⟨rfl, rfl⟩ := e
      have c0 : wr.cell? ⟨gn, k, none⟩ = some (.int .i64 ids[k]) := by
        rw [hb.nod.cellAt k (by omega)]
        simp [hlt]
      have hts : ids.take (k + 1) = ids.take k ++ [ids[k]] := List.take_succ_eq_append_getElem hlt
      have hui : ids[k] ∈ ids := List.getElem_mem hlt
      obtain ⟨u, hu⟩ : ∃ u, u = ids[k] := ⟨_, rfl⟩
      rw [← hu] at c0 hts hui
      have hfr := HA.out.2.1 wr u (grown_tr HW5.out.1 hg) hui
      have hfl := HA.out.1 u hui
      have hel : (seenE d f (ids.take k)).length ≤ 1000000 := Nat.le_trans (seenE_len (fun x hx => HA.out.1 x (List.mem_of_mem_take hx))) (by rw [List.length_take]; omega)
      have hse : seenE d f (ids.take (k + 1)) = seenE d f (ids.take k) ++ seenRow d u (srt (f u)) := by rw [hts, seenE_snoc]
      obtain ⟨E0, hE0⟩ : ∃ E0, E0 = seenE d f (ids.take k) := ⟨_, rfl⟩
      rw [← hE0] at hb hel hse
      have HX := Lib.hid (And.intro hb (And.intro hg hse))
      clear hb hg hse hE0 hts hui hu
      go_wp2_with (first
        | (go_at_call 127; refine hfr.mono ?_; intro e w2 hp; obtain ⟨it2, rfl, ⟨q, hq, hit⟩, hg2⟩ := hp; have hit2 := hit w2 (grown_refl _); clear hfr)
        | (go_at_call 43; refine hit2.mono ?_; intro e w3 hp; obtain ⟨lv, rfl, hol, hg3⟩ := hp; obtain ⟨al, cl, rfl⟩ := own_slice hol))
      have hNl : (srt (f u)).length = (f u).length := length_srt _
      have HI0 : Hid (SnIn d ids E0 u (srt (f u)) (.slice al (f u).length cl) B g (.slice (some ⟨gn, 0, none⟩) ids.length cn) w5 (.int .i64 0) w3) := by
        obtain ⟨hb, hg, hse⟩ := HX.out
        have h23 : wr.grownBy w3 none := grown_new hg2 hg3 (fun b hb' => by cases hb'; exact hq)
        have hbw : B ≤ w2.heap.size := by have := HBB.out; have := hg.size; have := hg2.size; omega
        refine Lib.hid ⟨0, .slice av E0.length cv, Nat.zero_le _, rfl, ?_, ?_, grown_tr hg h23⟩
        · have e : E0 ++ seenRow d u ((srt (f u)).take 0) = E0 := by simp [seenRow]
          rw [e]; exact hb.grown h23
        · rw [hNl]; exact own_mono hol hbw
      have HSE := Lib.hid HX.out.2.2
      obtain ⟨N, hN⟩ : ∃ N, N = srt (f u) := ⟨_, rfl⟩
      obtain ⟨n, hn⟩ : ∃ n, n = (f u).length := ⟨_, rfl⟩
      rw [← hN] at HI0 HSE hNl
      rw [← hn] at HI0 hNl hfl ⊢
      have HNL := Lib.hid hNl
      clear hN hn hol hg2 hg3 hq hit2 hit HX c0 hNl hgn
      go_wp2_with fail
      go_loopw [32] (fun i wr => SnIn d ids E0 u N (.slice al n cl) B g (.slice (some ⟨gn, 0, none⟩) ids.length cn) w5 i wr) (fun i _ => n - (intOf i).toNat)
      case atStart => exact HI0.out
      case round =>
        clear HI0
        obtain ⟨m, ve2, hm, rfl, hb, hol, hg⟩ := hrel
        obtain ⟨av2, cv2, rfl⟩ := own_slice hb.edg
        have hNl := HNL.out
        by_cases hmlt : m < n
        · have hmlt' : (m : Int) < n := by omega
          have hmN : m < N.length := by omega
          obtain ⟨gl, cll, e, -, -, -⟩ := own_row hol (by omega)
          simp only [Value.slice.injEq] at e
          obtain ⟨rfl, -, rfl⟩ := e
          have c0 : wr.cell? ⟨gl, m, none⟩ = some (.int .i64 N[m]) := by
            have hol2 := hol
            rw [hNl] at hol2
            rw [hol2.cellAt m (by omega)]
            simp [hmN]
          have hsr := seenRow_take (d := d) (u := u) hmN
          obtain ⟨x, hx⟩ : ∃ x, x = N[m] := ⟨_, rfl⟩
          rw [← hx] at c0 hsr
          have hrl := seenRow_len d u (N.take m)
          obtain ⟨R, hR⟩ : ∃ R, R = seenRow d u (N.take m) := ⟨_, rfl⟩
          rw [← hR] at hb hsr hrl
          have hrl2 : R.length ≤ 1000 := by rw [List.length_take] at hrl; omega
          obtain ⟨E, hE⟩ : ∃ E, E = E0 ++ R := ⟨_, rfl⟩
          have hEl : E.length ≤ 1001000 := by rw [hE, List.length_append]; omega
          rw [← hE] at hb
          have HSR := Lib.hid (And.intro hsr hE)
          have hc2 : ∀ O, (wr.alloc O).cell? ⟨g, 2, none⟩ = some (.slice av2 E.length cv2) := fun O => (hb.grown (grown_alloc wr O)).cells.2.2
          have HB := Lib.hid (And.intro hb (And.intro hol hg))
          clear hb hol hg hsr hE hR hx hrl hmN hNl
          cases d
          · by_cases hxu : x < u
            · have hd1 : decide (x < u) = true := decide_eq_true hxu
              have HXU := Lib.hid hxu
              clear hxu hc2
              go_wp2_with fail
              go_roundw
              case rel =>
                obtain ⟨hb, hol, hg⟩ := HB.out
                obtain ⟨hsr, hE⟩ := HSR.out
                refine ⟨m + 1, .slice av2 E.length cv2, by have := HNL.out; omega, by go_num, ?_, hol, hg⟩
                have hsb : seenB false u x = false := by unfold seenB; rw [decide_eq_true HXU.out]; rfl
                rw [hsr, hsb, if_neg (by simp), List.append_nil, ← hE]
                exact hb
              case measure => simp [intOf]; omega
            · have hd1 : decide (x < u) = false := decide_eq_false hxu
              have hsb : seenB false u x = true := by unfold seenB; rw [hd1]; rfl
              have HSB := Lib.hid hsb
              clear hxu hsb
              have hnf := nil_func
              have HO : Hid (((wr.alloc (.cells #[.int .i64 u, .int .i64 x, .int .i64 0] edgT)).alloc (.cells #[.int .i64 u, .int .i64 x, .int .i64 0] edgT)).ownsRow B edgT 3 (.slice av2 E.length cv2) E.length (edgeCells E)) := Lib.hid (own_new HB.out.1.edg (grown_tr (grown_alloc _ _) (grown_alloc _ _)))
              have HO2 : Hid (((wr.alloc (.cells #[.int .i64 u, .int .i64 x, .int .i64 0] edgT)).alloc (.cells #[.int .i64 u, .int .i64 x, .int .i64 0] edgT)).heap[wr.heap.size + 1]? = _) := Lib.hid (heap_alloc2 wr (.cells #[.int .i64 u, .int .i64 x, .int .i64 0] edgT) (.cells #[.int .i64 u, .int .i64 x, .int .i64 0] edgT))
              go_wp2_with (at_builtin; refine wpx_app1 elE rfl (.tmp 59) (.tmp 61) rfl B (.slice av2 E.length cv2) E.length _ rfl HO.out (wr.heap.size + 1) #[.int .i64 u, .int .i64 x, .int .i64 0] HO2.out (wr.heap.size + 2) (by simp) 1 rfl rfl (by simp [Value.oneCell']) (by omega) (by unfold maxLen; omega) (by have := HB.out.2.2.size; have := HBB.out; omega) ?_; intro g5 c5 w9 ho5 hg5 hat5 hlt5 hsz5; obtain ⟨hb6, hf6, u6, hc6⟩ := (HB.out.1.grown (grown_tr (grown_alloc _ _) (grown_alloc _ _))).append hg5 (own_edge ho5 rfl); replace hb6 := Lib.hid hb6)
              go_roundw
              case rel =>
                obtain ⟨hb, hol, hg⟩ := HB.out
                obtain ⟨hsr, hE⟩ := HSR.out
                have h2a : wr.grownBy ((wr.alloc (.cells #[.int .i64 u, .int .i64 x, .int .i64 0] edgT)).alloc (.cells #[.int .i64 u, .int .i64 x, .int .i64 0] edgT)) none := grown_tr (grown_alloc _ _) (grown_alloc _ _)
                have ho2 := own_new hol h2a
                have hb2 := hb.grown h2a
                have ho9 := ho2.kept hg5 (row_ne_row ho2 hb2.edg (by decide))
                have hb9 := grown_block hg5 hb2.blk (row_ne_cells hb2.edg hb2.blk (by decide))
                refine ⟨m + 1, .slice (some ⟨g5, 0, none⟩) (E.length + 1) c5, by have := HNL.out; omega, by go_num, ?_, ho9.kept (grown_setCell w9 g 2 _) (.inr (row_ne_cells ho9 hb9 (by decide)).symm), ?_⟩
                · rw [hsr, HSB.out, if_pos rfl, ← List.append_assoc, ← hE]
                  exact hb6.out
                · exact grown_new (grown_new (grown_tr hg h2a) hg5 (fun b hb' => by have := (hb2.edg.lt b hb').1; have := HBB.out; omega)) (grown_setCell w9 g 2 _) (fun b hb' => by cases hb'; have := HG.out.1; have := HBB.out; omega)
              case measure => simp [intOf]; omega
          · have hsb : seenB true u x = true := rfl
            have HSB := Lib.hid hsb
            clear hsb
            have hnf := nil_func
            have HO : Hid (((wr.alloc (.cells #[.int .i64 u, .int .i64 x, .int .i64 0] edgT)).alloc (.cells #[.int .i64 u, .int .i64 x, .int .i64 0] edgT)).ownsRow B edgT 3 (.slice av2 E.length cv2) E.length (edgeCells E)) := Lib.hid (own_new HB.out.1.edg (grown_tr (grown_alloc _ _) (grown_alloc _ _)))
            have HO2 : Hid (((wr.alloc (.cells #[.int .i64 u, .int .i64 x, .int .i64 0] edgT)).alloc (.cells #[.int .i64 u, .int .i64 x, .int .i64 0] edgT)).heap[wr.heap.size + 1]? = _) := Lib.hid (heap_alloc2 wr (.cells #[.int .i64 u, .int .i64 x, .int .i64 0] edgT) (.cells #[.int .i64 u, .int .i64 x, .int .i64 0] edgT))
            go_wp2_with (at_builtin; refine wpx_app1 elE rfl (.tmp 59) (.tmp 61) rfl B (.slice av2 E.length cv2) E.length _ rfl HO.out (wr.heap.size + 1) #[.int .i64 u, .int .i64 x, .int .i64 0] HO2.out (wr.heap.size + 2) (by simp) 1 rfl rfl (by simp [Value.oneCell']) (by omega) (by unfold maxLen; omega) (by have := HB.out.2.2.size; have := HBB.out; omega) ?_; intro g5 c5 w9 ho5 hg5 hat5 hlt5 hsz5; obtain ⟨hb6, hf6, u6, hc6⟩ := (HB.out.1.grown (grown_tr (grown_alloc _ _) (grown_alloc _ _))).append hg5 (own_edge ho5 rfl); replace hb6 := Lib.hid hb6)
            go_roundw
            case rel =>
              obtain ⟨hb, hol, hg⟩ := HB.out
              obtain ⟨hsr, hE⟩ := HSR.out
              have h2a : wr.grownBy ((wr.alloc (.cells #[.int .i64 u, .int .i64 x, .int .i64 0] edgT)).alloc (.cells #[.int .i64 u, .int .i64 x, .int .i64 0] edgT)) none := grown_tr (grown_alloc _ _) (grown_alloc _ _)
              have ho2 := own_new hol h2a
              have hb2 := hb.grown h2a
              have ho9 := ho2.kept hg5 (row_ne_row ho2 hb2.edg (by decide))
              have hb9 := grown_block hg5 hb2.blk (row_ne_cells hb2.edg hb2.blk (by decide))
              refine ⟨m + 1, .slice (some ⟨g5, 0, none⟩) (E.length + 1) c5, by have := HNL.out; omega, by go_num, ?_, ho9.kept (grown_setCell w9 g 2 _) (.inr (row_ne_cells ho9 hb9 (by decide)).symm), ?_⟩
              · rw [hsr, HSB.out, if_pos rfl, ← List.append_assoc, ← hE]
                exact hb6.out
              · exact grown_new (grown_new (grown_tr hg h2a) hg5 (fun b hb' => by have := (hb2.edg.lt b hb').1; have := HBB.out; omega)) (grown_setCell w9 g 2 _) (fun b hb' => by cases hb'; have := HG.out.1; have := HBB.out; omega)
            case measure => simp [intOf]; omega
        · have hmlt' : ¬ (m : Int) < n := by omega
          have hmN : N.take m = N := List.take_of_length_le (by omega)
          rw [hmN] at hb
          have HB := Lib.hid (And.intro hb hg)
          clear hb hol hg hmN hNl
          go_wp2_with fail
          go_roundw
          case rel =>
            obtain ⟨hb, hg⟩ := HB.out
            refine ⟨k + 1, .slice av2 (E0 ++ seenRow d u N).length cv2, by omega, by go_num, ?_, hg⟩
            rw [HSE.out]
            exact hb
          case measure => simp [intOf]; omega
    · have hlt' : ¬ (k : Int) < ids.length := by omega
      have hkl : k = ids.length := by omega
      rw [hkl, List.take_length] at hb
      have hcs := hb.cells
      obtain ⟨d0, d1, d2⟩ := hcs
      have hres := grown_block hg HW5.out.2.2 (by simp)
      have hf0 : ∀ j, wr.frozen? ⟨w.heap.size, j, none⟩ = false := fun j => free_at hres
      have r0 : wr.cell? ⟨w.heap.size, 0, none⟩ = some (.bool false) := cell_at hres
      have r1 : wr.cell? ⟨w.heap.size, 1, none⟩ = some (.slice none 0 0) := cell_at hres
      have r2 : wr.cell? ⟨w.heap.size, 2, none⟩ = some (.slice none 0 0) := cell_at hres
      have HB := Lib.hid (And.intro hb hg)
      have HR := Lib.hid hres
      clear hb hg hres hkl
      go_wp2_with fail
      obtain ⟨hb, hg⟩ := HB.out
      obtain ⟨h1, h2, h3⟩ := HW5.out
      have k3 := block_set (block_set (block_set HR.out 0 (.bool d)) 1 (.slice an ids.length cn)) 2 (.slice av (seenE d f ids).length cv)
      have e0 : ((((wr.setCell ⟨w.heap.size, 0, none⟩ (.bool d)).setCell ⟨w.heap.size, 1, none⟩ (.slice an ids.length cn)).setCell ⟨w.heap.size, 2, none⟩ (.slice av (seenE d f ids).length cv))).cell? ⟨w.heap.size, 0, none⟩ = some (.bool d) := cell_at k3
      have e1 : ((((wr.setCell ⟨w.heap.size, 0, none⟩ (.bool d)).setCell ⟨w.heap.size, 1, none⟩ (.slice an ids.length cn)).setCell ⟨w.heap.size, 2, none⟩ (.slice av (seenE d f ids).length cv))).cell? ⟨w.heap.size, 1, none⟩ = some (.slice an ids.length cn) := cell_at k3
      have e2 : ((((wr.setCell ⟨w.heap.size, 0, none⟩ (.bool d)).setCell ⟨w.heap.size, 1, none⟩ (.slice an ids.length cn)).setCell ⟨w.heap.size, 2, none⟩ (.slice av (seenE d f ids).length cv))).cell? ⟨w.heap.size, 2, none⟩ = some (.slice av (seenE d f ids).length cv) := cell_at k3
      have hgF := grown_row (grown_row (grown_setCell wr w.heap.size 0 (.bool d)) (grown_setCell _ w.heap.size 1 (.slice an ids.length cn)) (fun b hb' => by cases hb'; exact .inl rfl)) (grown_setCell _ w.heap.size 2 (.slice av (seenE d f ids).length cv)) (fun b hb' => by cases hb'; exact .inl rfl)
      have hBw : w.heap.size < B := by have := HBB.out; omega
      have hn1 : ∀ {v : Value} {n s : Nat} {e : TypeId} {xs : List Value}, wr.ownsRow B e s v n xs → v.ownBlock = none ∨ v.ownBlock ≠ some w.heap.size := fun ho => .inr (fun e => by have := (ho.lt _ e).1; omega)
      refine bodyPost_ret (v := .agg #[.bool d, .slice an ids.length cn, .slice av (seenE d f ids).length cv]) (by simp [results, Tryz.results23, go_sem, e0, e1, e2]) rfl ⟨_, _, rfl, own_mono (hb.nod.kept hgF (hn1 hb.nod)) (Nat.le_of_lt hBw), own_mono (hb.edg.kept hgF (hn1 hb.edg)) (Nat.le_of_lt hBw), ?_⟩
      exact grown_new (grown_tr h1 hg) hgF (fun b hb' => by cases hb'; exact Nat.le_refl _)
end Go.Proofs.YtcbkalppclilfaaGreat
