/- laws.peeled. -/
import Derived.Test.YtinlaaeoiocfoaaPq
import Derived.Test.YtinlaaeoiocfoaaTbn
import Derived.Test.YtinlaaeoiocfoaaNo
namespace Go.Proofs.Ytinlaaeoiocfoaa
open Go.MapKept Go.RowKit

def agN (v : Value) : Nat := match v with | .bool true => 1 | _ => 0
def openW (w : World) (bg n : Nat) : Nat := ((List.range n).filter (fun i => match w.cell? ⟨bg, i, none⟩ with | some (.bool false) => true | _ => false)).length
theorem openW_is {w : World} {bg n : Nat} {T : TypeId} {g : Nat → Bool} (h : w.rowIs bg T n (fun i => .bool (g i))) : openW w bg n = openN n g := by
  unfold openW openN
  congr 1
  apply List.filter_congr
  intro i hi
  rw [h.cell (by simpa using hi)]
  cases g i <;> rfl
theorem rowIs_bools (w : World) (n : Nat) : (w.alloc (.cells (madeCells #[.bool false] n) 4)).rowIs w.heap.size 4 n (fun _ => .bool false) := World.rowIs_made w (.bool false) n 4

def PRel (ids : List Int) (M : Mat) (k bg : Nat) (w2 : World) (a8 : Value) (wr : World) : Prop :=
  ∃ (ag : Bool) (g : Nat → Bool), a8 = .bool ag ∧ wr.rowIs bg 4 ids.length (fun i => .bool (g i)) ∧ w2.grownBy wr none ∧ PeelOk (outs ids M) ids k (goneF ids g) ∧ (ag = false → Core (outs ids M) ids k (stay ids (goneF ids g)))
def QRel (ids : List Int) (M : Mat) (k bg : Nat) (w2 : World) (g0 : Nat → Bool) (a8 a9 : Value) (wr : World) : Prop :=
  ∃ (ag : Bool) (g : Nat → Bool) (u : Nat), u ≤ ids.length ∧ a8 = .bool ag ∧ a9 = .int .i64 u ∧ wr.rowIs bg 4 ids.length (fun i => .bool (g i)) ∧ w2.grownBy wr none ∧ Peel ids M k g0 u ag g
def ORel (ids : List Int) (C : Int → Bool) (wb : World) (a12 a13 : Value) (wr : World) : Prop :=
  ∃ u : Nat, u ≤ ids.length ∧ a13 = .int .i64 u ∧ wr.ownsRow wb.heap.size 3 1 a12 ((ids.take u).filter C).length (((ids.take u).filter C).map (Value.int .i64)) ∧ wb.grownBy wr none
theorem filter_take {ids : List Int} (C : Int → Bool) {u : Nat} (hu : u < ids.length) : (ids.take (u + 1)).filter C = (ids.take u).filter C ++ (if C ids[u] = true then [ids[u]] else []) := by
  rw [List.take_succ_eq_append_getElem hu, List.filter_append]
  congr 1
  by_cases h : C ids[u] = true
  · rw [if_pos h, List.filter_cons_of_pos h]
    rfl
  · rw [if_neg h, List.filter_cons_of_neg h]
    rfl

def PeelPost (G : Gr) (k : Nat) (w : World) (e : Ending) (w' : World) : Prop :=
  ∃ (v : Value) (C : Int → Bool), e = .returned v ∧ w'.ownsRow w.heap.size 3 1 v (G.ids.filter C).length ((G.ids.filter C).map (Value.int .i64)) ∧ w.grownBy w' none ∧ Core (outs G.ids G.mat) G.ids k C

set_option maxHeartbeats 8000000 in
set_option maxRecDepth 100000 in
theorem peeled_any {G : Gr} {v : Value} {w : World} (h : GrR w v G) (hG : G.Well) (hnl : G.nodes.length ≤ 1000) (hel : G.edges.length ≤ 10000) (k : Nat) (_hk : k ≤ 1000) :
    Calls Try.prog 6 #[.int .i64 k, v] w (PeelPost G k w) := by
  have htab : ∀ W, w.grownBy W none → Calls Try.prog 11 #[v] W (TabPost G W) := fun W hg => tableOf_any (h.grown hg) hG hnl hel
  have hil : G.ids.length ≤ 1000 := by rw [G.length_ids]; exact hnl
  have hasc := hG.ids
  obtain ⟨vn, ve, rfl, ⟨an, cn, rfl, _⟩, ⟨ae, ce, rfl, _⟩⟩ := h.parts
  unfold TabPost at htab
  unfold PeelPost
  obtain ⟨ids, hids⟩ : ∃ ids, ids = G.ids := ⟨_, rfl⟩
  obtain ⟨M, hM⟩ : ∃ M, M = G.mat := ⟨_, rfl⟩
  rw [← hids, ← hM] at htab ⊢
  rw [← hids] at hil hasc
  replace hasc := Lib.hid hasc
  replace htab := Lib.hid htab
  clear h hG hnl hel hids hM
  go_enter Try.func6, Try.ntmps6
  go_wp2_with (go_at_call 11; refine (htab.out _ (grown_alloc _ _)).mono ?_; intro e w1 hp; obtain ⟨vt, rfl, ht, hg1⟩ := hp; obtain ⟨tn, ta, tw, rfl, ti, tg, tv⟩ := ht; obtain ⟨a5, c5, e5, -⟩ := id ti; obtain ⟨a6, c6, R6, e6, -⟩ := id tg; obtain ⟨a7, c7, R7, e7, -⟩ := id tv; subst e5 e6 e7; have HT := Lib.hid (And.intro ti tg); clear ti tg tv; replace hg1 := Lib.hid hg1; have hmk := mk_bools ids.length (by omega) (w1.alloc (.cells #[.slice a5 ids.length c5, .slice a6 ids.length c6, .slice a7 ids.length c7] 38)))
  obtain ⟨w2, hw2⟩ : ∃ w2, w2 = w1.alloc (.cells #[.slice a5 ids.length c5, .slice a6 ids.length c6, .slice a7 ids.length c7] 38) := ⟨_, rfl⟩
  have h12 : w1.grownBy w2 none := by rw [hw2]; exact grown_alloc _ _
  have HFT : Hid (∀ wr, w2.grownBy wr none → wr.cell? ⟨w1.heap.size, 0, none⟩ = some (.slice a5 ids.length c5) ∧ wr.cell? ⟨w1.heap.size, 1, none⟩ = some (.slice a6 ids.length c6)) := Lib.hid (fun wr hw => by
    rw [hw2] at hw
    exact ⟨by rw [box_at hw 0]; rfl, by rw [box_at hw 1]; rfl⟩)
  have hbg : w1.heap.size + 1 = w2.heap.size := by rw [hw2]; simp
  rw [← hw2, hbg]
  have HN : Hid (0 < ids.length → ∃ b o, a5 = some ⟨b, o, none⟩ ∧ ∀ wr, w2.grownBy wr none → ∀ u (hu : u < ids.length), wr.cell? ⟨b, o + u, none⟩ = some (.int .i64 ids[u])) := Lib.hid (fun hp => by
    obtain ⟨a, c, e, hx⟩ := HT.out.1
    simp only [Value.slice.injEq] at e
    obtain ⟨rfl, -, -⟩ := e
    obtain ⟨b, o, rfl, hb, hc⟩ := hx hp
    exact ⟨b, o, rfl, fun wr hw u hu => (grown_cell (grown_tr h12 hw) hb (by simp)).trans (hc u hu)⟩)
  have HQ : Hid (0 < ids.length → ∃ (b o : Nat) (R : Nat → Nat), a6 = some ⟨b, o, none⟩ ∧ ∀ wr, w2.grownBy wr none → ∀ u, u < ids.length → wr.cell? ⟨b, o + u, none⟩ = some (rowV ids.length R u) ∧ ∀ v, v < ids.length → wr.cell? ⟨R u, v, none⟩ = some (.bool (M u v).isSome)) := Lib.hid (fun hp => by
    obtain ⟨a, c, R, e, hx, hr⟩ := HT.out.2
    simp only [Value.slice.injEq] at e
    obtain ⟨rfl, -, -⟩ := e
    obtain ⟨b, o, rfl, hb, hc⟩ := hx hp
    exact ⟨b, o, R, rfl, fun wr hw u hu => ⟨(grown_cell (grown_tr h12 hw) hb (by simp)).trans (hc u hu), fun v hv => (grown_cell (grown_tr h12 hw) (hr u hu).1 (by simp)).trans ((hr u hu).2 v hv)⟩⟩)
  have HGW : Hid (w.grownBy w2 none) := Lib.hid (grown_tr (grown_alloc _ _) (grown_tr hg1.out h12))
  obtain ⟨bg, hbg2⟩ : ∃ bg, bg = w2.heap.size := ⟨_, rfl⟩
  have HS : Hid (PRel ids M k bg w2 (.bool true) (w2.alloc (.cells (madeCells #[.bool false] ids.length) 4))) := Lib.hid ⟨true, fun _ => false, rfl, by rw [hbg2]; exact rowIs_bools w2 _, grown_alloc _ _, PeelOk.start _ _ k, by simp⟩
  have hbgs : w2.heap.size ≤ bg := by omega
  rw [← hbg2]
  clear hmk h12 hw2 hbg hbg2 HT hg1 htab
  go_loopw [8, 9, 10, 11] (fun a8 _ _ _ wr => PRel ids M k bg w2 a8 wr) (fun a8 _ _ _ wr => 2 * openW wr bg ids.length + agN a8)
  case atStart => exact HS.out
  case round =>
    clear HS
    obtain ⟨ag, g0, rfl, hro0, hg0, hok0, hend⟩ := hrel
    cases ag
    · obtain ⟨C, hC⟩ : ∃ C, C = stay ids (goneF ids g0) := ⟨_, rfl⟩
      have hcore := hend rfl
      rw [← hC] at hcore
      replace hcore := Lib.hid hcore
      obtain ⟨wb, rfl⟩ : ∃ wb : World, wb = wr := ⟨_, rfl⟩
      have HO0 : Hid (ORel ids C wb (.slice none 0 0) (.int .i64 0) wb) := Lib.hid ⟨0, Nat.zero_le _, rfl, ⟨rfl, .inl ⟨rfl, rfl⟩⟩, grown_refl _⟩
      have hlb : bg < wb.heap.size := by
        obtain ⟨c9, k9, _⟩ := id hro0
        exact (Array.getElem?_eq_some_iff.1 k9).1
      have hCi : ∀ u, (h : u < ids.length) → C ids[u] = !g0 u := fun u h => by
        rw [hC, Bool.eq_iff_iff, stay_iff]
        unfold goneF
        rw [get_ix hasc.out h]
        simp
      have HB := Lib.hid (And.intro hro0 (And.intro hg0 hCi))
      clear hro0 hg0 hok0 hend hC hCi
      go_wp2_with fail
      go_loopw [12, 13] (fun a12 a13 wr => ORel ids C wb a12 a13 wr) (fun _ a13 _ => ids.length - (intOf a13).toNat)
      case atStart => exact HO0.out
      case round =>
        clear HO0
        obtain ⟨u, hu, rfl, ho, hg⟩ := hrel
        by_cases hun : u < ids.length
        · have hun' : (u : Int) < ids.length := by omega
          obtain ⟨hro0, hg0, hCi⟩ := HB.out
          have hgw := grown_tr hg0 hg
          obtain ⟨t0, t1⟩ := HFT.out wr hgw
          obtain ⟨bn, on, rfl, hnc⟩ := HN.out (by omega)
          have x1 := hnc wr hgw u hun
          have s1 : wr.cell? ⟨bg, u, none⟩ = some (.bool (g0 u)) := (grown_cell hg hlb (by simp)).trans (hro0.cell hun)
          have hft := filter_take C hun
          rw [hCi u hun] at hft
          obtain ⟨x, hx⟩ : ∃ x, x = ids[u] := ⟨_, rfl⟩
          rw [← hx] at x1 hft
          obtain ⟨b, hb⟩ : ∃ b, b = g0 u := ⟨_, rfl⟩
          rw [← hb] at s1 hft
          obtain ⟨LL, hLL⟩ : ∃ LL, LL = (ids.take u).filter C := ⟨_, rfl⟩
          have hLl : LL.length ≤ 1000 := by
            rw [hLL]
            refine Nat.le_trans (List.length_filter_le _ _) ?_
            rw [List.length_take]
            omega
          rw [← hLL] at ho hft
          obtain ⟨al, cl, hal⟩ := own_slice ho
          subst hal
          replace ho := Lib.hid ho
          have hgs := hg.size
          replace hft := Lib.hid hft
          replace hg := Lib.hid hg
          clear hx hb hLL hro0 hg0 hCi hgw hnc
          cases b
          · go_wp2_with (at_builtin; refine wpx_app1 elI rfl (.tmp 72) (.tmp 78) rfl wb.heap.size (.slice al LL.length cl) LL.length _ rfl (ho.out.alloc _) wr.heap.size #[.int .i64 x] (heap_alloc_new wr _) (wr.heap.size + 1) (by simp) 1 rfl rfl (by simp [Value.oneCell']) (by omega) (by unfold maxLen; omega) (by omega) ?_; intro g8 cap8 w5 ho8 hg8 hat8 hlt8 hsz8; replace ho8 := Lib.hid ho8; replace hg8 := Lib.hid hg8)
            go_roundw
            case rel =>
              refine ⟨u + 1, hun, by go_num, ?_, grown_new (grown_tr hg.out (grown_alloc _ _)) hg8.out (fun j hj => (ho.out.lt j hj).1)⟩
              rw [hft.out, if_pos (show (!false) = true from rfl), List.length_append, List.map_append]
              exact ho8.out
            case measure => simp [intOf]; omega
          · go_wp2_with fail
            go_roundw
            case rel =>
              refine ⟨u + 1, hun, by go_num, ?_, hg.out⟩
              rw [hft.out, if_neg (by simp), List.append_nil]
              exact ho.out
            case measure => simp [intOf]; omega
        · have hun' : ¬ (u : Int) < ids.length := by omega
          obtain rfl : u = ids.length := by omega
          rw [List.take_length] at ho
          have hE := Lib.hid (And.intro ho hg)
          clear ho hg
          go_wp2_with fail
          refine bodyPost_ret (v := u12) (by simp [results, Try.results6, go_sem]) rfl ?_
          have hgw := grown_tr HGW.out HB.out.2.1
          exact ⟨u12, rfl, C, own_mono hE.out.1 hgw.size, grown_tr hgw hE.out.2, hcore.out⟩
    · have HM0 := Lib.hid (openW_is hro0)
      have HQ0 : Hid (QRel ids M k bg w2 g0 (.bool false) (.int .i64 0) wr) := Lib.hid ⟨false, g0, 0, Nat.zero_le _, rfl, rfl, hro0, hg0, Peel.start hok0⟩
      clear hro0 hg0 hok0 hend
      obtain ⟨wb, rfl⟩ : ∃ wb : World, wb = wr := ⟨_, rfl⟩
      go_wp2_with fail
      go_loopw [8, 9, 10, 11] (fun a8 a9 _ _ wr => QRel ids M k bg w2 g0 a8 a9 wr) (fun _ a9 _ _ _ => ids.length - (intOf a9).toNat)
      case atStart => exact HQ0.out
      case round =>
        clear HQ0
        obtain ⟨ag, g, u, hu, rfl, rfl, hro, hg, hP⟩ := hrel
        by_cases hun : u < ids.length
        · have hun' : (u : Int) < ids.length := by omega
          obtain ⟨t0, t1⟩ := HFT.out wr hg
          obtain ⟨bq, oq, R, rfl, hqc⟩ := HQ.out (by omega)
          obtain ⟨r1, r2⟩ := hqc wr hg u hun
          unfold rowV at r1
          have HX := Lib.hid (And.intro hro (And.intro hg (And.intro hP r2)))
          clear hro hg hP r2 hqc
          obtain ⟨wq, rfl⟩ : ∃ wq : World, wq = wr := ⟨_, rfl⟩
          go_wp2_with fail
          go_loopw [10, 11] (fun a10 a11 w' => w' = wq ∧ ∃ v : Nat, v ≤ ids.length ∧ a11 = .int .i64 v ∧ a10 = .int .i64 (dCnt M g u v : Nat)) (fun _ a11 _ => ids.length - (intOf a11).toNat)
          case atStart => exact ⟨rfl, 0, Nat.zero_le _, rfl, rfl⟩
          case round =>
            obtain ⟨rfl, v, hv, rfl, rfl⟩ := hrel
            by_cases hvn : v < ids.length
            · have hvn' : (v : Int) < ids.length := by omega
              have s1 := HX.out.2.2.2 v hvn
              have s2 := HX.out.1.cell hvn
              have hdc := dCnt_succ (M := M) (g := g) u v
              have hdl := dCnt_le (M := M) (g := g) u v
              obtain ⟨b1, hb1⟩ : ∃ b1, b1 = (M u v).isSome := ⟨_, rfl⟩
              obtain ⟨b2, hb2⟩ : ∃ b2, b2 = g v := ⟨_, rfl⟩
              rw [← hb1] at s1 hdc
              rw [← hb2] at s2 hdc
              obtain ⟨d, hd⟩ : ∃ d, d = dCnt M g u v := ⟨_, rfl⟩
              rw [← hd] at hdc hdl
              rw [← hd]
              clear hb1 hb2 hd
              have hdi : (d : Int) ≤ 1000 := by omega
              cases b1
              all_goals cases b2
              all_goals
                have HD := Lib.hid hdc
                clear hdc
                go_wp2_with fail
                go_roundw
                case rel =>
                  refine ⟨by trivial, v + 1, hvn, by go_num, ?_⟩
                  rw [HD.out]
                  simp
                case measure => simp [intOf]; omega
            · have hvn' : ¬ (v : Int) < ids.length := by omega
              obtain rfl : v = ids.length := by omega
              obtain ⟨hro, hg, hP, r2⟩ := HX.out
              have s3 := hro.cell hun
              obtain ⟨c9, k9, _⟩ := id hro
              have f3 : wr.frozen? ⟨bg, u, none⟩ = false := free_at k9
              have hdl := dCnt_le (M := M) (g := g) u ids.length
              obtain ⟨d, hd⟩ : ∃ d, d = dCnt M g u ids.length := ⟨_, rfl⟩
              rw [← hd] at hdl
              rw [← hd]
              obtain ⟨b, hb⟩ : ∃ b, b = g u := ⟨_, rfl⟩
              rw [← hb] at s3
              have HY := Lib.hid (And.intro hro (And.intro hg (And.intro hP (And.intro hd hb))))
              clear hro hg hP r2 hd hb k9 HX
              cases b
              · by_cases hdk : d < k
                · have hdk' : (d : Int) < (k : Int) := by omega
                  go_wp2_with fail
                  go_roundw
                  case rel =>
                    obtain ⟨hro, hg, hP, hd, hb⟩ := HY.out
                    refine ⟨true, updN g u true, u + 1, hun, rfl, by go_num, (hro.set u (.bool true)).congr (fun j _ => by unfold updN; by_cases e : j = u <;> simp [e]), grown_new hg (grown_setCell wr bg u _) (fun j hj => by cases hj; exact hbgs), hP.take hasc.out hun hb.symm (by rw [← hd]; exact hdk)⟩
                  case measure => simp [intOf]; omega
                · have hdk' : ¬ (d : Int) < (k : Int) := by omega
                  go_wp2_with fail
                  go_roundw
                  case rel =>
                    obtain ⟨hro, hg, hP, hd, hb⟩ := HY.out
                    exact ⟨ag, g, u + 1, hun, rfl, by go_num, hro, hg, hP.keep (.inr (by rw [← hd]; omega))⟩
                  case measure => simp [intOf]; omega
              · go_wp2_with fail
                go_roundw
                case rel =>
                  obtain ⟨hro, hg, hP, hd, hb⟩ := HY.out
                  exact ⟨ag, g, u + 1, hun, rfl, by go_num, hro, hg, hP.keep (.inl hb.symm)⟩
                case measure => simp [intOf]; omega
        · have hun' : ¬ (u : Int) < ids.length := by omega
          obtain rfl : u = ids.length := by omega
          have HY := Lib.hid (And.intro hro (And.intro hg hP))
          clear hro hg hP
          go_wp2_with fail
          go_roundw
          case rel =>
            obtain ⟨hro, hg, hP⟩ := HY.out
            exact ⟨ag, g, rfl, hro, hg, hP.ok, fun e => by subst e; exact hP.core hasc.out⟩
          case measure =>
            obtain ⟨hro, hg, hP⟩ := HY.out
            rw [openW_is hro, HM0.out]
            cases ag
            · rw [(hP.no rfl).1]
              simp [agN]
            · have h9 := openN_lt hP.mono (hP.yes rfl)
              simp only [agN]
              omega
end Go.Proofs.Ytinlaaeoiocfoaa
