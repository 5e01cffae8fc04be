/- impl.read of a graph that is not bad. -/
import Derived.Test.YtinlaaeoiocfoaaBi
import Derived.Test.YtinlaaeoiocfoaaSo
import Derived.Test.YtinlaaeoiocfoaaLe
namespace Go.Proofs.Ytinlaaeoiocfoaa
open Go.MapKept Go.RowKit

theorem mk_arcs (n : Nat) (hn : n ≤ 1000000) (w : World) : (Instr.makeSlice 68 (.int .i64 (n : Int)) (.int .i64 (n : Int))).run Try.prog w = .ok (.slice (some ⟨w.heap.size, 0, none⟩) n n) (w.alloc (.cells (madeCells #[.slice none 0 0] n) 89)) := run_make_row' (P := Try.prog) 68 89 (.slice none 0 0) 24 Try.underlying68 (by kernel_rfl) rfl .i64 .i64 n (by omega) (by omega) w

theorem to_float (z : Int) (w : World) : (convert 3 76 (.int .i64 z)).run Try.prog w = .ok (flt z) w := by kernel_rfl

def gT : TypeId := 25
def pln0 (v : Value) : Array Value := #[v, .slice none 0 0, .slice none 0 0]
def Rd1 (nodes : List Int) (p0 : Nat) (wb : World) (i : Value) (wr : World) : Prop :=
  ∃ (k : Nat) (v : Value), k ≤ nodes.length ∧ i = .int .i64 k ∧ wr.heap[p0]? = some (.cells #[v, .slice none 0 0, .slice none 0 0] plnT (0, 0)) ∧ wr.ownsRow (p0 + 1) idT 1 v k ((nodes.take k).map (Value.int .i64)) ∧ wb.grownBy wr none ∧ p0 + 1 ≤ wr.heap.size

theorem Rd1.next {nodes : List Int} {p0 k : Nat} {wb wr w' : World} {v : Value} {g cap : Nat} (hp : wb.heap.size = p0) (hk : k < nodes.length) (hb : wr.heap[p0]? = some (.cells #[v, .slice none 0 0, .slice none 0 0] plnT (0, 0))) (hg : wb.grownBy wr none) (hs : p0 + 1 ≤ wr.heap.size) (hown : wr.ownsRow (p0 + 1) idT 1 v k ((nodes.take k).map (Value.int .i64)))
    (hg' : (wr.alloc (.cells #[.int .i64 nodes[k]] idT)).grownBy w' v.ownBlock) (ho : w'.ownsRow (p0 + 1) idT 1 (.slice (some ⟨g, 0, none⟩) (k + 1) cap) (k + 1) ((nodes.take k).map (Value.int .i64) ++ [.int .i64 nodes[k]])) :
    Rd1 nodes p0 wb (.int .i64 ((k : Int) + 1)) (w'.setCell ⟨p0, 0, none⟩ (.slice (some ⟨g, 0, none⟩) (k + 1) cap)) := by
  have hpn : some p0 ≠ v.ownBlock := own_ne_type hown hb (by decide)
  have hb1 : w'.heap[p0]? = some (.cells #[v, .slice none 0 0, .slice none 0 0] plnT (0, 0)) := grown_block hg' (by rw [Below.heap_alloc _ _ _ (by omega)]; exact hb) hpn
  have hgs := hg'.size
  simp at hgs
  refine ⟨k + 1, _, by omega, by go_num, block_set hb1 0 _, ?_, ?_, by simp [World.setCell]; omega⟩
  · rw [show (nodes.take (k + 1)).map (Value.int .i64) = (nodes.take k).map (Value.int .i64) ++ [.int .i64 nodes[k]] by rw [List.take_succ_eq_append_getElem hk, List.map_append]; rfl]
    exact ho.kept (grown_setCell w' p0 0 _) (.inr (own_ne_type ho hb1 (by decide)).symm)
  · refine grown_new (grown_new (grown_tr hg (grown_alloc wr _)) hg' (fun j hj => ?_)) (grown_setCell w' p0 0 _) (fun j hj => by cases hj; omega)
    have := (hown.lt j hj).1
    omega

def Rd2 (p0 n : Nat) (l : List Int) (vids : Value) (M : Mat) (wb wx : World) : Prop := (∃ Ro Ri V, Arcs2 wx p0 p0 Ro Ri n l vids V (rowsOf n M)) ∧ wb.grownBy wx none

theorem rowsOf_none (n r : Nat) : arcsOf n (rowsOf n Mat.none r) = [] := by
  have : rowsOf n Mat.none r = fun _ => none := by
    unfold rowsOf Mat.none
    split <;> rfl
  rw [this, arcsOf_none]

theorem rowIs_madeA {w : World} {b n : Nat} (h : w.heap[b]? = some (.cells (madeCells #[.slice none 0 0] n) arcsT (0, 0))) : w.rowIs b arcsT n (fun _ => .slice none 0 0) := by
  obtain ⟨c, hc, h1, h2⟩ := World.rowIs_made default (.slice none 0 0) n arcsT
  have e := heap_alloc_new (default : World) (.cells (madeCells #[.slice none 0 0] n) arcsT)
  rw [e] at hc
  simp at hc
  subst hc
  exact ⟨_, h, h1, h2⟩

theorem made_arcs {wb w4 : World} {p0 n Ro Ri : Nat} {l : List Int} {vids : Value} (hb4 : w4.heap[p0]? = some (.cells #[vids, .slice none 0 0, .slice none 0 0] plnT (0, 0))) (hids : w4.ownsRow (p0 + 1) idT 1 vids n (l.map (Value.int .i64))) (hp : wb.heap.size ≤ p0) (hgw : wb.grownBy w4 none)
    (h : (Ro = w4.heap.size ∧ Ri = w4.heap.size + 1) ∨ (Ro = w4.heap.size + 1 ∧ Ri = w4.heap.size)) :
    Rd2 p0 n l vids Mat.none wb ((((w4.setCell ⟨p0, 1, none⟩ (.slice (some ⟨Ro, 0, none⟩) n n)).setCell ⟨p0, 2, none⟩ (.slice (some ⟨Ri, 0, none⟩) n n)).alloc (.cells (madeCells #[.slice none 0 0] n) 89)).alloc (.cells (madeCells #[.slice none 0 0] n) 89)).drew := by
  obtain ⟨w5, h5⟩ : ∃ w5, w5 = (w4.setCell ⟨p0, 1, none⟩ (.slice (some ⟨Ro, 0, none⟩) n n)).setCell ⟨p0, 2, none⟩ (.slice (some ⟨Ri, 0, none⟩) n n) := ⟨_, rfl⟩
  have hs5 : w5.heap.size = w4.heap.size := by rw [h5]; simp [World.setCell]
  have hb5 : w5.heap[p0]? = some (.cells #[vids, .slice (some ⟨Ro, 0, none⟩) n n, .slice (some ⟨Ri, 0, none⟩) n n] plnT (0, 0)) := by
    rw [h5]; exact block_set (block_set hb4 1 _) 2 _
  have hg5 : w4.grownBy w5 (some p0) := by
    rw [h5]; exact grown_row (grown_setCell w4 p0 1 _) (grown_setCell _ p0 2 _) (fun k hk => by cases hk; exact .inl rfl)
  have hid5 := hids.kept hg5 (.inr (own_ne_type hids hb4 (by decide)).symm)
  rw [← h5]
  have hA := heap_alloc_new w5 (.cells (madeCells #[.slice none 0 0] n) 89)
  have hB := heap_alloc_new (w5.alloc (.cells (madeCells #[.slice none 0 0] n) 89)) (.cells (madeCells #[.slice none 0 0] n) 89)
  have hA2 : ((w5.alloc (.cells (madeCells #[.slice none 0 0] n) 89)).alloc (.cells (madeCells #[.slice none 0 0] n) 89)).heap[w5.heap.size]? = _ := (Below.heap_alloc _ _ _ (by simp)).trans hA
  have hP2 : ((w5.alloc (.cells (madeCells #[.slice none 0 0] n) 89)).alloc (.cells (madeCells #[.slice none 0 0] n) 89)).heap[p0]? = _ := heap_lt2 _ _ hb5
  simp only [World.size_alloc] at hB
  rw [hs5] at hA2 hB
  have hgW : w5.grownBy ((w5.alloc (.cells (madeCells #[.slice none 0 0] n) 89)).alloc (.cells (madeCells #[.slice none 0 0] n) 89)).drew none := grown_tr (grown_tr (grown_alloc _ _) (grown_alloc _ _)) (grown_drew _)
  have hp4 := block_lt hb4
  refine ⟨⟨Ro, Ri, fun _ => .slice none 0 0, ⟨hP2, ?_, ?_, fun r hr => ?_, fun r s hr hs hrs => .inl rfl, ?_, ?_, own_mono (own_new hid5 hgW) (by omega)⟩⟩, grown_tr (grown_new hgw hg5 (fun k hk => by cases hk; exact hp)) hgW⟩
  · rcases h with ⟨rfl, rfl⟩ | ⟨rfl, rfl⟩
    · exact rowIs_madeA hA2
    · exact rowIs_madeA hB
  · rcases h with ⟨rfl, rfl⟩ | ⟨rfl, rfl⟩
    · exact rowIs_madeA hB
    · exact rowIs_madeA hA2
  · rw [rowsOf_none]
    exact ⟨rfl, .inl ⟨rfl, rfl⟩⟩
  · omega
  · omega

theorem Arcs2.grown {w w' : World} {B p0 Ro Ri n : Nat} {ids : List Int} {vids : Value} {V : Nat → Value} {F : Nat → Nat → Option Int} (A : Arcs2 w B p0 Ro Ri n ids vids V F) (hg : w.grownBy w' none) : Arcs2 w' B p0 Ro Ri n ids vids V F :=
  ⟨grown_block hg A.blk (by simp), rowIs_grown A.ro hg (by simp), rowIs_grown A.ri hg (by simp), fun r hr => own_new (A.own r hr) hg, A.sep, A.ne, A.base, own_new A.idr hg⟩

theorem grown_below2 {a b c : World} {B : Nat} (h : a.grownBy b none) (hB : a.heap.size ≤ B) (k : Below B b c) : a.grownBy c none :=
  ⟨k.os.trans h.os, k.tape.trans h.tape, k.output.trans h.output, Nat.le_trans h.size k.size, fun i hi _ => (k.block i (by omega)).trans (h.block i hi (by simp))⟩

def Rd3 (G : Gr) (p0 n : Nat) (l : List Int) (vids : Value) (wb : World) (i : Value) (wx : World) : Prop :=
  ∃ k : Nat, k ≤ G.edges.length ∧ i = .int .i64 k ∧ Rd2 p0 n l vids (matOf l G.dir (G.edges.take k)) wb wx

/-- a plain graph as it is read -/
def PlnR (w : World) (p0 : Nat) (ids : List Int) (M : Mat) : Prop := ∃ B Ro Ri vids V, Arcs2 w B p0 Ro Ri ids.length ids vids V (rowsOf ids.length M)
theorem PlnR.grown {w w' : World} {p0 : Nat} {ids : List Int} {M : Mat} (h : PlnR w p0 ids M) (hg : w.grownBy w' none) : PlnR w' p0 ids M := by
  obtain ⟨B, Ro, Ri, vids, V, A⟩ := h
  exact ⟨B, Ro, Ri, vids, V, A.grown hg⟩
/-- .. in blocks from B0 on -/
def PlnFrom (w : World) (B0 p0 : Nat) (ids : List Int) (M : Mat) : Prop := ∃ B Ro Ri vids V, B0 ≤ B ∧ Arcs2 w B p0 Ro Ri ids.length ids vids V (rowsOf ids.length M)
theorem PlnFrom.pln {w : World} {B0 p0 : Nat} {ids : List Int} {M : Mat} (h : PlnFrom w B0 p0 ids M) : PlnR w p0 ids M := by
  obtain ⟨B, Ro, Ri, vids, V, _, A⟩ := h
  exact ⟨B, Ro, Ri, vids, V, A⟩
theorem PlnFrom.other {w w' : World} {B0 p0 : Nat} {ids : List Int} {M : Mat} (h : PlnFrom w B0 p0 ids M) {S : Nat} (hg : w.grownBy w' (some S)) (hS : S < B0) : PlnFrom w' B0 p0 ids M := by
  obtain ⟨B, Ro, Ri, vids, V, hB, A⟩ := h
  have hne : ∀ k, B ≤ k → some k ≠ some S := fun k hk e => by cases e; omega
  exact ⟨B, Ro, Ri, vids, V, hB, grown_block hg A.blk (hne _ A.base.1), rowIs_grown A.ro hg (hne _ A.base.2.1), rowIs_grown A.ri hg (hne _ A.base.2.2),
    fun r hr => (A.own r hr).kept hg (.inr fun e => by have := ((A.own r hr).lt S e).1; omega), A.sep, A.ne, A.base, A.idr.kept hg (.inr fun e => by have := (A.idr.lt S e).1; omega)⟩
def ReadPost (G : Gr) (w : World) (e : Ending) (w' : World) : Prop := ∃ p0, e = .returned (.tuple #[.pointer (some ⟨p0, 0, none⟩), .bool true]) ∧ PlnFrom w' w.heap.size p0 G.ids G.mat ∧ w.grownBy w' none

set_option maxHeartbeats 4000000 in
set_option maxRecDepth 100000 in
theorem read_any {G : Gr} {v : Value} {w : World} (h : GrR w v G) (hG : G.Well) (hnl : G.nodes.length ≤ 1000) (hel : G.edges.length ≤ 10000) :
    Calls Try.prog 19 #[v] w (ReadPost G w) := by
  obtain ⟨vn, ve, rfl, hn, he⟩ := h.parts
  clear h
  obtain ⟨an, cn, rfl, hnc⟩ := hn
  have HN := Lib.hid hnc
  clear hnc
  obtain ⟨box, hbox⟩ : ∃ box : Array Value, box = #[.bool G.dir, .slice an G.nodes.length cn, ve] := ⟨_, rfl⟩
  obtain ⟨p0, hp0⟩ : ∃ p0, p0 = w.heap.size + 1 := ⟨_, rfl⟩
  have HP := Lib.hid (show (w.alloc (.cells box 25)).heap.size = p0 by rw [hp0]; simp)
  have HS : Hid (Rd1 G.nodes p0 (w.alloc (.cells box 25)) (.int .i64 0) ((w.alloc (.cells box 25)).alloc (.cells #[.slice none 0 0, .slice none 0 0, .slice none 0 0] plnT))) :=
    Lib.hid ⟨0, .slice none 0 0, by omega, rfl, by rw [← HP.out]; exact heap_alloc_new _ _, ⟨rfl, .inl ⟨rfl, rfl⟩⟩, grown_alloc _ _, by rw [← HP.out]; simp⟩
  have HB := Lib.hid hbox
  go_enter Try.func19, Try.ntmps19
  go_wp2_with fail
  rw [← hbox, ← hp0]
  clear hbox hp0
  obtain ⟨wb, hwb⟩ : ∃ wb, wb = w.alloc (.cells box 25) := ⟨_, rfl⟩
  rw [← hwb] at HP HS
  rw [← hwb]
  have HW := Lib.hid hwb
  clear hwb
  go_loopw [6, 18] (fun _ i wr => Rd1 G.nodes p0 wb i wr) (fun _ i _ => G.nodes.length - (intOf i).toNat)
  case atStart => exact HS.out
  case round =>
    clear HS
    obtain ⟨k, vk, hk, rfl, hb, hown, hg, hs⟩ := hrel
    by_cases hlt : k < G.nodes.length
    · have hlt' : (k : Int) < G.nodes.length := by omega
      obtain ⟨b, o, rfl, hbw, hcell⟩ := HN.out (by omega)
      have hgw : w.grownBy wr none := grown_tr (by rw [HW.out]; exact grown_alloc _ _) hg
      have c1 := (grown_cell hgw hbw (by simp)).trans (hcell k hlt)
      obtain ⟨x, hx⟩ : ∃ x, x = G.nodes[k] := ⟨_, rfl⟩
      rw [← hx] at c1
      have c2 : wr.cell? ⟨p0, 0, none⟩ = some vk := cell_at hb
      have hpn : some p0 ≠ vk.ownBlock := own_ne_type hown hb (by decide)
      have HX := Lib.hid (And.intro hx (And.intro hb (And.intro hown (And.intro hg hs))))
      have hbl := Lib.hid (show (wr.alloc (.cells #[.int .i64 x] idT)).heap[p0]? = some (.cells #[vk, .slice none 0 0, .slice none 0 0] plnT (0, 0)) by rw [Below.heap_alloc _ _ _ (by omega)]; exact hb)
      have c3 : ∀ O, (wr.alloc O).cell? ⟨p0, 0, none⟩ = some vk := fun O => by rw [World.cell?_alloc_past _ _ _ (by omega)]; exact c2
      clear hx hb hown hg hs hcell hgw
      go_wp2_with (at_builtin; refine wpx_app1 elI64 rfl (.tmp 26) (.tmp 28) rfl (p0 + 1) vk k _ rfl (HX.out.2.2.1.alloc _) wr.heap.size #[.int .i64 x] (heap_alloc_new wr _) (wr.heap.size + 1) (by simp) 1 rfl rfl (by simp [Value.oneCell']) (by omega) (by unfold maxLen; omega) (by have := HX.out.2.2.2.2; omega) ?_; intro g cap w' ho' hg' hat hlt2 hsz; have hb' := grown_block hg' hbl.out hpn; have hcb : w'.cell? ⟨p0, 0, none⟩ = some vk := cell_at hb'; have hfb : w'.frozen? ⟨p0, 0, none⟩ = false := free_at hb')
      go_roundw
      case rel =>
        obtain ⟨hx, hb, hown, hg, hs⟩ := HX.out
        subst hx
        exact Rd1.next HP.out hlt hb hg hs hown hg' ho'
      case measure => simp [intOf]; omega
    · have hlt' : ¬ (k : Int) < G.nodes.length := by omega
      obtain rfl : k = G.nodes.length := by omega
      rw [List.take_length] at hown
      obtain ⟨ak, ck, rfl⟩ := own_slice hown
      have hpn : some p0 ≠ (Value.slice ak G.nodes.length ck).ownBlock := own_ne_type hown hb (by decide)
      have hsort := sort_i64 hown (by omega)
      have c2 : wr.cell? ⟨p0, 0, none⟩ = some (.slice ak G.nodes.length ck) := cell_at hb
      have HX := Lib.hid (And.intro hb (And.intro hown (And.intro hg hs)))
      have hb1 := fun W (h : wr.grownBy W (Value.slice ak G.nodes.length ck).ownBlock) => grown_block h hb hpn
      have HB1 := Lib.hid hb1
      clear hb hown hg hs hb1
      clear hlt hlt' hk
      obtain ⟨n, hn⟩ : ∃ n, n = G.nodes.length := ⟨_, rfl⟩
      rw [← hn] at c2 hsort hpn HB1 HX
      have hn1000 : n ≤ 1000 := by omega
      rw [← hn]
      have HNN := Lib.hid hn
      clear hn hnl
      go_wp2_with (go_at_call 25; refine hsort.mono ?_; rintro e w2 ⟨rfl, ho2, hg2⟩; have hb2 := HB1.out w2 hg2; have d2 : w2.cell? ⟨p0, 0, none⟩ = some (.slice ak n ck) := cell_at hb2)
      rw [show G.nodes.length = n from HNN.out.symm] at ho2
      have HO2 := Lib.hid (And.intro ho2 (And.intro hg2 hb2))
      have hclone : Calls Try.prog 27 #[.slice ak n ck] w2.drew (ClonePost (srt G.nodes) w2.drew) :=
        clone_i64 (own_new (w' := w2.drew) (by rw [length_srt, ← HNN.out]; exact ho2) (grown_drew _)) (by rw [length_srt, ← HNN.out]; omega)
      obtain ⟨l, hl⟩ : ∃ l, l = srt G.nodes := ⟨_, rfl⟩
      have HL : Hid (l.length = n) := Lib.hid (by rw [hl, length_srt]; exact HNN.out.symm)
      have HCP := Lib.hid (fun (v3 : Value) (w3 : World) (h : w3.ownsRow w2.drew.heap.size 2 1 v3 n (l.map (Value.int .i64))) => compact_asc (.of_own (by rw [HL.out]; exact h)) (by rw [hl]; exact srt_nodup hG.1) (by rw [HL.out]; omega))
      have hp2 : p0 < w2.drew.heap.size := block_lt hb2
      rw [← hl] at hclone
      have HLL := Lib.hid hl
      clear ho2 hg2 hb2 c2 hsort HB1 hpn hl
      go_region_held3 (fun w' => w'.cell? ⟨p0, 0, none⟩ = some (.slice ak n ck)) (first | go_keep | exact (grown_cell hg3 hp2 (by simp)).trans d2 | exact (grown_cell (grown_tr hg3 hg4) hp2 (by simp)).trans d2) (first
        | (go_at_call 27; refine hclone.mono ?_; rintro e w3 ⟨v3, rfl, ho3, hg3⟩; rw [HL.out] at ho3; obtain ⟨a3, c3, rfl⟩ := own_slice ho3)
        | (go_at_call 26; refine (HCP.out _ _ ho3).mono ?_; rintro e w4 ⟨rfl, hg4⟩))
      have hb4 : w4.heap[p0]? = some (.cells #[.slice ak n ck, .slice none 0 0, .slice none 0 0] plnT (0, 0)) := grown_block (grown_tr (grown_tr (grown_drew w2) hg3) hg4) HO2.out.2.2 (by simp)
      have e0 : w4.cell? ⟨p0, 0, none⟩ = some (.slice ak n ck) := cell_at hb4
      have e1 : w4.cell? ⟨p0, 1, none⟩ = some (.slice none 0 0) := cell_at hb4
      have e2 : w4.cell? ⟨p0, 2, none⟩ = some (.slice none 0 0) := cell_at hb4
      have e3 : ∀ j, w4.frozen? ⟨p0, j, none⟩ = false := fun j => free_at hb4
      have hp4 := block_lt hb4
      have hmk := mk_arcs n (by omega)
      have HG4 := Lib.hid (And.intro hb4 (And.intro hg3 (And.intro hg4 ho3)))
      clear hb4 hg3 hg4 ho3 hclone d2 hp2
      go_wp2_with fail
      go_cut [] (fun wx => Rd2 p0 n l (.slice ak n ck) Mat.none wb wx)
      case first =>
        go_region
        all_goals (try go_wp2_with fail)
        all_goals go_meet
        all_goals
          obtain ⟨hb4, hg3, hg4, ho3⟩ := HG4.out
          have hids : w4.ownsRow (p0 + 1) idT 1 (.slice ak n ck) n (l.map (Value.int .i64)) := by
            rw [HLL.out]
            exact own_new HO2.out.1 (grown_tr (grown_tr (grown_drew w2) hg3) hg4)
          have hgw : wb.grownBy w4 none := by
            refine grown_tr (grown_tr (grown_tr (grown_new HX.out.2.2.1 HO2.out.2.1 (fun j hj => ?_)) (grown_drew w2)) hg3) hg4
            have := (HX.out.2.1.lt j hj).1
            have := HP.out
            omega
        all_goals first
          | exact made_arcs hb4 hids (by have := HP.out; omega) hgw (.inl ⟨rfl, rfl⟩)
          | exact made_arcs hb4 hids (by have := HP.out; omega) hgw (.inr ⟨rfl, rfl⟩)
      case rest =>
        clear hmk e0 e1 e2 e3 hp4 HG4 HX
        have hvid : ∃ ak' ck', Value.slice ak n ck = .slice ak' n ck' := ⟨_, _, rfl⟩
        obtain ⟨ae, ce, rfl, hec⟩ := he
        have HE := Lib.hid hec
        clear hec
        have hgwc : wb.grownBy wc none := hcut.2
        have hbox2 : wc.cell? ⟨w.heap.size, 2, none⟩ = some (.slice ae G.edges.length ce) := by
          rw [HW.out] at hgwc
          rw [box_at hgwc, HB.out]; rfl
        have HC0 := Lib.hid hcut
        clear hcut hgwc
        go_wp2_with fail
        go_loopw [8, 9, 10, 11, 12, 73] (fun _ _ _ _ _ i wr => Rd3 G p0 n l (.slice ak n ck) wb i wr) (fun _ _ _ _ _ i _ => G.edges.length - (intOf i).toNat)
        case atStart => exact ⟨0, Nat.zero_le _, rfl, HC0.out⟩
        case round =>
          clear HC0 hbox2
          obtain ⟨j, hj, rfl, hR⟩ := hrel
          obtain ⟨⟨Ro, Ri, V, A⟩, hgb⟩ := hR
          by_cases hjl : j < G.edges.length
          · have hjl' : (j : Int) < G.edges.length := by omega
            have hgw : w.grownBy wr none := grown_tr (by rw [HW.out]; exact grown_alloc _ _) hgb
            obtain ⟨be, oe, hae, ce0, ce1, ce2⟩ := edge_cells ⟨ae, ce, rfl, HE.out⟩ hgw hjl
            subst hae
            have hEO : EdOk G.nodes G.edges[j] := hG.2 _ (List.getElem_mem hjl)
            have hmu : G.edges[j].1 ∈ l := by rw [HLL.out]; exact (hG.in_ids (List.getElem_mem hjl)).1
            have hmx : G.edges[j].2.1 ∈ l := by rw [HLL.out]; exact (hG.in_ids (List.getElem_mem hjl)).2
            have hmt := matOf_take (ids := l) (dir := G.dir) hjl
            obtain ⟨e, he⟩ : ∃ e, e = G.edges[j] := ⟨_, rfl⟩
            rw [← he] at hEO hmt ce0 ce1 ce2 hmu hmx
            obtain ⟨u, x, z⟩ := e
            simp only at hEO hmt ce0 ce1 ce2 hmu hmx
            obtain ⟨huv, -, -, hz1, hz2⟩ := hEO
            have hlu := ix_lt hmu
            have hlx := ix_lt hmx
            have hUX : ix l u ≠ ix l x := fun h => huv (ix_inj hmu hmx h)
            have hA : l.Pairwise (· < ·) := by rw [HLL.out]; exact srt_nodup hG.1
            have hix : ∀ O (q : Int), q ∈ l → Calls Try.prog 28 #[.pointer (some ⟨p0, 0, none⟩), .int .i64 q] (wr.alloc O) (fun e w' => e = .returned (.tuple #[.int .i64 ((ix l q : Nat) : Int), .bool true]) ∧ w' = wr.alloc O) := fun O q hq =>
              (plain_index (x := q) (cell_at (j := 0) ((A.grown (grown_alloc wr O)).blk)) (.of_own (by rw [HL.out]; exact (A.grown (grown_alloc wr O)).idr)) hA (by rw [HL.out]; omega)).mono (fun e w' ⟨m, h1, h2, h3⟩ => ⟨by rw [h2, (h1 hq).1, decide_eq_true hq], h3⟩)
            rw [HL.out] at hlu hlx
            obtain ⟨Z, hZ⟩ : ∃ Z : Int → Nat, Z = ix l := ⟨_, rfl⟩
            have hixu := fun O => hix O u hmu
            have hixx := fun O => hix O x hmx
            rw [show ix l = Z from hZ.symm] at hUX hlu hlx hmt hixu hixx
            have hbu : (((Z u : Nat) : Int) == ((Z x : Nat) : Int)) = false := by rw [beq_eq_false_iff_ne]; omega
            have hd4 : decide (1099511627776 < z) = false := by simpa using hz1
            have hd5 : decide (z < -1099511627776) = false := by simpa using hz2
            have hlay := fun O => lay_any (A.grown (grown_alloc wr O)) hn1000 hlu hlx (z := z) (dir := G.dir)
            have hbd : ∀ O, (wr.alloc O).cell? ⟨w.heap.size, 0, none⟩ = some (.bool G.dir) := fun O => by
              have := grown_tr hgb (grown_alloc wr O)
              rw [HW.out] at this
              rw [box_at this, HB.out]; rfl
            have hHE := Lib.hid (And.intro he (And.intro hmt (And.intro A hgb)))
            obtain ⟨d, hd⟩ : ∃ d, d = G.dir := ⟨_, rfl⟩
            rw [← hd] at hlay hbd
            have HD := Lib.hid hd
            clear he hmt hA hix hZ huv hgw hUX hd hmu hmx
            go_wp2_with fail
            refine (hixu _).mono ?_
            rintro e w' ⟨rfl, rfl⟩
            go_wp2_with fail
            refine (hixx _).mono ?_
            rintro e w' ⟨rfl, rfl⟩
            clear hixu hixx
            have hconv := to_float z
            go_wp2_with fail
            refine (hlay _).mono ?_
            rintro e w' ⟨rfl, ⟨V', A'⟩, hbel⟩
            clear hlay hbd hd4 hd5 hbu ce0 ce1 ce2
            have HN2 : Hid (Rd3 G p0 n l (.slice ak n ck) wb (.int .i64 ((j : Int) + 1)) w') := by
              obtain ⟨he, hmt, A, hgb⟩ := hHE.out
              refine Lib.hid ⟨j + 1, by omega, by go_num, ⟨Ro, Ri, V', ?_⟩, grown_below2 (grown_tr hgb (grown_alloc _ _)) (by have := HP.out; omega) hbel⟩
              rw [hmt, ← HD.out]
              exact A'
            clear A' hbel hHE
            go_wp2_with fail
            exact ⟨HN2.out, by simp [intOf]; omega⟩
          · have hjl' : ¬ (j : Int) < G.edges.length := by omega
            obtain rfl : j = G.edges.length := by omega
            rw [List.take_length] at A
            have HA := Lib.hid A
            clear A
            have HGB := Lib.hid hgb
            clear hgb
            go_wp2_with fail
            go_ret2
            refine ⟨p0, rfl, ⟨p0, Ro, Ri, .slice ak n ck, V, by have := HP.out; rw [HW.out] at this; simp at this; omega, ?_⟩, grown_tr (by rw [HW.out]; exact grown_alloc _ _) HGB.out⟩
            have h1 : G.ids = l := HLL.out.symm
            have h2 : G.mat = matOf l G.dir G.edges := by rw [← h1]; rfl
            rw [h1, HL.out, h2]
            exact HA.out
end Go.Proofs.Ytinlaaeoiocfoaa
