/- topo.KCore. -/
import Derived.Test.YtinlaaeoiocfoaaDs
import Derived.Laws.CopyOwn
namespace Go.Proofs.Ytinlaaeoiocfoaa
open Go.MapKept Go.RowKit

theorem run_slice_from {P : Program} {t e : TypeId} {size bytes : Nat} {z : Value} (E : ElT P t e size bytes z) (a : Option Addr) (n cap k : Nat) (hk : k ≤ n) (w : World) :
    (Instr.sliceAt t (.slice a n cap) (some (.int .i64 (k : Int))) none none).run P w = .ok (.slice (if cap = k then a else a.map (·.add (k * size))) (n - k) (cap - k)) w := by
  obtain ⟨i, h1i, h2i, h3, h4⟩ := info_parts E.hi
  have e1 : (0 : Int) ≤ (k : Int) ∧ (k : Int) ≤ (n : Int) := by omega
  simp [Instr.sliceAt, Instr.slice, Instr.sliceBounds, Instr.sliceBound, run_underlying E.ht, asIntOf, e1, sizeOf, typeInfo, h1i, h3, hk]
theorem mk_nd (n : Nat) (hn : n ≤ 1000000) (w : World) : (Instr.makeSlice 46 (.int .i64 (n : Int)) (.int .i64 (n : Int))).run Try.prog w = .ok (.slice (some ⟨w.heap.size, 0, none⟩) n n) (w.alloc (.cells (madeCells #[.nilIface] n) nodT)) := run_make_row' (P := Try.prog) 46 nodT .nilIface 16 Try.underlying46 (by kernel_rfl) rfl .i64 .i64 n (by omega) (by omega) w
theorem made_len (n : Nat) : (madeCells #[Value.nilIface] n).size = n := by
  obtain ⟨c, hc, h1, h2⟩ := World.rowIs_made default .nilIface n nodT
  have e := heap_alloc_new (default : World) (.cells (madeCells #[Value.nilIface] n) nodT)
  rw [e] at hc
  simp at hc
  rw [hc]
  exact h1

section
variable {N : Int → List Int} {ids l : List Int} {s : List Nat} {k : Nat}
theorem cell_alloc_old {w : World} (O : Obj) {g j : Nat} (h : g < w.heap.size) : (w.alloc O).cell? ⟨g, j, none⟩ = w.cell? ⟨g, j, none⟩ := by
  simp only [World.cell?, heap_alloc_old w O g h]
theorem core_drop (h : DgOk N ids l k s) (hnd : l.Nodup) (hsub : ∀ x ∈ l, x ∈ ids) (hall : ∀ x ∈ ids, x ∈ l) {j : Nat} (hj : j ≤ k + 1) : Core N ids j (fun x => decide (x ∈ l.drop (s.take j).sum)) := by
  have h1 := h.all N ids hall hj
  have e : (fun x => decide (x ∈ l.drop (s.take j).sum)) = left ids (l.take (s.take j).sum) := by
    funext x
    rw [Bool.eq_iff_iff, left_iff, decide_eq_true_eq]
    have hap : l.take (s.take j).sum ++ l.drop (s.take j).sum = l := List.take_append_drop _ _
    have hnd2 := hnd
    rw [← hap, List.nodup_append] at hnd2
    constructor
    · intro hx
      exact ⟨hsub x (List.mem_of_mem_drop hx), fun h2 => hnd2.2.2 x h2 x hx rfl⟩
    · rintro ⟨h2, h3⟩
      have h4 := hall x h2
      rw [← hap] at h4
      exact (List.mem_append.1 h4).resolve_left h3
  rw [e]
  exact h1
end
theorem DegPost.kc {N : Int → List Int} {ids : List Int} {w : World} {e : Ending} {w' : World} {k : Nat} (h : DegPost N ids w e w') (hids : ids.length ≤ 1000) (hk : k ≤ 1 ∨ ∃ C x, Supp N ids (k - 1) C ∧ C x = true) :
    ∃ (al : Option Addr) (cl gs cs : Nat) (l : List Int) (s : List Nat), e = .returned (.tuple #[.slice al l.length cl, .slice (some ⟨gs, 0, none⟩) s.length cs]) ∧ w'.ownsRow w.heap.size nodT 1 (.slice al l.length cl) l.length (l.map nodeV) ∧ w'.ownsRow w.heap.size inT 1 (.slice (some ⟨gs, 0, none⟩) s.length cs) s.length (s.map (fun n => Value.int .i64 (n : Nat))) ∧ w.grownBy w' none ∧
      Core N ids k (fun x => decide (x ∈ l.drop (s.take k).sum)) ∧ l.Nodup ∧ l.length ≤ 1000 ∧ l.length ≤ cl ∧ s.length ≤ cs ∧ s.sum = l.length ∧ s.length ≤ 1001 ∧ k ≤ s.length := by
  obtain ⟨al, cl, gs, cs, l, s, K, rfl, ho, hso, hg, hok, hnd, hsub, hall, hK, hll, hcl, hcs, hsum, hs1⟩ := h.parts
  have h9 := hok.kle hall hk
  exact ⟨al, cl, gs, cs, l, s, rfl, ho, hso, hg, core_drop hok hnd hsub hall h9, hnd, Nat.le_trans hll hids, hcl, hcs, hsum, hs1, by rw [hok.len]; exact h9⟩
def KcPost (N : Int → List Int) (ids : List Int) (k : Nat) (w : World) (e : Ending) (w' : World) : Prop :=
  ∃ (v : Value) (L : List Int), e = .returned v ∧ w'.ownsRow w.heap.size nodT 1 v L.length (L.map nodeV) ∧ w.grownBy w' none ∧ L.Nodup ∧ L.length ≤ 1000 ∧ Core N ids k (fun x => decide (x ∈ L))

set_option maxHeartbeats 2000000 in
set_option maxRecDepth 100000 in
theorem kcore_of {p0 : Nat} {N : Int → List Int} {ids : List Int} {k : Nat} {w : World} (hids : ids.length ≤ 1000) (hk : k ≤ 1 ∨ ∃ C x, Supp N ids (k - 1) C ∧ C x = true) (hd : Calls Try.prog 20 #[.iface undT (dirV p0)] w (DegPost N ids w)) :
    Calls Try.prog 15 #[.int .i64 k, .iface undT (dirV p0)] w (KcPost N ids k w) := by
  have hd2 := fun e w' (h : DegPost N ids w e w') => h.kc hids hk
  go_enter Try.func15, Try.ntmps15
  go_wp2_with (go_at_call 20; refine hd.mono ?_; intro e w1 hp; have hp2 := hd2 _ _ hp; obtain ⟨al, cl, gs, cs, l, s, rfl, ho, hso, hg, hcore, hnd, hll, hcl, hcs, hsum, hs1, hkK⟩ := hp2; have hkc : (k : Int) ≤ (cs : Int) := (by omega); clear hp; replace hg := Lib.hid hg; replace hso := Lib.hid (And.intro ho hso); replace hcore := Lib.hid (And.intro hcore hnd); replace hsum := Lib.hid hsum; clear ho hnd)
  go_loopw [7, 9, 20] (fun a7 _ a20 wr => wr = w1 ∧ ∃ i : Nat, i ≤ k ∧ a20 = .int .i64 i ∧ a7 = .int .i64 (((s.take i).sum : Nat) : Int)) (fun _ _ i _ => k - (intOf i).toNat)
  case atStart => exact ⟨rfl, 0, Nat.zero_le _, rfl, by simp⟩
  case round =>
    obtain ⟨rfl, i, hi, rfl, rfl⟩ := hrel
    by_cases hlt : i < k
    · have hlt' : (i : Int) < (k : Int) := by omega
      have hls : i < s.length := by omega
      have c1 : wr.cell? ⟨gs, i, none⟩ = some (.int .i64 ((s[i] : Nat) : Int)) := by
        have h8 := hso.out.2.cells (g := gs) rfl i (.int .i64 ((s[i] : Nat) : Int)) (by simp [hls])
        rwa [addr_add, Nat.zero_add] at h8
      have hs2 := sum_take_succ s hls
      have hs3 := sum_take_le s (i + 1)
      rw [hsum.out] at hs3
      obtain ⟨m, hm⟩ : ∃ m, m = s[i] := ⟨_, rfl⟩
      rw [← hm] at c1 hs2
      obtain ⟨off, hoff⟩ : ∃ off, off = (s.take i).sum := ⟨_, rfl⟩
      rw [← hoff] at hs2
      rw [← hoff]
      have hnew : (((s.take (i + 1)).sum : Nat) : Int) = (off : Int) + m := by omega
      have hb1 : (off : Int) + m ≤ 1000 := by omega
      have HR := Lib.hid hnew
      clear hnew hs2 hs3 hm hoff
      go_wp2_with fail
      go_roundw
      case rel => exact ⟨by trivial, i + 1, hlt, rfl, by rw [HR.out]⟩
      case measure => simp [intOf]; omega
    · have hlt' : ¬ (i : Int) < (k : Int) := by omega
      obtain rfl : i = k := by omega
      have hs3 := sum_take_le s i
      rw [hsum.out] at hs3
      obtain ⟨off, hoff⟩ : ∃ off, off = (s.take i).sum := ⟨_, rfl⟩
      rw [← hoff] at hs3 hcore
      rw [← hoff]
      obtain ⟨n, hn⟩ : ∃ n, n = l.length - off := ⟨_, rfl⟩
      have hnI : ((n : Nat) : Int) = (l.length : Int) - off := by omega
      have hmk := mk_nd n (by omega) wr
      rw [hnI] at hmk
      have hw : IntKind.i64.wrap ((l.length : Int) - off) = (l.length : Int) - off := by rw [IntKind.wrap_i64]; omega
      have hsl := run_slice_from (P := Try.prog) elN al l.length cl off hs3 (wr.alloc (.cells (madeCells #[.nilIface] n) nodT))
      obtain ⟨a9, ha9⟩ : ∃ a9, a9 = (if cl = off then al else al.map (·.add (off * 1))) := ⟨_, rfl⟩
      obtain ⟨c9, hc9⟩ : ∃ c9, c9 = cl - off := ⟨_, rfl⟩
      rw [← ha9, ← hc9, ← hn] at hsl
      obtain ⟨CS, hCS⟩ : ∃ CS, CS = (l.drop off).map nodeV := ⟨_, rfl⟩
      have hCl : CS.length = n := by rw [hCS, hn]; simp
      obtain ⟨M0, hM0⟩ : ∃ M0, M0 = (madeCells #[Value.nilIface] n).toList := ⟨_, rfl⟩
      have hM1 : (wr.alloc (.cells (madeCells #[.nilIface] n) nodT)).heap[wr.heap.size]? = some (.cells M0.toArray nodT (0, 0)) := by
        rw [hM0, Array.toArray_toList]
        exact heap_alloc_new wr _
      have hM2 : M0.length = n := by rw [hM0, Array.length_toList, size_madeCells]
      have hpos : 0 < CS.length → (some ⟨wr.heap.size, 0, none⟩ : Option Addr) = some ⟨wr.heap.size, 0, none⟩ ∧ ∃ ad, a9 = some ad ∧ ∀ j v, CS[j]? = some v → (wr.alloc (.cells (madeCells #[.nilIface] n) nodT)).cell? (ad.add j) = some v := fun h0 => by
        refine ⟨rfl, ?_⟩
        have ho := hso.out.1
        obtain ⟨gl, cl', e1, _, hgl, _⟩ := own_row ho (by omega)
        simp only [Value.slice.injEq] at e1
        obtain ⟨rfl, _, rfl⟩ := e1
        have hne : ¬ cl = off := by omega
        rw [if_neg hne] at ha9
        refine ⟨⟨gl, off, none⟩, by rw [ha9]; simp [addr_add], fun j v hv => ?_⟩
        rw [addr_add, cell_alloc_old _ hgl]
        rw [hCS, List.getElem?_map, List.getElem?_drop] at hv
        have h8 := ho.cells (g := gl) rfl (off + j) v (by rw [List.getElem?_map]; exact hv)
        rwa [addr_add, Nat.zero_add] at h8
      have h1 : ∀ v ∈ CS, v.oneCell' = true := fun v hv => by
        rw [hCS] at hv
        obtain ⟨x, _, rfl⟩ := List.mem_map.1 hv
        rfl
      have HR := Lib.hid (And.intro hCS (And.intro hn (And.intro hoff (And.intro hM2 hCl))))
      have hfit : 0 + CS.length ≤ M0.length := by omega
      have hnm : CS.length = Nat.min n n := by rw [hCl]; exact (Nat.min_self n).symm
      have HP := Lib.hid (And.intro hpos (And.intro h1 (And.intro hfit (And.intro hnm hM1))))
      clear hCS hM0 hM1 hM2 hpos h1 hfit hnm ha9 hc9 hCl hoff hn hnI
      go_wp2_with (with_reducible refine Go.wpList_copy_splice rfl (.tmp 33) (.tmp 36) 46 46 rfl nodT Try.underlying46 (by kernel_rfl) (some ⟨wr.heap.size, 0, none⟩) a9 n n n c9 rfl rfl wr.heap.size 0 M0 nodT HP.out.2.2.2.2 CS HP.out.2.2.2.1 HP.out.1 HP.out.2.2.1 HP.out.2.1 wr.heap.size wr (grown_below (grown_alloc wr _)) (Nat.le_refl _) ?_; intro w5 hg5 hb5)
      refine bodyPost_ret (v := .slice (some ⟨wr.heap.size, 0, none⟩) n n) (by simp [results, Try.results15, go_sem]) rfl ?_
      obtain ⟨hCS, hn, hoff, hM2, hCl⟩ := HR.out
      have hsp : Go.splice M0 0 CS = CS := by
        unfold Go.splice
        rw [List.take_zero, List.nil_append, Nat.zero_add, List.drop_eq_nil_of_le (by omega), List.append_nil]
      have h5 := hg5.out
      rw [hsp] at h5
      have hdl : (l.drop off).length = n := by rw [List.length_drop, hn]
      refine ⟨_, l.drop off, rfl, ?_, grown_tr hg.out (Below.asGrown hb5), hcore.out.2.sublist (List.drop_sublist _ _), by omega, hcore.out.1⟩
      rw [hdl]
      refine ⟨by rw [List.length_map, hdl, Nat.mul_one], .inr ⟨wr.heap.size, n, _, rfl, hg.out.size, h5, Nat.le_refl _, by unfold maxLen; omega, by simp [hCl], ?_⟩⟩
      rw [← hCS, Nat.mul_one, ← hCl]
      simp
end Go.Proofs.Ytinlaaeoiocfoaa
