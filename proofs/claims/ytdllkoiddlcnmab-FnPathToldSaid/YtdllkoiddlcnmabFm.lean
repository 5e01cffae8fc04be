/- impl.from, where all that is asked for is there. -/
import Derived.Test.YtdllkoiddlcnmabUn
namespace Go.Proofs.Ytdllkoiddlcnmab
open Go.MapKept Go.RowKit

def FmRel (n : Nat) (w1 : World) (a9 a22 : Value) (wr : World) : Prop := ∃ k : Nat, k ≤ n ∧ a9 = .bool true ∧ a22 = .int .i64 k ∧ w1.grownBy wr none

set_option maxHeartbeats 1000000 in
set_option maxRecDepth 100000 in
theorem from_any {G : Gr} {v vl : Value} {us : List Int} {w : World} (h : GrR w v G) (hG : G.Well) (hnl : G.nodes.length ≤ 1000) (hel : G.edges.length ≤ 10000) (hr : IntsR w vl us) (hus : ∀ x ∈ us, x ∈ G.ids) (hul : us.length ≤ 1000) :
    Calls Try.prog 12 #[v, vl] w (OpenPost G w) := by
  have hopen := fun O => open_any (h.grown (grown_alloc w O)) hG hnl hel
  have hidl : G.ids.length ≤ 1000 := by rw [Gr.length_ids]; exact hnl
  have hasc := hG.ids
  obtain ⟨vn, ve, rfl, ⟨an, cn, rfl, _⟩, ⟨ae, ce, rfl, _⟩⟩ := h.parts
  obtain ⟨al, cl, rfl, hcl⟩ := hr
  clear h
  have HC : Hid (0 < us.length → ∃ b o, al = some ⟨b, o, none⟩ ∧ ∀ W, w.grownBy W none → ∀ k (hk : k < us.length), W.cell? ⟨b, o + k, none⟩ = some (.int .i64 us[k])) := Lib.hid (fun hp => by
    obtain ⟨b, o, rfl, hb, hc⟩ := hcl hp
    exact ⟨b, o, rfl, fun W hW k hk => (grown_cell hW hb (by simp)).trans (hc k hk)⟩)
  have HX := Lib.hid (And.intro hidl (And.intro hasc (And.intro hus hul)))
  clear hcl hG hidl hasc hus hul
  go_enter Try.func12, Try.ntmps12
  go_wp2_with (go_at_call 9; refine (hopen _).mono ?_; intro e w1 hp; obtain ⟨p0, rfl, hp1, hg1⟩ := hp)
  have HW1 := Lib.hid (And.intro hp1 (grown_tr (grown_alloc _ _) hg1 : w.grownBy w1 none))
  obtain ⟨n, hn⟩ : ∃ n, n = us.length := ⟨_, rfl⟩
  have HN := Lib.hid hn
  rw [← hn]
  clear hopen hp1 hg1 hn
  go_loopw [9, 22] (fun a9 a22 wr => FmRel n w1 a9 a22 wr) (fun _ i _ => n - (intOf i).toNat)
  case atStart => exact ⟨0, Nat.zero_le _, rfl, rfl, grown_refl _⟩
  case round =>
    obtain ⟨k, hk, rfl, rfl, hg⟩ := hrel
    by_cases hlt : k < n
    · have hlt' : (k : Int) < n := by omega
      have hk9 : k < us.length := by rw [← HN.out]; exact hlt
      obtain ⟨b, o, rfl, hc⟩ := HC.out (by omega)
      have c1 := hc wr (grown_tr HW1.out.2 hg) k hk9
      have hin : us[k] ∈ G.ids := HX.out.2.2.1 _ (List.getElem_mem hk9)
      obtain ⟨x, hx⟩ : ∃ x, x = us[k] := ⟨_, rfl⟩
      rw [← hx] at c1 hin
      have hul := HX.out.2.2.2
      have hn9 : n ≤ 1000 := by rw [HN.out]; exact hul
      obtain ⟨vids, hci, hint, hpl⟩ := (HW1.out.1.grown hg).ids
      have hidx : Calls Try.prog 18 #[.pointer (some ⟨p0, 0, none⟩), .int .i64 x] wr (fun e w' => ∃ m : Int, e = .returned (.tuple #[.int .i64 m, .bool true]) ∧ wr = w') :=
        (plain_index (x := x) hci hint HX.out.2.1 (by have := HX.out.1; omega)).mono (fun e w' ⟨m, h1, h2, h3⟩ => ⟨m, by rw [h2, decide_eq_true hin], h3.symm⟩)
      have HG := Lib.hid hg
      clear hc hin hx hci hint hpl hg hul
      go_wp2_with (go_at_call 18; refine hidx.mono ?_; rintro e w' ⟨m, rfl, rfl⟩)
      go_roundw
      case rel => exact ⟨k + 1, by omega, rfl, by go_num, HG.out⟩
      case measure => simp [intOf]; omega
    · have hlt' : ¬ (k : Int) < n := by omega
      have HG := Lib.hid hg
      clear hg
      go_wp2_with fail
      refine bodyPost_ret (v := .tuple #[.iface (wayT G.dir) (dirV p0), .pointer (some ⟨p0, 0, none⟩), .bool true]) (by simp [results, Try.results12, go_sem]) rfl ⟨p0, rfl, HW1.out.1.grown HG.out, grown_tr HW1.out.2 HG.out⟩
end Go.Proofs.Ytdllkoiddlcnmab
