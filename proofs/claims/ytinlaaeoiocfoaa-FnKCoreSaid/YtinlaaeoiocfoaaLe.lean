/- The laws' own: few, fewOf. -/
import Derived.Test.YtinlaaeoiocfoaaLd
namespace Go.Proofs.Ytinlaaeoiocfoaa
open Go.RowKit Go.MapKept

def Gr.Few (G : Gr) (m : Nat) : Prop := G.nodes.length ≤ m ∧ G.edges.length ≤ 8 * m ∧ G.Well
def FewPost (P : Prop) (w : World) (e : Ending) (w' : World) : Prop := ∃ d : Bool, (d = true ↔ P) ∧ e = .returned (.bool d) ∧ w.grownBy w' none

set_option maxHeartbeats 400000 in
theorem few_any {G : Gr} {v : Value} {w : World} (m : Nat) (hm : m ≤ 1000) (h : GrR w v G) : Calls Try.prog 10 #[v, .int .i64 m] w (FewPost (G.Few m) w) := by
  have hw : ∀ W, w.grownBy W none → G.nodes.length ≤ m → G.edges.length ≤ 8 * m → Calls Try.prog 17 #[v] W (WellPost G W) := fun W hg h1 h2 => well_any (h.grown hg) (by omega) (by omega)
  obtain ⟨vn, ve, rfl, ⟨an, cn, rfl, _⟩, ⟨ae, ce, rfl, _⟩⟩ := h.parts
  clear h
  by_cases h1 : G.nodes.length ≤ m
  · have h1' : (G.nodes.length : Int) ≤ m := by omega
    by_cases h2 : G.edges.length ≤ 8 * m
    · have h2' : (G.edges.length : Int) ≤ 8 * m := by omega
      have hcall := fun W hg => hw W hg h1 h2
      clear hw
      go_enter Try.func10, Try.ntmps10
      go_wp2_with (go_at_call 17; refine (hcall _ (grown_alloc w _)).mono ?_; rintro e w2 ⟨d, hd, rfl, hg⟩; replace hd := Lib.hid hd)
      go_ret
      exact ⟨d, ⟨fun hh => ⟨h1, h2, hd.out.1 hh⟩, fun hh => hd.out.2 hh.2.2⟩, rfl, grown_tr (grown_alloc w _) hg⟩
    · have h2' : ¬ (G.edges.length : Int) ≤ 8 * m := by omega
      clear hw
      go_enter Try.func10, Try.ntmps10
      go_wp2_with fail
      go_ret
      exact ⟨false, ⟨nofun, fun hh => absurd hh.2.1 h2⟩, rfl, grown_alloc w _⟩
  · have h1' : ¬ (G.nodes.length : Int) ≤ m := by omega
    clear hw
    go_enter Try.func10, Try.ntmps10
    go_wp2_with fail
    go_ret
    exact ⟨false, ⟨nofun, fun hh => absurd hh.1 h1⟩, rfl, grown_alloc w _⟩

set_option maxHeartbeats 400000 in
theorem fewOf_any {G : Gr} {v : Value} {w : World} (dir : Bool) (m : Nat) (hm : m ≤ 1000) (h : GrR w v G) : Calls Try.prog 5 #[v, .bool dir, .int .i64 m] w (FewPost (G.dir = dir ∧ G.Few m) w) := by
  have hcall : ∀ W, w.grownBy W none → Calls Try.prog 10 #[v, .int .i64 m] W (FewPost (G.Few m) W) := fun W hg => few_any m hm (h.grown hg)
  obtain ⟨vn, ve, rfl, ⟨an, cn, rfl, _⟩, ⟨ae, ce, rfl, _⟩⟩ := h.parts
  clear h
  by_cases h1 : G.dir = dir
  · have hb : (G.dir == dir) = true := by simpa using h1
    have H1 := Lib.hid h1
    clear h1
    go_enter Try.func5, Try.ntmps5
    go_wp2_with (go_at_call 10; refine (hcall _ (grown_alloc w _)).mono ?_; rintro e w2 ⟨d, hd, rfl, hg⟩; replace hd := Lib.hid hd)
    go_ret
    exact ⟨d, ⟨fun hh => ⟨H1.out, hd.out.1 hh⟩, fun hh => hd.out.2 hh.2⟩, rfl, grown_tr (grown_alloc w _) hg⟩
  · have hb : (G.dir == dir) = false := by simpa using h1
    have H1 := Lib.hid h1
    clear h1 hcall
    go_enter Try.func5, Try.ntmps5
    go_wp2_with fail
    go_ret
    exact ⟨false, ⟨nofun, fun hh => absurd hh.1 H1.out⟩, rfl, grown_alloc w _⟩
end Go.Proofs.Ytinlaaeoiocfoaa
