/- impl.iterated, over an iterator of nodes of whatever kind. -/
import Derived.Test.YtcbkalppclilfaaGreatNx
namespace Go.Proofs.YtcbkalppclilfaaGreat
open Go.MapKept Go.RowKit

theorem grown_self (w : World) (row : Option Nat) : w.grownBy w row := ⟨rfl, rfl, rfl, Nat.le_refl _, fun _ _ _ => rfl⟩
def ItdPost (l : List Int) (q : Nat) (w : World) (e : Ending) (w' : World) : Prop := ∃ v, e = .returned v ∧ w'.ownsRow w.heap.size 3 1 v l.length ((srt l).map (Value.int .i64)) ∧ w.grownBy w' (some q)
def ItdRel (I : World → Nat → Prop) (l : List Int) (q : Nat) (w : World) (v : Value) (wr : World) : Prop := ∃ k, k ≤ l.length ∧ I wr k ∧ wr.ownsRow w.heap.size 3 1 v k ((l.take k).map (Value.int .i64)) ∧ w.grownBy wr (some q)
def lenOf : Value → Nat
  | .slice _ n _ => n
  | _ => 0

set_option maxHeartbeats 1000000 in
set_option maxRecDepth 100000 in
theorem iterated_on {p q : Nat} {l : List Int} {w : World} {I : World → Nat → Prop} (hI : I w 0)
    (hnext : ∀ W k, I W k → k < l.length → Calls Tryz.prog 161 #[.pointer (some ⟨p, 0, none⟩)] W (fun e W' => e = .returned (.bool true) ∧ I W' (k + 1) ∧ W.grownBy W' (some q)))
    (hend : ∀ W, I W l.length → Calls Tryz.prog 161 #[.pointer (some ⟨p, 0, none⟩)] W (fun e W' => e = .returned (.bool false) ∧ W.grownBy W' (some q)))
    (hnode : ∀ W k (hk : k < l.length), I W (k + 1) → Calls Tryz.prog 162 #[.pointer (some ⟨p, 0, none⟩)] W (fun e W' => e = .returned (nodeV l[k]) ∧ W.grownBy W' none))
    (hstab : ∀ W W' row k, I W k → W.grownBy W' row → (∀ b, row = some b → w.heap.size ≤ b) → I W' k)
    (hq : q < w.heap.size) (hl : l.length ≤ 1000000) :
    Calls Tryz.prog 43 #[.iface onpT (.pointer (some ⟨p, 0, none⟩))] w (ItdPost l q w) := by
  have HI := Lib.hid hI
  have HN := Lib.hid (And.intro hnext (And.intro hend (And.intro hnode hstab)))
  clear hI hnext hend hnode hstab
  go_enter Tryz.func43, Tryz.ntmps43
  go_wp2_with fail
  go_loopw [3] (fun v wr => ItdRel I l q w v wr) (fun v _ => l.length - lenOf v)
  case atStart => exact ⟨0, Nat.zero_le _, HI.out, ⟨rfl, .inl ⟨rfl, rfl⟩⟩, grown_self _ _⟩
  case round =>
    obtain ⟨k, hk, hI, hown, hg⟩ := hrel
    obtain ⟨av, cv, rfl⟩ := own_slice hown
    by_cases hlt : k < l.length
    · have hcall := HN.out.1 wr k hI hlt
      have hnod := fun W h => HN.out.2.2.1 W k hlt h
      have hlk : (l.take (k + 1)).map (Value.int .i64) = (l.take k).map (Value.int .i64) ++ [.int .i64 l[k]] := by rw [List.take_succ_eq_append_getElem hlt, List.map_append]; rfl
      obtain ⟨x, hx⟩ : ∃ x, x = l[k] := ⟨_, rfl⟩
      rw [← hx] at hnod hlk
      have HX := Lib.hid (And.intro hlk (And.intro hown hg))
      have hne : (Value.slice av k cv).ownBlock = none ∨ (Value.slice av k cv).ownBlock ≠ some q := by
        by_cases h0 : (Value.slice av k cv).ownBlock = none
        · exact .inl h0
        · refine .inr (fun e => ?_)
          have := (hown.lt q e).1
          omega
      have HNE := Lib.hid hne
      clear hx hown hg hne hI hlk
      go_wp2_with (first
        | (go_at_call 161; refine hcall.mono ?_; rintro e w1 ⟨rfl, hI1, hg1⟩; have hcall2 := hnod _ hI1; replace hI1 := Lib.hid hI1)
        | (go_at_call 162; refine hcall2.mono ?_; rintro e w2 ⟨rfl, hg2⟩)
        | (go_at_call 46; refine (number_any _ _).mono ?_; rintro e w' ⟨rfl, rfl⟩; have ho2 := own_new (HX.out.2.1.kept hg1 HNE.out) hg2; have hs2 : w.heap.size ≤ w2.heap.size := by (have := HX.out.2.2.size; have := hg1.size; have := hg2.size; omega))
        | (at_builtin; refine wpx_app1 elI rfl (.tmp 6) (.tmp 10) rfl w.heap.size (.slice av k cv) k _ rfl (ho2.alloc _) w2.heap.size #[.int .i64 x] (heap_alloc_new w2 _) (w2.heap.size + 1) (by simp) 1 rfl rfl (by simp [Value.oneCell']) (by omega) (by unfold maxLen; omega) (by omega) ?_; intro g5 c5 w5 ho5 hg5 hat hlt2 hsz))
      go_roundw
      case rel =>
        obtain ⟨hlk, hown, hg⟩ := HX.out
        have ho2 := own_new (hown.kept hg1 HNE.out) hg2
        refine ⟨k + 1, by omega, ?_, ?_, ?_⟩
        · exact HN.out.2.2.2 _ _ _ _ (HN.out.2.2.2 _ _ _ _ hI1.out (grown_tr hg2 (grown_alloc _ _)) (by simp)) hg5 (fun b hb => (hown.lt b hb).1)
        · rw [hlk]; exact ho5
        · exact grown_row (grown_row (grown_row hg hg1 (fun k hk => .inl (by cases hk; rfl))) (grown_tr hg2 (grown_alloc _ _)) (by simp)) hg5 (fun b hb => .inr (hown.lt b hb).1)
      case measure => simp [lenOf]; omega
    · obtain rfl : k = l.length := by omega
      rw [List.take_length] at hown
      have hcall := HN.out.2.1 wr hI
      have hne : (Value.slice av l.length cv).ownBlock = none ∨ (Value.slice av l.length cv).ownBlock ≠ some q := by
        by_cases h0 : (Value.slice av l.length cv).ownBlock = none
        · exact .inl h0
        · refine .inr (fun e => ?_)
          have := (hown.lt q e).1
          omega
      have HX := Lib.hid (And.intro hown (And.intro hg hne))
      clear hown hg hI hne
      go_wp2_with (first
        | (go_at_call 161; refine hcall.mono ?_; rintro e w1 ⟨rfl, hg1⟩; have hso := sort_int (HX.out.1.kept hg1 HX.out.2.2) (by omega))
        | (go_at_call 31; refine hso.mono ?_; rintro e w4 ⟨rfl, ho4, hg4⟩))
      go_ret
      obtain ⟨hown, hg, hne⟩ := HX.out
      exact ⟨_, rfl, ho4, grown_row (grown_row hg hg1 (fun k hk => .inl (by cases hk; rfl))) hg4 (fun b hb => .inr (hown.lt b hb).1)⟩
end Go.Proofs.YtcbkalppclilfaaGreat
