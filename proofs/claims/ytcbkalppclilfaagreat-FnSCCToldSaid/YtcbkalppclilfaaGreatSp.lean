/- The components as the reference finds them, plainly. -/
import Derived.Test.YtcbkalppclilfaaGreatSc
namespace Go.Proofs.YtcbkalppclilfaaGreat

/-- the nodes of u's component -/
structure ClsOk (E : Int → Int → Prop) (ids : List Int) (u : Int) (c : List Int) : Prop where
  asc : c.Pairwise (· < ·)
  iff : ∀ v, v ∈ c ↔ v ∈ ids ∧ Rch E u v ∧ Rch E v u

/-- what the reference has after some nodes -/
structure SpInv (E : Int → Int → Prop) (ids seen : List Int) (out : List (List Int)) : Prop where
  cls : ∀ c ∈ out, ∃ u ∈ ids, ClsOk E ids u c
  nd : out.flatten.Nodup
  got : ∀ x ∈ seen, x ∈ out.flatten

theorem SpInv.nil (E : Int → Int → Prop) (ids : List Int) : SpInv E ids [] [] := ⟨by simp, by simp, by simp⟩
theorem SpInv.skip {E : Int → Int → Prop} {ids seen : List Int} {out : List (List Int)} {u : Int} (h : SpInv E ids seen out) (hu : u ∈ out.flatten) : SpInv E ids (seen ++ [u]) out :=
  ⟨h.cls, h.nd, fun x hx => by
    rcases List.mem_append.1 hx with hx | hx
    · exact h.got x hx
    · rw [List.mem_singleton.1 hx]; exact hu⟩
theorem SpInv.more {E : Int → Int → Prop} {ids seen : List Int} {out : List (List Int)} {u : Int} {c : List Int} (h : SpInv E ids seen out) (hui : u ∈ ids) (hu : u ∉ out.flatten) (hc : ClsOk E ids u c) : SpInv E ids (seen ++ [u]) (out ++ [c]) := by
  have hf : (out ++ [c]).flatten = out.flatten ++ c := by simp
  have huc : u ∈ c := (hc.iff u).2 ⟨hui, .refl _, .refl _⟩
  refine ⟨fun d hd => ?_, ?_, fun x hx => ?_⟩
  · rcases List.mem_append.1 hd with hd | hd
    · exact h.cls d hd
    · rw [List.mem_singleton.1 hd]; exact ⟨u, hui, hc⟩
  · rw [hf, List.nodup_append]
    refine ⟨h.nd, hc.asc.imp (fun hab e => by omega), fun x hx y hy e => ?_⟩
    subst e
    obtain ⟨d, hd, hxd⟩ := List.mem_flatten.1 hx
    obtain ⟨t, ht, hk⟩ := h.cls d hd
    obtain ⟨_, k1, k2⟩ := (hk.iff x).1 hxd
    obtain ⟨_, k3, k4⟩ := (hc.iff x).1 hy
    exact hu (List.mem_flatten.2 ⟨d, hd, (hk.iff u).2 ⟨hui, k1.trans k4, k3.trans k2⟩⟩)
  · rw [hf, List.mem_append]
    rcases List.mem_append.1 hx with hx | hx
    · exact .inl (h.got x hx)
    · rw [List.mem_singleton.1 hx]; exact .inr huc
theorem SpInv.ok {E : Int → Int → Prop} {ids : List Int} {out : List (List Int)} (hnd : ids.Nodup) (h : SpInv E ids ids out) : SccOk E ids out := by
  have hin : ∀ {x : Int}, x ∈ out.flatten → x ∈ ids := fun hx => by
    obtain ⟨d, hd, hxd⟩ := List.mem_flatten.1 hx
    obtain ⟨t, ht, hk⟩ := h.cls d hd
    exact ((hk.iff _).1 hxd).1
  refine ⟨fun c hc e => ?_, fun c hc => ?_, (List.perm_ext_iff_of_nodup h.nd hnd).2 (fun x => ⟨hin, h.got x⟩), fun u hu v hv => ?_⟩
  · obtain ⟨t, ht, hk⟩ := h.cls c hc
    have := (hk.iff t).2 ⟨ht, .refl _, .refl _⟩
    rw [e] at this
    cases this
  · obtain ⟨t, ht, hk⟩ := h.cls c hc
    exact hk.asc
  · constructor
    · rintro ⟨c, hc, e1, e2⟩
      obtain ⟨t, ht, hk⟩ := h.cls c hc
      obtain ⟨_, k1, k2⟩ := (hk.iff u).1 e1
      obtain ⟨_, k3, k4⟩ := (hk.iff v).1 e2
      exact ⟨k2.trans k3, k4.trans k1⟩
    · rintro ⟨k1, k2⟩
      obtain ⟨c, hc, e1⟩ := List.mem_flatten.1 (h.got u hu)
      obtain ⟨t, ht, hk⟩ := h.cls c hc
      obtain ⟨_, k3, k4⟩ := (hk.iff u).1 e1
      exact ⟨c, hc, e1, (hk.iff v).2 ⟨hv, k3.trans k1, k2.trans k4⟩⟩

/-- nodes filtered -/
theorem cls_filter {E : Int → Int → Prop} {ids V : List Int} {u : Int} {p : Int → Bool} (hu : u ∈ ids) (hE : ∀ x ∈ ids, ∀ y, E x y → y ∈ ids) (hV : ∀ x, x ∈ V ↔ Rch E u x) (hn : V.Nodup) (hp : ∀ v, Rch E u v → (p v = true ↔ Rch E v u)) : ClsOk E ids u ((srt V).filter p) := by
  refine ⟨(srt_nodup hn).filter _, fun v => ?_⟩
  rw [List.mem_filter, mem_srt, hV]
  constructor
  · rintro ⟨h1, h2⟩
    refine ⟨?_, h1, (hp v h1).1 h2⟩
    clear h2
    induction h1 with
    | refl => exact hu
    | tail _ r ih => exact hE _ ih _ r
  · rintro ⟨_, h1, h2⟩
    exact ⟨h1, (hp v h1).2 h2⟩
end Go.Proofs.YtcbkalppclilfaaGreat
