/- A graph without directions as its nodes' neighbours, plainly. -/
import Derived.Test.YtinlaaeoiocfoaaDk
import Derived.Test.YtinlaaeoiocfoaaOu
namespace Go.Proofs.Ytinlaaeoiocfoaa

theorem outs_asc {ids : List Int} (ha : ids.Pairwise (· < ·)) (M : Mat) (x : Int) : (outs ids M x).Pairwise (· < ·) := by
  unfold outs
  rw [List.pairwise_map]
  have h1 := arcsOf_asc ids.length (M (ix ids x))
  refine List.Pairwise.imp_of_mem ?_ h1
  intro p q hp hq hpq
  have hp1 := (arcsOf_mem.1 hp).1
  have hq1 := (arcsOf_mem.1 hq).1
  have e1 : ids.getD p.1 0 = ids[p.1] := by simp [List.getD, hp1]
  have e2 : ids.getD q.1 0 = ids[q.1] := by simp [List.getD, hq1]
  rw [e1, e2]
  exact List.pairwise_iff_getElem.1 ha p.1 q.1 hp1 hq1 hpq
theorem asc_nodup {l : List Int} (h : l.Pairwise (· < ·)) : l.Nodup := h.imp (fun h => Int.ne_of_lt h)
theorem Gr.Well.symG {G : Gr} (hG : G.Well) (hd : G.dir = false) : Sym (outs G.ids G.mat) G.ids := by
  have ha := hG.ids
  refine ⟨fun x => asc_nodup (outs_asc ha _ x), fun x hx y hy => ?_, fun x hx => ?_⟩
  · rw [outs_iff ha hx, outs_iff ha hy]
    unfold edgeOf
    rw [G.mat_sym hd]
    exact ⟨fun h => ⟨h.2.1, h.1, h.2.2⟩, fun h => ⟨h.2.1, h.1, h.2.2⟩⟩
  · have hi := outs_in hx
    have h1 := (outs_iff ha hi).1 hx
    exact (hG.mat_lt h1.2.2).2.2 rfl
end Go.Proofs.Ytinlaaeoiocfoaa
