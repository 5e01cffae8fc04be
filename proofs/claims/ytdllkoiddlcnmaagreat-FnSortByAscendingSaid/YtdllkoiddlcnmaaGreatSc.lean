/- Strongly connected components, plainly: who stands together. -/
import Derived.Test.YtdllkoiddlcnmaaGreatTk
import Derived.Test.YtdllkoiddlcnmaaGreatOu
import Derived.Test.YtdllkoiddlcnmaaGreatTo
namespace Go.Proofs.YtdllkoiddlcnmaaGreat
section
variable {succ : Int → List Int}

theorem ok_tog : ∀ {L : List (List Int)}, OutOk succ L → L.flatten.Nodup → ∀ {u v : Int}, u ∈ L.flatten → v ∈ L.flatten → ((∃ c ∈ L, u ∈ c ∧ v ∈ c) ↔ Rch (SE succ) u v ∧ Rch (SE succ) v u)
  | [], _, _, u, v, hu, _ => by simp at hu
  | c :: L, h, hn, u, v, hu, hv => by
    obtain ⟨h1, h2, h3, h4⟩ := h
    rw [List.flatten_cons, List.nodup_append] at hn
    obtain ⟨n1, n2, n3⟩ := hn
    have hno : ∀ x, x ∈ c → x ∉ L.flatten := fun x hx hx2 => n3 x hx x hx2 rfl
    have hclo := OutOk.closed succ h4
    have hin : ∀ d ∈ L, ∀ x ∈ d, x ∈ L.flatten := fun d hd x hx => List.mem_flatten.2 ⟨d, hd, hx⟩
    rw [List.flatten_cons, List.mem_append] at hu hv
    constructor
    · rintro ⟨d, hd, hud, hvd⟩
      rcases List.mem_cons.1 hd with rfl | hd
      · exact ⟨h1 u hud v hvd, h1 v hvd u hud⟩
      · exact (ok_tog h4 n2 (hin d hd u hud) (hin d hd v hvd)).1 ⟨d, hd, hud, hvd⟩
    · rintro ⟨k1, k2⟩
      rcases hu with hu | hu
      · rcases hv with hv | hv
        · exact ⟨c, by simp, hu, hv⟩
        · exact absurd (closed_rch succ (C := fun x => x ∈ L.flatten) hclo hv k2) (hno u hu)
      · have hv' : v ∈ L.flatten := closed_rch succ (C := fun x => x ∈ L.flatten) hclo hu k1
        obtain ⟨d, hd, e1, e2⟩ := (ok_tog h4 n2 hu hv').2 ⟨k1, k2⟩
        exact ⟨d, by simp [hd], e1, e2⟩

theorem OutOk.ne : ∀ {L : List (List Int)}, OutOk succ L → ∀ c ∈ L, c ≠ []
  | [], _, c, hc => by cases hc
  | d :: L, h, c, hc => by
    rcases List.mem_cons.1 hc with rfl | hc
    · exact h.2.2.1
    · exact OutOk.ne h.2.2.2 c hc

def TIn (ids : List Int) (s : TSt) : Prop := (∀ x ∈ s.stk, x ∈ ids) ∧ ∀ x ∈ s.out.flatten, x ∈ ids
theorem tfin_in {ids : List Int} {v : Int} {s : TSt} (hv : v ∈ ids) (h : TIn ids s) : TIn ids (tfin v s) := by
  unfold tfin
  split
  · refine ⟨fun x hx => h.1 x ((List.dropWhile_sublist _).subset (List.mem_of_mem_tail hx)), fun x hx => ?_⟩
    have hx' : x ∈ ((s.stk.takeWhile (· ≠ v) ++ [v]) :: s.out).flatten := hx
    rw [List.flatten_cons, List.mem_append, List.mem_append] at hx'
    rcases hx' with (hx' | hx') | hx'
    · exact h.1 x ((List.takeWhile_sublist _).subset hx')
    · rw [List.mem_singleton] at hx'; rw [hx']; exact hv
    · exact h.2 x hx'
  · exact h
theorem tvisit_in {ids : List Int} (hids : ∀ x ∈ ids, ∀ y ∈ succ x, y ∈ ids) : ∀ (f : Nat) (v : Int) (s : TSt), v ∈ ids → TIn ids s → TIn ids (tvisit succ f v s)
  | 0, v, s, _, hs => hs
  | f + 1, v, s, hv, hs => by
    have main : ∀ (l : List Int) (t : TSt), (∀ y ∈ l, y ∈ ids) → TIn ids t → TIn ids (l.foldl (tstep (tvisit succ f) v) t) := by
      intro l
      induction l with
      | nil => intro t _ h; exact h
      | cons y l ih =>
        intro t hl ht
        rw [List.foldl_cons]
        refine ih _ (fun z hz => hl z (by simp [hz])) ?_
        unfold tstep
        by_cases h1 : t.tab y = 0
        · rw [if_pos h1]
          exact tvisit_in hids f y t (hl y (by simp)) ht
        · rw [if_neg h1]
          split
          · exact ht
          · exact ht
    refine tfin_in hv (main (succ v) (s.push v) (hids v hv) ⟨fun x hx => ?_, hs.2⟩)
    have hx' : x ∈ v :: s.stk := hx
    rcases List.mem_cons.1 hx' with rfl | h
    · exact hv
    · exact hs.1 x h
theorem tall_in {ids : List Int} (hids : ∀ x ∈ ids, ∀ y ∈ succ x, y ∈ ids) (f : Nat) : ∀ (nodes : List Int) (s : TSt), (∀ x ∈ nodes, x ∈ ids) → TIn ids s → TIn ids (nodes.foldl (fun s v => if s.tab v = 0 then tvisit succ f v s else s) s)
  | [], s, _, h => h
  | v :: nodes, s, hn, h => by
    rw [List.foldl_cons]
    refine tall_in hids f nodes _ (fun x hx => hn x (by simp [hx])) ?_
    split
    · exact tvisit_in hids f v s (hn v (by simp)) h
    · exact h

/-- what the answer is -/
structure SccOk (E : Int → Int → Prop) (ids : List Int) (L : List (List Int)) : Prop where
  ne : ∀ c ∈ L, c ≠ []
  asc : ∀ c ∈ L, c.Pairwise (· < ·)
  perm : L.flatten.Perm ids
  tog : ∀ u ∈ ids, ∀ v ∈ ids, Tog L u v ↔ Rch E u v ∧ Rch E v u

theorem flatten_map_srt : ∀ (L : List (List Int)), (L.map srt).flatten.Perm L.flatten
  | [] => .refl _
  | c :: L => by
    rw [List.map_cons, List.flatten_cons, List.flatten_cons]
    exact (srt_perm c).append (flatten_map_srt L)
theorem flatten_rev : ∀ (L : List (List Int)), L.reverse.flatten.Perm L.flatten := fun L => (List.reverse_perm L).flatten

theorem scc_ok {ids : List Int} (hids : ∀ x ∈ ids, ∀ y ∈ succ x, y ∈ ids) (hnd : ids.Nodup) : SccOk (SE succ) ids ((tall succ ids.length ids).out.reverse.map srt) := by
  obtain ⟨h1, h2, -, h4⟩ := tall_ok hids (nodes := ids) (fun x => Iff.rfl) ids.length (Nat.le_refl _)
  have h5 : ∀ x ∈ (tall succ ids.length ids).out.flatten, x ∈ ids := (tall_in hids ids.length ids TSt.init (fun x hx => hx) ⟨by simp [TSt.init], by simp [TSt.init]⟩).2
  have hsub : ∀ c ∈ (tall succ ids.length ids).out, c.Nodup := fun c hc => by
    exact (List.sublist_flatten_of_mem hc).nodup h2
  generalize (tall succ ids.length ids).out = L at *
  refine ⟨fun c hc => ?_, fun c hc => ?_, ?_, fun u hu v hv => ?_⟩
  · obtain ⟨d, hd, rfl⟩ := List.mem_map.1 hc
    have := OutOk.ne h1 d (by simpa using hd)
    intro e
    have := congrArg List.length e
    rw [length_srt] at this
    exact ‹d ≠ []› (List.eq_nil_of_length_eq_zero this)
  · obtain ⟨d, hd, rfl⟩ := List.mem_map.1 hc
    exact srt_nodup (hsub d (by simpa using hd))
  · refine ((flatten_map_srt L.reverse).trans (flatten_rev L)).trans ?_
    rw [List.perm_ext_iff_of_nodup h2 hnd]
    exact fun x => ⟨h5 x, h4 x⟩
  · rw [← ok_tog h1 h2 (h4 u hu) (h4 v hv)]
    unfold Tog
    constructor
    · rintro ⟨c, hc, e1, e2⟩
      obtain ⟨d, hd, rfl⟩ := List.mem_map.1 hc
      exact ⟨d, by simpa using hd, mem_srt.1 e1, mem_srt.1 e2⟩
    · rintro ⟨d, hd, e1, e2⟩
      exact ⟨srt d, List.mem_map.2 ⟨d, by simpa using hd, rfl⟩, mem_srt.2 e1, mem_srt.2 e2⟩
end

theorem asc_same {c d : List Int} (h1 : c.Pairwise (· < ·)) (h2 : d.Pairwise (· < ·)) (h : ∀ x, x ∈ c ↔ x ∈ d) : c = d := by
  have n1 : c.Nodup := h1.imp (fun hab e => by omega)
  have n2 : d.Nodup := h2.imp (fun hab e => by omega)
  exact List.Perm.eq_of_pairwise (fun a b _ _ hab hba => by omega) h1 h2 ((List.perm_ext_iff_of_nodup n1 n2).2 h)
theorem flat_uniq : ∀ {L : List (List Int)}, L.flatten.Nodup → ∀ {c d : List Int} {x : Int}, c ∈ L → d ∈ L → x ∈ c → x ∈ d → c = d
  | [], _, _, _, _, h, _, _, _ => by cases h
  | e :: L, hn, c, d, x, hc, hd, xc, xd => by
    rw [List.flatten_cons, List.nodup_append] at hn
    obtain ⟨_, n2, n3⟩ := hn
    rcases List.mem_cons.1 hc with rfl | hc2
    · rcases List.mem_cons.1 hd with rfl | hd2
      · rfl
      · exact absurd rfl (n3 x xc x (List.mem_flatten.2 ⟨d, hd2, xd⟩))
    · rcases List.mem_cons.1 hd with rfl | hd2
      · exact absurd rfl (n3 x xd x (List.mem_flatten.2 ⟨c, hc2, xc⟩))
      · exact flat_uniq n2 hc2 hd2 xc xd
theorem flat_nodup : ∀ {L : List (List Int)}, L.flatten.Nodup → (∀ c ∈ L, c ≠ []) → L.Nodup
  | [], _, _ => List.nodup_nil
  | e :: L, hn, hne => by
    rw [List.flatten_cons, List.nodup_append] at hn
    obtain ⟨_, n2, n3⟩ := hn
    rw [List.nodup_cons]
    refine ⟨fun he => ?_, flat_nodup n2 (fun c hc => hne c (by simp [hc]))⟩
    obtain ⟨x, hx⟩ := List.exists_mem_of_ne_nil e (hne e (by simp))
    exact n3 x hx x (List.mem_flatten.2 ⟨e, he, hx⟩) rfl
theorem SccOk.sub {E : Int → Int → Prop} {ids : List Int} {L L' : List (List Int)} (hnd : ids.Nodup) (h : SccOk E ids L) (h' : SccOk E ids L') : ∀ c ∈ L, c ∈ L' := by
  intro c hc
  have nL := h.perm.nodup_iff.2 hnd
  have nL' := h'.perm.nodup_iff.2 hnd
  have hin : ∀ {d : List Int} {x : Int}, d ∈ L → x ∈ d → x ∈ ids := fun hd hx => h.perm.mem_iff.1 (List.mem_flatten.2 ⟨_, hd, hx⟩)
  have hin' : ∀ {d : List Int} {x : Int}, d ∈ L' → x ∈ d → x ∈ ids := fun hd hx => h'.perm.mem_iff.1 (List.mem_flatten.2 ⟨_, hd, hx⟩)
  obtain ⟨x, hx⟩ := List.exists_mem_of_ne_nil c (h.ne c hc)
  have hxi := hin hc hx
  obtain ⟨d, hd, hxd⟩ := List.mem_flatten.1 (h'.perm.mem_iff.2 hxi)
  have : c = d := by
    refine asc_same (h.asc c hc) (h'.asc d hd) (fun y => ⟨fun hy => ?_, fun hy => ?_⟩)
    · obtain ⟨d', hd', e1, e2⟩ := (h'.tog x hxi y (hin hc hy)).2 ((h.tog x hxi y (hin hc hy)).1 ⟨c, hc, hx, hy⟩)
      rw [flat_uniq nL' hd hd' hxd e1]
      exact e2
    · obtain ⟨d', hd', e1, e2⟩ := (h.tog x hxi y (hin' hd hy)).2 ((h'.tog x hxi y (hin' hd hy)).1 ⟨d, hd, hxd, hy⟩)
      rw [flat_uniq nL hc hd' hx e1]
      exact e2
  rw [this]
  exact hd
theorem SccOk.same {E : Int → Int → Prop} {ids : List Int} {L L' : List (List Int)} (hnd : ids.Nodup) (h : SccOk E ids L) (h' : SccOk E ids L') : L.Perm L' :=
  (List.perm_ext_iff_of_nodup (flat_nodup (h.perm.nodup_iff.2 hnd) h.ne) (flat_nodup (h'.perm.nodup_iff.2 hnd) h'.ne)).2 (fun c => ⟨h.sub hnd h' c, h'.sub hnd h c⟩)
theorem SccOk.mono {E E' : Int → Int → Prop} {ids : List Int} {L : List (List Int)} (h : SccOk E ids L) (hE : ∀ u ∈ ids, ∀ v, Rch E u v ↔ Rch E' u v) : SccOk E' ids L :=
  ⟨h.ne, h.asc, h.perm, fun u hu v hv => by rw [h.tog u hu v hv, hE u hu v, hE v hv u]⟩
theorem scc_one {E : Int → Int → Prop} {x : Int} {L : List (List Int)} (h : SccOk E [x] L) : L.length = 1 := by
  have hl := h.perm.length_eq
  rcases L with _ | ⟨c, _ | ⟨d, L⟩⟩
  · simp at hl
  · rfl
  · have h1 := List.length_pos_iff.2 (h.ne c (by simp))
    have h2 := List.length_pos_iff.2 (h.ne d (by simp))
    simp at hl
    omega
end Go.Proofs.YtdllkoiddlcnmaaGreat
