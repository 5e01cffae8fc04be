/- Tarjan's algorithm, plainly: what it does, step by step; its answer is the strongly connected components, in an order. -/
import Derived.Test.YtdllkoiddlcnmaaGreatWar
namespace Go.Proofs.YtdllkoiddlcnmaaGreat

structure TSt where
  idx : Nat
  tab : Int → Nat
  low : Int → Nat
  stk : List Int
  out : List (List Int)

def upN (f : Int → Nat) (x : Int) (n : Nat) : Int → Nat := fun y => if y = x then n else f y
def TSt.push (s : TSt) (v : Int) : TSt := { s with idx := s.idx + 1, tab := upN s.tab v (s.idx + 1), low := upN s.low v (s.idx + 1), stk := v :: s.stk }
def TSt.setLow (s : TSt) (v : Int) (n : Nat) : TSt := { s with low := upN s.low v n }
def TSt.close (s : TSt) (v : Int) : TSt := { s with stk := (s.stk.dropWhile (· ≠ v)).tail, out := (s.stk.takeWhile (· ≠ v) ++ [v]) :: s.out }
def TSt.init : TSt := ⟨0, fun _ => 0, fun _ => 0, [], []⟩

def tstep (rec : Int → TSt → TSt) (v : Int) (s : TSt) (w : Int) : TSt :=
  if s.tab w = 0 then (rec w s).setLow v (min ((rec w s).low v) ((rec w s).low w))
  else if w ∈ s.stk then s.setLow v (min (s.low v) (s.tab w)) else s

def tfin (v : Int) (s : TSt) : TSt := if s.low v = s.tab v then s.close v else s

def tvisit (succ : Int → List Int) : Nat → Int → TSt → TSt
  | 0, _, s => s
  | f + 1, v, s => tfin v ((succ v).foldl (tstep (tvisit succ f) v) (s.push v))

def tall (succ : Int → List Int) (f : Nat) (nodes : List Int) : TSt := nodes.foldl (fun s v => if s.tab v = 0 then tvisit succ f v s else s) TSt.init

section
variable (succ : Int → List Int)
abbrev SE (x y : Int) : Prop := y ∈ succ x

/-- components, the last one first: each is strongly connected, and edges lead out of it to earlier ones alone -/
def OutOk : List (List Int) → Prop
  | [] => True
  | c :: L => (∀ x ∈ c, ∀ y ∈ c, Rch (SE succ) x y) ∧ (∀ x ∈ c, ∀ y, y ∈ succ x → y ∈ c ∨ y ∈ L.flatten) ∧ c ≠ [] ∧ OutOk L

theorem OutOk.closed : ∀ {L : List (List Int)}, OutOk succ L → ∀ x ∈ L.flatten, ∀ y, y ∈ succ x → y ∈ L.flatten
  | [], _, x, hx, _, _ => by simp at hx
  | c :: L, h, x, hx, y, hy => by
    rw [List.flatten_cons, List.mem_append] at hx ⊢
    rcases hx with hx | hx
    · exact h.2.1 x hx y hy
    · exact .inr (OutOk.closed h.2.2.2 x hx y hy)

theorem closed_rch {C : Int → Prop} (h : ∀ x, C x → ∀ y, y ∈ succ x → C y) {x y : Int} (hx : C x) (k : Rch (SE succ) x y) : C y := by
  induction k with
  | refl => exact hx
  | tail _ r ih => exact h _ ih _ r

structure TInv (gray : List Int) (s : TSt) : Prop where
  srt : s.stk.Pairwise (fun a b => s.tab b < s.tab a)
  vis : ∀ x, s.tab x ≠ 0 ↔ x ∈ s.stk ∨ x ∈ s.out.flatten
  dis : ∀ x ∈ s.stk, x ∉ s.out.flatten
  ond : s.out.flatten.Nodup
  le : ∀ x, s.tab x ≤ s.idx
  gs : ∀ x ∈ gray, x ∈ s.stk
  up : ∀ x ∈ s.stk, ∃ y ∈ gray, s.tab y ≤ s.tab x ∧ Rch (SE succ) x y
  down : ∀ y ∈ gray, ∀ x ∈ s.stk, s.tab y ≤ s.tab x → Rch (SE succ) y x
  clo : ∀ x, s.tab x ≠ 0 → x ∉ gray → ∀ y, y ∈ succ x → s.tab y ≠ 0
  ok : OutOk succ s.out

structure TPost (gray : List Int) (v : Int) (s s' : TSt) : Prop where
  inv : TInv succ gray s'
  new : ∃ new, s'.stk = new ++ s.stk ∧ (∀ x ∈ new, s.tab x = 0) ∧ (∀ x ∈ new, ∀ y ∈ s.stk, y ∈ succ x → s'.low v ≤ s.tab y)
  keep : ∀ x, s.tab x ≠ 0 → s'.tab x = s.tab x ∧ s'.low x = s.low x
  got : s'.tab v = s.idx + 1
  low : s'.low v = s'.tab v ∨ ∃ y ∈ s.stk, s'.low v = s.tab y ∧ Rch (SE succ) v y
  idx : s.idx ≤ s'.idx

structure TLoop (gray : List Int) (v : Int) (s0 s : TSt) (done : List Int) : Prop where
  inv : TInv succ (v :: gray) s
  new : ∃ new, s.stk = new ++ v :: s0.stk ∧ (∀ x ∈ new, s0.tab x = 0) ∧ (∀ x ∈ new, ∀ y ∈ s0.stk, y ∈ succ x → s.low v ≤ s0.tab y)
  keep : ∀ x, s0.tab x ≠ 0 → s.tab x = s0.tab x ∧ s.low x = s0.low x
  tv : s.tab v = s0.idx + 1
  low : s.low v = s.tab v ∨ ∃ y ∈ s0.stk, s.low v = s0.tab y ∧ Rch (SE succ) v y
  dn : ∀ w ∈ done, s.tab w ≠ 0 ∧ (w ∈ s0.stk → s.low v ≤ s0.tab w)
  idx : s0.idx + 1 ≤ s.idx

variable {succ}

theorem TInv.setLow {gray : List Int} {s : TSt} (h : TInv succ gray s) (v : Int) (n : Nat) : TInv succ gray (s.setLow v n) :=
  ⟨h.srt, h.vis, h.dis, h.ond, h.le, h.gs, h.up, h.down, h.clo, h.ok⟩

theorem upN_self (f : Int → Nat) (x : Int) (n : Nat) : upN f x n x = n := by simp [upN]
theorem upN_ne (f : Int → Nat) {x y : Int} (n : Nat) (h : y ≠ x) : upN f x n y = f y := by simp [upN, h]

theorem TInv.stk_tab {gray : List Int} {s : TSt} (h : TInv succ gray s) {x : Int} (hx : x ∈ s.stk) : s.tab x ≠ 0 := (h.vis x).2 (.inl hx)

theorem TLoop.start {gray : List Int} {s : TSt} (h : TInv succ gray s) {v : Int} (hv : s.tab v = 0) (hg : ∀ y ∈ gray, Rch (SE succ) y v) : TLoop succ gray v s (s.push v) [] := by
  have hne : ∀ x, s.tab x ≠ 0 → x ≠ v := fun x hx e => hx (e ▸ hv)
  have htab : ∀ x, s.tab x ≠ 0 → (s.push v).tab x = s.tab x := fun x hx => upN_ne _ _ (hne x hx)
  have htv : (s.push v).tab v = s.idx + 1 := upN_self _ _ _
  have hstk : ∀ x ∈ s.stk, (s.push v).tab x = s.tab x := fun x hx => htab x (h.stk_tab hx)
  have hlt : ∀ x, s.tab x ≠ 0 → (s.push v).tab x < (s.push v).tab v := fun x hx => by rw [htab x hx, htv]; have := h.le x; omega
  refine ⟨⟨?_, ?_, ?_, h.ond, ?_, ?_, ?_, ?_, ?_, h.ok⟩, ⟨[], rfl, by simp, by simp⟩, fun x hx => ⟨htab x hx, upN_ne _ _ (hne x hx)⟩, htv, .inl ?_, by simp, Nat.le_refl _⟩
  · show (v :: s.stk).Pairwise _
    rw [List.pairwise_cons]
    refine ⟨fun x hx => hlt x (h.stk_tab hx), ?_⟩
    exact h.srt.imp_of_mem (fun {a b} ha hb hab => by rw [hstk a ha, hstk b hb]; exact hab)
  · intro x
    show _ ↔ x ∈ v :: s.stk ∨ x ∈ s.out.flatten
    by_cases hx : x = v
    · subst hx
      rw [htv]; simp
    · have : (s.push v).tab x = s.tab x := upN_ne _ _ hx
      rw [this, h.vis]
      simp [hx]
  · intro x hx hxo
    have hx' : x ∈ v :: s.stk := hx
    rcases List.mem_cons.1 hx' with rfl | hx'
    · exact ((h.vis x).2 (.inr hxo)) hv
    · exact h.dis x hx' hxo
  · intro x
    by_cases hx : x = v
    · subst hx; rw [htv]; exact Nat.le_refl _
    · have : (s.push v).tab x = s.tab x := upN_ne _ _ hx
      rw [this]; exact Nat.le_succ_of_le (h.le x)
  · intro x hx
    show x ∈ v :: s.stk
    rcases List.mem_cons.1 hx with rfl | hx
    · simp
    · exact List.mem_cons_of_mem _ (h.gs x hx)
  · intro x hx
    have hx' : x ∈ v :: s.stk := hx
    rcases List.mem_cons.1 hx' with rfl | hx'
    · exact ⟨x, by simp, Nat.le_refl _, .refl _⟩
    · obtain ⟨y, hy, h1, h2⟩ := h.up x hx'
      exact ⟨y, by simp [hy], by rw [hstk x hx', hstk y (h.gs y hy)]; exact h1, h2⟩
  · intro y hy x hx hle
    have hx' : x ∈ v :: s.stk := hx
    rcases List.mem_cons.1 hy with rfl | hy'
    · rcases List.mem_cons.1 hx' with rfl | hx'
      · exact .refl _
      · have := hlt x (h.stk_tab hx'); omega
    · rcases List.mem_cons.1 hx' with rfl | hx'
      · exact hg y hy'
      · exact h.down y hy' x hx' (by rw [hstk x hx', hstk y (h.gs y hy')] at hle; exact hle)
  · intro x hx hxg y hy
    have hxv : x ≠ v := fun e => hxg (by simp [e])
    have e : (s.push v).tab x = s.tab x := upN_ne _ _ hxv
    rw [e] at hx
    have := h.clo x hx (fun hh => hxg (by simp [hh])) y hy
    rw [htab y this]; exact this
  · rw [htv]; exact upN_self _ _ _

theorem TLoop.le {gray : List Int} {v : Int} {s0 s : TSt} {done : List Int} (h : TLoop succ gray v s0 s done) (h0 : TInv succ gray s0) : s.low v ≤ s.tab v := by
  rcases h.low with e | ⟨y, _, e, _⟩
  · omega
  · rw [e, h.tv]; have := h0.le y; omega

theorem TLoop.old_lt {gray : List Int} {v : Int} {s0 s : TSt} {done : List Int} (h : TLoop succ gray v s0 s done) (h0 : TInv succ gray s0) (y : Int) : s0.tab y < s.tab v := by
  rw [h.tv]; have := h0.le y; omega

theorem TLoop.mem {gray : List Int} {v : Int} {s0 s : TSt} {done : List Int} (h : TLoop succ gray v s0 s done) (_ : TInv succ gray s0) {y : Int} (hy : y ∈ s.stk) : y ∈ s0.stk ∨ s.tab v ≤ s.tab y := by
  obtain ⟨new, e, _, _⟩ := h.new
  have hs := h.inv.srt
  rw [e] at hy hs
  rw [List.pairwise_append] at hs
  rcases List.mem_append.1 hy with h1 | h1
  · right
    exact Nat.le_of_lt (hs.2.2 y h1 v (by simp))
  · rcases List.mem_cons.1 h1 with rfl | h1
    · exact .inr (Nat.le_refl _)
    · exact .inl h1

/-- a successor that is not yet visited -/
theorem TLoop.fresh {gray : List Int} {v w : Int} {s0 s s' : TSt} {done : List Int} (h : TLoop succ gray v s0 s done) (h0 : TInv succ gray s0) (hv0 : s0.tab v = 0) (hw : s.tab w = 0) (hp : TPost succ (v :: gray) w s s') :
    TLoop succ gray v s0 (s'.setLow v (min (s'.low v) (s'.low w))) (done ++ [w]) := by
  obtain ⟨new, e, n1, n2⟩ := h.new
  obtain ⟨nw, e', m1, m2⟩ := hp.new
  have hvne : s.tab v ≠ 0 := by rw [h.tv]; omega
  have hkv := hp.keep v hvne
  have hlow : (s'.setLow v (min (s'.low v) (s'.low w))).low v = min (s.low v) (s'.low w) := by
    show upN _ _ _ _ = _
    rw [upN_self, hkv.2]
  have hold : ∀ x, s0.tab x ≠ 0 → x ≠ v := fun x hx e => hx (e ▸ hv0)
  have hs0 : ∀ x, s0.tab x ≠ 0 → s.tab x ≠ 0 := fun x hx => by rw [(h.keep x hx).1]; exact hx
  refine ⟨hp.inv.setLow _ _, ⟨nw ++ new, ?_, ?_, ?_⟩, ?_, ?_, ?_, ?_, ?_⟩
  · show s'.stk = _
    rw [e', e, List.append_assoc]
  · intro x hx
    rcases List.mem_append.1 hx with h1 | h1
    · by_cases h2 : s0.tab x = 0
      · exact h2
      · exact absurd (m1 x h1) (hs0 x h2)
    · exact n1 x h1
  · intro x hx y hy hxy
    rw [hlow]
    rcases List.mem_append.1 hx with h1 | h1
    · have := m2 x h1 y (by rw [e]; simp [hy]) hxy
      rw [(h.keep y (h0.stk_tab hy)).1] at this
      omega
    · have := n2 x h1 y hy hxy
      omega
  · intro x hx
    have h1 := hp.keep x (hs0 x hx)
    have h2 := h.keep x hx
    refine ⟨h1.1.trans h2.1, ?_⟩
    show upN _ _ _ _ = _
    rw [upN_ne _ _ (hold x hx), h1.2, h2.2]
  · show s'.tab v = _
    rw [hkv.1, h.tv]
  · show _ = s'.tab v ∨ _
    rw [hlow, hkv.1]
    by_cases hmin : s.low v ≤ s'.low w
    · rw [Nat.min_eq_left hmin]; exact h.low
    · rw [Nat.min_eq_right (by omega)]
      rcases hp.low with hl | ⟨y, hy, hl, hr⟩
      · have h3 := hp.got
        have h4 := h.le h0
        have h5 := h.inv.le v
        omega
      · rcases h.mem h0 hy with h1 | h1
        · right
          exact ⟨y, h1, by rw [hl, (h.keep y (h0.stk_tab h1)).1], by
            refine Rch.trans ?_ hr
            have : Rch (SE succ) v w := hp.inv.down v (by simp) w ?_ ?_
            · exact this
            · rcases (hp.inv.vis w).1 (by rw [hp.got]; omega) with h6 | h6
              · exact h6
              · exfalso
                have h7 := closed_rch succ (C := fun z => z ∈ s'.out.flatten) (fun x hx y hy => OutOk.closed succ hp.inv.ok x hx y hy) h6 hr
                exact hp.inv.dis y (by rw [e']; simp [hy]) h7
            · rw [hkv.1, hp.got]; have := h.inv.le v; omega⟩
        · have h4 := h.le h0
          omega
  · intro x hx
    rcases List.mem_append.1 hx with h1 | h1
    · obtain ⟨h2, h3⟩ := h.dn x h1
      refine ⟨?_, fun h4 => ?_⟩
      · show s'.tab x ≠ 0
        rw [(hp.keep x h2).1]; exact h2
      · rw [hlow]
        have := h3 h4
        omega
    · obtain rfl : x = w := by simpa using h1
      refine ⟨?_, fun h4 => ?_⟩
      · show s'.tab x ≠ 0
        rw [hp.got]; omega
      · exact absurd hw (hs0 x (h0.stk_tab h4))
  · exact Nat.le_trans h.idx hp.idx

/-- .. one on the stack -/
theorem TLoop.back {gray : List Int} {v w : Int} {s0 s : TSt} {done : List Int} (h : TLoop succ gray v s0 s done) (h0 : TInv succ gray s0) (hv0 : s0.tab v = 0) (hvw : w ∈ succ v) (hw : w ∈ s.stk) :
    TLoop succ gray v s0 (s.setLow v (min (s.low v) (s.tab w))) (done ++ [w]) := by
  obtain ⟨new, e, n1, n2⟩ := h.new
  have hlow : (s.setLow v (min (s.low v) (s.tab w))).low v = min (s.low v) (s.tab w) := upN_self _ _ _
  have hold : ∀ x, s0.tab x ≠ 0 → x ≠ v := fun x hx e => hx (e ▸ hv0)
  refine ⟨h.inv.setLow _ _, ⟨new, e, n1, ?_⟩, ?_, h.tv, ?_, ?_, h.idx⟩
  · intro x hx y hy hxy
    rw [hlow]
    have := n2 x hx y hy hxy
    omega
  · intro x hx
    have h2 := h.keep x hx
    refine ⟨h2.1, ?_⟩
    show upN _ _ _ _ = _
    rw [upN_ne _ _ (hold x hx), h2.2]
  · show _ = s.tab v ∨ _
    rw [hlow]
    by_cases hmin : s.low v ≤ s.tab w
    · rw [Nat.min_eq_left hmin]; exact h.low
    · rw [Nat.min_eq_right (by omega)]
      rcases h.mem h0 hw with h1 | h1
      · right
        exact ⟨w, h1, (h.keep w (h0.stk_tab h1)).1, .one hvw⟩
      · have := h.le h0
        omega
  · intro x hx
    rcases List.mem_append.1 hx with h1 | h1
    · obtain ⟨h2, h3⟩ := h.dn x h1
      exact ⟨h2, fun h4 => by rw [hlow]; have := h3 h4; omega⟩
    · obtain rfl : x = w := by simpa using h1
      exact ⟨h.inv.stk_tab hw, fun h4 => by rw [hlow, (h.keep x (h0.stk_tab h4)).1]; omega⟩

/-- .. one in a component -/
theorem TLoop.past {gray : List Int} {v w : Int} {s0 s : TSt} {done : List Int} (h : TLoop succ gray v s0 s done) (hw : s.tab w ≠ 0) (hn : w ∉ s.stk) : TLoop succ gray v s0 s (done ++ [w]) := by
  obtain ⟨new, e, n1, n2⟩ := h.new
  refine ⟨h.inv, h.new, h.keep, h.tv, h.low, ?_, h.idx⟩
  intro x hx
  rcases List.mem_append.1 hx with h1 | h1
  · exact h.dn x h1
  · obtain rfl : x = w := by simpa using h1
    exact ⟨hw, fun h4 => absurd (by rw [e]; simp [h4]) hn⟩

theorem take_stop {new rest : List Int} {v : Int} (h : v ∉ new) : (new ++ v :: rest).takeWhile (· ≠ v) = new ∧ (new ++ v :: rest).dropWhile (· ≠ v) = v :: rest := by
  induction new with
  | nil => simp
  | cons x l ih =>
    have hx : x ≠ v := fun e => h (by simp [e])
    obtain ⟨h1, h2⟩ := ih (fun hh => h (by simp [hh]))
    simp only [List.cons_append]
    rw [List.takeWhile_cons_of_pos (by simpa using hx), List.dropWhile_cons_of_pos (by simpa using hx), h1, h2]
    exact ⟨rfl, rfl⟩

theorem TLoop.fin {gray : List Int} {v : Int} {s0 s : TSt} (h : TLoop succ gray v s0 s (succ v)) (h0 : TInv succ gray s0) (hv0 : s0.tab v = 0) : TPost succ gray v s0 (tfin v s) := by
  obtain ⟨new, e, n1, n2⟩ := h.new
  have hI := h.inv
  have hsrt := hI.srt
  rw [e] at hsrt
  have hs := List.pairwise_append.1 hsrt
  have hs2 := List.pairwise_cons.1 hs.2.1
  have hvn : v ∉ new := fun hv => by have := hs.2.2 v hv v (by simp); omega
  have hv0s : v ∉ s0.stk := fun hv => (h0.stk_tab hv) hv0
  have hng : ∀ x ∈ new, x ∉ gray := fun x hx hg => (h0.stk_tab (h0.gs x hg)) (n1 x hx)
  have htab : ∀ x ∈ s0.stk, s.tab x = s0.tab x := fun x hx => (h.keep x (h0.stk_tab hx)).1
  have hvs : v ∈ s.stk := by rw [e]; simp
  have hgv : v ∉ gray := fun hg => hv0s (h0.gs v hg)
  unfold tfin
  by_cases hl : s.low v = s.tab v
  · rw [if_pos hl]
    obtain ⟨t1, t2⟩ := take_stop (rest := s0.stk) hvn
    have hstk : (s.close v).stk = s0.stk := by show (s.stk.dropWhile (· ≠ v)).tail = _; rw [e, t2]; rfl
    have hout : (s.close v).out = (new ++ [v]) :: s.out := by show (s.stk.takeWhile (· ≠ v) ++ [v]) :: s.out = _; rw [e, t1]
    have hflat : ∀ x, x ∈ (s.close v).out.flatten ↔ x ∈ new ∨ x = v ∨ x ∈ s.out.flatten := by
      intro x; rw [hout]; simp
    -- edges out of the component
    have hesc : ∀ x, x ∈ new ++ [v] → ∀ y, y ∈ succ x → y ∈ new ++ [v] ∨ y ∈ s.out.flatten := by
      intro x hx y hy
      have hxy : s.tab y ≠ 0 ∧ (y ∈ s0.stk → s.low v ≤ s0.tab y) := by
        rcases List.mem_append.1 hx with h1 | h1
        · refine ⟨hI.clo x (hI.stk_tab (by rw [e]; simp [h1])) ?_ y hy, fun h4 => n2 x h1 y h4 hy⟩
          intro hg
          rcases List.mem_cons.1 hg with rfl | hg
          · exact hvn h1
          · exact hng x h1 hg
        · obtain rfl : x = v := by simpa using h1
          exact h.dn y hy
      rcases (hI.vis y).1 hxy.1 with h1 | h1
      · rw [e] at h1
        rcases List.mem_append.1 h1 with h2 | h2
        · exact .inl (by simp [h2])
        · rcases List.mem_cons.1 h2 with rfl | h2
          · exact .inl (by simp)
          · have h3 := hxy.2 h2
            have h4 := h.old_lt h0 y
            omega
      · exact .inr h1
    have hinC : ∀ {x y}, x ∈ new ++ [v] → Rch (SE succ) x y → y ∈ new ++ [v] ∨ y ∈ s.out.flatten := fun {x y} hx k =>
      closed_rch succ (C := fun z => z ∈ new ++ [v] ∨ z ∈ s.out.flatten) (fun a ha b hb => by
        rcases ha with ha | ha
        · exact hesc a ha b hb
        · exact .inr (OutOk.closed succ hI.ok a ha b hb)) (.inl hx) k
    have hto : ∀ x ∈ new ++ [v], Rch (SE succ) x v := by
      intro x hx
      rcases List.mem_append.1 hx with h1 | h1
      · obtain ⟨y, hy, _, hr⟩ := hI.up x (by rw [e]; simp [h1])
        rcases List.mem_cons.1 hy with rfl | hy'
        · exact hr
        · exfalso
          have hy0 := h0.gs y hy'
          rcases hinC hx hr with h2 | h2
          · rcases List.mem_append.1 h2 with h3 | h3
            · exact (h0.stk_tab hy0) (n1 y h3)
            · have h4 : y = v := by simpa using h3
              exact hgv (h4 ▸ hy')
          · exact hI.dis y (by rw [e]; simp [hy0]) h2
      · obtain rfl : x = v := by simpa using h1
        exact .refl _
    have hfr : ∀ x ∈ new ++ [v], Rch (SE succ) v x := by
      intro x hx
      rcases List.mem_append.1 hx with h1 | h1
      · exact hI.down v (by simp) x (by rw [e]; simp [h1]) (Nat.le_of_lt (hs.2.2 x h1 v (by simp)))
      · obtain rfl : x = v := by simpa using h1
        exact .refl _
    refine ⟨⟨?_, ?_, ?_, ?_, hI.le, ?_, ?_, ?_, ?_, ?_⟩, ⟨[], by rw [hstk]; rfl, by simp, by simp⟩, h.keep, h.tv, .inl hl, Nat.le_of_succ_le h.idx⟩
    · rw [hstk]; exact hs2.2
    · intro x
      rw [hflat, hstk]
      show s.tab x ≠ 0 ↔ _
      rw [hI.vis, e]
      simp only [List.mem_append, List.mem_cons]
      constructor
      · rintro ((h1 | h1 | h1) | h1) <;> simp [h1]
      · rintro (h1 | h1 | h1 | h1) <;> simp [h1]
    · intro x hx hxo
      rw [hstk] at hx
      rcases (hflat x).1 hxo with h1 | h1 | h1
      · exact (h0.stk_tab hx) (n1 x h1)
      · exact hv0s (h1 ▸ hx)
      · exact hI.dis x (by rw [e]; simp [hx]) h1
    · rw [hout, List.flatten_cons, List.nodup_append]
      refine ⟨?_, hI.ond, ?_⟩
      · rw [List.nodup_append]
        refine ⟨hs.1.imp (by intro a b hab hh; rw [hh] at hab; omega), by simp, ?_⟩
        intro a ha b hb hh
        obtain rfl : b = v := by simpa using hb
        exact hvn (hh ▸ ha)
      · intro a ha b hb hh
        subst hh
        refine hI.dis a ?_ hb
        rw [e]
        rcases List.mem_append.1 ha with h1 | h1
        · simp [h1]
        · simp at h1; simp [h1]
    · intro x hx
      rw [hstk]; exact h0.gs x hx
    · intro x hx
      rw [hstk] at hx
      obtain ⟨y, hy, h1, h2⟩ := hI.up x (by rw [e]; simp [hx])
      rcases List.mem_cons.1 hy with rfl | hy
      · have := h.old_lt h0 x
        rw [← htab x hx] at this
        omega
      · exact ⟨y, hy, h1, h2⟩
    · intro y hy x hx hle
      rw [hstk] at hx
      exact hI.down y (by simp [hy]) x (by rw [e]; simp [hx]) hle
    · intro x hx hxg y hy
      by_cases hxv : x = v
      · subst hxv
        exact (h.dn y hy).1
      · exact hI.clo x hx (by simp [hxv, hxg]) y hy
    · rw [hout]
      refine ⟨fun x hx y hy => (hto x hx).trans (hfr y hy), fun x hx y hy => hesc x hx y hy, by simp, hI.ok⟩
  · rw [if_neg hl]
    obtain ⟨y, hy, hl1, hr⟩ := h.low.resolve_left hl
    refine ⟨⟨hI.srt, hI.vis, hI.dis, hI.ond, hI.le, ?_, ?_, ?_, ?_, hI.ok⟩, ⟨new ++ [v], ?_, ?_, ?_⟩, h.keep, h.tv, .inr ⟨y, hy, hl1, hr⟩, Nat.le_of_succ_le h.idx⟩
    · exact fun x hx => hI.gs x (by simp [hx])
    · intro x hx
      obtain ⟨z, hz, h1, h2⟩ := hI.up x hx
      rcases List.mem_cons.1 hz with rfl | hz
      · obtain ⟨q, hq, h3, h4⟩ := h0.up y hy
        refine ⟨q, hq, ?_, (h2.trans hr).trans h4⟩
        rw [htab q (h0.gs q hq)]
        have := h.old_lt h0 y
        omega
      · exact ⟨z, hz, h1, h2⟩
    · exact fun q hq x hx hle => hI.down q (by simp [hq]) x hx hle
    · intro x hx hxg z hz
      by_cases hxv : x = v
      · subst hxv
        exact (h.dn z hz).1
      · exact hI.clo x hx (by simp [hxv, hxg]) z hz
    · rw [e]; simp
    · intro x hx
      rcases List.mem_append.1 hx with h1 | h1
      · exact n1 x h1
      · obtain rfl : x = v := by simpa using h1
        exact hv0
    · intro x hx z hz hxz
      rcases List.mem_append.1 hx with h1 | h1
      · exact n2 x h1 z hz hxz
      · obtain rfl : x = v := by simpa using h1
        exact (h.dn z hxz).2 hz

/-! ### the whole -/
/-- how many are not yet visited -/
def whites (ids : List Int) (s : TSt) : Nat := (ids.filter (fun x => s.tab x = 0)).length

theorem whites_le {ids : List Int} {s s' : TSt} (h : ∀ x, s.tab x ≠ 0 → s'.tab x ≠ 0) : whites ids s' ≤ whites ids s := by
  unfold whites
  rw [← List.countP_eq_length_filter, ← List.countP_eq_length_filter]
  refine List.countP_mono_left (fun x _ hx => ?_)
  simp only [decide_eq_true_eq] at hx ⊢
  by_cases h1 : s.tab x = 0
  · exact h1
  · exact absurd hx (h x h1)

theorem filter_lt {ids : List Int} {p q : Int → Bool} (h : ∀ x, p x = true → q x = true) {v : Int} (hv : v ∈ ids) (h1 : p v = false) (h2 : q v = true) : (ids.filter p).length < (ids.filter q).length := by
  rw [← List.countP_eq_length_filter, ← List.countP_eq_length_filter]
  induction ids with
  | nil => cases hv
  | cons x l ih =>
    rw [List.countP_cons, List.countP_cons]
    have hle : l.countP p ≤ l.countP q := List.countP_mono_left (fun y _ => h y)
    rcases List.mem_cons.1 hv with rfl | hv
    · simp only [h1, h2, if_true, Bool.false_eq_true, if_false]; omega
    · have := ih hv
      cases hp : p x
      · simp only [Bool.false_eq_true, if_false]; split <;> omega
      · simp only [h x hp, if_true]; omega

theorem whites_push {ids : List Int} {s : TSt} {v : Int} (hv : v ∈ ids) (h0 : s.tab v = 0) : whites ids (s.push v) < whites ids s := by
  refine filter_lt (fun x hx => ?_) hv ?_ (by simpa using h0)
  · simp only [decide_eq_true_eq] at hx ⊢
    by_cases e : x = v
    · subst e; exact h0
    · rw [← hx]; exact (upN_ne _ _ e).symm
  · have : (s.push v).tab v = s.idx + 1 := upN_self _ _ _
    simp [this]

theorem tvisit_post {ids : List Int} (hids : ∀ x ∈ ids, ∀ y ∈ succ x, y ∈ ids) : ∀ (f : Nat) (gray : List Int) (v : Int) (s : TSt), TInv succ gray s → v ∈ ids → s.tab v = 0 → (∀ y ∈ gray, Rch (SE succ) y v) → whites ids s ≤ f → TPost succ gray v s (tvisit succ f v s)
  | 0, gray, v, s, h, hv, h0, hg, hf => by
    have := whites_push hv h0
    omega
  | f + 1, gray, v, s, h, hv, h0, hg, hf => by
    have hw := whites_push hv h0
    have main : ∀ (rest done : List Int) (t : TSt), succ v = done ++ rest → TLoop succ gray v s t done → TLoop succ gray v s (rest.foldl (tstep (tvisit succ f) v) t) (succ v) := by
      intro rest
      induction rest with
      | nil => intro done t e hL; rw [List.append_nil] at e; rw [e]; exact hL
      | cons w rest ih =>
        intro done t e hL
        have hwv : w ∈ succ v := by rw [e]; simp
        rw [List.foldl_cons]
        refine ih (done ++ [w]) _ (by rw [e]; simp) ?_
        unfold tstep
        by_cases h1 : t.tab w = 0
        · rw [if_pos h1]
          refine hL.fresh h h0 h1 ?_
          refine tvisit_post hids f (v :: gray) w t hL.inv (hids v hv w hwv) h1 ?_ ?_
          · intro y hy
            rcases List.mem_cons.1 hy with rfl | hy
            · exact .one hwv
            · exact .tail (hg y hy) hwv
          · have : whites ids t ≤ whites ids (s.push v) := whites_le (fun x hx => by
              by_cases e2 : x = v
              · subst e2; rw [hL.tv]; omega
              · have e3 : (s.push v).tab x = s.tab x := upN_ne _ _ e2
                rw [e3] at hx
                rw [(hL.keep x hx).1]; exact hx)
            omega
        · rw [if_neg h1]
          by_cases h2 : w ∈ t.stk
          · rw [if_pos h2]; exact hL.back h h0 hwv h2
          · rw [if_neg h2]; exact hL.past h1 h2
    exact (main (succ v) [] (s.push v) rfl (TLoop.start h h0 hg)).fin h h0

theorem TInv.init : TInv succ [] TSt.init :=
  ⟨List.Pairwise.nil, fun x => by simp [TSt.init], fun x hx => by simp [TSt.init] at hx, by simp [TSt.init], fun x => Nat.le_refl _, by simp, fun x hx => by simp [TSt.init] at hx, by simp, fun x hx => absurd rfl hx, trivial⟩

theorem TInv.empty {s : TSt} (h : TInv succ [] s) : s.stk = [] := by
  refine List.eq_nil_iff_forall_not_mem.2 (fun x hx => ?_)
  obtain ⟨y, hy, _⟩ := h.up x hx
  cases hy

theorem tall_inv {ids nodes : List Int} (hids : ∀ x ∈ ids, ∀ y ∈ succ x, y ∈ ids) (hn : ∀ x ∈ nodes, x ∈ ids) : ∀ (s : TSt), TInv succ [] s → ∀ f, ids.length ≤ f →
    TInv succ [] (nodes.foldl (fun s v => if s.tab v = 0 then tvisit succ f v s else s) s) ∧ (∀ x, s.tab x ≠ 0 → (nodes.foldl (fun s v => if s.tab v = 0 then tvisit succ f v s else s) s).tab x ≠ 0) ∧ (∀ x ∈ nodes, (nodes.foldl (fun s v => if s.tab v = 0 then tvisit succ f v s else s) s).tab x ≠ 0) := by
  induction nodes with
  | nil => intro s h f _; exact ⟨h, fun x hx => hx, by simp⟩
  | cons v nodes ih =>
    intro s h f hf
    rw [List.foldl_cons]
    have hwl : whites ids s ≤ f := Nat.le_trans (List.length_filter_le _ _) hf
    have ihn := ih (fun x hx => hn x (by simp [hx]))
    by_cases h0 : s.tab v = 0
    · rw [if_pos h0]
      have hp := tvisit_post hids f [] v s h (hn v (by simp)) h0 (by simp) hwl
      obtain ⟨a, b, c⟩ := ihn _ hp.inv f hf
      refine ⟨a, fun x hx => b x (by rw [(hp.keep x hx).1]; exact hx), fun x hx => ?_⟩
      rcases List.mem_cons.1 hx with rfl | hx
      · exact b x (by rw [hp.got]; omega)
      · exact c x hx
    · rw [if_neg h0]
      obtain ⟨a, b, c⟩ := ihn s h f hf
      refine ⟨a, b, fun x hx => ?_⟩
      rcases List.mem_cons.1 hx with rfl | hx
      · exact b x h0
      · exact c x hx

/-- the answer -/
theorem tall_ok {ids nodes : List Int} (hids : ∀ x ∈ ids, ∀ y ∈ succ x, y ∈ ids) (hn : ∀ x, x ∈ nodes ↔ x ∈ ids) (f : Nat) (hf : ids.length ≤ f) :
    OutOk succ (tall succ f nodes).out ∧ (tall succ f nodes).out.flatten.Nodup ∧ (∀ x, x ∈ (tall succ f nodes).out.flatten → (tall succ f nodes).tab x ≠ 0) ∧ ∀ x ∈ ids, x ∈ (tall succ f nodes).out.flatten := by
  obtain ⟨a, b, c⟩ := tall_inv hids (fun x hx => (hn x).1 hx) TSt.init TInv.init f hf
  refine ⟨a.ok, a.ond, fun x hx => (a.vis x).2 (.inr hx), fun x hx => ?_⟩
  rcases (a.vis x).1 (c x ((hn x).2 hx)) with h1 | h1
  · rw [a.empty] at h1; cases h1
  · exact h1
end
end Go.Proofs.YtdllkoiddlcnmaaGreat
