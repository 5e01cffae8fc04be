/- A walk breadth first: what stands in memory between its steps. -/
import Derived.Test.YtdllkoiddlcnmabQe
import Derived.Test.YtdllkoiddlcnmabSt
import Derived.Test.YtdllkoiddlcnmabNx
import Derived.Test.YtdllkoiddlcnmabUn
import Derived.Test.YtdllkoiddlcnmabBf
namespace Go.Proofs.Ytdllkoiddlcnmab
open Go.MapKept Go.RowKit

/-- how many keys a map has -/
def mlen (m : Nat) (w : World) : Nat := match w.heap[m]? with
  | some (.map es _) => es.size
  | _ => 0
theorem SetMap.len {w : World} {m : Nat} {V : List Int} (h : SetMap w m V) (hn : V.Nodup) : mlen m w = V.length := by
  obtain ⟨e, hm, h1, -⟩ := h
  have hk := hm.nodup
  obtain ⟨es, clock, hb, _, he⟩ := hm
  unfold mlen
  rw [hb]
  have h2 : es.size = e.length := by
    have := congrArg List.length he
    simpa using this
  have h3 : (e.map (·.1)).Perm V := (List.perm_ext_iff_of_nodup hk hn).2 (fun x => by rw [← lkp_isSome]; exact h1 x)
  have h4 := h3.length_eq
  rw [List.length_map] at h4
  simp only
  omega
theorem SetMap.lt {w : World} {m : Nat} {V : List Int} (h : SetMap w m V) : m < w.heap.size := by
  obtain ⟨e, hm, -⟩ := h
  exact hm.lt
theorem SetMap.ne {w : World} {m b : Nat} {V : List Int} {c : Array Value} {t : TypeId} {f : Nat × Nat} (h : SetMap w m V) (hb : w.heap[b]? = some (.cells c t f)) : m ≠ b := by
  obtain ⟨e, ⟨es, clock, h1, _⟩, -⟩ := h
  rintro rfl
  rw [hb] at h1
  cases h1
theorem SetMap.row {w : World} {m B s n : Nat} {V : List Int} {e : TypeId} {v : Value} {xs : List Value} (h : SetMap w m V) (ho : w.ownsRow B e s v n xs) : some m ≠ v.ownBlock := by
  intro e1
  rcases ho.2 with ⟨rfl, -⟩ | ⟨g, cap, cur, rfl, -, hh, -⟩
  · cases e1
  · have e2 : some m = some g := e1
    cases e2
    exact h.ne hh rfl

/-- how many wait in the queue -/
def qlen (b : Nat) (w : World) : Nat := match w.cell? ⟨b, 2, none⟩, w.cell? ⟨b, 3, none⟩ with
  | some (.int _ h), some (.slice _ n _) => n - h.toNat
  | _, _ => 0
theorem QR.qlen {w : World} {B b h : Nat} {x0 x1 x4 v : Value} {Q : List Int} (q : QR w B b x0 x1 x4 h v Q) : qlen b w = Q.length := by
  obtain ⟨a, c, rfl⟩ := own_slice q.row
  unfold Go.Proofs.Ytdllkoiddlcnmab.qlen
  rw [cell_at q.blk, cell_at q.blk]
  simp

/-- between two steps of the walk: V visited, Q waiting -/
structure BwR (w : World) (B b m : Nat) (x0 x1 : Value) (h : Nat) (v : Value) (V Q : List Int) : Prop where
  q : QR w B b x0 x1 (.map (some m)) h v Q
  s : SetMap w m V
  hq : h = 0 ∨ 0 < Q.length
  hl : h + Q.length ≤ V.length
theorem BwR.grown {w w' : World} {B b m h : Nat} {x0 x1 v : Value} {V Q : List Int} (r : BwR w B b m x0 x1 h v V Q) (hg : w.grownBy w' none) : BwR w' B b m x0 x1 h v V Q :=
  ⟨r.q.grown hg (by simp) (by cases h9 : v.ownBlock with | none => exact .inl rfl | some k => exact .inr (by simp)), r.s.grown hg (by simp), r.hq, r.hl⟩
theorem K2.set {b : Nat} {row : Option Nat} {w w' : World} {m : Nat} {V : List Int} (h : SetMap w m V) (k : K2 b row w w') (h1 : m ≠ b) (h2 : some m ≠ row) : SetMap w' m V := by
  obtain ⟨e, ⟨es, clock, hb, h3, h4⟩, h5⟩ := h
  have hlt : m < w.heap.size := (Array.getElem?_eq_some_iff.1 hb).1
  exact ⟨e, ⟨es, clock, (k.blk m hlt h1 h2).trans hb, h3, h4⟩, h5⟩
end Go.Proofs.Ytdllkoiddlcnmab
