/- OrderedNodes that stand at their begin; graph.NodesOf. -/
import Derived.Test.YtdllkoiddlcnmabIt
namespace Go.Proofs.Ytdllkoiddlcnmab
open Go.MapKept Go.RowKit




def NofPost (l : List Int) (B q : Nat) (w : World) (e : Ending) (w' : World) : Prop := ∃ v, e = .returned v ∧ w'.ownsRow B nodT 1 v l.length (l.map nodeV) ∧ w.grownBy w' (some q)

end Go.Proofs.Ytdllkoiddlcnmab
