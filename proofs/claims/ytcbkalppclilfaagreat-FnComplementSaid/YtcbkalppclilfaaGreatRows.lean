/-
  No cell of these rows narrows 'for every input' (looked for: loops, veiled, ifaces, maps, wideKeys, modest, calm, conditions, laid).
  DERIVED. THE GIVEN ROWS OF THIS SEAT. 3 by the template 'for every input the law returns true; each argument reads behind the call as it read before'; 0 by the template 'total and deterministic' (their statements: YtcbkalppclilfaaGreatTotals.lean).
  GIVEN WITH THE SEED: the statements are not yours to turn. If you find one false, say at which input.
  Laid BY PROGRAM, IN A SANDBOX (cutbox-rows.mjs): the forced cells as the released guide's own fill.sh prints them over the translation 8faa2caccd0eb8c5… (all of the seat's roots in one cut). By AI agents, Wed Nov 11 2026. No macro, syntax, notation, axiom, sorry.
-/
import Derived.Test.YtcbkalppclilfaaGreatChecked
import GoSem.Claim
import GoSem.ClaimJoined
import GoSem.ClaimMapViews
import Derived.JoinedTies
import Derived.KernelRfl
namespace Go.Proofs.YtcbkalppclilfaaGreat
/- THE CELL 'sum', in the pinned program and in every row, IS THE sha256 OF THE DUMP (.gsa) THAT YtcbkalppclilfaaGreatProg.lean LOADS. Nothing in Lean hashes anything: it is a label: what it is worth is what the hold of that sum in a sandbox is worth. -/
noncomputable def Tryz.pinned : Pinned := { name := "ytcbkalppclilfaagreat", sum := "8faa2caccd0eb8c5a83128d56e3f24c1ae41046f13e1abd67be17475c52586a3", checked := Tryz.checked }
namespace Rows
def none {H : Type} : Left H := { results := [], args := [] }

/-- 'laws.FnComplement': WHATEVER THE INPUT: true; the input reads as it did. -/
def fnComplementSpec : ChangeSpec := { name := "fnComplement", fn := fun _ => fun
  | [d] => { results := [.lit (.bool true)], args := [d] }
  | _ => none }
def fnComplementRow : OpenClaim := { program := "ytcbkalppclilfaagreat", sum := "8faa2caccd0eb8c5a83128d56e3f24c1ae41046f13e1abd67be17475c52586a3", func := "pub-labyrinth/laws.FnComplement", spec := "fnComplement", inPlace := ["slices.overlaps[pub-labyrinth/impl.arc]"], unfollowed := true, recurses := true, apart := false }
def FnComplementSaid : Prop := fnComplementRow.holds Tryz.pinned (OpenSpec.ofChange fnComplementSpec)

/-- ITS FALSE NEIGHBOUR: 'it returns false'. Refute it at one input. -/
def fnComplementWrong : ChangeSpec := { name := "fnComplement", fn := fun _ => fun
  | [d] => { results := [.lit (.bool false)], args := [d] }
  | _ => none }
def FnComplementWrongFalsely : Prop := fnComplementRow.holds Tryz.pinned (OpenSpec.ofChange fnComplementWrong)

/-- 'laws.FnSCC': WHATEVER THE INPUT: true; the input reads as it did. -/
def fnSCCSpec : ChangeSpec := { name := "fnSCC", fn := fun _ => fun
  | [d] => { results := [.lit (.bool true)], args := [d] }
  | _ => none }
def fnSCCRow : OpenClaim := { program := "ytcbkalppclilfaagreat", sum := "8faa2caccd0eb8c5a83128d56e3f24c1ae41046f13e1abd67be17475c52586a3", func := "pub-labyrinth/laws.FnSCC", spec := "fnSCC", inPlace := ["slices.overlaps[pub-labyrinth/impl.arc]"], unfollowed := true, recurses := true, apart := false }
def FnSCCSaid : Prop := fnSCCRow.holds Tryz.pinned (OpenSpec.ofChange fnSCCSpec)

/-- ITS FALSE NEIGHBOUR: 'it returns false'. Refute it at one input. -/
def fnSCCWrong : ChangeSpec := { name := "fnSCC", fn := fun _ => fun
  | [d] => { results := [.lit (.bool false)], args := [d] }
  | _ => none }
def FnSCCWrongFalsely : Prop := fnSCCRow.holds Tryz.pinned (OpenSpec.ofChange fnSCCWrong)

/-- 'laws.FnSCCTold': WHATEVER THE INPUT: true; the input reads as it did. -/
def fnSCCToldSpec : ChangeSpec := { name := "fnSCCTold", fn := fun _ => fun
  | [d] => { results := [.lit (.bool true)], args := [d] }
  | _ => none }
def fnSCCToldRow : OpenClaim := { program := "ytcbkalppclilfaagreat", sum := "8faa2caccd0eb8c5a83128d56e3f24c1ae41046f13e1abd67be17475c52586a3", func := "pub-labyrinth/laws.FnSCCTold", spec := "fnSCCTold", inPlace := ["slices.overlaps[pub-labyrinth/impl.arc]"], unfollowed := true, recurses := true, apart := false }
def FnSCCToldSaid : Prop := fnSCCToldRow.holds Tryz.pinned (OpenSpec.ofChange fnSCCToldSpec)

/-- ITS FALSE NEIGHBOUR: 'it returns false'. Refute it at one input. -/
def fnSCCToldWrong : ChangeSpec := { name := "fnSCCTold", fn := fun _ => fun
  | [d] => { results := [.lit (.bool false)], args := [d] }
  | _ => none }
def FnSCCToldWrongFalsely : Prop := fnSCCToldRow.holds Tryz.pinned (OpenSpec.ofChange fnSCCToldWrong)

/- THE SECOND FORM. 'bulk': how many values and letters a reading holds, each counted each time it is reached (what is shared counts as often as it is met; a slice's spare places count too). A statement '..UptoSaid' is the law's where the arguments, and the package variables that the reading takes, are together of bulk at most 1048576: NARROWER than '..Said'. Prove '..Said' where nothing that the law and all that it calls make is longer than what came in: it says more and counts as full. Else prove '..UptoSaid'. A law counts once. -/
mutual
def uptoBulk {H : Type} : DataW H → Nat
  | .lit (.string bytes) => bytes.length + 1
  | .lit _ => 1
  | .nil => 1
  | .ptr d => uptoBulk d + 1
  | .slice elems spare => uptoBulkAll elems + uptoBulkAll spare + 1
  | .agg parts => uptoBulkAll parts + 1
  | .iface _ d => uptoBulk d + 1
  | .map entries => uptoBulkEntries entries + 1
  | .held _ => 1
def uptoBulkAll {H : Type} : List (DataW H) → Nat
  | [] => 0
  | d :: r => uptoBulk d + uptoBulkAll r
def uptoBulkEntries {H : Type} : List (Lit × DataW H) → Nat
  | [] => 0
  | x :: r => uptoBulkEntry x + uptoBulkEntries r
def uptoBulkEntry {H : Type} : Lit × DataW H → Nat
  | (.string bytes, d) => bytes.length + uptoBulk d + 1
  | (_, d) => uptoBulk d + 1
 end
def uptoSmall : (H : Type) → List (DataW H) → Bool := fun _ ds => decide (uptoBulkAll ds ≤ 1048576)
def OpenSpec.upto (s : _root_.Go.ChangeSpec) : _root_.Go.OpenSpec := { _root_.Go.OpenSpec.ofChange s with cond := some uptoSmall }

/-- 'laws.FnComplement', WHERE WHAT IT READS IS OF BULK AT MOST 1048576: true; the input reads as it did. -/
def fnComplementUptoRow : OpenClaim := { program := "ytcbkalppclilfaagreat", sum := "8faa2caccd0eb8c5a83128d56e3f24c1ae41046f13e1abd67be17475c52586a3", func := "pub-labyrinth/laws.FnComplement", spec := "fnComplement", inPlace := ["slices.overlaps[pub-labyrinth/impl.arc]"], unfollowed := true, recurses := true, apart := false, narrowed := true }
def FnComplementUptoSaid : Prop := fnComplementUptoRow.holds Tryz.pinned (OpenSpec.upto fnComplementSpec)

/-- 'laws.FnSCC', WHERE WHAT IT READS IS OF BULK AT MOST 1048576: true; the input reads as it did. -/
def fnSCCUptoRow : OpenClaim := { program := "ytcbkalppclilfaagreat", sum := "8faa2caccd0eb8c5a83128d56e3f24c1ae41046f13e1abd67be17475c52586a3", func := "pub-labyrinth/laws.FnSCC", spec := "fnSCC", inPlace := ["slices.overlaps[pub-labyrinth/impl.arc]"], unfollowed := true, recurses := true, apart := false, narrowed := true }
def FnSCCUptoSaid : Prop := fnSCCUptoRow.holds Tryz.pinned (OpenSpec.upto fnSCCSpec)

/-- 'laws.FnSCCTold', WHERE WHAT IT READS IS OF BULK AT MOST 1048576: true; the input reads as it did. -/
def fnSCCToldUptoRow : OpenClaim := { program := "ytcbkalppclilfaagreat", sum := "8faa2caccd0eb8c5a83128d56e3f24c1ae41046f13e1abd67be17475c52586a3", func := "pub-labyrinth/laws.FnSCCTold", spec := "fnSCCTold", inPlace := ["slices.overlaps[pub-labyrinth/impl.arc]"], unfollowed := true, recurses := true, apart := false, narrowed := true }
def FnSCCToldUptoSaid : Prop := fnSCCToldUptoRow.holds Tryz.pinned (OpenSpec.upto fnSCCToldSpec)

end Rows
end Go.Proofs.YtcbkalppclilfaaGreat
