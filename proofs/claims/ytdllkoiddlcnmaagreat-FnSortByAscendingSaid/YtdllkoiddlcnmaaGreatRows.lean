/-
  No cell of these rows narrows 'for every input' (looked for: loops, veiled, ifaces, maps, wideKeys, modest, calm, conditions, laid).
  DERIVED. THE GIVEN ROWS OF THIS SEAT. 4 by the template 'for every input the law returns true; each argument reads behind the call as it read before'; 0 by the template 'total and deterministic' (their statements: YtdllkoiddlcnmaaGreatTotals.lean).
  GIVEN WITH THE SEED: the statements are not yours to turn. If you find one false, say at which input.
  Laid BY PROGRAM, IN A SANDBOX (cutbox-rows.mjs): the forced cells as the released guide's own fill.sh prints them over the translation 501a5f074aa0f987… (all of the seat's roots in one cut). By AI agents, Wed Nov 11 2026. No macro, syntax, notation, axiom, sorry.
-/
import Derived.Test.YtdllkoiddlcnmaaGreatChecked
import GoSem.Claim
import GoSem.ClaimJoined
import GoSem.ClaimMapViews
import Derived.JoinedTies
import Derived.KernelRfl
namespace Go.Proofs.YtdllkoiddlcnmaaGreat
/- THE CELL 'sum', in the pinned program and in every row, IS THE sha256 OF THE DUMP (.gsa) THAT YtdllkoiddlcnmaaGreatProg.lean LOADS. Nothing in Lean hashes anything: it is a label: what it is worth is what the hold of that sum in a sandbox is worth. -/
noncomputable def Tryz.pinned : Pinned := { name := "ytdllkoiddlcnmaagreat", sum := "501a5f074aa0f98759129285fffdd5ae7f82c26d39490e7342b3b22994412382", checked := Tryz.checked }
namespace Rows
def none {H : Type} : Left H := { results := [], args := [] }

/-- 'laws.FnDominatorsCut': WHATEVER THE INPUT: true; the input reads as it did. -/
def fnDominatorsCutSpec : ChangeSpec := { name := "fnDominatorsCut", fn := fun _ => fun
  | [d1, d2, d3, d4] => { results := [.lit (.bool true)], args := [d1, d2, d3, d4] }
  | _ => none }
def fnDominatorsCutRow : OpenClaim := { program := "ytdllkoiddlcnmaagreat", sum := "501a5f074aa0f98759129285fffdd5ae7f82c26d39490e7342b3b22994412382", func := "pub-labyrinth/laws.FnDominatorsCut", spec := "fnDominatorsCut", inPlace := ["slices.overlaps[pub-labyrinth/impl.arc]"], unfollowed := true, recurses := true, apart := false }
def FnDominatorsCutSaid : Prop := fnDominatorsCutRow.holds Tryz.pinned (OpenSpec.ofChange fnDominatorsCutSpec)

/-- ITS FALSE NEIGHBOUR: 'it returns false'. Refute it at one input. -/
def fnDominatorsCutWrong : ChangeSpec := { name := "fnDominatorsCut", fn := fun _ => fun
  | [d1, d2, d3, d4] => { results := [.lit (.bool false)], args := [d1, d2, d3, d4] }
  | _ => none }
def FnDominatorsCutWrongFalsely : Prop := fnDominatorsCutRow.holds Tryz.pinned (OpenSpec.ofChange fnDominatorsCutWrong)

/-- 'laws.FnDominatorsSplit': WHATEVER THE INPUT: true; the input reads as it did. -/
def fnDominatorsSplitSpec : ChangeSpec := { name := "fnDominatorsSplit", fn := fun _ => fun
  | [d1, d2, d3, d4] => { results := [.lit (.bool true)], args := [d1, d2, d3, d4] }
  | _ => none }
def fnDominatorsSplitRow : OpenClaim := { program := "ytdllkoiddlcnmaagreat", sum := "501a5f074aa0f98759129285fffdd5ae7f82c26d39490e7342b3b22994412382", func := "pub-labyrinth/laws.FnDominatorsSplit", spec := "fnDominatorsSplit", inPlace := ["slices.overlaps[pub-labyrinth/impl.arc]"], unfollowed := true, recurses := true, apart := false }
def FnDominatorsSplitSaid : Prop := fnDominatorsSplitRow.holds Tryz.pinned (OpenSpec.ofChange fnDominatorsSplitSpec)

/-- ITS FALSE NEIGHBOUR: 'it returns false'. Refute it at one input. -/
def fnDominatorsSplitWrong : ChangeSpec := { name := "fnDominatorsSplit", fn := fun _ => fun
  | [d1, d2, d3, d4] => { results := [.lit (.bool false)], args := [d1, d2, d3, d4] }
  | _ => none }
def FnDominatorsSplitWrongFalsely : Prop := fnDominatorsSplitRow.holds Tryz.pinned (OpenSpec.ofChange fnDominatorsSplitWrong)

/-- 'laws.FnSortUnique': WHATEVER THE INPUT: true; the input reads as it did. -/
def fnSortUniqueSpec : ChangeSpec := { name := "fnSortUnique", fn := fun _ => fun
  | [d] => { results := [.lit (.bool true)], args := [d] }
  | _ => none }
def fnSortUniqueRow : OpenClaim := { program := "ytdllkoiddlcnmaagreat", sum := "501a5f074aa0f98759129285fffdd5ae7f82c26d39490e7342b3b22994412382", func := "pub-labyrinth/laws.FnSortUnique", spec := "fnSortUnique", inPlace := ["slices.overlaps[pub-labyrinth/impl.arc]"], unfollowed := true, recurses := true, apart := false }
def FnSortUniqueSaid : Prop := fnSortUniqueRow.holds Tryz.pinned (OpenSpec.ofChange fnSortUniqueSpec)

/-- ITS FALSE NEIGHBOUR: 'it returns false'. Refute it at one input. -/
def fnSortUniqueWrong : ChangeSpec := { name := "fnSortUnique", fn := fun _ => fun
  | [d] => { results := [.lit (.bool false)], args := [d] }
  | _ => none }
def FnSortUniqueWrongFalsely : Prop := fnSortUniqueRow.holds Tryz.pinned (OpenSpec.ofChange fnSortUniqueWrong)

/-- 'laws.FnSortByAscending': WHATEVER THE INPUT: true; the input reads as it did. -/
def fnSortByAscendingSpec : ChangeSpec := { name := "fnSortByAscending", fn := fun _ => fun
  | [d] => { results := [.lit (.bool true)], args := [d] }
  | _ => none }
def fnSortByAscendingRow : OpenClaim := { program := "ytdllkoiddlcnmaagreat", sum := "501a5f074aa0f98759129285fffdd5ae7f82c26d39490e7342b3b22994412382", func := "pub-labyrinth/laws.FnSortByAscending", spec := "fnSortByAscending", inPlace := ["slices.overlaps[pub-labyrinth/impl.arc]"], unfollowed := true, recurses := true, apart := false }
def FnSortByAscendingSaid : Prop := fnSortByAscendingRow.holds Tryz.pinned (OpenSpec.ofChange fnSortByAscendingSpec)

/-- ITS FALSE NEIGHBOUR: 'it returns false'. Refute it at one input. -/
def fnSortByAscendingWrong : ChangeSpec := { name := "fnSortByAscending", fn := fun _ => fun
  | [d] => { results := [.lit (.bool false)], args := [d] }
  | _ => none }
def FnSortByAscendingWrongFalsely : Prop := fnSortByAscendingRow.holds Tryz.pinned (OpenSpec.ofChange fnSortByAscendingWrong)

/- THE SECOND FORM. 'bulk': how many values and letters a reading holds, each counted each time it is reached (what is shared counts as often as it is met; a slice's spare places count too). A statement '..UptoSaid' is the law's where the arguments, and the package variables that the reading takes, are together of bulk at most 1048576: NARROWER than '..Said'. Prove '..Said' where nothing that the law and all that it calls make is longer than what came in: it says more and counts as full. Else prove '..UptoSaid'. A law counts once. -/
mutual
def uptoBulk {H : Type} : DataW H → Nat
  | .lit (.string bytes) => bytes.length + 1
  | .lit _ => 1
  | .nil => 1
  | .ptr d => uptoBulk d + 1
  | .slice elems spare => uptoBulkAll elems + uptoBulkAll spare + 1
  | .agg parts => uptoBulkAll parts + 1
  | .iface _ d => uptoBulk d + 1
  | .map entries => uptoBulkEntries entries + 1
  | .held _ => 1
def uptoBulkAll {H : Type} : List (DataW H) → Nat
  | [] => 0
  | d :: r => uptoBulk d + uptoBulkAll r
def uptoBulkEntries {H : Type} : List (Lit × DataW H) → Nat
  | [] => 0
  | x :: r => uptoBulkEntry x + uptoBulkEntries r
def uptoBulkEntry {H : Type} : Lit × DataW H → Nat
  | (.string bytes, d) => bytes.length + uptoBulk d + 1
  | (_, d) => uptoBulk d + 1
 end
def uptoSmall : (H : Type) → List (DataW H) → Bool := fun _ ds => decide (uptoBulkAll ds ≤ 1048576)
def OpenSpec.upto (s : _root_.Go.ChangeSpec) : _root_.Go.OpenSpec := { _root_.Go.OpenSpec.ofChange s with cond := some uptoSmall }

/-- 'laws.FnDominatorsCut', WHERE WHAT IT READS IS OF BULK AT MOST 1048576: true; the input reads as it did. -/
def fnDominatorsCutUptoRow : OpenClaim := { program := "ytdllkoiddlcnmaagreat", sum := "501a5f074aa0f98759129285fffdd5ae7f82c26d39490e7342b3b22994412382", func := "pub-labyrinth/laws.FnDominatorsCut", spec := "fnDominatorsCut", inPlace := ["slices.overlaps[pub-labyrinth/impl.arc]"], unfollowed := true, recurses := true, apart := false, narrowed := true }
def FnDominatorsCutUptoSaid : Prop := fnDominatorsCutUptoRow.holds Tryz.pinned (OpenSpec.upto fnDominatorsCutSpec)

/-- 'laws.FnDominatorsSplit', WHERE WHAT IT READS IS OF BULK AT MOST 1048576: true; the input reads as it did. -/
def fnDominatorsSplitUptoRow : OpenClaim := { program := "ytdllkoiddlcnmaagreat", sum := "501a5f074aa0f98759129285fffdd5ae7f82c26d39490e7342b3b22994412382", func := "pub-labyrinth/laws.FnDominatorsSplit", spec := "fnDominatorsSplit", inPlace := ["slices.overlaps[pub-labyrinth/impl.arc]"], unfollowed := true, recurses := true, apart := false, narrowed := true }
def FnDominatorsSplitUptoSaid : Prop := fnDominatorsSplitUptoRow.holds Tryz.pinned (OpenSpec.upto fnDominatorsSplitSpec)

/-- 'laws.FnSortUnique', WHERE WHAT IT READS IS OF BULK AT MOST 1048576: true; the input reads as it did. -/
def fnSortUniqueUptoRow : OpenClaim := { program := "ytdllkoiddlcnmaagreat", sum := "501a5f074aa0f98759129285fffdd5ae7f82c26d39490e7342b3b22994412382", func := "pub-labyrinth/laws.FnSortUnique", spec := "fnSortUnique", inPlace := ["slices.overlaps[pub-labyrinth/impl.arc]"], unfollowed := true, recurses := true, apart := false, narrowed := true }
def FnSortUniqueUptoSaid : Prop := fnSortUniqueUptoRow.holds Tryz.pinned (OpenSpec.upto fnSortUniqueSpec)

/-- 'laws.FnSortByAscending', WHERE WHAT IT READS IS OF BULK AT MOST 1048576: true; the input reads as it did. -/
def fnSortByAscendingUptoRow : OpenClaim := { program := "ytdllkoiddlcnmaagreat", sum := "501a5f074aa0f98759129285fffdd5ae7f82c26d39490e7342b3b22994412382", func := "pub-labyrinth/laws.FnSortByAscending", spec := "fnSortByAscending", inPlace := ["slices.overlaps[pub-labyrinth/impl.arc]"], unfollowed := true, recurses := true, apart := false, narrowed := true }
def FnSortByAscendingUptoSaid : Prop := fnSortByAscendingUptoRow.holds Tryz.pinned (OpenSpec.upto fnSortByAscendingSpec)

end Rows
end Go.Proofs.YtdllkoiddlcnmaaGreat
