/-
  No cell of these rows narrows 'for every input' (looked for: loops, veiled, ifaces, maps, wideKeys, modest, calm, conditions, laid).
  DERIVED. THE GIVEN ROWS OF THIS SEAT. 3 by the template 'for every input the law returns true; each argument reads behind the call as it read before'; 0 by the template 'total and deterministic' (their statements: YtoonknmckeggaaaTotals.lean).
  GIVEN WITH THE SEED: the statements are not yours to turn. If you find one false, say at which input.
  Laid BY PROGRAM, IN A SANDBOX (cutbox-rows.mjs): the forced cells as the released guide's own fill.sh prints them over the translation b770439dfcf9f617… (all of the seat's roots in one cut). By AI agents, Wed Nov 11 2026. No macro, syntax, notation, axiom, sorry.
-/
import Derived.Test.YtoonknmckeggaaaChecked
import GoSem.Claim
import GoSem.ClaimJoined
import GoSem.ClaimMapViews
import Derived.JoinedTies
import Derived.KernelRfl
namespace Go.Proofs.Ytoonknmckeggaaa
/- THE CELL 'sum', in the pinned program and in every row, IS THE sha256 OF THE DUMP (.gsa) THAT YtoonknmckeggaaaProg.lean LOADS. Nothing in Lean hashes anything: it is a label: what it is worth is what the hold of that sum in a sandbox is worth. -/
noncomputable def Try.pinned : Pinned := { name := "ytoonknmckeggaaa", sum := "b770439dfcf9f61756f80aff056b56d0cd00414f2744b5063390fec740cf894f", checked := Try.checked }
namespace Rows
def none {H : Type} : Left H := { results := [], args := [] }

/-- 'orthoepylaw18.ArenaPlays': WHATEVER THE INPUT: true; the input reads as it did. -/
def arenaPlaysSpec : ChangeSpec := { name := "arenaPlays", fn := fun _ => fun
  | [d1, d2] => { results := [.lit (.bool true)], args := [d1, d2] }
  | _ => none }
def arenaPlaysRow : OpenClaim := { program := "ytoonknmckeggaaa", sum := "b770439dfcf9f61756f80aff056b56d0cd00414f2744b5063390fec740cf894f", func := "orthoepy/orthoepylaw18.ArenaPlays", spec := "arenaPlays", unfollowed := true, recurses := true, apart := false }
def ArenaPlaysSaid : Prop := arenaPlaysRow.holds Try.pinned (OpenSpec.ofChange arenaPlaysSpec)

/-- ITS FALSE NEIGHBOUR: 'it returns false'. Refute it at one input. -/
def arenaPlaysWrong : ChangeSpec := { name := "arenaPlays", fn := fun _ => fun
  | [d1, d2] => { results := [.lit (.bool false)], args := [d1, d2] }
  | _ => none }
def ArenaPlaysWrongFalsely : Prop := arenaPlaysRow.holds Try.pinned (OpenSpec.ofChange arenaPlaysWrong)

/-- 'orthoepylaw18.ArenaTree': WHATEVER THE INPUT: true; the input reads as it did. -/
def arenaTreeSpec : ChangeSpec := { name := "arenaTree", fn := fun _ => fun
  | [d] => { results := [.lit (.bool true)], args := [d] }
  | _ => none }
def arenaTreeRow : OpenClaim := { program := "ytoonknmckeggaaa", sum := "b770439dfcf9f61756f80aff056b56d0cd00414f2744b5063390fec740cf894f", func := "orthoepy/orthoepylaw18.ArenaTree", spec := "arenaTree", unfollowed := true, recurses := true, apart := false }
def ArenaTreeSaid : Prop := arenaTreeRow.holds Try.pinned (OpenSpec.ofChange arenaTreeSpec)

/-- ITS FALSE NEIGHBOUR: 'it returns false'. Refute it at one input. -/
def arenaTreeWrong : ChangeSpec := { name := "arenaTree", fn := fun _ => fun
  | [d] => { results := [.lit (.bool false)], args := [d] }
  | _ => none }
def ArenaTreeWrongFalsely : Prop := arenaTreeRow.holds Try.pinned (OpenSpec.ofChange arenaTreeWrong)

/-- 'orthoepylaw18.ArenaNames': WHATEVER THE INPUT: true; the input reads as it did. -/
def arenaNamesSpec : ChangeSpec := { name := "arenaNames", fn := fun _ => fun
  | [d1, d2] => { results := [.lit (.bool true)], args := [d1, d2] }
  | _ => none }
def arenaNamesRow : OpenClaim := { program := "ytoonknmckeggaaa", sum := "b770439dfcf9f61756f80aff056b56d0cd00414f2744b5063390fec740cf894f", func := "orthoepy/orthoepylaw18.ArenaNames", spec := "arenaNames", unfollowed := true, recurses := true, apart := false }
def ArenaNamesSaid : Prop := arenaNamesRow.holds Try.pinned (OpenSpec.ofChange arenaNamesSpec)

/-- ITS FALSE NEIGHBOUR: 'it returns false'. Refute it at one input. -/
def arenaNamesWrong : ChangeSpec := { name := "arenaNames", fn := fun _ => fun
  | [d1, d2] => { results := [.lit (.bool false)], args := [d1, d2] }
  | _ => none }
def ArenaNamesWrongFalsely : Prop := arenaNamesRow.holds Try.pinned (OpenSpec.ofChange arenaNamesWrong)

/- THE SECOND FORM. 'bulk': how many values and letters a reading holds, each counted each time it is reached (what is shared counts as often as it is met; a slice's spare places count too). A statement '..UptoSaid' is the law's where the arguments, and the package variables that the reading takes, are together of bulk at most 1048576: NARROWER than '..Said'. Prove '..Said' where nothing that the law and all that it calls make is longer than what came in: it says more and counts as full. Else prove '..UptoSaid'. A law counts once. -/
mutual
def uptoBulk {H : Type} : DataW H → Nat
  | .lit (.string bytes) => bytes.length + 1
  | .lit _ => 1
  | .nil => 1
  | .ptr d => uptoBulk d + 1
  | .slice elems spare => uptoBulkAll elems + uptoBulkAll spare + 1
  | .agg parts => uptoBulkAll parts + 1
  | .iface _ d => uptoBulk d + 1
  | .map entries => uptoBulkEntries entries + 1
  | .held _ => 1
def uptoBulkAll {H : Type} : List (DataW H) → Nat
  | [] => 0
  | d :: r => uptoBulk d + uptoBulkAll r
def uptoBulkEntries {H : Type} : List (Lit × DataW H) → Nat
  | [] => 0
  | x :: r => uptoBulkEntry x + uptoBulkEntries r
def uptoBulkEntry {H : Type} : Lit × DataW H → Nat
  | (.string bytes, d) => bytes.length + uptoBulk d + 1
  | (_, d) => uptoBulk d + 1
 end
def uptoSmall : (H : Type) → List (DataW H) → Bool := fun _ ds => decide (uptoBulkAll ds ≤ 1048576)
def OpenSpec.upto (s : _root_.Go.ChangeSpec) : _root_.Go.OpenSpec := { _root_.Go.OpenSpec.ofChange s with cond := some uptoSmall }

/-- 'orthoepylaw18.ArenaPlays', WHERE WHAT IT READS IS OF BULK AT MOST 1048576: true; the input reads as it did. -/
def arenaPlaysUptoRow : OpenClaim := { program := "ytoonknmckeggaaa", sum := "b770439dfcf9f61756f80aff056b56d0cd00414f2744b5063390fec740cf894f", func := "orthoepy/orthoepylaw18.ArenaPlays", spec := "arenaPlays", unfollowed := true, recurses := true, apart := false, narrowed := true }
def ArenaPlaysUptoSaid : Prop := arenaPlaysUptoRow.holds Try.pinned (OpenSpec.upto arenaPlaysSpec)

/-- 'orthoepylaw18.ArenaTree', WHERE WHAT IT READS IS OF BULK AT MOST 1048576: true; the input reads as it did. -/
def arenaTreeUptoRow : OpenClaim := { program := "ytoonknmckeggaaa", sum := "b770439dfcf9f61756f80aff056b56d0cd00414f2744b5063390fec740cf894f", func := "orthoepy/orthoepylaw18.ArenaTree", spec := "arenaTree", unfollowed := true, recurses := true, apart := false, narrowed := true }
def ArenaTreeUptoSaid : Prop := arenaTreeUptoRow.holds Try.pinned (OpenSpec.upto arenaTreeSpec)

/-- 'orthoepylaw18.ArenaNames', WHERE WHAT IT READS IS OF BULK AT MOST 1048576: true; the input reads as it did. -/
def arenaNamesUptoRow : OpenClaim := { program := "ytoonknmckeggaaa", sum := "b770439dfcf9f61756f80aff056b56d0cd00414f2744b5063390fec740cf894f", func := "orthoepy/orthoepylaw18.ArenaNames", spec := "arenaNames", unfollowed := true, recurses := true, apart := false, narrowed := true }
def ArenaNamesUptoSaid : Prop := arenaNamesUptoRow.holds Try.pinned (OpenSpec.upto arenaNamesSpec)

end Rows
end Go.Proofs.Ytoonknmckeggaaa
