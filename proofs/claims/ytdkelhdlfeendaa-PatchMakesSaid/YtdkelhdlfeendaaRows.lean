/-
  No cell of these rows narrows 'for every input' (looked for: loops, veiled, ifaces, maps, wideKeys, modest, calm, conditions, laid).
  DERIVED. THE GIVEN ROWS OF THIS SEAT. 6 by the template 'for every input the law returns true; each argument reads behind the call as it read before'; 0 by the template 'total and deterministic' (their statements: YtdkelhdlfeendaaTotals.lean).
  GIVEN WITH THE SEED: the statements are not yours to turn. If you find one false, say at which input.
  Laid BY PROGRAM, IN A SANDBOX (cutbox-rows.mjs): the forced cells as the released guide's own fill.sh prints them over the translation c0d5dfe56d2a4cda… (all of the seat's roots in one cut). By AI agents, Wed Nov 11 2026. No macro, syntax, notation, axiom, sorry.
-/
import Derived.Test.YtdkelhdlfeendaaChecked
import GoSem.Claim
import GoSem.ClaimJoined
import GoSem.ClaimMapViews
import Derived.JoinedTies
import Derived.KernelRfl
namespace Go.Proofs.Ytdkelhdlfeendaa
/- THE CELL 'sum', in the pinned program and in every row, IS THE sha256 OF THE DUMP (.gsa) THAT YtdkelhdlfeendaaProg.lean LOADS. Nothing in Lean hashes anything: it is a label: what it is worth is what the hold of that sum in a sandbox is worth. -/
noncomputable def Try.pinned : Pinned := { name := "ytdkelhdlfeendaa", sum := "c0d5dfe56d2a4cdae9226ebdbed27a2aeaf92e472fcfbcbf55a6ea2e16e05215", checked := Try.checked }
namespace Rows
def none {H : Type} : Left H := { results := [], args := [] }

/-- 'orthoepylaw26.PatchAll': WHATEVER THE INPUT: true; the input reads as it did. -/
def patchAllSpec : ChangeSpec := { name := "patchAll", fn := fun _ => fun
  | [d1, d2] => { results := [.lit (.bool true)], args := [d1, d2] }
  | _ => none }
def patchAllRow : OpenClaim := { program := "ytdkelhdlfeendaa", sum := "c0d5dfe56d2a4cdae9226ebdbed27a2aeaf92e472fcfbcbf55a6ea2e16e05215", func := "orthoepy/orthoepylaw26.PatchAll", spec := "patchAll", recurses := true, plainKeys := false, apart := false }
def PatchAllSaid : Prop := patchAllRow.holds Try.pinned (OpenSpec.ofChange patchAllSpec)

/-- ITS FALSE NEIGHBOUR: 'it returns false'. Refute it at one input. -/
def patchAllWrong : ChangeSpec := { name := "patchAll", fn := fun _ => fun
  | [d1, d2] => { results := [.lit (.bool false)], args := [d1, d2] }
  | _ => none }
def PatchAllWrongFalsely : Prop := patchAllRow.holds Try.pinned (OpenSpec.ofChange patchAllWrong)

/-- 'orthoepylaw26.PatchAgain': WHATEVER THE INPUT: true; the input reads as it did. -/
def patchAgainSpec : ChangeSpec := { name := "patchAgain", fn := fun _ => fun
  | [d1, d2] => { results := [.lit (.bool true)], args := [d1, d2] }
  | _ => none }
def patchAgainRow : OpenClaim := { program := "ytdkelhdlfeendaa", sum := "c0d5dfe56d2a4cdae9226ebdbed27a2aeaf92e472fcfbcbf55a6ea2e16e05215", func := "orthoepy/orthoepylaw26.PatchAgain", spec := "patchAgain", recurses := true, plainKeys := false, apart := false }
def PatchAgainSaid : Prop := patchAgainRow.holds Try.pinned (OpenSpec.ofChange patchAgainSpec)

/-- ITS FALSE NEIGHBOUR: 'it returns false'. Refute it at one input. -/
def patchAgainWrong : ChangeSpec := { name := "patchAgain", fn := fun _ => fun
  | [d1, d2] => { results := [.lit (.bool false)], args := [d1, d2] }
  | _ => none }
def PatchAgainWrongFalsely : Prop := patchAgainRow.holds Try.pinned (OpenSpec.ofChange patchAgainWrong)

/-- 'orthoepylaw26.PatchEmpty': WHATEVER THE INPUT: true; the input reads as it did. -/
def patchEmptySpec : ChangeSpec := { name := "patchEmpty", fn := fun _ => fun
  | [d1, d2] => { results := [.lit (.bool true)], args := [d1, d2] }
  | _ => none }
def patchEmptyRow : OpenClaim := { program := "ytdkelhdlfeendaa", sum := "c0d5dfe56d2a4cdae9226ebdbed27a2aeaf92e472fcfbcbf55a6ea2e16e05215", func := "orthoepy/orthoepylaw26.PatchEmpty", spec := "patchEmpty", recurses := true, plainKeys := false, apart := false }
def PatchEmptySaid : Prop := patchEmptyRow.holds Try.pinned (OpenSpec.ofChange patchEmptySpec)

/-- ITS FALSE NEIGHBOUR: 'it returns false'. Refute it at one input. -/
def patchEmptyWrong : ChangeSpec := { name := "patchEmpty", fn := fun _ => fun
  | [d1, d2] => { results := [.lit (.bool false)], args := [d1, d2] }
  | _ => none }
def PatchEmptyWrongFalsely : Prop := patchEmptyRow.holds Try.pinned (OpenSpec.ofChange patchEmptyWrong)

/-- 'orthoepylaw26.PatchMembers': WHATEVER THE INPUT: true; the input reads as it did. -/
def patchMembersSpec : ChangeSpec := { name := "patchMembers", fn := fun _ => fun
  | [d1, d2] => { results := [.lit (.bool true)], args := [d1, d2] }
  | _ => none }
def patchMembersRow : OpenClaim := { program := "ytdkelhdlfeendaa", sum := "c0d5dfe56d2a4cdae9226ebdbed27a2aeaf92e472fcfbcbf55a6ea2e16e05215", func := "orthoepy/orthoepylaw26.PatchMembers", spec := "patchMembers", recurses := true, plainKeys := false, apart := false }
def PatchMembersSaid : Prop := patchMembersRow.holds Try.pinned (OpenSpec.ofChange patchMembersSpec)

/-- ITS FALSE NEIGHBOUR: 'it returns false'. Refute it at one input. -/
def patchMembersWrong : ChangeSpec := { name := "patchMembers", fn := fun _ => fun
  | [d1, d2] => { results := [.lit (.bool false)], args := [d1, d2] }
  | _ => none }
def PatchMembersWrongFalsely : Prop := patchMembersRow.holds Try.pinned (OpenSpec.ofChange patchMembersWrong)

/-- 'orthoepylaw26.PatchBare': WHATEVER THE INPUT: true; the input reads as it did. -/
def patchBareSpec : ChangeSpec := { name := "patchBare", fn := fun _ => fun
  | [d] => { results := [.lit (.bool true)], args := [d] }
  | _ => none }
def patchBareRow : OpenClaim := { program := "ytdkelhdlfeendaa", sum := "c0d5dfe56d2a4cdae9226ebdbed27a2aeaf92e472fcfbcbf55a6ea2e16e05215", func := "orthoepy/orthoepylaw26.PatchBare", spec := "patchBare", recurses := true, plainKeys := false, apart := false }
def PatchBareSaid : Prop := patchBareRow.holds Try.pinned (OpenSpec.ofChange patchBareSpec)

/-- ITS FALSE NEIGHBOUR: 'it returns false'. Refute it at one input. -/
def patchBareWrong : ChangeSpec := { name := "patchBare", fn := fun _ => fun
  | [d] => { results := [.lit (.bool false)], args := [d] }
  | _ => none }
def PatchBareWrongFalsely : Prop := patchBareRow.holds Try.pinned (OpenSpec.ofChange patchBareWrong)

/-- 'orthoepylaw26.PatchMakes': WHATEVER THE INPUT: true; the input reads as it did. -/
def patchMakesSpec : ChangeSpec := { name := "patchMakes", fn := fun _ => fun
  | [d1, d2] => { results := [.lit (.bool true)], args := [d1, d2] }
  | _ => none }
def patchMakesRow : OpenClaim := { program := "ytdkelhdlfeendaa", sum := "c0d5dfe56d2a4cdae9226ebdbed27a2aeaf92e472fcfbcbf55a6ea2e16e05215", func := "orthoepy/orthoepylaw26.PatchMakes", spec := "patchMakes", recurses := true, plainKeys := false, apart := false }
def PatchMakesSaid : Prop := patchMakesRow.holds Try.pinned (OpenSpec.ofChange patchMakesSpec)

/-- ITS FALSE NEIGHBOUR: 'it returns false'. Refute it at one input. -/
def patchMakesWrong : ChangeSpec := { name := "patchMakes", fn := fun _ => fun
  | [d1, d2] => { results := [.lit (.bool false)], args := [d1, d2] }
  | _ => none }
def PatchMakesWrongFalsely : Prop := patchMakesRow.holds Try.pinned (OpenSpec.ofChange patchMakesWrong)

/- THE SECOND FORM. 'bulk': how many values and letters a reading holds, each counted each time it is reached (what is shared counts as often as it is met; a slice's spare places count too). A statement '..UptoSaid' is the law's where the arguments, and the package variables that the reading takes, are together of bulk at most 1048576: NARROWER than '..Said'. Prove '..Said' where nothing that the law and all that it calls make is longer than what came in: it says more and counts as full. Else prove '..UptoSaid'. A law counts once. -/
mutual
def uptoBulk {H : Type} : DataW H → Nat
  | .lit (.string bytes) => bytes.length + 1
  | .lit _ => 1
  | .nil => 1
  | .ptr d => uptoBulk d + 1
  | .slice elems spare => uptoBulkAll elems + uptoBulkAll spare + 1
  | .agg parts => uptoBulkAll parts + 1
  | .iface _ d => uptoBulk d + 1
  | .map entries => uptoBulkEntries entries + 1
  | .held _ => 1
def uptoBulkAll {H : Type} : List (DataW H) → Nat
  | [] => 0
  | d :: r => uptoBulk d + uptoBulkAll r
def uptoBulkEntries {H : Type} : List (Lit × DataW H) → Nat
  | [] => 0
  | x :: r => uptoBulkEntry x + uptoBulkEntries r
def uptoBulkEntry {H : Type} : Lit × DataW H → Nat
  | (.string bytes, d) => bytes.length + uptoBulk d + 1
  | (_, d) => uptoBulk d + 1
 end
def uptoSmall : (H : Type) → List (DataW H) → Bool := fun _ ds => decide (uptoBulkAll ds ≤ 1048576)
def OpenSpec.upto (s : _root_.Go.ChangeSpec) : _root_.Go.OpenSpec := { _root_.Go.OpenSpec.ofChange s with cond := some uptoSmall }

/-- 'orthoepylaw26.PatchAll', WHERE WHAT IT READS IS OF BULK AT MOST 1048576: true; the input reads as it did. -/
def patchAllUptoRow : OpenClaim := { program := "ytdkelhdlfeendaa", sum := "c0d5dfe56d2a4cdae9226ebdbed27a2aeaf92e472fcfbcbf55a6ea2e16e05215", func := "orthoepy/orthoepylaw26.PatchAll", spec := "patchAll", recurses := true, plainKeys := false, apart := false, narrowed := true }
def PatchAllUptoSaid : Prop := patchAllUptoRow.holds Try.pinned (OpenSpec.upto patchAllSpec)

/-- 'orthoepylaw26.PatchAgain', WHERE WHAT IT READS IS OF BULK AT MOST 1048576: true; the input reads as it did. -/
def patchAgainUptoRow : OpenClaim := { program := "ytdkelhdlfeendaa", sum := "c0d5dfe56d2a4cdae9226ebdbed27a2aeaf92e472fcfbcbf55a6ea2e16e05215", func := "orthoepy/orthoepylaw26.PatchAgain", spec := "patchAgain", recurses := true, plainKeys := false, apart := false, narrowed := true }
def PatchAgainUptoSaid : Prop := patchAgainUptoRow.holds Try.pinned (OpenSpec.upto patchAgainSpec)

/-- 'orthoepylaw26.PatchEmpty', WHERE WHAT IT READS IS OF BULK AT MOST 1048576: true; the input reads as it did. -/
def patchEmptyUptoRow : OpenClaim := { program := "ytdkelhdlfeendaa", sum := "c0d5dfe56d2a4cdae9226ebdbed27a2aeaf92e472fcfbcbf55a6ea2e16e05215", func := "orthoepy/orthoepylaw26.PatchEmpty", spec := "patchEmpty", recurses := true, plainKeys := false, apart := false, narrowed := true }
def PatchEmptyUptoSaid : Prop := patchEmptyUptoRow.holds Try.pinned (OpenSpec.upto patchEmptySpec)

/-- 'orthoepylaw26.PatchMembers', WHERE WHAT IT READS IS OF BULK AT MOST 1048576: true; the input reads as it did. -/
def patchMembersUptoRow : OpenClaim := { program := "ytdkelhdlfeendaa", sum := "c0d5dfe56d2a4cdae9226ebdbed27a2aeaf92e472fcfbcbf55a6ea2e16e05215", func := "orthoepy/orthoepylaw26.PatchMembers", spec := "patchMembers", recurses := true, plainKeys := false, apart := false, narrowed := true }
def PatchMembersUptoSaid : Prop := patchMembersUptoRow.holds Try.pinned (OpenSpec.upto patchMembersSpec)

/-- 'orthoepylaw26.PatchBare', WHERE WHAT IT READS IS OF BULK AT MOST 1048576: true; the input reads as it did. -/
def patchBareUptoRow : OpenClaim := { program := "ytdkelhdlfeendaa", sum := "c0d5dfe56d2a4cdae9226ebdbed27a2aeaf92e472fcfbcbf55a6ea2e16e05215", func := "orthoepy/orthoepylaw26.PatchBare", spec := "patchBare", recurses := true, plainKeys := false, apart := false, narrowed := true }
def PatchBareUptoSaid : Prop := patchBareUptoRow.holds Try.pinned (OpenSpec.upto patchBareSpec)

/-- 'orthoepylaw26.PatchMakes', WHERE WHAT IT READS IS OF BULK AT MOST 1048576: true; the input reads as it did. -/
def patchMakesUptoRow : OpenClaim := { program := "ytdkelhdlfeendaa", sum := "c0d5dfe56d2a4cdae9226ebdbed27a2aeaf92e472fcfbcbf55a6ea2e16e05215", func := "orthoepy/orthoepylaw26.PatchMakes", spec := "patchMakes", recurses := true, plainKeys := false, apart := false, narrowed := true }
def PatchMakesUptoSaid : Prop := patchMakesUptoRow.holds Try.pinned (OpenSpec.upto patchMakesSpec)

end Rows
end Go.Proofs.Ytdkelhdlfeendaa
