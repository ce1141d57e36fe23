/-
  NARROWER THAN 'FOR EVERY INPUT', by the rows' own cells (each row's printed sentence says how): PointerAll: laid · PointerBack: laid · PointerForth: laid · PointerLongest: laid · PointerIndex: laid · PointerEvals: laid · PointerPaths: laid · PointerLonger: laid.
  DERIVED. THE GIVEN ROWS OF THIS SEAT. 8 by the template 'for every input the law returns true; each argument reads behind the call as it read before'; 0 by the template 'total and deterministic' (their statements: YtaeamjhgfhcjdaaDoorTotals.lean).
  GIVEN WITH THE SEED: the statements are not yours to turn. If you find one false, say at which input.
  Laid BY PROGRAM, IN A SANDBOX (cutbox-rows.mjs): the forced cells as the released guide's own fill.sh prints them over the translation d181a6897de578f6… (all of the seat's roots in one cut). By AI agents, Wed Nov 11 2026. No macro, syntax, notation, axiom, sorry.
-/
import Derived.Test.YtaeamjhgfhcjdaaDoorChecked
import GoSem.PinnedTables
import GoSem.Claim
import GoSem.ClaimJoined
import GoSem.ClaimMapViews
import Derived.JoinedTies
import Derived.KernelRfl
namespace Go.Proofs.YtaeamjhgfhcjdaaDoor
/- THE CELL 'sum', in the pinned program and in every row, IS THE sha256 OF THE DUMP (.gsa) THAT YtaeamjhgfhcjdaaDoorProg.lean LOADS. Nothing in Lean hashes anything: it is a label: what it is worth is what the hold of that sum in a sandbox is worth. -/
noncomputable def Tryd.pinned : Pinned := { name := "ytaeamjhgfhcjdaadoor", sum := "d181a6897de578f68880f8cadea5cfd460b0d0e016bfa4aa5b62c52bba3755c3", checked := Tryd.checked }
namespace Rows
def none {H : Type} : Left H := { results := [], args := [] }

/- WHAT THE LISTED PACKAGE-LEVEL VARIABLES READ AS WHEN THE CALL BEGINS. Each datum BY PROGRAM (the guide's laid-datum.mjs) off the statement by which the dump's own 'gosem.cut.vars' lays the variable. In a bare row this is a premise. The card (YtaeamjhgfhcjdaaDoorCards.lean) ties it to the program's text. -/
def laid_unicode_utf8_acceptRanges {H : Type} : DataW H := .agg [.agg [.lit (.int .u8 128), .lit (.int .u8 191)], .agg [.lit (.int .u8 160), .lit (.int .u8 191)], .agg [.lit (.int .u8 128), .lit (.int .u8 159)], .agg [.lit (.int .u8 144), .lit (.int .u8 191)], .agg [.lit (.int .u8 128), .lit (.int .u8 143)], .agg [.lit (.int .u8 0), .lit (.int .u8 0)], .agg [.lit (.int .u8 0), .lit (.int .u8 0)], .agg [.lit (.int .u8 0), .lit (.int .u8 0)], .agg [.lit (.int .u8 0), .lit (.int .u8 0)], .agg [.lit (.int .u8 0), .lit (.int .u8 0)], .agg [.lit (.int .u8 0), .lit (.int .u8 0)], .agg [.lit (.int .u8 0), .lit (.int .u8 0)], .agg [.lit (.int .u8 0), .lit (.int .u8 0)], .agg [.lit (.int .u8 0), .lit (.int .u8 0)], .agg [.lit (.int .u8 0), .lit (.int .u8 0)], .agg [.lit (.int .u8 0), .lit (.int .u8 0)]]
/-- One of Go's own tables, pinned by name: the form's constant. -/
def laid_unicode_utf8_first : DataW Unit := Go.Pinned.utf8First

/-- 'orthoepylaw25.PointerAll': WHATEVER THE INPUT: true; the input reads as it did. -/
def pointerAllSpec : ChangeSpec := { name := "pointerAll", fn := fun _ => fun
  | [d1, d2, d3] => { results := [.lit (.bool true)], args := [d1, d2, d3] }
  | _ => none }
def pointerAllRow : OpenClaim := { program := "ytaeamjhgfhcjdaadoor", sum := "d181a6897de578f68880f8cadea5cfd460b0d0e016bfa4aa5b62c52bba3755c3", func := "orthoepy/orthoepylaw25.PointerAll", spec := "pointerAll", inPlace := ["internal/bytealg.CountString", "internal/bytealg.IndexByteString", "internal/bytealg.IndexString", "internal/abi.NoEscape", "internal/bytealg.MakeNoZero"], unfollowed := true, recurses := true, named := ["internal/bytealg.MaxLen", "unicode/utf8.first", "unicode/utf8.acceptRanges"], apart := false, laid := [("unicode/utf8.acceptRanges", laid_unicode_utf8_acceptRanges), ("unicode/utf8.first", laid_unicode_utf8_first)] }
def PointerAllSaid : Prop := pointerAllRow.holds Tryd.pinned (OpenSpec.ofChange pointerAllSpec)

/-- ITS FALSE NEIGHBOUR: 'it returns false'. Refute it at one input. -/
def pointerAllWrong : ChangeSpec := { name := "pointerAll", fn := fun _ => fun
  | [d1, d2, d3] => { results := [.lit (.bool false)], args := [d1, d2, d3] }
  | _ => none }
def PointerAllWrongFalsely : Prop := pointerAllRow.holds Tryd.pinned (OpenSpec.ofChange pointerAllWrong)

/-- 'orthoepylaw25.PointerBack': WHATEVER THE INPUT: true; the input reads as it did. -/
def pointerBackSpec : ChangeSpec := { name := "pointerBack", fn := fun _ => fun
  | [d] => { results := [.lit (.bool true)], args := [d] }
  | _ => none }
def pointerBackRow : OpenClaim := { program := "ytaeamjhgfhcjdaadoor", sum := "d181a6897de578f68880f8cadea5cfd460b0d0e016bfa4aa5b62c52bba3755c3", func := "orthoepy/orthoepylaw25.PointerBack", spec := "pointerBack", inPlace := ["internal/bytealg.CountString", "internal/bytealg.IndexByteString", "internal/bytealg.IndexString", "internal/abi.NoEscape", "internal/bytealg.MakeNoZero"], unfollowed := true, recurses := true, named := ["internal/bytealg.MaxLen", "unicode/utf8.first", "unicode/utf8.acceptRanges"], apart := false, laid := [("unicode/utf8.acceptRanges", laid_unicode_utf8_acceptRanges), ("unicode/utf8.first", laid_unicode_utf8_first)] }
def PointerBackSaid : Prop := pointerBackRow.holds Tryd.pinned (OpenSpec.ofChange pointerBackSpec)

/-- ITS FALSE NEIGHBOUR: 'it returns false'. Refute it at one input. -/
def pointerBackWrong : ChangeSpec := { name := "pointerBack", fn := fun _ => fun
  | [d] => { results := [.lit (.bool false)], args := [d] }
  | _ => none }
def PointerBackWrongFalsely : Prop := pointerBackRow.holds Tryd.pinned (OpenSpec.ofChange pointerBackWrong)

/-- 'orthoepylaw25.PointerForth': WHATEVER THE INPUT: true; the input reads as it did. -/
def pointerForthSpec : ChangeSpec := { name := "pointerForth", fn := fun _ => fun
  | [d] => { results := [.lit (.bool true)], args := [d] }
  | _ => none }
def pointerForthRow : OpenClaim := { program := "ytaeamjhgfhcjdaadoor", sum := "d181a6897de578f68880f8cadea5cfd460b0d0e016bfa4aa5b62c52bba3755c3", func := "orthoepy/orthoepylaw25.PointerForth", spec := "pointerForth", inPlace := ["internal/bytealg.CountString", "internal/bytealg.IndexByteString", "internal/bytealg.IndexString", "internal/abi.NoEscape", "internal/bytealg.MakeNoZero"], unfollowed := true, recurses := true, named := ["internal/bytealg.MaxLen", "unicode/utf8.first", "unicode/utf8.acceptRanges"], apart := false, laid := [("unicode/utf8.acceptRanges", laid_unicode_utf8_acceptRanges), ("unicode/utf8.first", laid_unicode_utf8_first)] }
def PointerForthSaid : Prop := pointerForthRow.holds Tryd.pinned (OpenSpec.ofChange pointerForthSpec)

/-- ITS FALSE NEIGHBOUR: 'it returns false'. Refute it at one input. -/
def pointerForthWrong : ChangeSpec := { name := "pointerForth", fn := fun _ => fun
  | [d] => { results := [.lit (.bool false)], args := [d] }
  | _ => none }
def PointerForthWrongFalsely : Prop := pointerForthRow.holds Tryd.pinned (OpenSpec.ofChange pointerForthWrong)

/-- 'orthoepylaw25.PointerLongest': WHATEVER THE INPUT: true; the input reads as it did. -/
def pointerLongestSpec : ChangeSpec := { name := "pointerLongest", fn := fun _ => fun
  | [d1, d2] => { results := [.lit (.bool true)], args := [d1, d2] }
  | _ => none }
def pointerLongestRow : OpenClaim := { program := "ytaeamjhgfhcjdaadoor", sum := "d181a6897de578f68880f8cadea5cfd460b0d0e016bfa4aa5b62c52bba3755c3", func := "orthoepy/orthoepylaw25.PointerLongest", spec := "pointerLongest", inPlace := ["internal/bytealg.CountString", "internal/bytealg.IndexByteString", "internal/bytealg.IndexString", "internal/abi.NoEscape", "internal/bytealg.MakeNoZero"], unfollowed := true, recurses := true, named := ["internal/bytealg.MaxLen", "unicode/utf8.first", "unicode/utf8.acceptRanges"], apart := false, laid := [("unicode/utf8.acceptRanges", laid_unicode_utf8_acceptRanges), ("unicode/utf8.first", laid_unicode_utf8_first)] }
def PointerLongestSaid : Prop := pointerLongestRow.holds Tryd.pinned (OpenSpec.ofChange pointerLongestSpec)

/-- ITS FALSE NEIGHBOUR: 'it returns false'. Refute it at one input. -/
def pointerLongestWrong : ChangeSpec := { name := "pointerLongest", fn := fun _ => fun
  | [d1, d2] => { results := [.lit (.bool false)], args := [d1, d2] }
  | _ => none }
def PointerLongestWrongFalsely : Prop := pointerLongestRow.holds Tryd.pinned (OpenSpec.ofChange pointerLongestWrong)

/-- 'orthoepylaw25.PointerIndex': WHATEVER THE INPUT: true; the input reads as it did. -/
def pointerIndexSpec : ChangeSpec := { name := "pointerIndex", fn := fun _ => fun
  | [d1, d2] => { results := [.lit (.bool true)], args := [d1, d2] }
  | _ => none }
def pointerIndexRow : OpenClaim := { program := "ytaeamjhgfhcjdaadoor", sum := "d181a6897de578f68880f8cadea5cfd460b0d0e016bfa4aa5b62c52bba3755c3", func := "orthoepy/orthoepylaw25.PointerIndex", spec := "pointerIndex", inPlace := ["internal/bytealg.CountString", "internal/bytealg.IndexByteString", "internal/bytealg.IndexString", "internal/abi.NoEscape", "internal/bytealg.MakeNoZero"], unfollowed := true, recurses := true, named := ["internal/bytealg.MaxLen", "unicode/utf8.first", "unicode/utf8.acceptRanges"], apart := false, laid := [("unicode/utf8.acceptRanges", laid_unicode_utf8_acceptRanges), ("unicode/utf8.first", laid_unicode_utf8_first)] }
def PointerIndexSaid : Prop := pointerIndexRow.holds Tryd.pinned (OpenSpec.ofChange pointerIndexSpec)

/-- ITS FALSE NEIGHBOUR: 'it returns false'. Refute it at one input. -/
def pointerIndexWrong : ChangeSpec := { name := "pointerIndex", fn := fun _ => fun
  | [d1, d2] => { results := [.lit (.bool false)], args := [d1, d2] }
  | _ => none }
def PointerIndexWrongFalsely : Prop := pointerIndexRow.holds Tryd.pinned (OpenSpec.ofChange pointerIndexWrong)

/-- 'orthoepylaw25.PointerEvals': WHATEVER THE INPUT: true; the input reads as it did. -/
def pointerEvalsSpec : ChangeSpec := { name := "pointerEvals", fn := fun _ => fun
  | [d1, d2] => { results := [.lit (.bool true)], args := [d1, d2] }
  | _ => none }
def pointerEvalsRow : OpenClaim := { program := "ytaeamjhgfhcjdaadoor", sum := "d181a6897de578f68880f8cadea5cfd460b0d0e016bfa4aa5b62c52bba3755c3", func := "orthoepy/orthoepylaw25.PointerEvals", spec := "pointerEvals", inPlace := ["internal/bytealg.CountString", "internal/bytealg.IndexByteString", "internal/bytealg.IndexString", "internal/abi.NoEscape", "internal/bytealg.MakeNoZero"], unfollowed := true, recurses := true, named := ["internal/bytealg.MaxLen", "unicode/utf8.first", "unicode/utf8.acceptRanges"], apart := false, laid := [("unicode/utf8.acceptRanges", laid_unicode_utf8_acceptRanges), ("unicode/utf8.first", laid_unicode_utf8_first)] }
def PointerEvalsSaid : Prop := pointerEvalsRow.holds Tryd.pinned (OpenSpec.ofChange pointerEvalsSpec)

/-- ITS FALSE NEIGHBOUR: 'it returns false'. Refute it at one input. -/
def pointerEvalsWrong : ChangeSpec := { name := "pointerEvals", fn := fun _ => fun
  | [d1, d2] => { results := [.lit (.bool false)], args := [d1, d2] }
  | _ => none }
def PointerEvalsWrongFalsely : Prop := pointerEvalsRow.holds Tryd.pinned (OpenSpec.ofChange pointerEvalsWrong)

/-- 'orthoepylaw25.PointerPaths': WHATEVER THE INPUT: true; the input reads as it did. -/
def pointerPathsSpec : ChangeSpec := { name := "pointerPaths", fn := fun _ => fun
  | [d1, d2, d3] => { results := [.lit (.bool true)], args := [d1, d2, d3] }
  | _ => none }
def pointerPathsRow : OpenClaim := { program := "ytaeamjhgfhcjdaadoor", sum := "d181a6897de578f68880f8cadea5cfd460b0d0e016bfa4aa5b62c52bba3755c3", func := "orthoepy/orthoepylaw25.PointerPaths", spec := "pointerPaths", inPlace := ["internal/bytealg.CountString", "internal/bytealg.IndexByteString", "internal/bytealg.IndexString", "internal/abi.NoEscape", "internal/bytealg.MakeNoZero"], unfollowed := true, recurses := true, named := ["internal/bytealg.MaxLen", "unicode/utf8.first", "unicode/utf8.acceptRanges"], apart := false, laid := [("unicode/utf8.acceptRanges", laid_unicode_utf8_acceptRanges), ("unicode/utf8.first", laid_unicode_utf8_first)] }
def PointerPathsSaid : Prop := pointerPathsRow.holds Tryd.pinned (OpenSpec.ofChange pointerPathsSpec)

/-- ITS FALSE NEIGHBOUR: 'it returns false'. Refute it at one input. -/
def pointerPathsWrong : ChangeSpec := { name := "pointerPaths", fn := fun _ => fun
  | [d1, d2, d3] => { results := [.lit (.bool false)], args := [d1, d2, d3] }
  | _ => none }
def PointerPathsWrongFalsely : Prop := pointerPathsRow.holds Tryd.pinned (OpenSpec.ofChange pointerPathsWrong)

/-- 'orthoepylaw25.PointerLonger': WHATEVER THE INPUT: true; the input reads as it did. -/
def pointerLongerSpec : ChangeSpec := { name := "pointerLonger", fn := fun _ => fun
  | [d1, d2] => { results := [.lit (.bool true)], args := [d1, d2] }
  | _ => none }
def pointerLongerRow : OpenClaim := { program := "ytaeamjhgfhcjdaadoor", sum := "d181a6897de578f68880f8cadea5cfd460b0d0e016bfa4aa5b62c52bba3755c3", func := "orthoepy/orthoepylaw25.PointerLonger", spec := "pointerLonger", inPlace := ["internal/bytealg.CountString", "internal/bytealg.IndexByteString", "internal/bytealg.IndexString", "internal/abi.NoEscape", "internal/bytealg.MakeNoZero"], unfollowed := true, recurses := true, named := ["internal/bytealg.MaxLen", "unicode/utf8.first", "unicode/utf8.acceptRanges"], apart := false, laid := [("unicode/utf8.acceptRanges", laid_unicode_utf8_acceptRanges), ("unicode/utf8.first", laid_unicode_utf8_first)] }
def PointerLongerSaid : Prop := pointerLongerRow.holds Tryd.pinned (OpenSpec.ofChange pointerLongerSpec)

/-- ITS FALSE NEIGHBOUR: 'it returns false'. Refute it at one input. -/
def pointerLongerWrong : ChangeSpec := { name := "pointerLonger", fn := fun _ => fun
  | [d1, d2] => { results := [.lit (.bool false)], args := [d1, d2] }
  | _ => none }
def PointerLongerWrongFalsely : Prop := pointerLongerRow.holds Tryd.pinned (OpenSpec.ofChange pointerLongerWrong)

/- THE SECOND FORM. 'bulk': how many values and letters a reading holds, each counted each time it is reached (what is shared counts as often as it is met; a slice's spare places count too). A statement '..UptoSaid' is the law's where the arguments, and the package variables that the reading takes, are together of bulk at most 1048576: NARROWER than '..Said'. Prove '..Said' where nothing that the law and all that it calls make is longer than what came in: it says more and counts as full. Else prove '..UptoSaid'. A law counts once. -/
mutual
def uptoBulk {H : Type} : DataW H → Nat
  | .lit (.string bytes) => bytes.length + 1
  | .lit _ => 1
  | .nil => 1
  | .ptr d => uptoBulk d + 1
  | .slice elems spare => uptoBulkAll elems + uptoBulkAll spare + 1
  | .agg parts => uptoBulkAll parts + 1
  | .iface _ d => uptoBulk d + 1
  | .map entries => uptoBulkEntries entries + 1
  | .held _ => 1
def uptoBulkAll {H : Type} : List (DataW H) → Nat
  | [] => 0
  | d :: r => uptoBulk d + uptoBulkAll r
def uptoBulkEntries {H : Type} : List (Lit × DataW H) → Nat
  | [] => 0
  | x :: r => uptoBulkEntry x + uptoBulkEntries r
def uptoBulkEntry {H : Type} : Lit × DataW H → Nat
  | (.string bytes, d) => bytes.length + uptoBulk d + 1
  | (_, d) => uptoBulk d + 1
 end
def uptoSmall : (H : Type) → List (DataW H) → Bool := fun _ ds => decide (uptoBulkAll ds ≤ 1048576)
def OpenSpec.upto (s : _root_.Go.ChangeSpec) : _root_.Go.OpenSpec := { _root_.Go.OpenSpec.ofChange s with cond := some uptoSmall }

/-- 'orthoepylaw25.PointerAll', WHERE WHAT IT READS IS OF BULK AT MOST 1048576: true; the input reads as it did. -/
def pointerAllUptoRow : OpenClaim := { program := "ytaeamjhgfhcjdaadoor", sum := "d181a6897de578f68880f8cadea5cfd460b0d0e016bfa4aa5b62c52bba3755c3", func := "orthoepy/orthoepylaw25.PointerAll", spec := "pointerAll", inPlace := ["internal/bytealg.CountString", "internal/bytealg.IndexByteString", "internal/bytealg.IndexString", "internal/abi.NoEscape", "internal/bytealg.MakeNoZero"], unfollowed := true, recurses := true, named := ["internal/bytealg.MaxLen", "unicode/utf8.first", "unicode/utf8.acceptRanges"], apart := false, laid := [("unicode/utf8.acceptRanges", laid_unicode_utf8_acceptRanges), ("unicode/utf8.first", laid_unicode_utf8_first)], narrowed := true }
def PointerAllUptoSaid : Prop := pointerAllUptoRow.holds Tryd.pinned (OpenSpec.upto pointerAllSpec)

/-- 'orthoepylaw25.PointerBack', WHERE WHAT IT READS IS OF BULK AT MOST 1048576: true; the input reads as it did. -/
def pointerBackUptoRow : OpenClaim := { program := "ytaeamjhgfhcjdaadoor", sum := "d181a6897de578f68880f8cadea5cfd460b0d0e016bfa4aa5b62c52bba3755c3", func := "orthoepy/orthoepylaw25.PointerBack", spec := "pointerBack", inPlace := ["internal/bytealg.CountString", "internal/bytealg.IndexByteString", "internal/bytealg.IndexString", "internal/abi.NoEscape", "internal/bytealg.MakeNoZero"], unfollowed := true, recurses := true, named := ["internal/bytealg.MaxLen", "unicode/utf8.first", "unicode/utf8.acceptRanges"], apart := false, laid := [("unicode/utf8.acceptRanges", laid_unicode_utf8_acceptRanges), ("unicode/utf8.first", laid_unicode_utf8_first)], narrowed := true }
def PointerBackUptoSaid : Prop := pointerBackUptoRow.holds Tryd.pinned (OpenSpec.upto pointerBackSpec)

/-- 'orthoepylaw25.PointerForth', WHERE WHAT IT READS IS OF BULK AT MOST 1048576: true; the input reads as it did. -/
def pointerForthUptoRow : OpenClaim := { program := "ytaeamjhgfhcjdaadoor", sum := "d181a6897de578f68880f8cadea5cfd460b0d0e016bfa4aa5b62c52bba3755c3", func := "orthoepy/orthoepylaw25.PointerForth", spec := "pointerForth", inPlace := ["internal/bytealg.CountString", "internal/bytealg.IndexByteString", "internal/bytealg.IndexString", "internal/abi.NoEscape", "internal/bytealg.MakeNoZero"], unfollowed := true, recurses := true, named := ["internal/bytealg.MaxLen", "unicode/utf8.first", "unicode/utf8.acceptRanges"], apart := false, laid := [("unicode/utf8.acceptRanges", laid_unicode_utf8_acceptRanges), ("unicode/utf8.first", laid_unicode_utf8_first)], narrowed := true }
def PointerForthUptoSaid : Prop := pointerForthUptoRow.holds Tryd.pinned (OpenSpec.upto pointerForthSpec)

/-- 'orthoepylaw25.PointerLongest', WHERE WHAT IT READS IS OF BULK AT MOST 1048576: true; the input reads as it did. -/
def pointerLongestUptoRow : OpenClaim := { program := "ytaeamjhgfhcjdaadoor", sum := "d181a6897de578f68880f8cadea5cfd460b0d0e016bfa4aa5b62c52bba3755c3", func := "orthoepy/orthoepylaw25.PointerLongest", spec := "pointerLongest", inPlace := ["internal/bytealg.CountString", "internal/bytealg.IndexByteString", "internal/bytealg.IndexString", "internal/abi.NoEscape", "internal/bytealg.MakeNoZero"], unfollowed := true, recurses := true, named := ["internal/bytealg.MaxLen", "unicode/utf8.first", "unicode/utf8.acceptRanges"], apart := false, laid := [("unicode/utf8.acceptRanges", laid_unicode_utf8_acceptRanges), ("unicode/utf8.first", laid_unicode_utf8_first)], narrowed := true }
def PointerLongestUptoSaid : Prop := pointerLongestUptoRow.holds Tryd.pinned (OpenSpec.upto pointerLongestSpec)

/-- 'orthoepylaw25.PointerIndex', WHERE WHAT IT READS IS OF BULK AT MOST 1048576: true; the input reads as it did. -/
def pointerIndexUptoRow : OpenClaim := { program := "ytaeamjhgfhcjdaadoor", sum := "d181a6897de578f68880f8cadea5cfd460b0d0e016bfa4aa5b62c52bba3755c3", func := "orthoepy/orthoepylaw25.PointerIndex", spec := "pointerIndex", inPlace := ["internal/bytealg.CountString", "internal/bytealg.IndexByteString", "internal/bytealg.IndexString", "internal/abi.NoEscape", "internal/bytealg.MakeNoZero"], unfollowed := true, recurses := true, named := ["internal/bytealg.MaxLen", "unicode/utf8.first", "unicode/utf8.acceptRanges"], apart := false, laid := [("unicode/utf8.acceptRanges", laid_unicode_utf8_acceptRanges), ("unicode/utf8.first", laid_unicode_utf8_first)], narrowed := true }
def PointerIndexUptoSaid : Prop := pointerIndexUptoRow.holds Tryd.pinned (OpenSpec.upto pointerIndexSpec)

/-- 'orthoepylaw25.PointerEvals', WHERE WHAT IT READS IS OF BULK AT MOST 1048576: true; the input reads as it did. -/
def pointerEvalsUptoRow : OpenClaim := { program := "ytaeamjhgfhcjdaadoor", sum := "d181a6897de578f68880f8cadea5cfd460b0d0e016bfa4aa5b62c52bba3755c3", func := "orthoepy/orthoepylaw25.PointerEvals", spec := "pointerEvals", inPlace := ["internal/bytealg.CountString", "internal/bytealg.IndexByteString", "internal/bytealg.IndexString", "internal/abi.NoEscape", "internal/bytealg.MakeNoZero"], unfollowed := true, recurses := true, named := ["internal/bytealg.MaxLen", "unicode/utf8.first", "unicode/utf8.acceptRanges"], apart := false, laid := [("unicode/utf8.acceptRanges", laid_unicode_utf8_acceptRanges), ("unicode/utf8.first", laid_unicode_utf8_first)], narrowed := true }
def PointerEvalsUptoSaid : Prop := pointerEvalsUptoRow.holds Tryd.pinned (OpenSpec.upto pointerEvalsSpec)

/-- 'orthoepylaw25.PointerPaths', WHERE WHAT IT READS IS OF BULK AT MOST 1048576: true; the input reads as it did. -/
def pointerPathsUptoRow : OpenClaim := { program := "ytaeamjhgfhcjdaadoor", sum := "d181a6897de578f68880f8cadea5cfd460b0d0e016bfa4aa5b62c52bba3755c3", func := "orthoepy/orthoepylaw25.PointerPaths", spec := "pointerPaths", inPlace := ["internal/bytealg.CountString", "internal/bytealg.IndexByteString", "internal/bytealg.IndexString", "internal/abi.NoEscape", "internal/bytealg.MakeNoZero"], unfollowed := true, recurses := true, named := ["internal/bytealg.MaxLen", "unicode/utf8.first", "unicode/utf8.acceptRanges"], apart := false, laid := [("unicode/utf8.acceptRanges", laid_unicode_utf8_acceptRanges), ("unicode/utf8.first", laid_unicode_utf8_first)], narrowed := true }
def PointerPathsUptoSaid : Prop := pointerPathsUptoRow.holds Tryd.pinned (OpenSpec.upto pointerPathsSpec)

/-- 'orthoepylaw25.PointerLonger', WHERE WHAT IT READS IS OF BULK AT MOST 1048576: true; the input reads as it did. -/
def pointerLongerUptoRow : OpenClaim := { program := "ytaeamjhgfhcjdaadoor", sum := "d181a6897de578f68880f8cadea5cfd460b0d0e016bfa4aa5b62c52bba3755c3", func := "orthoepy/orthoepylaw25.PointerLonger", spec := "pointerLonger", inPlace := ["internal/bytealg.CountString", "internal/bytealg.IndexByteString", "internal/bytealg.IndexString", "internal/abi.NoEscape", "internal/bytealg.MakeNoZero"], unfollowed := true, recurses := true, named := ["internal/bytealg.MaxLen", "unicode/utf8.first", "unicode/utf8.acceptRanges"], apart := false, laid := [("unicode/utf8.acceptRanges", laid_unicode_utf8_acceptRanges), ("unicode/utf8.first", laid_unicode_utf8_first)], narrowed := true }
def PointerLongerUptoSaid : Prop := pointerLongerUptoRow.holds Tryd.pinned (OpenSpec.upto pointerLongerSpec)

end Rows
end Go.Proofs.YtaeamjhgfhcjdaaDoor
