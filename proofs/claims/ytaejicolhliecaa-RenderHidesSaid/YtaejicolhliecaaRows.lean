/-
  No cell of these rows narrows 'for every input' (looked for: loops, veiled, ifaces, maps, wideKeys, modest, calm, conditions, laid).
  DERIVED. THE GIVEN ROWS OF THIS SEAT. 12 by the template 'for every input the law returns true; each argument reads behind the call as it read before'; 0 by the template 'total and deterministic' (their statements: YtaejicolhliecaaTotals.lean).
  GIVEN WITH THE SEED: the statements are not yours to turn. If you find one false, say at which input.
  Laid BY PROGRAM, IN A SANDBOX (cutbox-rows.mjs): the forced cells as the released guide's own fill.sh prints them over the translation 863c5c30f7cf84e9… (all of the seat's roots in one cut). By AI agents, Wed Nov 11 2026. No macro, syntax, notation, axiom, sorry.
-/
import Derived.Test.YtaejicolhliecaaChecked
import GoSem.Claim
import GoSem.ClaimJoined
import GoSem.ClaimMapViews
import Derived.JoinedTies
import Derived.KernelRfl
namespace Go.Proofs.Ytaejicolhliecaa
/- THE CELL 'sum', in the pinned program and in every row, IS THE sha256 OF THE DUMP (.gsa) THAT YtaejicolhliecaaProg.lean LOADS. Nothing in Lean hashes anything: it is a label: what it is worth is what the hold of that sum in a sandbox is worth. -/
noncomputable def Try.pinned : Pinned := { name := "ytaejicolhliecaa", sum := "863c5c30f7cf84e9d47cf8a739d115796975d5462f5042f4f2bbd37b8a2bbfff", checked := Try.checked }
namespace Rows
def none {H : Type} : Left H := { results := [], args := [] }

/-- 'flaillaw18.FlowTells': WHATEVER THE INPUT: true; the input reads as it did. -/
def flowTellsSpec : ChangeSpec := { name := "flowTells", fn := fun _ => fun
  | [d] => { results := [.lit (.bool true)], args := [d] }
  | _ => none }
def flowTellsRow : OpenClaim := { program := "ytaejicolhliecaa", sum := "863c5c30f7cf84e9d47cf8a739d115796975d5462f5042f4f2bbd37b8a2bbfff", func := "flail/flaillaw18.FlowTells", spec := "flowTells", inPlace := ["internal/bytealg.IndexByteString", "internal/abi.NoEscape", "internal/bytealg.MakeNoZero"], unfollowed := true, recurses := true, apart := false }
def FlowTellsSaid : Prop := flowTellsRow.holds Try.pinned (OpenSpec.ofChange flowTellsSpec)

/-- ITS FALSE NEIGHBOUR: 'it returns false'. Refute it at one input. -/
def flowTellsWrong : ChangeSpec := { name := "flowTells", fn := fun _ => fun
  | [d] => { results := [.lit (.bool false)], args := [d] }
  | _ => none }
def FlowTellsWrongFalsely : Prop := flowTellsRow.holds Try.pinned (OpenSpec.ofChange flowTellsWrong)

/-- 'flaillaw18.FlowEdges': WHATEVER THE INPUT: true; the input reads as it did. -/
def flowEdgesSpec : ChangeSpec := { name := "flowEdges", fn := fun _ => fun
  | [d] => { results := [.lit (.bool true)], args := [d] }
  | _ => none }
def flowEdgesRow : OpenClaim := { program := "ytaejicolhliecaa", sum := "863c5c30f7cf84e9d47cf8a739d115796975d5462f5042f4f2bbd37b8a2bbfff", func := "flail/flaillaw18.FlowEdges", spec := "flowEdges", inPlace := ["internal/bytealg.IndexByteString", "internal/abi.NoEscape", "internal/bytealg.MakeNoZero"], unfollowed := true, recurses := true, apart := false }
def FlowEdgesSaid : Prop := flowEdgesRow.holds Try.pinned (OpenSpec.ofChange flowEdgesSpec)

/-- ITS FALSE NEIGHBOUR: 'it returns false'. Refute it at one input. -/
def flowEdgesWrong : ChangeSpec := { name := "flowEdges", fn := fun _ => fun
  | [d] => { results := [.lit (.bool false)], args := [d] }
  | _ => none }
def FlowEdgesWrongFalsely : Prop := flowEdgesRow.holds Try.pinned (OpenSpec.ofChange flowEdgesWrong)

/-- 'flaillaw18.FlowWords': WHATEVER THE INPUT: true; the input reads as it did. -/
def flowWordsSpec : ChangeSpec := { name := "flowWords", fn := fun _ => fun
  | [d] => { results := [.lit (.bool true)], args := [d] }
  | _ => none }
def flowWordsRow : OpenClaim := { program := "ytaejicolhliecaa", sum := "863c5c30f7cf84e9d47cf8a739d115796975d5462f5042f4f2bbd37b8a2bbfff", func := "flail/flaillaw18.FlowWords", spec := "flowWords", inPlace := ["internal/bytealg.IndexByteString", "internal/abi.NoEscape", "internal/bytealg.MakeNoZero"], unfollowed := true, recurses := true, apart := false }
def FlowWordsSaid : Prop := flowWordsRow.holds Try.pinned (OpenSpec.ofChange flowWordsSpec)

/-- ITS FALSE NEIGHBOUR: 'it returns false'. Refute it at one input. -/
def flowWordsWrong : ChangeSpec := { name := "flowWords", fn := fun _ => fun
  | [d] => { results := [.lit (.bool false)], args := [d] }
  | _ => none }
def FlowWordsWrongFalsely : Prop := flowWordsRow.holds Try.pinned (OpenSpec.ofChange flowWordsWrong)

/-- 'flaillaw18.FlowOnce': WHATEVER THE INPUT: true; the input reads as it did. -/
def flowOnceSpec : ChangeSpec := { name := "flowOnce", fn := fun _ => fun
  | [d] => { results := [.lit (.bool true)], args := [d] }
  | _ => none }
def flowOnceRow : OpenClaim := { program := "ytaejicolhliecaa", sum := "863c5c30f7cf84e9d47cf8a739d115796975d5462f5042f4f2bbd37b8a2bbfff", func := "flail/flaillaw18.FlowOnce", spec := "flowOnce", inPlace := ["internal/bytealg.IndexByteString", "internal/abi.NoEscape", "internal/bytealg.MakeNoZero"], unfollowed := true, recurses := true, apart := false }
def FlowOnceSaid : Prop := flowOnceRow.holds Try.pinned (OpenSpec.ofChange flowOnceSpec)

/-- ITS FALSE NEIGHBOUR: 'it returns false'. Refute it at one input. -/
def flowOnceWrong : ChangeSpec := { name := "flowOnce", fn := fun _ => fun
  | [d] => { results := [.lit (.bool false)], args := [d] }
  | _ => none }
def FlowOnceWrongFalsely : Prop := flowOnceRow.holds Try.pinned (OpenSpec.ofChange flowOnceWrong)

/-- 'flaillaw18.FlowLines': WHATEVER THE INPUT: true; the input reads as it did. -/
def flowLinesSpec : ChangeSpec := { name := "flowLines", fn := fun _ => fun
  | [d1, d2, d3] => { results := [.lit (.bool true)], args := [d1, d2, d3] }
  | _ => none }
def flowLinesRow : OpenClaim := { program := "ytaejicolhliecaa", sum := "863c5c30f7cf84e9d47cf8a739d115796975d5462f5042f4f2bbd37b8a2bbfff", func := "flail/flaillaw18.FlowLines", spec := "flowLines", inPlace := ["internal/bytealg.IndexByteString", "internal/abi.NoEscape", "internal/bytealg.MakeNoZero"], unfollowed := true, recurses := true, apart := false }
def FlowLinesSaid : Prop := flowLinesRow.holds Try.pinned (OpenSpec.ofChange flowLinesSpec)

/-- ITS FALSE NEIGHBOUR: 'it returns false'. Refute it at one input. -/
def flowLinesWrong : ChangeSpec := { name := "flowLines", fn := fun _ => fun
  | [d1, d2, d3] => { results := [.lit (.bool false)], args := [d1, d2, d3] }
  | _ => none }
def FlowLinesWrongFalsely : Prop := flowLinesRow.holds Try.pinned (OpenSpec.ofChange flowLinesWrong)

/-- 'flaillaw18.FlowParts': WHATEVER THE INPUT: true; the input reads as it did. -/
def flowPartsSpec : ChangeSpec := { name := "flowParts", fn := fun _ => fun
  | [d1, d2, d3, d4] => { results := [.lit (.bool true)], args := [d1, d2, d3, d4] }
  | _ => none }
def flowPartsRow : OpenClaim := { program := "ytaejicolhliecaa", sum := "863c5c30f7cf84e9d47cf8a739d115796975d5462f5042f4f2bbd37b8a2bbfff", func := "flail/flaillaw18.FlowParts", spec := "flowParts", inPlace := ["internal/bytealg.IndexByteString", "internal/abi.NoEscape", "internal/bytealg.MakeNoZero"], unfollowed := true, recurses := true, apart := false }
def FlowPartsSaid : Prop := flowPartsRow.holds Try.pinned (OpenSpec.ofChange flowPartsSpec)

/-- ITS FALSE NEIGHBOUR: 'it returns false'. Refute it at one input. -/
def flowPartsWrong : ChangeSpec := { name := "flowParts", fn := fun _ => fun
  | [d1, d2, d3, d4] => { results := [.lit (.bool false)], args := [d1, d2, d3, d4] }
  | _ => none }
def FlowPartsWrongFalsely : Prop := flowPartsRow.holds Try.pinned (OpenSpec.ofChange flowPartsWrong)

/-- 'flaillaw19.RenderTells': WHATEVER THE INPUT: true; the input reads as it did. -/
def renderTellsSpec : ChangeSpec := { name := "renderTells", fn := fun _ => fun
  | [d] => { results := [.lit (.bool true)], args := [d] }
  | _ => none }
def renderTellsRow : OpenClaim := { program := "ytaejicolhliecaa", sum := "863c5c30f7cf84e9d47cf8a739d115796975d5462f5042f4f2bbd37b8a2bbfff", func := "flail/flaillaw19.RenderTells", spec := "renderTells", inPlace := ["internal/bytealg.IndexByteString", "internal/abi.NoEscape", "internal/bytealg.MakeNoZero"], unfollowed := true, recurses := true, apart := false }
def RenderTellsSaid : Prop := renderTellsRow.holds Try.pinned (OpenSpec.ofChange renderTellsSpec)

/-- ITS FALSE NEIGHBOUR: 'it returns false'. Refute it at one input. -/
def renderTellsWrong : ChangeSpec := { name := "renderTells", fn := fun _ => fun
  | [d] => { results := [.lit (.bool false)], args := [d] }
  | _ => none }
def RenderTellsWrongFalsely : Prop := renderTellsRow.holds Try.pinned (OpenSpec.ofChange renderTellsWrong)

/-- 'flaillaw19.RenderEdges': WHATEVER THE INPUT: true; the input reads as it did. -/
def renderEdgesSpec : ChangeSpec := { name := "renderEdges", fn := fun _ => fun
  | [d] => { results := [.lit (.bool true)], args := [d] }
  | _ => none }
def renderEdgesRow : OpenClaim := { program := "ytaejicolhliecaa", sum := "863c5c30f7cf84e9d47cf8a739d115796975d5462f5042f4f2bbd37b8a2bbfff", func := "flail/flaillaw19.RenderEdges", spec := "renderEdges", inPlace := ["internal/bytealg.IndexByteString", "internal/abi.NoEscape", "internal/bytealg.MakeNoZero"], unfollowed := true, recurses := true, apart := false }
def RenderEdgesSaid : Prop := renderEdgesRow.holds Try.pinned (OpenSpec.ofChange renderEdgesSpec)

/-- ITS FALSE NEIGHBOUR: 'it returns false'. Refute it at one input. -/
def renderEdgesWrong : ChangeSpec := { name := "renderEdges", fn := fun _ => fun
  | [d] => { results := [.lit (.bool false)], args := [d] }
  | _ => none }
def RenderEdgesWrongFalsely : Prop := renderEdgesRow.holds Try.pinned (OpenSpec.ofChange renderEdgesWrong)

/-- 'flaillaw19.RenderHides': WHATEVER THE INPUT: true; the input reads as it did. -/
def renderHidesSpec : ChangeSpec := { name := "renderHides", fn := fun _ => fun
  | [d1, d2, d3, d4] => { results := [.lit (.bool true)], args := [d1, d2, d3, d4] }
  | _ => none }
def renderHidesRow : OpenClaim := { program := "ytaejicolhliecaa", sum := "863c5c30f7cf84e9d47cf8a739d115796975d5462f5042f4f2bbd37b8a2bbfff", func := "flail/flaillaw19.RenderHides", spec := "renderHides", inPlace := ["internal/bytealg.IndexByteString", "internal/abi.NoEscape", "internal/bytealg.MakeNoZero"], unfollowed := true, recurses := true, apart := false }
def RenderHidesSaid : Prop := renderHidesRow.holds Try.pinned (OpenSpec.ofChange renderHidesSpec)

/-- ITS FALSE NEIGHBOUR: 'it returns false'. Refute it at one input. -/
def renderHidesWrong : ChangeSpec := { name := "renderHides", fn := fun _ => fun
  | [d1, d2, d3, d4] => { results := [.lit (.bool false)], args := [d1, d2, d3, d4] }
  | _ => none }
def RenderHidesWrongFalsely : Prop := renderHidesRow.holds Try.pinned (OpenSpec.ofChange renderHidesWrong)

/-- 'flaillaw19.RenderParts': WHATEVER THE INPUT: true; the input reads as it did. -/
def renderPartsSpec : ChangeSpec := { name := "renderParts", fn := fun _ => fun
  | [d1, d2] => { results := [.lit (.bool true)], args := [d1, d2] }
  | _ => none }
def renderPartsRow : OpenClaim := { program := "ytaejicolhliecaa", sum := "863c5c30f7cf84e9d47cf8a739d115796975d5462f5042f4f2bbd37b8a2bbfff", func := "flail/flaillaw19.RenderParts", spec := "renderParts", inPlace := ["internal/bytealg.IndexByteString", "internal/abi.NoEscape", "internal/bytealg.MakeNoZero"], unfollowed := true, recurses := true, apart := false }
def RenderPartsSaid : Prop := renderPartsRow.holds Try.pinned (OpenSpec.ofChange renderPartsSpec)

/-- ITS FALSE NEIGHBOUR: 'it returns false'. Refute it at one input. -/
def renderPartsWrong : ChangeSpec := { name := "renderParts", fn := fun _ => fun
  | [d1, d2] => { results := [.lit (.bool false)], args := [d1, d2] }
  | _ => none }
def RenderPartsWrongFalsely : Prop := renderPartsRow.holds Try.pinned (OpenSpec.ofChange renderPartsWrong)

/-- 'flaillaw19.RenderLines': WHATEVER THE INPUT: true; the input reads as it did. -/
def renderLinesSpec : ChangeSpec := { name := "renderLines", fn := fun _ => fun
  | [d1, d2] => { results := [.lit (.bool true)], args := [d1, d2] }
  | _ => none }
def renderLinesRow : OpenClaim := { program := "ytaejicolhliecaa", sum := "863c5c30f7cf84e9d47cf8a739d115796975d5462f5042f4f2bbd37b8a2bbfff", func := "flail/flaillaw19.RenderLines", spec := "renderLines", inPlace := ["internal/bytealg.IndexByteString", "internal/abi.NoEscape", "internal/bytealg.MakeNoZero"], unfollowed := true, recurses := true, apart := false }
def RenderLinesSaid : Prop := renderLinesRow.holds Try.pinned (OpenSpec.ofChange renderLinesSpec)

/-- ITS FALSE NEIGHBOUR: 'it returns false'. Refute it at one input. -/
def renderLinesWrong : ChangeSpec := { name := "renderLines", fn := fun _ => fun
  | [d1, d2] => { results := [.lit (.bool false)], args := [d1, d2] }
  | _ => none }
def RenderLinesWrongFalsely : Prop := renderLinesRow.holds Try.pinned (OpenSpec.ofChange renderLinesWrong)

/-- 'flaillaw19.RenderKeeps': WHATEVER THE INPUT: true; the input reads as it did. -/
def renderKeepsSpec : ChangeSpec := { name := "renderKeeps", fn := fun _ => fun
  | [d1, d2] => { results := [.lit (.bool true)], args := [d1, d2] }
  | _ => none }
def renderKeepsRow : OpenClaim := { program := "ytaejicolhliecaa", sum := "863c5c30f7cf84e9d47cf8a739d115796975d5462f5042f4f2bbd37b8a2bbfff", func := "flail/flaillaw19.RenderKeeps", spec := "renderKeeps", inPlace := ["internal/bytealg.IndexByteString", "internal/abi.NoEscape", "internal/bytealg.MakeNoZero"], unfollowed := true, recurses := true, apart := false }
def RenderKeepsSaid : Prop := renderKeepsRow.holds Try.pinned (OpenSpec.ofChange renderKeepsSpec)

/-- ITS FALSE NEIGHBOUR: 'it returns false'. Refute it at one input. -/
def renderKeepsWrong : ChangeSpec := { name := "renderKeeps", fn := fun _ => fun
  | [d1, d2] => { results := [.lit (.bool false)], args := [d1, d2] }
  | _ => none }
def RenderKeepsWrongFalsely : Prop := renderKeepsRow.holds Try.pinned (OpenSpec.ofChange renderKeepsWrong)

/- THE SECOND FORM. 'bulk': how many values and letters a reading holds, each counted each time it is reached (what is shared counts as often as it is met; a slice's spare places count too). A statement '..UptoSaid' is the law's where the arguments, and the package variables that the reading takes, are together of bulk at most 1048576: NARROWER than '..Said'. Prove '..Said' where nothing that the law and all that it calls make is longer than what came in: it says more and counts as full. Else prove '..UptoSaid'. A law counts once. -/
mutual
def uptoBulk {H : Type} : DataW H → Nat
  | .lit (.string bytes) => bytes.length + 1
  | .lit _ => 1
  | .nil => 1
  | .ptr d => uptoBulk d + 1
  | .slice elems spare => uptoBulkAll elems + uptoBulkAll spare + 1
  | .agg parts => uptoBulkAll parts + 1
  | .iface _ d => uptoBulk d + 1
  | .map entries => uptoBulkEntries entries + 1
  | .held _ => 1
def uptoBulkAll {H : Type} : List (DataW H) → Nat
  | [] => 0
  | d :: r => uptoBulk d + uptoBulkAll r
def uptoBulkEntries {H : Type} : List (Lit × DataW H) → Nat
  | [] => 0
  | x :: r => uptoBulkEntry x + uptoBulkEntries r
def uptoBulkEntry {H : Type} : Lit × DataW H → Nat
  | (.string bytes, d) => bytes.length + uptoBulk d + 1
  | (_, d) => uptoBulk d + 1
 end
def uptoSmall : (H : Type) → List (DataW H) → Bool := fun _ ds => decide (uptoBulkAll ds ≤ 1048576)
def OpenSpec.upto (s : _root_.Go.ChangeSpec) : _root_.Go.OpenSpec := { _root_.Go.OpenSpec.ofChange s with cond := some uptoSmall }

/-- 'flaillaw18.FlowTells', WHERE WHAT IT READS IS OF BULK AT MOST 1048576: true; the input reads as it did. -/
def flowTellsUptoRow : OpenClaim := { program := "ytaejicolhliecaa", sum := "863c5c30f7cf84e9d47cf8a739d115796975d5462f5042f4f2bbd37b8a2bbfff", func := "flail/flaillaw18.FlowTells", spec := "flowTells", inPlace := ["internal/bytealg.IndexByteString", "internal/abi.NoEscape", "internal/bytealg.MakeNoZero"], unfollowed := true, recurses := true, apart := false, narrowed := true }
def FlowTellsUptoSaid : Prop := flowTellsUptoRow.holds Try.pinned (OpenSpec.upto flowTellsSpec)

/-- 'flaillaw18.FlowEdges', WHERE WHAT IT READS IS OF BULK AT MOST 1048576: true; the input reads as it did. -/
def flowEdgesUptoRow : OpenClaim := { program := "ytaejicolhliecaa", sum := "863c5c30f7cf84e9d47cf8a739d115796975d5462f5042f4f2bbd37b8a2bbfff", func := "flail/flaillaw18.FlowEdges", spec := "flowEdges", inPlace := ["internal/bytealg.IndexByteString", "internal/abi.NoEscape", "internal/bytealg.MakeNoZero"], unfollowed := true, recurses := true, apart := false, narrowed := true }
def FlowEdgesUptoSaid : Prop := flowEdgesUptoRow.holds Try.pinned (OpenSpec.upto flowEdgesSpec)

/-- 'flaillaw18.FlowWords', WHERE WHAT IT READS IS OF BULK AT MOST 1048576: true; the input reads as it did. -/
def flowWordsUptoRow : OpenClaim := { program := "ytaejicolhliecaa", sum := "863c5c30f7cf84e9d47cf8a739d115796975d5462f5042f4f2bbd37b8a2bbfff", func := "flail/flaillaw18.FlowWords", spec := "flowWords", inPlace := ["internal/bytealg.IndexByteString", "internal/abi.NoEscape", "internal/bytealg.MakeNoZero"], unfollowed := true, recurses := true, apart := false, narrowed := true }
def FlowWordsUptoSaid : Prop := flowWordsUptoRow.holds Try.pinned (OpenSpec.upto flowWordsSpec)

/-- 'flaillaw18.FlowOnce', WHERE WHAT IT READS IS OF BULK AT MOST 1048576: true; the input reads as it did. -/
def flowOnceUptoRow : OpenClaim := { program := "ytaejicolhliecaa", sum := "863c5c30f7cf84e9d47cf8a739d115796975d5462f5042f4f2bbd37b8a2bbfff", func := "flail/flaillaw18.FlowOnce", spec := "flowOnce", inPlace := ["internal/bytealg.IndexByteString", "internal/abi.NoEscape", "internal/bytealg.MakeNoZero"], unfollowed := true, recurses := true, apart := false, narrowed := true }
def FlowOnceUptoSaid : Prop := flowOnceUptoRow.holds Try.pinned (OpenSpec.upto flowOnceSpec)

/-- 'flaillaw18.FlowLines', WHERE WHAT IT READS IS OF BULK AT MOST 1048576: true; the input reads as it did. -/
def flowLinesUptoRow : OpenClaim := { program := "ytaejicolhliecaa", sum := "863c5c30f7cf84e9d47cf8a739d115796975d5462f5042f4f2bbd37b8a2bbfff", func := "flail/flaillaw18.FlowLines", spec := "flowLines", inPlace := ["internal/bytealg.IndexByteString", "internal/abi.NoEscape", "internal/bytealg.MakeNoZero"], unfollowed := true, recurses := true, apart := false, narrowed := true }
def FlowLinesUptoSaid : Prop := flowLinesUptoRow.holds Try.pinned (OpenSpec.upto flowLinesSpec)

/-- 'flaillaw18.FlowParts', WHERE WHAT IT READS IS OF BULK AT MOST 1048576: true; the input reads as it did. -/
def flowPartsUptoRow : OpenClaim := { program := "ytaejicolhliecaa", sum := "863c5c30f7cf84e9d47cf8a739d115796975d5462f5042f4f2bbd37b8a2bbfff", func := "flail/flaillaw18.FlowParts", spec := "flowParts", inPlace := ["internal/bytealg.IndexByteString", "internal/abi.NoEscape", "internal/bytealg.MakeNoZero"], unfollowed := true, recurses := true, apart := false, narrowed := true }
def FlowPartsUptoSaid : Prop := flowPartsUptoRow.holds Try.pinned (OpenSpec.upto flowPartsSpec)

/-- 'flaillaw19.RenderTells', WHERE WHAT IT READS IS OF BULK AT MOST 1048576: true; the input reads as it did. -/
def renderTellsUptoRow : OpenClaim := { program := "ytaejicolhliecaa", sum := "863c5c30f7cf84e9d47cf8a739d115796975d5462f5042f4f2bbd37b8a2bbfff", func := "flail/flaillaw19.RenderTells", spec := "renderTells", inPlace := ["internal/bytealg.IndexByteString", "internal/abi.NoEscape", "internal/bytealg.MakeNoZero"], unfollowed := true, recurses := true, apart := false, narrowed := true }
def RenderTellsUptoSaid : Prop := renderTellsUptoRow.holds Try.pinned (OpenSpec.upto renderTellsSpec)

/-- 'flaillaw19.RenderEdges', WHERE WHAT IT READS IS OF BULK AT MOST 1048576: true; the input reads as it did. -/
def renderEdgesUptoRow : OpenClaim := { program := "ytaejicolhliecaa", sum := "863c5c30f7cf84e9d47cf8a739d115796975d5462f5042f4f2bbd37b8a2bbfff", func := "flail/flaillaw19.RenderEdges", spec := "renderEdges", inPlace := ["internal/bytealg.IndexByteString", "internal/abi.NoEscape", "internal/bytealg.MakeNoZero"], unfollowed := true, recurses := true, apart := false, narrowed := true }
def RenderEdgesUptoSaid : Prop := renderEdgesUptoRow.holds Try.pinned (OpenSpec.upto renderEdgesSpec)

/-- 'flaillaw19.RenderHides', WHERE WHAT IT READS IS OF BULK AT MOST 1048576: true; the input reads as it did. -/
def renderHidesUptoRow : OpenClaim := { program := "ytaejicolhliecaa", sum := "863c5c30f7cf84e9d47cf8a739d115796975d5462f5042f4f2bbd37b8a2bbfff", func := "flail/flaillaw19.RenderHides", spec := "renderHides", inPlace := ["internal/bytealg.IndexByteString", "internal/abi.NoEscape", "internal/bytealg.MakeNoZero"], unfollowed := true, recurses := true, apart := false, narrowed := true }
def RenderHidesUptoSaid : Prop := renderHidesUptoRow.holds Try.pinned (OpenSpec.upto renderHidesSpec)

/-- 'flaillaw19.RenderParts', WHERE WHAT IT READS IS OF BULK AT MOST 1048576: true; the input reads as it did. -/
def renderPartsUptoRow : OpenClaim := { program := "ytaejicolhliecaa", sum := "863c5c30f7cf84e9d47cf8a739d115796975d5462f5042f4f2bbd37b8a2bbfff", func := "flail/flaillaw19.RenderParts", spec := "renderParts", inPlace := ["internal/bytealg.IndexByteString", "internal/abi.NoEscape", "internal/bytealg.MakeNoZero"], unfollowed := true, recurses := true, apart := false, narrowed := true }
def RenderPartsUptoSaid : Prop := renderPartsUptoRow.holds Try.pinned (OpenSpec.upto renderPartsSpec)

/-- 'flaillaw19.RenderLines', WHERE WHAT IT READS IS OF BULK AT MOST 1048576: true; the input reads as it did. -/
def renderLinesUptoRow : OpenClaim := { program := "ytaejicolhliecaa", sum := "863c5c30f7cf84e9d47cf8a739d115796975d5462f5042f4f2bbd37b8a2bbfff", func := "flail/flaillaw19.RenderLines", spec := "renderLines", inPlace := ["internal/bytealg.IndexByteString", "internal/abi.NoEscape", "internal/bytealg.MakeNoZero"], unfollowed := true, recurses := true, apart := false, narrowed := true }
def RenderLinesUptoSaid : Prop := renderLinesUptoRow.holds Try.pinned (OpenSpec.upto renderLinesSpec)

/-- 'flaillaw19.RenderKeeps', WHERE WHAT IT READS IS OF BULK AT MOST 1048576: true; the input reads as it did. -/
def renderKeepsUptoRow : OpenClaim := { program := "ytaejicolhliecaa", sum := "863c5c30f7cf84e9d47cf8a739d115796975d5462f5042f4f2bbd37b8a2bbfff", func := "flail/flaillaw19.RenderKeeps", spec := "renderKeeps", inPlace := ["internal/bytealg.IndexByteString", "internal/abi.NoEscape", "internal/bytealg.MakeNoZero"], unfollowed := true, recurses := true, apart := false, narrowed := true }
def RenderKeepsUptoSaid : Prop := renderKeepsUptoRow.holds Try.pinned (OpenSpec.upto renderKeepsSpec)

end Rows
end Go.Proofs.Ytaejicolhliecaa
