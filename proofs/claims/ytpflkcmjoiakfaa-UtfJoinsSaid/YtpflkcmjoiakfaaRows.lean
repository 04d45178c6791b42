/-
  No cell of these rows narrows 'for every input' (looked for: loops, veiled, ifaces, maps, wideKeys, modest, calm, conditions, laid).
  DERIVED. THE GIVEN ROWS OF THIS SEAT. 7 by the template 'for every input the law returns true; each argument reads behind the call as it read before'; 0 by the template 'total and deterministic' (their statements: YtpflkcmjoiakfaaTotals.lean).
  GIVEN WITH THE SEED: the statements are not yours to turn. If you find one false, say at which input.
  Laid BY PROGRAM, IN A SANDBOX (cutbox-rows.mjs): the forced cells as the released guide's own fill.sh prints them over the translation ee3809ae0eeb1262… (all of the seat's roots in one cut). By AI agents, Wed Nov 11 2026. No macro, syntax, notation, axiom, sorry.
-/
import Derived.Test.YtpflkcmjoiakfaaChecked
import GoSem.Claim
import GoSem.ClaimJoined
import GoSem.ClaimMapViews
import Derived.JoinedTies
import Derived.KernelRfl
namespace Go.Proofs.Ytpflkcmjoiakfaa
/- THE CELL 'sum', in the pinned program and in every row, IS THE sha256 OF THE DUMP (.gsa) THAT YtpflkcmjoiakfaaProg.lean LOADS. Nothing in Lean hashes anything: it is a label: what it is worth is what the hold of that sum in a sandbox is worth. -/
noncomputable def Try.pinned : Pinned := { name := "ytpflkcmjoiakfaa", sum := "ee3809ae0eeb12628029b9ca19a912bbc1e315db486c56e5839a526b6c67d636", checked := Try.checked }
namespace Rows
def none {H : Type} : Left H := { results := [], args := [] }

/-- 'flaillaw01.UtfDecodes': WHATEVER THE INPUT: true; the input reads as it did. -/
def utfDecodesSpec : ChangeSpec := { name := "utfDecodes", fn := fun _ => fun
  | [d] => { results := [.lit (.bool true)], args := [d] }
  | _ => none }
def utfDecodesRow : OpenClaim := { program := "ytpflkcmjoiakfaa", sum := "ee3809ae0eeb12628029b9ca19a912bbc1e315db486c56e5839a526b6c67d636", func := "flail/flaillaw01.UtfDecodes", spec := "utfDecodes", inPlace := ["internal/abi.NoEscape"], apart := false }
def UtfDecodesSaid : Prop := utfDecodesRow.holds Try.pinned (OpenSpec.ofChange utfDecodesSpec)

/-- ITS FALSE NEIGHBOUR: 'it returns false'. Refute it at one input. -/
def utfDecodesWrong : ChangeSpec := { name := "utfDecodes", fn := fun _ => fun
  | [d] => { results := [.lit (.bool false)], args := [d] }
  | _ => none }
def UtfDecodesWrongFalsely : Prop := utfDecodesRow.holds Try.pinned (OpenSpec.ofChange utfDecodesWrong)

/-- 'flaillaw01.UtfSigns': WHATEVER THE INPUT: true; the input reads as it did. -/
def utfSignsSpec : ChangeSpec := { name := "utfSigns", fn := fun _ => fun
  | [d] => { results := [.lit (.bool true)], args := [d] }
  | _ => none }
def utfSignsRow : OpenClaim := { program := "ytpflkcmjoiakfaa", sum := "ee3809ae0eeb12628029b9ca19a912bbc1e315db486c56e5839a526b6c67d636", func := "flail/flaillaw01.UtfSigns", spec := "utfSigns", inPlace := ["internal/abi.NoEscape"], apart := false }
def UtfSignsSaid : Prop := utfSignsRow.holds Try.pinned (OpenSpec.ofChange utfSignsSpec)

/-- ITS FALSE NEIGHBOUR: 'it returns false'. Refute it at one input. -/
def utfSignsWrong : ChangeSpec := { name := "utfSigns", fn := fun _ => fun
  | [d] => { results := [.lit (.bool false)], args := [d] }
  | _ => none }
def UtfSignsWrongFalsely : Prop := utfSignsRow.holds Try.pinned (OpenSpec.ofChange utfSignsWrong)

/-- 'flaillaw01.UtfRight': WHATEVER THE INPUT: true; the input reads as it did. -/
def utfRightSpec : ChangeSpec := { name := "utfRight", fn := fun _ => fun
  | [d] => { results := [.lit (.bool true)], args := [d] }
  | _ => none }
def utfRightRow : OpenClaim := { program := "ytpflkcmjoiakfaa", sum := "ee3809ae0eeb12628029b9ca19a912bbc1e315db486c56e5839a526b6c67d636", func := "flail/flaillaw01.UtfRight", spec := "utfRight", inPlace := ["internal/abi.NoEscape"], apart := false }
def UtfRightSaid : Prop := utfRightRow.holds Try.pinned (OpenSpec.ofChange utfRightSpec)

/-- ITS FALSE NEIGHBOUR: 'it returns false'. Refute it at one input. -/
def utfRightWrong : ChangeSpec := { name := "utfRight", fn := fun _ => fun
  | [d] => { results := [.lit (.bool false)], args := [d] }
  | _ => none }
def UtfRightWrongFalsely : Prop := utfRightRow.holds Try.pinned (OpenSpec.ofChange utfRightWrong)

/-- 'flaillaw01.UtfBack': WHATEVER THE INPUT: true; the input reads as it did. -/
def utfBackSpec : ChangeSpec := { name := "utfBack", fn := fun _ => fun
  | [d1, d2] => { results := [.lit (.bool true)], args := [d1, d2] }
  | _ => none }
def utfBackRow : OpenClaim := { program := "ytpflkcmjoiakfaa", sum := "ee3809ae0eeb12628029b9ca19a912bbc1e315db486c56e5839a526b6c67d636", func := "flail/flaillaw01.UtfBack", spec := "utfBack", inPlace := ["internal/abi.NoEscape"], apart := false }
def UtfBackSaid : Prop := utfBackRow.holds Try.pinned (OpenSpec.ofChange utfBackSpec)

/-- ITS FALSE NEIGHBOUR: 'it returns false'. Refute it at one input. -/
def utfBackWrong : ChangeSpec := { name := "utfBack", fn := fun _ => fun
  | [d1, d2] => { results := [.lit (.bool false)], args := [d1, d2] }
  | _ => none }
def UtfBackWrongFalsely : Prop := utfBackRow.holds Try.pinned (OpenSpec.ofChange utfBackWrong)

/-- 'flaillaw01.UtfParts': WHATEVER THE INPUT: true; the input reads as it did. -/
def utfPartsSpec : ChangeSpec := { name := "utfParts", fn := fun _ => fun
  | [d1, d2, d3] => { results := [.lit (.bool true)], args := [d1, d2, d3] }
  | _ => none }
def utfPartsRow : OpenClaim := { program := "ytpflkcmjoiakfaa", sum := "ee3809ae0eeb12628029b9ca19a912bbc1e315db486c56e5839a526b6c67d636", func := "flail/flaillaw01.UtfParts", spec := "utfParts", inPlace := ["internal/abi.NoEscape"], apart := false }
def UtfPartsSaid : Prop := utfPartsRow.holds Try.pinned (OpenSpec.ofChange utfPartsSpec)

/-- ITS FALSE NEIGHBOUR: 'it returns false'. Refute it at one input. -/
def utfPartsWrong : ChangeSpec := { name := "utfParts", fn := fun _ => fun
  | [d1, d2, d3] => { results := [.lit (.bool false)], args := [d1, d2, d3] }
  | _ => none }
def UtfPartsWrongFalsely : Prop := utfPartsRow.holds Try.pinned (OpenSpec.ofChange utfPartsWrong)

/-- 'flaillaw01.UtfNumbers': WHATEVER THE INPUT: true; the input reads as it did. -/
def utfNumbersSpec : ChangeSpec := { name := "utfNumbers", fn := fun _ => fun
  | [d1, d2] => { results := [.lit (.bool true)], args := [d1, d2] }
  | _ => none }
def utfNumbersRow : OpenClaim := { program := "ytpflkcmjoiakfaa", sum := "ee3809ae0eeb12628029b9ca19a912bbc1e315db486c56e5839a526b6c67d636", func := "flail/flaillaw01.UtfNumbers", spec := "utfNumbers", inPlace := ["internal/abi.NoEscape"], apart := false }
def UtfNumbersSaid : Prop := utfNumbersRow.holds Try.pinned (OpenSpec.ofChange utfNumbersSpec)

/-- ITS FALSE NEIGHBOUR: 'it returns false'. Refute it at one input. -/
def utfNumbersWrong : ChangeSpec := { name := "utfNumbers", fn := fun _ => fun
  | [d1, d2] => { results := [.lit (.bool false)], args := [d1, d2] }
  | _ => none }
def UtfNumbersWrongFalsely : Prop := utfNumbersRow.holds Try.pinned (OpenSpec.ofChange utfNumbersWrong)

/-- 'flaillaw01.UtfJoins': WHATEVER THE INPUT: true; the input reads as it did. -/
def utfJoinsSpec : ChangeSpec := { name := "utfJoins", fn := fun _ => fun
  | [d1, d2, d3] => { results := [.lit (.bool true)], args := [d1, d2, d3] }
  | _ => none }
def utfJoinsRow : OpenClaim := { program := "ytpflkcmjoiakfaa", sum := "ee3809ae0eeb12628029b9ca19a912bbc1e315db486c56e5839a526b6c67d636", func := "flail/flaillaw01.UtfJoins", spec := "utfJoins", inPlace := ["internal/abi.NoEscape"], apart := false }
def UtfJoinsSaid : Prop := utfJoinsRow.holds Try.pinned (OpenSpec.ofChange utfJoinsSpec)

/-- ITS FALSE NEIGHBOUR: 'it returns false'. Refute it at one input. -/
def utfJoinsWrong : ChangeSpec := { name := "utfJoins", fn := fun _ => fun
  | [d1, d2, d3] => { results := [.lit (.bool false)], args := [d1, d2, d3] }
  | _ => none }
def UtfJoinsWrongFalsely : Prop := utfJoinsRow.holds Try.pinned (OpenSpec.ofChange utfJoinsWrong)

/- THE SECOND FORM. 'bulk': how many values and letters a reading holds, each counted each time it is reached (what is shared counts as often as it is met; a slice's spare places count too). A statement '..UptoSaid' is the law's where the arguments, and the package variables that the reading takes, are together of bulk at most 1048576: NARROWER than '..Said'. Prove '..Said' where nothing that the law and all that it calls make is longer than what came in: it says more and counts as full. Else prove '..UptoSaid'. A law counts once. -/
mutual
def uptoBulk {H : Type} : DataW H → Nat
  | .lit (.string bytes) => bytes.length + 1
  | .lit _ => 1
  | .nil => 1
  | .ptr d => uptoBulk d + 1
  | .slice elems spare => uptoBulkAll elems + uptoBulkAll spare + 1
  | .agg parts => uptoBulkAll parts + 1
  | .iface _ d => uptoBulk d + 1
  | .map entries => uptoBulkEntries entries + 1
  | .held _ => 1
def uptoBulkAll {H : Type} : List (DataW H) → Nat
  | [] => 0
  | d :: r => uptoBulk d + uptoBulkAll r
def uptoBulkEntries {H : Type} : List (Lit × DataW H) → Nat
  | [] => 0
  | x :: r => uptoBulkEntry x + uptoBulkEntries r
def uptoBulkEntry {H : Type} : Lit × DataW H → Nat
  | (.string bytes, d) => bytes.length + uptoBulk d + 1
  | (_, d) => uptoBulk d + 1
 end
def uptoSmall : (H : Type) → List (DataW H) → Bool := fun _ ds => decide (uptoBulkAll ds ≤ 1048576)
def OpenSpec.upto (s : _root_.Go.ChangeSpec) : _root_.Go.OpenSpec := { _root_.Go.OpenSpec.ofChange s with cond := some uptoSmall }

/-- 'flaillaw01.UtfDecodes', WHERE WHAT IT READS IS OF BULK AT MOST 1048576: true; the input reads as it did. -/
def utfDecodesUptoRow : OpenClaim := { program := "ytpflkcmjoiakfaa", sum := "ee3809ae0eeb12628029b9ca19a912bbc1e315db486c56e5839a526b6c67d636", func := "flail/flaillaw01.UtfDecodes", spec := "utfDecodes", inPlace := ["internal/abi.NoEscape"], apart := false, narrowed := true }
def UtfDecodesUptoSaid : Prop := utfDecodesUptoRow.holds Try.pinned (OpenSpec.upto utfDecodesSpec)

/-- 'flaillaw01.UtfSigns', WHERE WHAT IT READS IS OF BULK AT MOST 1048576: true; the input reads as it did. -/
def utfSignsUptoRow : OpenClaim := { program := "ytpflkcmjoiakfaa", sum := "ee3809ae0eeb12628029b9ca19a912bbc1e315db486c56e5839a526b6c67d636", func := "flail/flaillaw01.UtfSigns", spec := "utfSigns", inPlace := ["internal/abi.NoEscape"], apart := false, narrowed := true }
def UtfSignsUptoSaid : Prop := utfSignsUptoRow.holds Try.pinned (OpenSpec.upto utfSignsSpec)

/-- 'flaillaw01.UtfRight', WHERE WHAT IT READS IS OF BULK AT MOST 1048576: true; the input reads as it did. -/
def utfRightUptoRow : OpenClaim := { program := "ytpflkcmjoiakfaa", sum := "ee3809ae0eeb12628029b9ca19a912bbc1e315db486c56e5839a526b6c67d636", func := "flail/flaillaw01.UtfRight", spec := "utfRight", inPlace := ["internal/abi.NoEscape"], apart := false, narrowed := true }
def UtfRightUptoSaid : Prop := utfRightUptoRow.holds Try.pinned (OpenSpec.upto utfRightSpec)

/-- 'flaillaw01.UtfBack', WHERE WHAT IT READS IS OF BULK AT MOST 1048576: true; the input reads as it did. -/
def utfBackUptoRow : OpenClaim := { program := "ytpflkcmjoiakfaa", sum := "ee3809ae0eeb12628029b9ca19a912bbc1e315db486c56e5839a526b6c67d636", func := "flail/flaillaw01.UtfBack", spec := "utfBack", inPlace := ["internal/abi.NoEscape"], apart := false, narrowed := true }
def UtfBackUptoSaid : Prop := utfBackUptoRow.holds Try.pinned (OpenSpec.upto utfBackSpec)

/-- 'flaillaw01.UtfParts', WHERE WHAT IT READS IS OF BULK AT MOST 1048576: true; the input reads as it did. -/
def utfPartsUptoRow : OpenClaim := { program := "ytpflkcmjoiakfaa", sum := "ee3809ae0eeb12628029b9ca19a912bbc1e315db486c56e5839a526b6c67d636", func := "flail/flaillaw01.UtfParts", spec := "utfParts", inPlace := ["internal/abi.NoEscape"], apart := false, narrowed := true }
def UtfPartsUptoSaid : Prop := utfPartsUptoRow.holds Try.pinned (OpenSpec.upto utfPartsSpec)

/-- 'flaillaw01.UtfNumbers', WHERE WHAT IT READS IS OF BULK AT MOST 1048576: true; the input reads as it did. -/
def utfNumbersUptoRow : OpenClaim := { program := "ytpflkcmjoiakfaa", sum := "ee3809ae0eeb12628029b9ca19a912bbc1e315db486c56e5839a526b6c67d636", func := "flail/flaillaw01.UtfNumbers", spec := "utfNumbers", inPlace := ["internal/abi.NoEscape"], apart := false, narrowed := true }
def UtfNumbersUptoSaid : Prop := utfNumbersUptoRow.holds Try.pinned (OpenSpec.upto utfNumbersSpec)

/-- 'flaillaw01.UtfJoins', WHERE WHAT IT READS IS OF BULK AT MOST 1048576: true; the input reads as it did. -/
def utfJoinsUptoRow : OpenClaim := { program := "ytpflkcmjoiakfaa", sum := "ee3809ae0eeb12628029b9ca19a912bbc1e315db486c56e5839a526b6c67d636", func := "flail/flaillaw01.UtfJoins", spec := "utfJoins", inPlace := ["internal/abi.NoEscape"], apart := false, narrowed := true }
def UtfJoinsUptoSaid : Prop := utfJoinsUptoRow.holds Try.pinned (OpenSpec.upto utfJoinsSpec)

end Rows
end Go.Proofs.Ytpflkcmjoiakfaa
