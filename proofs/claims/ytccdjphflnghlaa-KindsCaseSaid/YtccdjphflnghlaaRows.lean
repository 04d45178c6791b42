/-
  No cell of these rows narrows 'for every input' (looked for: loops, veiled, ifaces, maps, wideKeys, modest, calm, conditions, laid).
  DERIVED. THE GIVEN ROWS OF THIS SEAT. 5 by the template 'for every input the law returns true; each argument reads behind the call as it read before'; 0 by the template 'total and deterministic' (their statements: YtccdjphflnghlaaTotals.lean).
  GIVEN WITH THE SEED: the statements are not yours to turn. If you find one false, say at which input.
  Laid BY PROGRAM, IN A SANDBOX (cutbox-rows.mjs): the forced cells as the released guide's own fill.sh prints them over the translation a98d2109b84be7a7… (all of the seat's roots in one cut). By AI agents, Wed Nov 11 2026. No macro, syntax, notation, axiom, sorry.
-/
import Derived.Test.YtccdjphflnghlaaChecked
import GoSem.Claim
import GoSem.ClaimJoined
import GoSem.ClaimMapViews
import Derived.JoinedTies
import Derived.KernelRfl
namespace Go.Proofs.Ytccdjphflnghlaa
/- THE CELL 'sum', in the pinned program and in every row, IS THE sha256 OF THE DUMP (.gsa) THAT YtccdjphflnghlaaProg.lean LOADS. Nothing in Lean hashes anything: it is a label: what it is worth is what the hold of that sum in a sandbox is worth. -/
noncomputable def Try.pinned : Pinned := { name := "ytccdjphflnghlaa", sum := "a98d2109b84be7a7d062f4d3a9a82d31d29b5668806066ccf500f4143a9aa5cd", checked := Try.checked }
namespace Rows
def none {H : Type} : Left H := { results := [], args := [] }

/-- 'flaillaw17.KindsTells': WHATEVER THE INPUT: true; the input reads as it did. -/
def kindsTellsSpec : ChangeSpec := { name := "kindsTells", fn := fun _ => fun
  | [d] => { results := [.lit (.bool true)], args := [d] }
  | _ => none }
def kindsTellsRow : OpenClaim := { program := "ytccdjphflnghlaa", sum := "a98d2109b84be7a7d062f4d3a9a82d31d29b5668806066ccf500f4143a9aa5cd", func := "flail/flaillaw17.KindsTells", spec := "kindsTells", apart := false }
def KindsTellsSaid : Prop := kindsTellsRow.holds Try.pinned (OpenSpec.ofChange kindsTellsSpec)

/-- ITS FALSE NEIGHBOUR: 'it returns false'. Refute it at one input. -/
def kindsTellsWrong : ChangeSpec := { name := "kindsTells", fn := fun _ => fun
  | [d] => { results := [.lit (.bool false)], args := [d] }
  | _ => none }
def KindsTellsWrongFalsely : Prop := kindsTellsRow.holds Try.pinned (OpenSpec.ofChange kindsTellsWrong)

/-- 'flaillaw17.KindsEach': WHATEVER THE INPUT: true; the input reads as it did. -/
def kindsEachSpec : ChangeSpec := { name := "kindsEach", fn := fun _ => fun
  | [d] => { results := [.lit (.bool true)], args := [d] }
  | _ => none }
def kindsEachRow : OpenClaim := { program := "ytccdjphflnghlaa", sum := "a98d2109b84be7a7d062f4d3a9a82d31d29b5668806066ccf500f4143a9aa5cd", func := "flail/flaillaw17.KindsEach", spec := "kindsEach", apart := false }
def KindsEachSaid : Prop := kindsEachRow.holds Try.pinned (OpenSpec.ofChange kindsEachSpec)

/-- ITS FALSE NEIGHBOUR: 'it returns false'. Refute it at one input. -/
def kindsEachWrong : ChangeSpec := { name := "kindsEach", fn := fun _ => fun
  | [d] => { results := [.lit (.bool false)], args := [d] }
  | _ => none }
def KindsEachWrongFalsely : Prop := kindsEachRow.holds Try.pinned (OpenSpec.ofChange kindsEachWrong)

/-- 'flaillaw17.KindsApart': WHATEVER THE INPUT: true; the input reads as it did. -/
def kindsApartSpec : ChangeSpec := { name := "kindsApart", fn := fun _ => fun
  | [d] => { results := [.lit (.bool true)], args := [d] }
  | _ => none }
def kindsApartRow : OpenClaim := { program := "ytccdjphflnghlaa", sum := "a98d2109b84be7a7d062f4d3a9a82d31d29b5668806066ccf500f4143a9aa5cd", func := "flail/flaillaw17.KindsApart", spec := "kindsApart", apart := false }
def KindsApartSaid : Prop := kindsApartRow.holds Try.pinned (OpenSpec.ofChange kindsApartSpec)

/-- ITS FALSE NEIGHBOUR: 'it returns false'. Refute it at one input. -/
def kindsApartWrong : ChangeSpec := { name := "kindsApart", fn := fun _ => fun
  | [d] => { results := [.lit (.bool false)], args := [d] }
  | _ => none }
def KindsApartWrongFalsely : Prop := kindsApartRow.holds Try.pinned (OpenSpec.ofChange kindsApartWrong)

/-- 'flaillaw17.KindsJoins': WHATEVER THE INPUT: true; the input reads as it did. -/
def kindsJoinsSpec : ChangeSpec := { name := "kindsJoins", fn := fun _ => fun
  | [d1, d2] => { results := [.lit (.bool true)], args := [d1, d2] }
  | _ => none }
def kindsJoinsRow : OpenClaim := { program := "ytccdjphflnghlaa", sum := "a98d2109b84be7a7d062f4d3a9a82d31d29b5668806066ccf500f4143a9aa5cd", func := "flail/flaillaw17.KindsJoins", spec := "kindsJoins", apart := false }
def KindsJoinsSaid : Prop := kindsJoinsRow.holds Try.pinned (OpenSpec.ofChange kindsJoinsSpec)

/-- ITS FALSE NEIGHBOUR: 'it returns false'. Refute it at one input. -/
def kindsJoinsWrong : ChangeSpec := { name := "kindsJoins", fn := fun _ => fun
  | [d1, d2] => { results := [.lit (.bool false)], args := [d1, d2] }
  | _ => none }
def KindsJoinsWrongFalsely : Prop := kindsJoinsRow.holds Try.pinned (OpenSpec.ofChange kindsJoinsWrong)

/-- 'flaillaw17.KindsCase': WHATEVER THE INPUT: true; the input reads as it did. -/
def kindsCaseSpec : ChangeSpec := { name := "kindsCase", fn := fun _ => fun
  | [d1, d2] => { results := [.lit (.bool true)], args := [d1, d2] }
  | _ => none }
def kindsCaseRow : OpenClaim := { program := "ytccdjphflnghlaa", sum := "a98d2109b84be7a7d062f4d3a9a82d31d29b5668806066ccf500f4143a9aa5cd", func := "flail/flaillaw17.KindsCase", spec := "kindsCase", apart := false }
def KindsCaseSaid : Prop := kindsCaseRow.holds Try.pinned (OpenSpec.ofChange kindsCaseSpec)

/-- ITS FALSE NEIGHBOUR: 'it returns false'. Refute it at one input. -/
def kindsCaseWrong : ChangeSpec := { name := "kindsCase", fn := fun _ => fun
  | [d1, d2] => { results := [.lit (.bool false)], args := [d1, d2] }
  | _ => none }
def KindsCaseWrongFalsely : Prop := kindsCaseRow.holds Try.pinned (OpenSpec.ofChange kindsCaseWrong)

/- THE SECOND FORM. 'bulk': how many values and letters a reading holds, each counted each time it is reached (what is shared counts as often as it is met; a slice's spare places count too). A statement '..UptoSaid' is the law's where the arguments, and the package variables that the reading takes, are together of bulk at most 1048576: NARROWER than '..Said'. Prove '..Said' where nothing that the law and all that it calls make is longer than what came in: it says more and counts as full. Else prove '..UptoSaid'. A law counts once. -/
mutual
def uptoBulk {H : Type} : DataW H → Nat
  | .lit (.string bytes) => bytes.length + 1
  | .lit _ => 1
  | .nil => 1
  | .ptr d => uptoBulk d + 1
  | .slice elems spare => uptoBulkAll elems + uptoBulkAll spare + 1
  | .agg parts => uptoBulkAll parts + 1
  | .iface _ d => uptoBulk d + 1
  | .map entries => uptoBulkEntries entries + 1
  | .held _ => 1
def uptoBulkAll {H : Type} : List (DataW H) → Nat
  | [] => 0
  | d :: r => uptoBulk d + uptoBulkAll r
def uptoBulkEntries {H : Type} : List (Lit × DataW H) → Nat
  | [] => 0
  | x :: r => uptoBulkEntry x + uptoBulkEntries r
def uptoBulkEntry {H : Type} : Lit × DataW H → Nat
  | (.string bytes, d) => bytes.length + uptoBulk d + 1
  | (_, d) => uptoBulk d + 1
 end
def uptoSmall : (H : Type) → List (DataW H) → Bool := fun _ ds => decide (uptoBulkAll ds ≤ 1048576)
def OpenSpec.upto (s : _root_.Go.ChangeSpec) : _root_.Go.OpenSpec := { _root_.Go.OpenSpec.ofChange s with cond := some uptoSmall }

/-- 'flaillaw17.KindsTells', WHERE WHAT IT READS IS OF BULK AT MOST 1048576: true; the input reads as it did. -/
def kindsTellsUptoRow : OpenClaim := { program := "ytccdjphflnghlaa", sum := "a98d2109b84be7a7d062f4d3a9a82d31d29b5668806066ccf500f4143a9aa5cd", func := "flail/flaillaw17.KindsTells", spec := "kindsTells", apart := false, narrowed := true }
def KindsTellsUptoSaid : Prop := kindsTellsUptoRow.holds Try.pinned (OpenSpec.upto kindsTellsSpec)

/-- 'flaillaw17.KindsEach', WHERE WHAT IT READS IS OF BULK AT MOST 1048576: true; the input reads as it did. -/
def kindsEachUptoRow : OpenClaim := { program := "ytccdjphflnghlaa", sum := "a98d2109b84be7a7d062f4d3a9a82d31d29b5668806066ccf500f4143a9aa5cd", func := "flail/flaillaw17.KindsEach", spec := "kindsEach", apart := false, narrowed := true }
def KindsEachUptoSaid : Prop := kindsEachUptoRow.holds Try.pinned (OpenSpec.upto kindsEachSpec)

/-- 'flaillaw17.KindsApart', WHERE WHAT IT READS IS OF BULK AT MOST 1048576: true; the input reads as it did. -/
def kindsApartUptoRow : OpenClaim := { program := "ytccdjphflnghlaa", sum := "a98d2109b84be7a7d062f4d3a9a82d31d29b5668806066ccf500f4143a9aa5cd", func := "flail/flaillaw17.KindsApart", spec := "kindsApart", apart := false, narrowed := true }
def KindsApartUptoSaid : Prop := kindsApartUptoRow.holds Try.pinned (OpenSpec.upto kindsApartSpec)

/-- 'flaillaw17.KindsJoins', WHERE WHAT IT READS IS OF BULK AT MOST 1048576: true; the input reads as it did. -/
def kindsJoinsUptoRow : OpenClaim := { program := "ytccdjphflnghlaa", sum := "a98d2109b84be7a7d062f4d3a9a82d31d29b5668806066ccf500f4143a9aa5cd", func := "flail/flaillaw17.KindsJoins", spec := "kindsJoins", apart := false, narrowed := true }
def KindsJoinsUptoSaid : Prop := kindsJoinsUptoRow.holds Try.pinned (OpenSpec.upto kindsJoinsSpec)

/-- 'flaillaw17.KindsCase', WHERE WHAT IT READS IS OF BULK AT MOST 1048576: true; the input reads as it did. -/
def kindsCaseUptoRow : OpenClaim := { program := "ytccdjphflnghlaa", sum := "a98d2109b84be7a7d062f4d3a9a82d31d29b5668806066ccf500f4143a9aa5cd", func := "flail/flaillaw17.KindsCase", spec := "kindsCase", apart := false, narrowed := true }
def KindsCaseUptoSaid : Prop := kindsCaseUptoRow.holds Try.pinned (OpenSpec.upto kindsCaseSpec)

end Rows
end Go.Proofs.Ytccdjphflnghlaa
