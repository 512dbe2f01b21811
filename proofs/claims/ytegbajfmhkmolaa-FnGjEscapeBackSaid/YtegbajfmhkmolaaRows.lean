/-
  No cell of these rows narrows 'for every input' (looked for: loops, veiled, ifaces, maps, wideKeys, modest, calm, conditions, laid).
  DERIVED. THE GIVEN ROWS OF THIS SEAT. 5 by the template 'for every input the law returns true; each argument reads behind the call as it read before'; 0 by the template 'total and deterministic' (their statements: YtegbajfmhkmolaaTotals.lean).
  GIVEN WITH THE SEED: the statements are not yours to turn. If you find one false, say at which input.
  Laid BY PROGRAM, IN A SANDBOX (cutbox-rows.mjs): the forced cells as the released guide's own fill.sh prints them over the translation 1ae7ff804ab2891a… (all of the seat's roots in one cut). By AI agents, Wed Nov 11 2026. No macro, syntax, notation, axiom, sorry.
-/
import Derived.Test.YtegbajfmhkmolaaChecked
import GoSem.Claim
import GoSem.ClaimJoined
import GoSem.ClaimMapViews
import Derived.JoinedTies
import Derived.KernelRfl
namespace Go.Proofs.Ytegbajfmhkmolaa
/- THE CELL 'sum', in the pinned program and in every row, IS THE sha256 OF THE DUMP (.gsa) THAT YtegbajfmhkmolaaProg.lean LOADS. Nothing in Lean hashes anything: it is a label: what it is worth is what the hold of that sum in a sandbox is worth. -/
noncomputable def Try.pinned : Pinned := { name := "ytegbajfmhkmolaa", sum := "1ae7ff804ab2891acb4f5ffd6276cf8c25400218d261d2a87164119ebf335deb", checked := Try.checked }
namespace Rows
def none {H : Type} : Left H := { results := [], args := [] }

/-- 'laws.FnFjSkip': WHATEVER THE INPUT: true; the input reads as it did. -/
def fnFjSkipSpec : ChangeSpec := { name := "fnFjSkip", fn := fun _ => fun
  | [d] => { results := [.lit (.bool true)], args := [d] }
  | _ => none }
def fnFjSkipRow : OpenClaim := { program := "ytegbajfmhkmolaa", sum := "1ae7ff804ab2891acb4f5ffd6276cf8c25400218d261d2a87164119ebf335deb", func := "pub-tetrapla/laws.FnFjSkip", spec := "fnFjSkip", apart := false }
def FnFjSkipSaid : Prop := fnFjSkipRow.holds Try.pinned (OpenSpec.ofChange fnFjSkipSpec)

/-- ITS FALSE NEIGHBOUR: 'it returns false'. Refute it at one input. -/
def fnFjSkipWrong : ChangeSpec := { name := "fnFjSkip", fn := fun _ => fun
  | [d] => { results := [.lit (.bool false)], args := [d] }
  | _ => none }
def FnFjSkipWrongFalsely : Prop := fnFjSkipRow.holds Try.pinned (OpenSpec.ofChange fnFjSkipWrong)

/-- 'laws.FnGjEscapeBack': WHATEVER THE INPUT: true; the input reads as it did. -/
def fnGjEscapeBackSpec : ChangeSpec := { name := "fnGjEscapeBack", fn := fun _ => fun
  | [d] => { results := [.lit (.bool true)], args := [d] }
  | _ => none }
def fnGjEscapeBackRow : OpenClaim := { program := "ytegbajfmhkmolaa", sum := "1ae7ff804ab2891acb4f5ffd6276cf8c25400218d261d2a87164119ebf335deb", func := "pub-tetrapla/laws.FnGjEscapeBack", spec := "fnGjEscapeBack", apart := false }
def FnGjEscapeBackSaid : Prop := fnGjEscapeBackRow.holds Try.pinned (OpenSpec.ofChange fnGjEscapeBackSpec)

/-- ITS FALSE NEIGHBOUR: 'it returns false'. Refute it at one input. -/
def fnGjEscapeBackWrong : ChangeSpec := { name := "fnGjEscapeBack", fn := fun _ => fun
  | [d] => { results := [.lit (.bool false)], args := [d] }
  | _ => none }
def FnGjEscapeBackWrongFalsely : Prop := fnGjEscapeBackRow.holds Try.pinned (OpenSpec.ofChange fnGjEscapeBackWrong)

/-- 'laws.FnJpNumber': WHATEVER THE INPUT: true; the input reads as it did. -/
def fnJpNumberSpec : ChangeSpec := { name := "fnJpNumber", fn := fun _ => fun
  | [d] => { results := [.lit (.bool true)], args := [d] }
  | _ => none }
def fnJpNumberRow : OpenClaim := { program := "ytegbajfmhkmolaa", sum := "1ae7ff804ab2891acb4f5ffd6276cf8c25400218d261d2a87164119ebf335deb", func := "pub-tetrapla/laws.FnJpNumber", spec := "fnJpNumber", apart := false }
def FnJpNumberSaid : Prop := fnJpNumberRow.holds Try.pinned (OpenSpec.ofChange fnJpNumberSpec)

/-- ITS FALSE NEIGHBOUR: 'it returns false'. Refute it at one input. -/
def fnJpNumberWrong : ChangeSpec := { name := "fnJpNumber", fn := fun _ => fun
  | [d] => { results := [.lit (.bool false)], args := [d] }
  | _ => none }
def FnJpNumberWrongFalsely : Prop := fnJpNumberRow.holds Try.pinned (OpenSpec.ofChange fnJpNumberWrong)

/-- 'laws.FnPrSpecInPlace': WHATEVER THE INPUT: true; the input reads as it did. -/
def fnPrSpecInPlaceSpec : ChangeSpec := { name := "fnPrSpecInPlace", fn := fun _ => fun
  | [d] => { results := [.lit (.bool true)], args := [d] }
  | _ => none }
def fnPrSpecInPlaceRow : OpenClaim := { program := "ytegbajfmhkmolaa", sum := "1ae7ff804ab2891acb4f5ffd6276cf8c25400218d261d2a87164119ebf335deb", func := "pub-tetrapla/laws.FnPrSpecInPlace", spec := "fnPrSpecInPlace", recurses := true, apart := false }
def FnPrSpecInPlaceSaid : Prop := fnPrSpecInPlaceRow.holds Try.pinned (OpenSpec.ofChange fnPrSpecInPlaceSpec)

/-- ITS FALSE NEIGHBOUR: 'it returns false'. Refute it at one input. -/
def fnPrSpecInPlaceWrong : ChangeSpec := { name := "fnPrSpecInPlace", fn := fun _ => fun
  | [d] => { results := [.lit (.bool false)], args := [d] }
  | _ => none }
def FnPrSpecInPlaceWrongFalsely : Prop := fnPrSpecInPlaceRow.holds Try.pinned (OpenSpec.ofChange fnPrSpecInPlaceWrong)

/-- 'laws.FnPrColorBack': WHATEVER THE INPUT: true; the input reads as it did. -/
def fnPrColorBackSpec : ChangeSpec := { name := "fnPrColorBack", fn := fun _ => fun
  | [d1, d2] => { results := [.lit (.bool true)], args := [d1, d2] }
  | _ => none }
def fnPrColorBackRow : OpenClaim := { program := "ytegbajfmhkmolaa", sum := "1ae7ff804ab2891acb4f5ffd6276cf8c25400218d261d2a87164119ebf335deb", func := "pub-tetrapla/laws.FnPrColorBack", spec := "fnPrColorBack", unfollowed := true, recurses := true, apart := false }
def FnPrColorBackSaid : Prop := fnPrColorBackRow.holds Try.pinned (OpenSpec.ofChange fnPrColorBackSpec)

/-- ITS FALSE NEIGHBOUR: 'it returns false'. Refute it at one input. -/
def fnPrColorBackWrong : ChangeSpec := { name := "fnPrColorBack", fn := fun _ => fun
  | [d1, d2] => { results := [.lit (.bool false)], args := [d1, d2] }
  | _ => none }
def FnPrColorBackWrongFalsely : Prop := fnPrColorBackRow.holds Try.pinned (OpenSpec.ofChange fnPrColorBackWrong)

/- THE SECOND FORM. 'bulk': how many values and letters a reading holds, each counted each time it is reached (what is shared counts as often as it is met; a slice's spare places count too). A statement '..UptoSaid' is the law's where the arguments, and the package variables that the reading takes, are together of bulk at most 1048576: NARROWER than '..Said'. Prove '..Said' where nothing that the law and all that it calls make is longer than what came in: it says more and counts as full. Else prove '..UptoSaid'. A law counts once. -/
mutual
def uptoBulk {H : Type} : DataW H → Nat
  | .lit (.string bytes) => bytes.length + 1
  | .lit _ => 1
  | .nil => 1
  | .ptr d => uptoBulk d + 1
  | .slice elems spare => uptoBulkAll elems + uptoBulkAll spare + 1
  | .agg parts => uptoBulkAll parts + 1
  | .iface _ d => uptoBulk d + 1
  | .map entries => uptoBulkEntries entries + 1
  | .held _ => 1
def uptoBulkAll {H : Type} : List (DataW H) → Nat
  | [] => 0
  | d :: r => uptoBulk d + uptoBulkAll r
def uptoBulkEntries {H : Type} : List (Lit × DataW H) → Nat
  | [] => 0
  | x :: r => uptoBulkEntry x + uptoBulkEntries r
def uptoBulkEntry {H : Type} : Lit × DataW H → Nat
  | (.string bytes, d) => bytes.length + uptoBulk d + 1
  | (_, d) => uptoBulk d + 1
 end
def uptoSmall : (H : Type) → List (DataW H) → Bool := fun _ ds => decide (uptoBulkAll ds ≤ 1048576)
def OpenSpec.upto (s : _root_.Go.ChangeSpec) : _root_.Go.OpenSpec := { _root_.Go.OpenSpec.ofChange s with cond := some uptoSmall }

/-- 'laws.FnFjSkip', WHERE WHAT IT READS IS OF BULK AT MOST 1048576: true; the input reads as it did. -/
def fnFjSkipUptoRow : OpenClaim := { program := "ytegbajfmhkmolaa", sum := "1ae7ff804ab2891acb4f5ffd6276cf8c25400218d261d2a87164119ebf335deb", func := "pub-tetrapla/laws.FnFjSkip", spec := "fnFjSkip", apart := false, narrowed := true }
def FnFjSkipUptoSaid : Prop := fnFjSkipUptoRow.holds Try.pinned (OpenSpec.upto fnFjSkipSpec)

/-- 'laws.FnGjEscapeBack', WHERE WHAT IT READS IS OF BULK AT MOST 1048576: true; the input reads as it did. -/
def fnGjEscapeBackUptoRow : OpenClaim := { program := "ytegbajfmhkmolaa", sum := "1ae7ff804ab2891acb4f5ffd6276cf8c25400218d261d2a87164119ebf335deb", func := "pub-tetrapla/laws.FnGjEscapeBack", spec := "fnGjEscapeBack", apart := false, narrowed := true }
def FnGjEscapeBackUptoSaid : Prop := fnGjEscapeBackUptoRow.holds Try.pinned (OpenSpec.upto fnGjEscapeBackSpec)

/-- 'laws.FnJpNumber', WHERE WHAT IT READS IS OF BULK AT MOST 1048576: true; the input reads as it did. -/
def fnJpNumberUptoRow : OpenClaim := { program := "ytegbajfmhkmolaa", sum := "1ae7ff804ab2891acb4f5ffd6276cf8c25400218d261d2a87164119ebf335deb", func := "pub-tetrapla/laws.FnJpNumber", spec := "fnJpNumber", apart := false, narrowed := true }
def FnJpNumberUptoSaid : Prop := fnJpNumberUptoRow.holds Try.pinned (OpenSpec.upto fnJpNumberSpec)

/-- 'laws.FnPrSpecInPlace', WHERE WHAT IT READS IS OF BULK AT MOST 1048576: true; the input reads as it did. -/
def fnPrSpecInPlaceUptoRow : OpenClaim := { program := "ytegbajfmhkmolaa", sum := "1ae7ff804ab2891acb4f5ffd6276cf8c25400218d261d2a87164119ebf335deb", func := "pub-tetrapla/laws.FnPrSpecInPlace", spec := "fnPrSpecInPlace", recurses := true, apart := false, narrowed := true }
def FnPrSpecInPlaceUptoSaid : Prop := fnPrSpecInPlaceUptoRow.holds Try.pinned (OpenSpec.upto fnPrSpecInPlaceSpec)

/-- 'laws.FnPrColorBack', WHERE WHAT IT READS IS OF BULK AT MOST 1048576: true; the input reads as it did. -/
def fnPrColorBackUptoRow : OpenClaim := { program := "ytegbajfmhkmolaa", sum := "1ae7ff804ab2891acb4f5ffd6276cf8c25400218d261d2a87164119ebf335deb", func := "pub-tetrapla/laws.FnPrColorBack", spec := "fnPrColorBack", unfollowed := true, recurses := true, apart := false, narrowed := true }
def FnPrColorBackUptoSaid : Prop := fnPrColorBackUptoRow.holds Try.pinned (OpenSpec.upto fnPrColorBackSpec)

end Rows
end Go.Proofs.Ytegbajfmhkmolaa
