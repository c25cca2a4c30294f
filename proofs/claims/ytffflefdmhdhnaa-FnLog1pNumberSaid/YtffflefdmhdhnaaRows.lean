/-
  No cell of these rows narrows 'for every input' (looked for: loops, veiled, ifaces, maps, wideKeys, modest, calm, conditions, laid).
  DERIVED. THE GIVEN ROWS OF THIS SEAT. 12 by the template 'for every input the law returns true; each argument reads behind the call as it read before'; 0 by the template 'total and deterministic' (their statements: YtffflefdmhdhnaaTotals.lean).
  GIVEN WITH THE SEED: the statements are not yours to turn. If you find one false, say at which input.
  Laid BY PROGRAM, IN A SANDBOX (cutbox-rows.mjs): the forced cells as the released guide's own fill.sh prints them over the translation d1ea2b11a58d6ce1… (all of the seat's roots in one cut). By AI agents, Wed Nov 11 2026. No macro, syntax, notation, axiom, sorry.
-/
import Derived.Test.YtffflefdmhdhnaaChecked
import GoSem.Claim
import GoSem.ClaimJoined
import GoSem.ClaimMapViews
import Derived.JoinedTies
import Derived.KernelRfl
namespace Go.Proofs.Ytffflefdmhdhnaa
/- THE CELL 'sum', in the pinned program and in every row, IS THE sha256 OF THE DUMP (.gsa) THAT YtffflefdmhdhnaaProg.lean LOADS. Nothing in Lean hashes anything: it is a label: what it is worth is what the hold of that sum in a sandbox is worth. -/
noncomputable def Try.pinned : Pinned := { name := "ytffflefdmhdhnaa", sum := "d1ea2b11a58d6ce1d8dfcf799ea17ef20debacf15a5163508bc82c2bdacd9150", checked := Try.checked }
namespace Rows
def none {H : Type} : Left H := { results := [], args := [] }

/-- 'laws.FnExactInf': WHATEVER THE INPUT: true; the input reads as it did. -/
def fnExactInfSpec : ChangeSpec := { name := "fnExactInf", fn := fun _ => fun
  | [d] => { results := [.lit (.bool true)], args := [d] }
  | _ => none }
def fnExactInfRow : OpenClaim := { program := "ytffflefdmhdhnaa", sum := "d1ea2b11a58d6ce1d8dfcf799ea17ef20debacf15a5163508bc82c2bdacd9150", func := "loop.example/lib-g01386/laws.FnExactInf", spec := "fnExactInf", inPlace := ["math.Float64frombits"], apart := false }
def FnExactInfSaid : Prop := fnExactInfRow.holds Try.pinned (OpenSpec.ofChange fnExactInfSpec)

/-- ITS FALSE NEIGHBOUR: 'it returns false'. Refute it at one input. -/
def fnExactInfWrong : ChangeSpec := { name := "fnExactInf", fn := fun _ => fun
  | [d] => { results := [.lit (.bool false)], args := [d] }
  | _ => none }
def FnExactInfWrongFalsely : Prop := fnExactInfRow.holds Try.pinned (OpenSpec.ofChange fnExactInfWrong)

/-- 'laws.FnLog1pNumber': WHATEVER THE INPUT: true; the input reads as it did. -/
def fnLog1pNumberSpec : ChangeSpec := { name := "fnLog1pNumber", fn := fun _ => fun
  | [d] => { results := [.lit (.bool true)], args := [d] }
  | _ => none }
def fnLog1pNumberRow : OpenClaim := { program := "ytffflefdmhdhnaa", sum := "d1ea2b11a58d6ce1d8dfcf799ea17ef20debacf15a5163508bc82c2bdacd9150", func := "loop.example/lib-g01386/laws.FnLog1pNumber", spec := "fnLog1pNumber", inPlace := ["math.Float64frombits", "math.Float64bits"], apart := false }
def FnLog1pNumberSaid : Prop := fnLog1pNumberRow.holds Try.pinned (OpenSpec.ofChange fnLog1pNumberSpec)

/-- ITS FALSE NEIGHBOUR: 'it returns false'. Refute it at one input. -/
def fnLog1pNumberWrong : ChangeSpec := { name := "fnLog1pNumber", fn := fun _ => fun
  | [d] => { results := [.lit (.bool false)], args := [d] }
  | _ => none }
def FnLog1pNumberWrongFalsely : Prop := fnLog1pNumberRow.holds Try.pinned (OpenSpec.ofChange fnLog1pNumberWrong)

/-- 'laws.FnLog1pSign': WHATEVER THE INPUT: true; the input reads as it did. -/
def fnLog1pSignSpec : ChangeSpec := { name := "fnLog1pSign", fn := fun _ => fun
  | [d] => { results := [.lit (.bool true)], args := [d] }
  | _ => none }
def fnLog1pSignRow : OpenClaim := { program := "ytffflefdmhdhnaa", sum := "d1ea2b11a58d6ce1d8dfcf799ea17ef20debacf15a5163508bc82c2bdacd9150", func := "loop.example/lib-g01386/laws.FnLog1pSign", spec := "fnLog1pSign", inPlace := ["math.Float64frombits", "math.Float64bits"], apart := false }
def FnLog1pSignSaid : Prop := fnLog1pSignRow.holds Try.pinned (OpenSpec.ofChange fnLog1pSignSpec)

/-- ITS FALSE NEIGHBOUR: 'it returns false'. Refute it at one input. -/
def fnLog1pSignWrong : ChangeSpec := { name := "fnLog1pSign", fn := fun _ => fun
  | [d] => { results := [.lit (.bool false)], args := [d] }
  | _ => none }
def FnLog1pSignWrongFalsely : Prop := fnLog1pSignRow.holds Try.pinned (OpenSpec.ofChange fnLog1pSignWrong)

/-- 'laws.FnLogsAlike': WHATEVER THE INPUT: true; the input reads as it did. -/
def fnLogsAlikeSpec : ChangeSpec := { name := "fnLogsAlike", fn := fun _ => fun
  | [d] => { results := [.lit (.bool true)], args := [d] }
  | _ => none }
def fnLogsAlikeRow : OpenClaim := { program := "ytffflefdmhdhnaa", sum := "d1ea2b11a58d6ce1d8dfcf799ea17ef20debacf15a5163508bc82c2bdacd9150", func := "loop.example/lib-g01386/laws.FnLogsAlike", spec := "fnLogsAlike", inPlace := ["math.archLog", "math.Float64bits", "math.Float64frombits"], apart := false }
def FnLogsAlikeSaid : Prop := fnLogsAlikeRow.holds Try.pinned (OpenSpec.ofChange fnLogsAlikeSpec)

/-- ITS FALSE NEIGHBOUR: 'it returns false'. Refute it at one input. -/
def fnLogsAlikeWrong : ChangeSpec := { name := "fnLogsAlike", fn := fun _ => fun
  | [d] => { results := [.lit (.bool false)], args := [d] }
  | _ => none }
def FnLogsAlikeWrongFalsely : Prop := fnLogsAlikeRow.holds Try.pinned (OpenSpec.ofChange fnLogsAlikeWrong)

/-- 'laws.FnLogCases': WHATEVER THE INPUT: true; the input reads as it did. -/
def fnLogCasesSpec : ChangeSpec := { name := "fnLogCases", fn := fun _ => fun
  | [d] => { results := [.lit (.bool true)], args := [d] }
  | _ => none }
def fnLogCasesRow : OpenClaim := { program := "ytffflefdmhdhnaa", sum := "d1ea2b11a58d6ce1d8dfcf799ea17ef20debacf15a5163508bc82c2bdacd9150", func := "loop.example/lib-g01386/laws.FnLogCases", spec := "fnLogCases", inPlace := ["math.archLog", "math.Float64bits", "math.Float64frombits"], apart := false }
def FnLogCasesSaid : Prop := fnLogCasesRow.holds Try.pinned (OpenSpec.ofChange fnLogCasesSpec)

/-- ITS FALSE NEIGHBOUR: 'it returns false'. Refute it at one input. -/
def fnLogCasesWrong : ChangeSpec := { name := "fnLogCases", fn := fun _ => fun
  | [d] => { results := [.lit (.bool false)], args := [d] }
  | _ => none }
def FnLogCasesWrongFalsely : Prop := fnLogCasesRow.holds Try.pinned (OpenSpec.ofChange fnLogCasesWrong)

/-- 'laws.FnLogNumber': WHATEVER THE INPUT: true; the input reads as it did. -/
def fnLogNumberSpec : ChangeSpec := { name := "fnLogNumber", fn := fun _ => fun
  | [d] => { results := [.lit (.bool true)], args := [d] }
  | _ => none }
def fnLogNumberRow : OpenClaim := { program := "ytffflefdmhdhnaa", sum := "d1ea2b11a58d6ce1d8dfcf799ea17ef20debacf15a5163508bc82c2bdacd9150", func := "loop.example/lib-g01386/laws.FnLogNumber", spec := "fnLogNumber", inPlace := ["math.archLog", "math.Float64bits", "math.Float64frombits"], apart := false }
def FnLogNumberSaid : Prop := fnLogNumberRow.holds Try.pinned (OpenSpec.ofChange fnLogNumberSpec)

/-- ITS FALSE NEIGHBOUR: 'it returns false'. Refute it at one input. -/
def fnLogNumberWrong : ChangeSpec := { name := "fnLogNumber", fn := fun _ => fun
  | [d] => { results := [.lit (.bool false)], args := [d] }
  | _ => none }
def FnLogNumberWrongFalsely : Prop := fnLogNumberRow.holds Try.pinned (OpenSpec.ofChange fnLogNumberWrong)

/-- 'laws.FnLogSign': WHATEVER THE INPUT: true; the input reads as it did. -/
def fnLogSignSpec : ChangeSpec := { name := "fnLogSign", fn := fun _ => fun
  | [d] => { results := [.lit (.bool true)], args := [d] }
  | _ => none }
def fnLogSignRow : OpenClaim := { program := "ytffflefdmhdhnaa", sum := "d1ea2b11a58d6ce1d8dfcf799ea17ef20debacf15a5163508bc82c2bdacd9150", func := "loop.example/lib-g01386/laws.FnLogSign", spec := "fnLogSign", inPlace := ["math.archLog", "math.Float64bits", "math.Float64frombits"], apart := false }
def FnLogSignSaid : Prop := fnLogSignRow.holds Try.pinned (OpenSpec.ofChange fnLogSignSpec)

/-- ITS FALSE NEIGHBOUR: 'it returns false'. Refute it at one input. -/
def fnLogSignWrong : ChangeSpec := { name := "fnLogSign", fn := fun _ => fun
  | [d] => { results := [.lit (.bool false)], args := [d] }
  | _ => none }
def FnLogSignWrongFalsely : Prop := fnLogSignRow.holds Try.pinned (OpenSpec.ofChange fnLogSignWrong)

/-- 'laws.FnLog10Cases': WHATEVER THE INPUT: true; the input reads as it did. -/
def fnLog10CasesSpec : ChangeSpec := { name := "fnLog10Cases", fn := fun _ => fun
  | [d] => { results := [.lit (.bool true)], args := [d] }
  | _ => none }
def fnLog10CasesRow : OpenClaim := { program := "ytffflefdmhdhnaa", sum := "d1ea2b11a58d6ce1d8dfcf799ea17ef20debacf15a5163508bc82c2bdacd9150", func := "loop.example/lib-g01386/laws.FnLog10Cases", spec := "fnLog10Cases", inPlace := ["math.archLog", "math.Float64bits", "math.Float64frombits"], apart := false }
def FnLog10CasesSaid : Prop := fnLog10CasesRow.holds Try.pinned (OpenSpec.ofChange fnLog10CasesSpec)

/-- ITS FALSE NEIGHBOUR: 'it returns false'. Refute it at one input. -/
def fnLog10CasesWrong : ChangeSpec := { name := "fnLog10Cases", fn := fun _ => fun
  | [d] => { results := [.lit (.bool false)], args := [d] }
  | _ => none }
def FnLog10CasesWrongFalsely : Prop := fnLog10CasesRow.holds Try.pinned (OpenSpec.ofChange fnLog10CasesWrong)

/-- 'laws.FnLog10Number': WHATEVER THE INPUT: true; the input reads as it did. -/
def fnLog10NumberSpec : ChangeSpec := { name := "fnLog10Number", fn := fun _ => fun
  | [d] => { results := [.lit (.bool true)], args := [d] }
  | _ => none }
def fnLog10NumberRow : OpenClaim := { program := "ytffflefdmhdhnaa", sum := "d1ea2b11a58d6ce1d8dfcf799ea17ef20debacf15a5163508bc82c2bdacd9150", func := "loop.example/lib-g01386/laws.FnLog10Number", spec := "fnLog10Number", inPlace := ["math.archLog", "math.Float64bits", "math.Float64frombits"], apart := false }
def FnLog10NumberSaid : Prop := fnLog10NumberRow.holds Try.pinned (OpenSpec.ofChange fnLog10NumberSpec)

/-- ITS FALSE NEIGHBOUR: 'it returns false'. Refute it at one input. -/
def fnLog10NumberWrong : ChangeSpec := { name := "fnLog10Number", fn := fun _ => fun
  | [d] => { results := [.lit (.bool false)], args := [d] }
  | _ => none }
def FnLog10NumberWrongFalsely : Prop := fnLog10NumberRow.holds Try.pinned (OpenSpec.ofChange fnLog10NumberWrong)

/-- 'laws.FnLog2Cases': WHATEVER THE INPUT: true; the input reads as it did. -/
def fnLog2CasesSpec : ChangeSpec := { name := "fnLog2Cases", fn := fun _ => fun
  | [d] => { results := [.lit (.bool true)], args := [d] }
  | _ => none }
def fnLog2CasesRow : OpenClaim := { program := "ytffflefdmhdhnaa", sum := "d1ea2b11a58d6ce1d8dfcf799ea17ef20debacf15a5163508bc82c2bdacd9150", func := "loop.example/lib-g01386/laws.FnLog2Cases", spec := "fnLog2Cases", inPlace := ["math.Float64bits", "math.Float64frombits", "math.archLog"], apart := false }
def FnLog2CasesSaid : Prop := fnLog2CasesRow.holds Try.pinned (OpenSpec.ofChange fnLog2CasesSpec)

/-- ITS FALSE NEIGHBOUR: 'it returns false'. Refute it at one input. -/
def fnLog2CasesWrong : ChangeSpec := { name := "fnLog2Cases", fn := fun _ => fun
  | [d] => { results := [.lit (.bool false)], args := [d] }
  | _ => none }
def FnLog2CasesWrongFalsely : Prop := fnLog2CasesRow.holds Try.pinned (OpenSpec.ofChange fnLog2CasesWrong)

/-- 'laws.FnLog2Number': WHATEVER THE INPUT: true; the input reads as it did. -/
def fnLog2NumberSpec : ChangeSpec := { name := "fnLog2Number", fn := fun _ => fun
  | [d] => { results := [.lit (.bool true)], args := [d] }
  | _ => none }
def fnLog2NumberRow : OpenClaim := { program := "ytffflefdmhdhnaa", sum := "d1ea2b11a58d6ce1d8dfcf799ea17ef20debacf15a5163508bc82c2bdacd9150", func := "loop.example/lib-g01386/laws.FnLog2Number", spec := "fnLog2Number", inPlace := ["math.Float64bits", "math.Float64frombits", "math.archLog"], apart := false }
def FnLog2NumberSaid : Prop := fnLog2NumberRow.holds Try.pinned (OpenSpec.ofChange fnLog2NumberSpec)

/-- ITS FALSE NEIGHBOUR: 'it returns false'. Refute it at one input. -/
def fnLog2NumberWrong : ChangeSpec := { name := "fnLog2Number", fn := fun _ => fun
  | [d] => { results := [.lit (.bool false)], args := [d] }
  | _ => none }
def FnLog2NumberWrongFalsely : Prop := fnLog2NumberRow.holds Try.pinned (OpenSpec.ofChange fnLog2NumberWrong)

/-- 'laws.FnLog1pCases': WHATEVER THE INPUT: true; the input reads as it did. -/
def fnLog1pCasesSpec : ChangeSpec := { name := "fnLog1pCases", fn := fun _ => fun
  | [d] => { results := [.lit (.bool true)], args := [d] }
  | _ => none }
def fnLog1pCasesRow : OpenClaim := { program := "ytffflefdmhdhnaa", sum := "d1ea2b11a58d6ce1d8dfcf799ea17ef20debacf15a5163508bc82c2bdacd9150", func := "loop.example/lib-g01386/laws.FnLog1pCases", spec := "fnLog1pCases", inPlace := ["math.Float64frombits", "math.Float64bits"], apart := false }
def FnLog1pCasesSaid : Prop := fnLog1pCasesRow.holds Try.pinned (OpenSpec.ofChange fnLog1pCasesSpec)

/-- ITS FALSE NEIGHBOUR: 'it returns false'. Refute it at one input. -/
def fnLog1pCasesWrong : ChangeSpec := { name := "fnLog1pCases", fn := fun _ => fun
  | [d] => { results := [.lit (.bool false)], args := [d] }
  | _ => none }
def FnLog1pCasesWrongFalsely : Prop := fnLog1pCasesRow.holds Try.pinned (OpenSpec.ofChange fnLog1pCasesWrong)

/- THE SECOND FORM. 'bulk': how many values and letters a reading holds, each counted each time it is reached (what is shared counts as often as it is met; a slice's spare places count too). A statement '..UptoSaid' is the law's where the arguments, and the package variables that the reading takes, are together of bulk at most 1048576: NARROWER than '..Said'. Prove '..Said' where nothing that the law and all that it calls make is longer than what came in: it says more and counts as full. Else prove '..UptoSaid'. A law counts once. -/
mutual
def uptoBulk {H : Type} : DataW H → Nat
  | .lit (.string bytes) => bytes.length + 1
  | .lit _ => 1
  | .nil => 1
  | .ptr d => uptoBulk d + 1
  | .slice elems spare => uptoBulkAll elems + uptoBulkAll spare + 1
  | .agg parts => uptoBulkAll parts + 1
  | .iface _ d => uptoBulk d + 1
  | .map entries => uptoBulkEntries entries + 1
  | .held _ => 1
def uptoBulkAll {H : Type} : List (DataW H) → Nat
  | [] => 0
  | d :: r => uptoBulk d + uptoBulkAll r
def uptoBulkEntries {H : Type} : List (Lit × DataW H) → Nat
  | [] => 0
  | x :: r => uptoBulkEntry x + uptoBulkEntries r
def uptoBulkEntry {H : Type} : Lit × DataW H → Nat
  | (.string bytes, d) => bytes.length + uptoBulk d + 1
  | (_, d) => uptoBulk d + 1
 end
def uptoSmall : (H : Type) → List (DataW H) → Bool := fun _ ds => decide (uptoBulkAll ds ≤ 1048576)
def OpenSpec.upto (s : _root_.Go.ChangeSpec) : _root_.Go.OpenSpec := { _root_.Go.OpenSpec.ofChange s with cond := some uptoSmall }

/-- 'laws.FnExactInf', WHERE WHAT IT READS IS OF BULK AT MOST 1048576: true; the input reads as it did. -/
def fnExactInfUptoRow : OpenClaim := { program := "ytffflefdmhdhnaa", sum := "d1ea2b11a58d6ce1d8dfcf799ea17ef20debacf15a5163508bc82c2bdacd9150", func := "loop.example/lib-g01386/laws.FnExactInf", spec := "fnExactInf", inPlace := ["math.Float64frombits"], apart := false, narrowed := true }
def FnExactInfUptoSaid : Prop := fnExactInfUptoRow.holds Try.pinned (OpenSpec.upto fnExactInfSpec)

/-- 'laws.FnLog1pNumber', WHERE WHAT IT READS IS OF BULK AT MOST 1048576: true; the input reads as it did. -/
def fnLog1pNumberUptoRow : OpenClaim := { program := "ytffflefdmhdhnaa", sum := "d1ea2b11a58d6ce1d8dfcf799ea17ef20debacf15a5163508bc82c2bdacd9150", func := "loop.example/lib-g01386/laws.FnLog1pNumber", spec := "fnLog1pNumber", inPlace := ["math.Float64frombits", "math.Float64bits"], apart := false, narrowed := true }
def FnLog1pNumberUptoSaid : Prop := fnLog1pNumberUptoRow.holds Try.pinned (OpenSpec.upto fnLog1pNumberSpec)

/-- 'laws.FnLog1pSign', WHERE WHAT IT READS IS OF BULK AT MOST 1048576: true; the input reads as it did. -/
def fnLog1pSignUptoRow : OpenClaim := { program := "ytffflefdmhdhnaa", sum := "d1ea2b11a58d6ce1d8dfcf799ea17ef20debacf15a5163508bc82c2bdacd9150", func := "loop.example/lib-g01386/laws.FnLog1pSign", spec := "fnLog1pSign", inPlace := ["math.Float64frombits", "math.Float64bits"], apart := false, narrowed := true }
def FnLog1pSignUptoSaid : Prop := fnLog1pSignUptoRow.holds Try.pinned (OpenSpec.upto fnLog1pSignSpec)

/-- 'laws.FnLogsAlike', WHERE WHAT IT READS IS OF BULK AT MOST 1048576: true; the input reads as it did. -/
def fnLogsAlikeUptoRow : OpenClaim := { program := "ytffflefdmhdhnaa", sum := "d1ea2b11a58d6ce1d8dfcf799ea17ef20debacf15a5163508bc82c2bdacd9150", func := "loop.example/lib-g01386/laws.FnLogsAlike", spec := "fnLogsAlike", inPlace := ["math.archLog", "math.Float64bits", "math.Float64frombits"], apart := false, narrowed := true }
def FnLogsAlikeUptoSaid : Prop := fnLogsAlikeUptoRow.holds Try.pinned (OpenSpec.upto fnLogsAlikeSpec)

/-- 'laws.FnLogCases', WHERE WHAT IT READS IS OF BULK AT MOST 1048576: true; the input reads as it did. -/
def fnLogCasesUptoRow : OpenClaim := { program := "ytffflefdmhdhnaa", sum := "d1ea2b11a58d6ce1d8dfcf799ea17ef20debacf15a5163508bc82c2bdacd9150", func := "loop.example/lib-g01386/laws.FnLogCases", spec := "fnLogCases", inPlace := ["math.archLog", "math.Float64bits", "math.Float64frombits"], apart := false, narrowed := true }
def FnLogCasesUptoSaid : Prop := fnLogCasesUptoRow.holds Try.pinned (OpenSpec.upto fnLogCasesSpec)

/-- 'laws.FnLogNumber', WHERE WHAT IT READS IS OF BULK AT MOST 1048576: true; the input reads as it did. -/
def fnLogNumberUptoRow : OpenClaim := { program := "ytffflefdmhdhnaa", sum := "d1ea2b11a58d6ce1d8dfcf799ea17ef20debacf15a5163508bc82c2bdacd9150", func := "loop.example/lib-g01386/laws.FnLogNumber", spec := "fnLogNumber", inPlace := ["math.archLog", "math.Float64bits", "math.Float64frombits"], apart := false, narrowed := true }
def FnLogNumberUptoSaid : Prop := fnLogNumberUptoRow.holds Try.pinned (OpenSpec.upto fnLogNumberSpec)

/-- 'laws.FnLogSign', WHERE WHAT IT READS IS OF BULK AT MOST 1048576: true; the input reads as it did. -/
def fnLogSignUptoRow : OpenClaim := { program := "ytffflefdmhdhnaa", sum := "d1ea2b11a58d6ce1d8dfcf799ea17ef20debacf15a5163508bc82c2bdacd9150", func := "loop.example/lib-g01386/laws.FnLogSign", spec := "fnLogSign", inPlace := ["math.archLog", "math.Float64bits", "math.Float64frombits"], apart := false, narrowed := true }
def FnLogSignUptoSaid : Prop := fnLogSignUptoRow.holds Try.pinned (OpenSpec.upto fnLogSignSpec)

/-- 'laws.FnLog10Cases', WHERE WHAT IT READS IS OF BULK AT MOST 1048576: true; the input reads as it did. -/
def fnLog10CasesUptoRow : OpenClaim := { program := "ytffflefdmhdhnaa", sum := "d1ea2b11a58d6ce1d8dfcf799ea17ef20debacf15a5163508bc82c2bdacd9150", func := "loop.example/lib-g01386/laws.FnLog10Cases", spec := "fnLog10Cases", inPlace := ["math.archLog", "math.Float64bits", "math.Float64frombits"], apart := false, narrowed := true }
def FnLog10CasesUptoSaid : Prop := fnLog10CasesUptoRow.holds Try.pinned (OpenSpec.upto fnLog10CasesSpec)

/-- 'laws.FnLog10Number', WHERE WHAT IT READS IS OF BULK AT MOST 1048576: true; the input reads as it did. -/
def fnLog10NumberUptoRow : OpenClaim := { program := "ytffflefdmhdhnaa", sum := "d1ea2b11a58d6ce1d8dfcf799ea17ef20debacf15a5163508bc82c2bdacd9150", func := "loop.example/lib-g01386/laws.FnLog10Number", spec := "fnLog10Number", inPlace := ["math.archLog", "math.Float64bits", "math.Float64frombits"], apart := false, narrowed := true }
def FnLog10NumberUptoSaid : Prop := fnLog10NumberUptoRow.holds Try.pinned (OpenSpec.upto fnLog10NumberSpec)

/-- 'laws.FnLog2Cases', WHERE WHAT IT READS IS OF BULK AT MOST 1048576: true; the input reads as it did. -/
def fnLog2CasesUptoRow : OpenClaim := { program := "ytffflefdmhdhnaa", sum := "d1ea2b11a58d6ce1d8dfcf799ea17ef20debacf15a5163508bc82c2bdacd9150", func := "loop.example/lib-g01386/laws.FnLog2Cases", spec := "fnLog2Cases", inPlace := ["math.Float64bits", "math.Float64frombits", "math.archLog"], apart := false, narrowed := true }
def FnLog2CasesUptoSaid : Prop := fnLog2CasesUptoRow.holds Try.pinned (OpenSpec.upto fnLog2CasesSpec)

/-- 'laws.FnLog2Number', WHERE WHAT IT READS IS OF BULK AT MOST 1048576: true; the input reads as it did. -/
def fnLog2NumberUptoRow : OpenClaim := { program := "ytffflefdmhdhnaa", sum := "d1ea2b11a58d6ce1d8dfcf799ea17ef20debacf15a5163508bc82c2bdacd9150", func := "loop.example/lib-g01386/laws.FnLog2Number", spec := "fnLog2Number", inPlace := ["math.Float64bits", "math.Float64frombits", "math.archLog"], apart := false, narrowed := true }
def FnLog2NumberUptoSaid : Prop := fnLog2NumberUptoRow.holds Try.pinned (OpenSpec.upto fnLog2NumberSpec)

/-- 'laws.FnLog1pCases', WHERE WHAT IT READS IS OF BULK AT MOST 1048576: true; the input reads as it did. -/
def fnLog1pCasesUptoRow : OpenClaim := { program := "ytffflefdmhdhnaa", sum := "d1ea2b11a58d6ce1d8dfcf799ea17ef20debacf15a5163508bc82c2bdacd9150", func := "loop.example/lib-g01386/laws.FnLog1pCases", spec := "fnLog1pCases", inPlace := ["math.Float64frombits", "math.Float64bits"], apart := false, narrowed := true }
def FnLog1pCasesUptoSaid : Prop := fnLog1pCasesUptoRow.holds Try.pinned (OpenSpec.upto fnLog1pCasesSpec)

end Rows
end Go.Proofs.Ytffflefdmhdhnaa
