/-
  No cell of these rows narrows 'for every input' (looked for: loops, veiled, ifaces, maps, wideKeys, modest, calm, conditions, laid).
  DERIVED. THE GIVEN ROWS OF THIS SEAT. 12 by the template 'for every input the law returns true; each argument reads behind the call as it read before'; 0 by the template 'total and deterministic' (their statements: YtjdibagfompohaaTotals.lean).
  GIVEN WITH THE SEED: the statements are not yours to turn. If you find one false, say at which input.
  Laid BY PROGRAM, IN A SANDBOX (cutbox-rows.mjs): the forced cells as the released guide's own fill.sh prints them over the translation a7170f1f7c3be02a… (all of the seat's roots in one cut). By AI agents, Wed Nov 11 2026. No macro, syntax, notation, axiom, sorry.
-/
import Derived.Test.YtjdibagfompohaaChecked
import GoSem.Claim
import GoSem.ClaimJoined
import GoSem.ClaimMapViews
import Derived.JoinedTies
import Derived.KernelRfl
namespace Go.Proofs.Ytjdibagfompohaa
/- THE CELL 'sum', in the pinned program and in every row, IS THE sha256 OF THE DUMP (.gsa) THAT YtjdibagfompohaaProg.lean LOADS. Nothing in Lean hashes anything: it is a label: what it is worth is what the hold of that sum in a sandbox is worth. -/
noncomputable def Try.pinned : Pinned := { name := "ytjdibagfompohaa", sum := "a7170f1f7c3be02afb8fcfb41643800e887d519e40ccf68b3bb3c7380fb4a32c", checked := Try.checked }
namespace Rows
def none {H : Type} : Left H := { results := [], args := [] }

/-- 'laws.FnCbrtBetween': WHATEVER THE INPUT: true; the input reads as it did. -/
def fnCbrtBetweenSpec : ChangeSpec := { name := "fnCbrtBetween", fn := fun _ => fun
  | [d] => { results := [.lit (.bool true)], args := [d] }
  | _ => none }
def fnCbrtBetweenRow : OpenClaim := { program := "ytjdibagfompohaa", sum := "a7170f1f7c3be02afb8fcfb41643800e887d519e40ccf68b3bb3c7380fb4a32c", func := "loop.example/lib-g01386/laws.FnCbrtBetween", spec := "fnCbrtBetween", inPlace := ["math.Float64bits", "math.Float64frombits"], apart := false }
def FnCbrtBetweenSaid : Prop := fnCbrtBetweenRow.holds Try.pinned (OpenSpec.ofChange fnCbrtBetweenSpec)

/-- ITS FALSE NEIGHBOUR: 'it returns false'. Refute it at one input. -/
def fnCbrtBetweenWrong : ChangeSpec := { name := "fnCbrtBetween", fn := fun _ => fun
  | [d] => { results := [.lit (.bool false)], args := [d] }
  | _ => none }
def FnCbrtBetweenWrongFalsely : Prop := fnCbrtBetweenRow.holds Try.pinned (OpenSpec.ofChange fnCbrtBetweenWrong)

/-- 'laws.FnCbrtCases': WHATEVER THE INPUT: true; the input reads as it did. -/
def fnCbrtCasesSpec : ChangeSpec := { name := "fnCbrtCases", fn := fun _ => fun
  | [d] => { results := [.lit (.bool true)], args := [d] }
  | _ => none }
def fnCbrtCasesRow : OpenClaim := { program := "ytjdibagfompohaa", sum := "a7170f1f7c3be02afb8fcfb41643800e887d519e40ccf68b3bb3c7380fb4a32c", func := "loop.example/lib-g01386/laws.FnCbrtCases", spec := "fnCbrtCases", inPlace := ["math.Float64bits", "math.Float64frombits"], apart := false }
def FnCbrtCasesSaid : Prop := fnCbrtCasesRow.holds Try.pinned (OpenSpec.ofChange fnCbrtCasesSpec)

/-- ITS FALSE NEIGHBOUR: 'it returns false'. Refute it at one input. -/
def fnCbrtCasesWrong : ChangeSpec := { name := "fnCbrtCases", fn := fun _ => fun
  | [d] => { results := [.lit (.bool false)], args := [d] }
  | _ => none }
def FnCbrtCasesWrongFalsely : Prop := fnCbrtCasesRow.holds Try.pinned (OpenSpec.ofChange fnCbrtCasesWrong)

/-- 'laws.FnCbrtNumber': WHATEVER THE INPUT: true; the input reads as it did. -/
def fnCbrtNumberSpec : ChangeSpec := { name := "fnCbrtNumber", fn := fun _ => fun
  | [d] => { results := [.lit (.bool true)], args := [d] }
  | _ => none }
def fnCbrtNumberRow : OpenClaim := { program := "ytjdibagfompohaa", sum := "a7170f1f7c3be02afb8fcfb41643800e887d519e40ccf68b3bb3c7380fb4a32c", func := "loop.example/lib-g01386/laws.FnCbrtNumber", spec := "fnCbrtNumber", inPlace := ["math.Float64bits", "math.Float64frombits"], apart := false }
def FnCbrtNumberSaid : Prop := fnCbrtNumberRow.holds Try.pinned (OpenSpec.ofChange fnCbrtNumberSpec)

/-- ITS FALSE NEIGHBOUR: 'it returns false'. Refute it at one input. -/
def fnCbrtNumberWrong : ChangeSpec := { name := "fnCbrtNumber", fn := fun _ => fun
  | [d] => { results := [.lit (.bool false)], args := [d] }
  | _ => none }
def FnCbrtNumberWrongFalsely : Prop := fnCbrtNumberRow.holds Try.pinned (OpenSpec.ofChange fnCbrtNumberWrong)

/-- 'laws.FnCbrtTurned': WHATEVER THE INPUT: true; the input reads as it did. -/
def fnCbrtTurnedSpec : ChangeSpec := { name := "fnCbrtTurned", fn := fun _ => fun
  | [d] => { results := [.lit (.bool true)], args := [d] }
  | _ => none }
def fnCbrtTurnedRow : OpenClaim := { program := "ytjdibagfompohaa", sum := "a7170f1f7c3be02afb8fcfb41643800e887d519e40ccf68b3bb3c7380fb4a32c", func := "loop.example/lib-g01386/laws.FnCbrtTurned", spec := "fnCbrtTurned", inPlace := ["math.Float64bits", "math.Float64frombits"], apart := false }
def FnCbrtTurnedSaid : Prop := fnCbrtTurnedRow.holds Try.pinned (OpenSpec.ofChange fnCbrtTurnedSpec)

/-- ITS FALSE NEIGHBOUR: 'it returns false'. Refute it at one input. -/
def fnCbrtTurnedWrong : ChangeSpec := { name := "fnCbrtTurned", fn := fun _ => fun
  | [d] => { results := [.lit (.bool false)], args := [d] }
  | _ => none }
def FnCbrtTurnedWrongFalsely : Prop := fnCbrtTurnedRow.holds Try.pinned (OpenSpec.ofChange fnCbrtTurnedWrong)

/-- 'laws.FnHypotCases': WHATEVER THE INPUT: true; the input reads as it did. -/
def fnHypotCasesSpec : ChangeSpec := { name := "fnHypotCases", fn := fun _ => fun
  | [d1, d2] => { results := [.lit (.bool true)], args := [d1, d2] }
  | _ => none }
def fnHypotCasesRow : OpenClaim := { program := "ytjdibagfompohaa", sum := "a7170f1f7c3be02afb8fcfb41643800e887d519e40ccf68b3bb3c7380fb4a32c", func := "loop.example/lib-g01386/laws.FnHypotCases", spec := "fnHypotCases", inPlace := ["math.archHypot", "math.Float64bits", "math.Float64frombits", "math.sqrt"], apart := false }
def FnHypotCasesSaid : Prop := fnHypotCasesRow.holds Try.pinned (OpenSpec.ofChange fnHypotCasesSpec)

/-- ITS FALSE NEIGHBOUR: 'it returns false'. Refute it at one input. -/
def fnHypotCasesWrong : ChangeSpec := { name := "fnHypotCases", fn := fun _ => fun
  | [d1, d2] => { results := [.lit (.bool false)], args := [d1, d2] }
  | _ => none }
def FnHypotCasesWrongFalsely : Prop := fnHypotCasesRow.holds Try.pinned (OpenSpec.ofChange fnHypotCasesWrong)

/-- 'laws.FnHypotEither': WHATEVER THE INPUT: true; the input reads as it did. -/
def fnHypotEitherSpec : ChangeSpec := { name := "fnHypotEither", fn := fun _ => fun
  | [d1, d2] => { results := [.lit (.bool true)], args := [d1, d2] }
  | _ => none }
def fnHypotEitherRow : OpenClaim := { program := "ytjdibagfompohaa", sum := "a7170f1f7c3be02afb8fcfb41643800e887d519e40ccf68b3bb3c7380fb4a32c", func := "loop.example/lib-g01386/laws.FnHypotEither", spec := "fnHypotEither", inPlace := ["math.archHypot", "math.Float64bits", "math.Float64frombits", "math.sqrt"], apart := false }
def FnHypotEitherSaid : Prop := fnHypotEitherRow.holds Try.pinned (OpenSpec.ofChange fnHypotEitherSpec)

/-- ITS FALSE NEIGHBOUR: 'it returns false'. Refute it at one input. -/
def fnHypotEitherWrong : ChangeSpec := { name := "fnHypotEither", fn := fun _ => fun
  | [d1, d2] => { results := [.lit (.bool false)], args := [d1, d2] }
  | _ => none }
def FnHypotEitherWrongFalsely : Prop := fnHypotEitherRow.holds Try.pinned (OpenSpec.ofChange fnHypotEitherWrong)

/-- 'laws.FnHypotInfinite': WHATEVER THE INPUT: true; the input reads as it did. -/
def fnHypotInfiniteSpec : ChangeSpec := { name := "fnHypotInfinite", fn := fun _ => fun
  | [d1, d2] => { results := [.lit (.bool true)], args := [d1, d2] }
  | _ => none }
def fnHypotInfiniteRow : OpenClaim := { program := "ytjdibagfompohaa", sum := "a7170f1f7c3be02afb8fcfb41643800e887d519e40ccf68b3bb3c7380fb4a32c", func := "loop.example/lib-g01386/laws.FnHypotInfinite", spec := "fnHypotInfinite", inPlace := ["math.archHypot", "math.Float64bits", "math.Float64frombits", "math.sqrt"], apart := false }
def FnHypotInfiniteSaid : Prop := fnHypotInfiniteRow.holds Try.pinned (OpenSpec.ofChange fnHypotInfiniteSpec)

/-- ITS FALSE NEIGHBOUR: 'it returns false'. Refute it at one input. -/
def fnHypotInfiniteWrong : ChangeSpec := { name := "fnHypotInfinite", fn := fun _ => fun
  | [d1, d2] => { results := [.lit (.bool false)], args := [d1, d2] }
  | _ => none }
def FnHypotInfiniteWrongFalsely : Prop := fnHypotInfiniteRow.holds Try.pinned (OpenSpec.ofChange fnHypotInfiniteWrong)

/-- 'laws.FnHypotLeast': WHATEVER THE INPUT: true; the input reads as it did. -/
def fnHypotLeastSpec : ChangeSpec := { name := "fnHypotLeast", fn := fun _ => fun
  | [d1, d2] => { results := [.lit (.bool true)], args := [d1, d2] }
  | _ => none }
def fnHypotLeastRow : OpenClaim := { program := "ytjdibagfompohaa", sum := "a7170f1f7c3be02afb8fcfb41643800e887d519e40ccf68b3bb3c7380fb4a32c", func := "loop.example/lib-g01386/laws.FnHypotLeast", spec := "fnHypotLeast", inPlace := ["math.archHypot", "math.Float64bits", "math.Float64frombits", "math.sqrt"], apart := false }
def FnHypotLeastSaid : Prop := fnHypotLeastRow.holds Try.pinned (OpenSpec.ofChange fnHypotLeastSpec)

/-- ITS FALSE NEIGHBOUR: 'it returns false'. Refute it at one input. -/
def fnHypotLeastWrong : ChangeSpec := { name := "fnHypotLeast", fn := fun _ => fun
  | [d1, d2] => { results := [.lit (.bool false)], args := [d1, d2] }
  | _ => none }
def FnHypotLeastWrongFalsely : Prop := fnHypotLeastRow.holds Try.pinned (OpenSpec.ofChange fnHypotLeastWrong)

/-- 'laws.FnHypotNumber': WHATEVER THE INPUT: true; the input reads as it did. -/
def fnHypotNumberSpec : ChangeSpec := { name := "fnHypotNumber", fn := fun _ => fun
  | [d1, d2] => { results := [.lit (.bool true)], args := [d1, d2] }
  | _ => none }
def fnHypotNumberRow : OpenClaim := { program := "ytjdibagfompohaa", sum := "a7170f1f7c3be02afb8fcfb41643800e887d519e40ccf68b3bb3c7380fb4a32c", func := "loop.example/lib-g01386/laws.FnHypotNumber", spec := "fnHypotNumber", inPlace := ["math.archHypot", "math.Float64bits", "math.Float64frombits", "math.sqrt"], apart := false }
def FnHypotNumberSaid : Prop := fnHypotNumberRow.holds Try.pinned (OpenSpec.ofChange fnHypotNumberSpec)

/-- ITS FALSE NEIGHBOUR: 'it returns false'. Refute it at one input. -/
def fnHypotNumberWrong : ChangeSpec := { name := "fnHypotNumber", fn := fun _ => fun
  | [d1, d2] => { results := [.lit (.bool false)], args := [d1, d2] }
  | _ => none }
def FnHypotNumberWrongFalsely : Prop := fnHypotNumberRow.holds Try.pinned (OpenSpec.ofChange fnHypotNumberWrong)

/-- 'laws.FnHypotSigns': WHATEVER THE INPUT: true; the input reads as it did. -/
def fnHypotSignsSpec : ChangeSpec := { name := "fnHypotSigns", fn := fun _ => fun
  | [d1, d2] => { results := [.lit (.bool true)], args := [d1, d2] }
  | _ => none }
def fnHypotSignsRow : OpenClaim := { program := "ytjdibagfompohaa", sum := "a7170f1f7c3be02afb8fcfb41643800e887d519e40ccf68b3bb3c7380fb4a32c", func := "loop.example/lib-g01386/laws.FnHypotSigns", spec := "fnHypotSigns", inPlace := ["math.archHypot", "math.Float64bits", "math.Float64frombits", "math.sqrt"], apart := false }
def FnHypotSignsSaid : Prop := fnHypotSignsRow.holds Try.pinned (OpenSpec.ofChange fnHypotSignsSpec)

/-- ITS FALSE NEIGHBOUR: 'it returns false'. Refute it at one input. -/
def fnHypotSignsWrong : ChangeSpec := { name := "fnHypotSigns", fn := fun _ => fun
  | [d1, d2] => { results := [.lit (.bool false)], args := [d1, d2] }
  | _ => none }
def FnHypotSignsWrongFalsely : Prop := fnHypotSignsRow.holds Try.pinned (OpenSpec.ofChange fnHypotSignsWrong)

/-- 'laws.FnHypotTurned': WHATEVER THE INPUT: true; the input reads as it did. -/
def fnHypotTurnedSpec : ChangeSpec := { name := "fnHypotTurned", fn := fun _ => fun
  | [d1, d2] => { results := [.lit (.bool true)], args := [d1, d2] }
  | _ => none }
def fnHypotTurnedRow : OpenClaim := { program := "ytjdibagfompohaa", sum := "a7170f1f7c3be02afb8fcfb41643800e887d519e40ccf68b3bb3c7380fb4a32c", func := "loop.example/lib-g01386/laws.FnHypotTurned", spec := "fnHypotTurned", inPlace := ["math.archHypot", "math.Float64bits", "math.Float64frombits", "math.sqrt"], apart := false }
def FnHypotTurnedSaid : Prop := fnHypotTurnedRow.holds Try.pinned (OpenSpec.ofChange fnHypotTurnedSpec)

/-- ITS FALSE NEIGHBOUR: 'it returns false'. Refute it at one input. -/
def fnHypotTurnedWrong : ChangeSpec := { name := "fnHypotTurned", fn := fun _ => fun
  | [d1, d2] => { results := [.lit (.bool false)], args := [d1, d2] }
  | _ => none }
def FnHypotTurnedWrongFalsely : Prop := fnHypotTurnedRow.holds Try.pinned (OpenSpec.ofChange fnHypotTurnedWrong)

/-- 'laws.FnHypotZero': WHATEVER THE INPUT: true; the input reads as it did. -/
def fnHypotZeroSpec : ChangeSpec := { name := "fnHypotZero", fn := fun _ => fun
  | [d] => { results := [.lit (.bool true)], args := [d] }
  | _ => none }
def fnHypotZeroRow : OpenClaim := { program := "ytjdibagfompohaa", sum := "a7170f1f7c3be02afb8fcfb41643800e887d519e40ccf68b3bb3c7380fb4a32c", func := "loop.example/lib-g01386/laws.FnHypotZero", spec := "fnHypotZero", inPlace := ["math.archHypot", "math.Float64bits", "math.Float64frombits", "math.sqrt"], apart := false }
def FnHypotZeroSaid : Prop := fnHypotZeroRow.holds Try.pinned (OpenSpec.ofChange fnHypotZeroSpec)

/-- ITS FALSE NEIGHBOUR: 'it returns false'. Refute it at one input. -/
def fnHypotZeroWrong : ChangeSpec := { name := "fnHypotZero", fn := fun _ => fun
  | [d] => { results := [.lit (.bool false)], args := [d] }
  | _ => none }
def FnHypotZeroWrongFalsely : Prop := fnHypotZeroRow.holds Try.pinned (OpenSpec.ofChange fnHypotZeroWrong)

/- THE SECOND FORM. 'bulk': how many values and letters a reading holds, each counted each time it is reached (what is shared counts as often as it is met; a slice's spare places count too). A statement '..UptoSaid' is the law's where the arguments, and the package variables that the reading takes, are together of bulk at most 1048576: NARROWER than '..Said'. Prove '..Said' where nothing that the law and all that it calls make is longer than what came in: it says more and counts as full. Else prove '..UptoSaid'. A law counts once. -/
mutual
def uptoBulk {H : Type} : DataW H → Nat
  | .lit (.string bytes) => bytes.length + 1
  | .lit _ => 1
  | .nil => 1
  | .ptr d => uptoBulk d + 1
  | .slice elems spare => uptoBulkAll elems + uptoBulkAll spare + 1
  | .agg parts => uptoBulkAll parts + 1
  | .iface _ d => uptoBulk d + 1
  | .map entries => uptoBulkEntries entries + 1
  | .held _ => 1
def uptoBulkAll {H : Type} : List (DataW H) → Nat
  | [] => 0
  | d :: r => uptoBulk d + uptoBulkAll r
def uptoBulkEntries {H : Type} : List (Lit × DataW H) → Nat
  | [] => 0
  | x :: r => uptoBulkEntry x + uptoBulkEntries r
def uptoBulkEntry {H : Type} : Lit × DataW H → Nat
  | (.string bytes, d) => bytes.length + uptoBulk d + 1
  | (_, d) => uptoBulk d + 1
 end
def uptoSmall : (H : Type) → List (DataW H) → Bool := fun _ ds => decide (uptoBulkAll ds ≤ 1048576)
def OpenSpec.upto (s : _root_.Go.ChangeSpec) : _root_.Go.OpenSpec := { _root_.Go.OpenSpec.ofChange s with cond := some uptoSmall }

/-- 'laws.FnCbrtBetween', WHERE WHAT IT READS IS OF BULK AT MOST 1048576: true; the input reads as it did. -/
def fnCbrtBetweenUptoRow : OpenClaim := { program := "ytjdibagfompohaa", sum := "a7170f1f7c3be02afb8fcfb41643800e887d519e40ccf68b3bb3c7380fb4a32c", func := "loop.example/lib-g01386/laws.FnCbrtBetween", spec := "fnCbrtBetween", inPlace := ["math.Float64bits", "math.Float64frombits"], apart := false, narrowed := true }
def FnCbrtBetweenUptoSaid : Prop := fnCbrtBetweenUptoRow.holds Try.pinned (OpenSpec.upto fnCbrtBetweenSpec)

/-- 'laws.FnCbrtCases', WHERE WHAT IT READS IS OF BULK AT MOST 1048576: true; the input reads as it did. -/
def fnCbrtCasesUptoRow : OpenClaim := { program := "ytjdibagfompohaa", sum := "a7170f1f7c3be02afb8fcfb41643800e887d519e40ccf68b3bb3c7380fb4a32c", func := "loop.example/lib-g01386/laws.FnCbrtCases", spec := "fnCbrtCases", inPlace := ["math.Float64bits", "math.Float64frombits"], apart := false, narrowed := true }
def FnCbrtCasesUptoSaid : Prop := fnCbrtCasesUptoRow.holds Try.pinned (OpenSpec.upto fnCbrtCasesSpec)

/-- 'laws.FnCbrtNumber', WHERE WHAT IT READS IS OF BULK AT MOST 1048576: true; the input reads as it did. -/
def fnCbrtNumberUptoRow : OpenClaim := { program := "ytjdibagfompohaa", sum := "a7170f1f7c3be02afb8fcfb41643800e887d519e40ccf68b3bb3c7380fb4a32c", func := "loop.example/lib-g01386/laws.FnCbrtNumber", spec := "fnCbrtNumber", inPlace := ["math.Float64bits", "math.Float64frombits"], apart := false, narrowed := true }
def FnCbrtNumberUptoSaid : Prop := fnCbrtNumberUptoRow.holds Try.pinned (OpenSpec.upto fnCbrtNumberSpec)

/-- 'laws.FnCbrtTurned', WHERE WHAT IT READS IS OF BULK AT MOST 1048576: true; the input reads as it did. -/
def fnCbrtTurnedUptoRow : OpenClaim := { program := "ytjdibagfompohaa", sum := "a7170f1f7c3be02afb8fcfb41643800e887d519e40ccf68b3bb3c7380fb4a32c", func := "loop.example/lib-g01386/laws.FnCbrtTurned", spec := "fnCbrtTurned", inPlace := ["math.Float64bits", "math.Float64frombits"], apart := false, narrowed := true }
def FnCbrtTurnedUptoSaid : Prop := fnCbrtTurnedUptoRow.holds Try.pinned (OpenSpec.upto fnCbrtTurnedSpec)

/-- 'laws.FnHypotCases', WHERE WHAT IT READS IS OF BULK AT MOST 1048576: true; the input reads as it did. -/
def fnHypotCasesUptoRow : OpenClaim := { program := "ytjdibagfompohaa", sum := "a7170f1f7c3be02afb8fcfb41643800e887d519e40ccf68b3bb3c7380fb4a32c", func := "loop.example/lib-g01386/laws.FnHypotCases", spec := "fnHypotCases", inPlace := ["math.archHypot", "math.Float64bits", "math.Float64frombits", "math.sqrt"], apart := false, narrowed := true }
def FnHypotCasesUptoSaid : Prop := fnHypotCasesUptoRow.holds Try.pinned (OpenSpec.upto fnHypotCasesSpec)

/-- 'laws.FnHypotEither', WHERE WHAT IT READS IS OF BULK AT MOST 1048576: true; the input reads as it did. -/
def fnHypotEitherUptoRow : OpenClaim := { program := "ytjdibagfompohaa", sum := "a7170f1f7c3be02afb8fcfb41643800e887d519e40ccf68b3bb3c7380fb4a32c", func := "loop.example/lib-g01386/laws.FnHypotEither", spec := "fnHypotEither", inPlace := ["math.archHypot", "math.Float64bits", "math.Float64frombits", "math.sqrt"], apart := false, narrowed := true }
def FnHypotEitherUptoSaid : Prop := fnHypotEitherUptoRow.holds Try.pinned (OpenSpec.upto fnHypotEitherSpec)

/-- 'laws.FnHypotInfinite', WHERE WHAT IT READS IS OF BULK AT MOST 1048576: true; the input reads as it did. -/
def fnHypotInfiniteUptoRow : OpenClaim := { program := "ytjdibagfompohaa", sum := "a7170f1f7c3be02afb8fcfb41643800e887d519e40ccf68b3bb3c7380fb4a32c", func := "loop.example/lib-g01386/laws.FnHypotInfinite", spec := "fnHypotInfinite", inPlace := ["math.archHypot", "math.Float64bits", "math.Float64frombits", "math.sqrt"], apart := false, narrowed := true }
def FnHypotInfiniteUptoSaid : Prop := fnHypotInfiniteUptoRow.holds Try.pinned (OpenSpec.upto fnHypotInfiniteSpec)

/-- 'laws.FnHypotLeast', WHERE WHAT IT READS IS OF BULK AT MOST 1048576: true; the input reads as it did. -/
def fnHypotLeastUptoRow : OpenClaim := { program := "ytjdibagfompohaa", sum := "a7170f1f7c3be02afb8fcfb41643800e887d519e40ccf68b3bb3c7380fb4a32c", func := "loop.example/lib-g01386/laws.FnHypotLeast", spec := "fnHypotLeast", inPlace := ["math.archHypot", "math.Float64bits", "math.Float64frombits", "math.sqrt"], apart := false, narrowed := true }
def FnHypotLeastUptoSaid : Prop := fnHypotLeastUptoRow.holds Try.pinned (OpenSpec.upto fnHypotLeastSpec)

/-- 'laws.FnHypotNumber', WHERE WHAT IT READS IS OF BULK AT MOST 1048576: true; the input reads as it did. -/
def fnHypotNumberUptoRow : OpenClaim := { program := "ytjdibagfompohaa", sum := "a7170f1f7c3be02afb8fcfb41643800e887d519e40ccf68b3bb3c7380fb4a32c", func := "loop.example/lib-g01386/laws.FnHypotNumber", spec := "fnHypotNumber", inPlace := ["math.archHypot", "math.Float64bits", "math.Float64frombits", "math.sqrt"], apart := false, narrowed := true }
def FnHypotNumberUptoSaid : Prop := fnHypotNumberUptoRow.holds Try.pinned (OpenSpec.upto fnHypotNumberSpec)

/-- 'laws.FnHypotSigns', WHERE WHAT IT READS IS OF BULK AT MOST 1048576: true; the input reads as it did. -/
def fnHypotSignsUptoRow : OpenClaim := { program := "ytjdibagfompohaa", sum := "a7170f1f7c3be02afb8fcfb41643800e887d519e40ccf68b3bb3c7380fb4a32c", func := "loop.example/lib-g01386/laws.FnHypotSigns", spec := "fnHypotSigns", inPlace := ["math.archHypot", "math.Float64bits", "math.Float64frombits", "math.sqrt"], apart := false, narrowed := true }
def FnHypotSignsUptoSaid : Prop := fnHypotSignsUptoRow.holds Try.pinned (OpenSpec.upto fnHypotSignsSpec)

/-- 'laws.FnHypotTurned', WHERE WHAT IT READS IS OF BULK AT MOST 1048576: true; the input reads as it did. -/
def fnHypotTurnedUptoRow : OpenClaim := { program := "ytjdibagfompohaa", sum := "a7170f1f7c3be02afb8fcfb41643800e887d519e40ccf68b3bb3c7380fb4a32c", func := "loop.example/lib-g01386/laws.FnHypotTurned", spec := "fnHypotTurned", inPlace := ["math.archHypot", "math.Float64bits", "math.Float64frombits", "math.sqrt"], apart := false, narrowed := true }
def FnHypotTurnedUptoSaid : Prop := fnHypotTurnedUptoRow.holds Try.pinned (OpenSpec.upto fnHypotTurnedSpec)

/-- 'laws.FnHypotZero', WHERE WHAT IT READS IS OF BULK AT MOST 1048576: true; the input reads as it did. -/
def fnHypotZeroUptoRow : OpenClaim := { program := "ytjdibagfompohaa", sum := "a7170f1f7c3be02afb8fcfb41643800e887d519e40ccf68b3bb3c7380fb4a32c", func := "loop.example/lib-g01386/laws.FnHypotZero", spec := "fnHypotZero", inPlace := ["math.archHypot", "math.Float64bits", "math.Float64frombits", "math.sqrt"], apart := false, narrowed := true }
def FnHypotZeroUptoSaid : Prop := fnHypotZeroUptoRow.holds Try.pinned (OpenSpec.upto fnHypotZeroSpec)

end Rows
end Go.Proofs.Ytjdibagfompohaa
