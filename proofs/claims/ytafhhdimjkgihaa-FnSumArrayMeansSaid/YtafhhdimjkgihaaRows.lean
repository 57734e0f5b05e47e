/-
  NARROWER THAN 'FOR EVERY INPUT', by the rows' own cells (each row's printed sentence says how): FnCountAnyMeans: loops · FnCountThresholdMeans: loops · FnFilterFirstMeans: loops · FnFilterLastMeans: loops · FnFilterLenMeans: loops · FnFilterMapMeans: loops · FnSumMapMeans: loops · FnSumRangeMeans: loops · FnSumArrayMeans: loops.
  DERIVED. THE GIVEN ROWS OF THIS SEAT. 9 by the template 'for every input the law returns true; each argument reads behind the call as it read before'; 0 by the template 'total and deterministic' (their statements: YtafhhdimjkgihaaTotals.lean).
  GIVEN WITH THE SEED: the statements are not yours to turn. If you find one false, say at which input.
  Laid BY PROGRAM, IN A SANDBOX (cutbox-rows.mjs): the forced cells as the released guide's own fill.sh prints them over the translation 27b47de943262ce6… (all of the seat's roots in one cut). By AI agents, Wed Nov 11 2026. No macro, syntax, notation, axiom, sorry.
-/
import Derived.Test.YtafhhdimjkgihaaChecked
import GoSem.Claim
import GoSem.ClaimJoined
import GoSem.ClaimMapViews
import Derived.JoinedTies
import Derived.KernelRfl
namespace Go.Proofs.Ytafhhdimjkgihaa
/- THE CELL 'sum', in the pinned program and in every row, IS THE sha256 OF THE DUMP (.gsa) THAT YtafhhdimjkgihaaProg.lean LOADS. Nothing in Lean hashes anything: it is a label: what it is worth is what the hold of that sum in a sandbox is worth. -/
noncomputable def Try.pinned : Pinned := { name := "ytafhhdimjkgihaa", sum := "27b47de943262ce66b31ea181d976653386411c48de4b9bd8fc67cfaaed3d8c9", checked := Try.checked }
namespace Rows
def none {H : Type} : Left H := { results := [], args := [] }

/-- 'laws.FnCountAnyMeans': WHATEVER THE INPUT: true; the input reads as it did. -/
def fnCountAnyMeansSpec : ChangeSpec := { name := "fnCountAnyMeans", fn := fun _ => fun
  | [d1, d2] => { results := [.lit (.bool true)], args := [d1, d2] }
  | _ => none }
def fnCountAnyMeansRow : OpenClaim := { program := "ytafhhdimjkgihaa", sum := "27b47de943262ce66b31ea181d976653386411c48de4b9bd8fc67cfaaed3d8c9", func := "given.example/pub-alembic/laws.FnCountAnyMeans", spec := "fnCountAnyMeans", unfollowed := true, recurses := true, loops := true, apart := false }
def FnCountAnyMeansSaid : Prop := fnCountAnyMeansRow.holds Try.pinned (OpenSpec.ofChange fnCountAnyMeansSpec)

/-- ITS FALSE NEIGHBOUR: 'it returns false'. Refute it at one input. -/
def fnCountAnyMeansWrong : ChangeSpec := { name := "fnCountAnyMeans", fn := fun _ => fun
  | [d1, d2] => { results := [.lit (.bool false)], args := [d1, d2] }
  | _ => none }
def FnCountAnyMeansWrongFalsely : Prop := fnCountAnyMeansRow.holds Try.pinned (OpenSpec.ofChange fnCountAnyMeansWrong)

/-- 'laws.FnCountThresholdMeans': WHATEVER THE INPUT: true; the input reads as it did. -/
def fnCountThresholdMeansSpec : ChangeSpec := { name := "fnCountThresholdMeans", fn := fun _ => fun
  | [d1, d2] => { results := [.lit (.bool true)], args := [d1, d2] }
  | _ => none }
def fnCountThresholdMeansRow : OpenClaim := { program := "ytafhhdimjkgihaa", sum := "27b47de943262ce66b31ea181d976653386411c48de4b9bd8fc67cfaaed3d8c9", func := "given.example/pub-alembic/laws.FnCountThresholdMeans", spec := "fnCountThresholdMeans", unfollowed := true, recurses := true, loops := true, apart := false }
def FnCountThresholdMeansSaid : Prop := fnCountThresholdMeansRow.holds Try.pinned (OpenSpec.ofChange fnCountThresholdMeansSpec)

/-- ITS FALSE NEIGHBOUR: 'it returns false'. Refute it at one input. -/
def fnCountThresholdMeansWrong : ChangeSpec := { name := "fnCountThresholdMeans", fn := fun _ => fun
  | [d1, d2] => { results := [.lit (.bool false)], args := [d1, d2] }
  | _ => none }
def FnCountThresholdMeansWrongFalsely : Prop := fnCountThresholdMeansRow.holds Try.pinned (OpenSpec.ofChange fnCountThresholdMeansWrong)

/-- 'laws.FnFilterFirstMeans': WHATEVER THE INPUT: true; the input reads as it did. -/
def fnFilterFirstMeansSpec : ChangeSpec := { name := "fnFilterFirstMeans", fn := fun _ => fun
  | [d1, d2] => { results := [.lit (.bool true)], args := [d1, d2] }
  | _ => none }
def fnFilterFirstMeansRow : OpenClaim := { program := "ytafhhdimjkgihaa", sum := "27b47de943262ce66b31ea181d976653386411c48de4b9bd8fc67cfaaed3d8c9", func := "given.example/pub-alembic/laws.FnFilterFirstMeans", spec := "fnFilterFirstMeans", unfollowed := true, recurses := true, loops := true, apart := false }
def FnFilterFirstMeansSaid : Prop := fnFilterFirstMeansRow.holds Try.pinned (OpenSpec.ofChange fnFilterFirstMeansSpec)

/-- ITS FALSE NEIGHBOUR: 'it returns false'. Refute it at one input. -/
def fnFilterFirstMeansWrong : ChangeSpec := { name := "fnFilterFirstMeans", fn := fun _ => fun
  | [d1, d2] => { results := [.lit (.bool false)], args := [d1, d2] }
  | _ => none }
def FnFilterFirstMeansWrongFalsely : Prop := fnFilterFirstMeansRow.holds Try.pinned (OpenSpec.ofChange fnFilterFirstMeansWrong)

/-- 'laws.FnFilterLastMeans': WHATEVER THE INPUT: true; the input reads as it did. -/
def fnFilterLastMeansSpec : ChangeSpec := { name := "fnFilterLastMeans", fn := fun _ => fun
  | [d1, d2] => { results := [.lit (.bool true)], args := [d1, d2] }
  | _ => none }
def fnFilterLastMeansRow : OpenClaim := { program := "ytafhhdimjkgihaa", sum := "27b47de943262ce66b31ea181d976653386411c48de4b9bd8fc67cfaaed3d8c9", func := "given.example/pub-alembic/laws.FnFilterLastMeans", spec := "fnFilterLastMeans", unfollowed := true, recurses := true, loops := true, apart := false }
def FnFilterLastMeansSaid : Prop := fnFilterLastMeansRow.holds Try.pinned (OpenSpec.ofChange fnFilterLastMeansSpec)

/-- ITS FALSE NEIGHBOUR: 'it returns false'. Refute it at one input. -/
def fnFilterLastMeansWrong : ChangeSpec := { name := "fnFilterLastMeans", fn := fun _ => fun
  | [d1, d2] => { results := [.lit (.bool false)], args := [d1, d2] }
  | _ => none }
def FnFilterLastMeansWrongFalsely : Prop := fnFilterLastMeansRow.holds Try.pinned (OpenSpec.ofChange fnFilterLastMeansWrong)

/-- 'laws.FnFilterLenMeans': WHATEVER THE INPUT: true; the input reads as it did. -/
def fnFilterLenMeansSpec : ChangeSpec := { name := "fnFilterLenMeans", fn := fun _ => fun
  | [d1, d2] => { results := [.lit (.bool true)], args := [d1, d2] }
  | _ => none }
def fnFilterLenMeansRow : OpenClaim := { program := "ytafhhdimjkgihaa", sum := "27b47de943262ce66b31ea181d976653386411c48de4b9bd8fc67cfaaed3d8c9", func := "given.example/pub-alembic/laws.FnFilterLenMeans", spec := "fnFilterLenMeans", unfollowed := true, recurses := true, loops := true, apart := false }
def FnFilterLenMeansSaid : Prop := fnFilterLenMeansRow.holds Try.pinned (OpenSpec.ofChange fnFilterLenMeansSpec)

/-- ITS FALSE NEIGHBOUR: 'it returns false'. Refute it at one input. -/
def fnFilterLenMeansWrong : ChangeSpec := { name := "fnFilterLenMeans", fn := fun _ => fun
  | [d1, d2] => { results := [.lit (.bool false)], args := [d1, d2] }
  | _ => none }
def FnFilterLenMeansWrongFalsely : Prop := fnFilterLenMeansRow.holds Try.pinned (OpenSpec.ofChange fnFilterLenMeansWrong)

/-- 'laws.FnFilterMapMeans': WHATEVER THE INPUT: true; the input reads as it did. -/
def fnFilterMapMeansSpec : ChangeSpec := { name := "fnFilterMapMeans", fn := fun _ => fun
  | [d1, d2] => { results := [.lit (.bool true)], args := [d1, d2] }
  | _ => none }
def fnFilterMapMeansRow : OpenClaim := { program := "ytafhhdimjkgihaa", sum := "27b47de943262ce66b31ea181d976653386411c48de4b9bd8fc67cfaaed3d8c9", func := "given.example/pub-alembic/laws.FnFilterMapMeans", spec := "fnFilterMapMeans", unfollowed := true, recurses := true, loops := true, apart := false }
def FnFilterMapMeansSaid : Prop := fnFilterMapMeansRow.holds Try.pinned (OpenSpec.ofChange fnFilterMapMeansSpec)

/-- ITS FALSE NEIGHBOUR: 'it returns false'. Refute it at one input. -/
def fnFilterMapMeansWrong : ChangeSpec := { name := "fnFilterMapMeans", fn := fun _ => fun
  | [d1, d2] => { results := [.lit (.bool false)], args := [d1, d2] }
  | _ => none }
def FnFilterMapMeansWrongFalsely : Prop := fnFilterMapMeansRow.holds Try.pinned (OpenSpec.ofChange fnFilterMapMeansWrong)

/-- 'laws.FnSumMapMeans': WHATEVER THE INPUT: true; the input reads as it did. -/
def fnSumMapMeansSpec : ChangeSpec := { name := "fnSumMapMeans", fn := fun _ => fun
  | [d1, d2] => { results := [.lit (.bool true)], args := [d1, d2] }
  | _ => none }
def fnSumMapMeansRow : OpenClaim := { program := "ytafhhdimjkgihaa", sum := "27b47de943262ce66b31ea181d976653386411c48de4b9bd8fc67cfaaed3d8c9", func := "given.example/pub-alembic/laws.FnSumMapMeans", spec := "fnSumMapMeans", unfollowed := true, recurses := true, loops := true, apart := false }
def FnSumMapMeansSaid : Prop := fnSumMapMeansRow.holds Try.pinned (OpenSpec.ofChange fnSumMapMeansSpec)

/-- ITS FALSE NEIGHBOUR: 'it returns false'. Refute it at one input. -/
def fnSumMapMeansWrong : ChangeSpec := { name := "fnSumMapMeans", fn := fun _ => fun
  | [d1, d2] => { results := [.lit (.bool false)], args := [d1, d2] }
  | _ => none }
def FnSumMapMeansWrongFalsely : Prop := fnSumMapMeansRow.holds Try.pinned (OpenSpec.ofChange fnSumMapMeansWrong)

/-- 'laws.FnSumRangeMeans': WHATEVER THE INPUT: true; the input reads as it did. -/
def fnSumRangeMeansSpec : ChangeSpec := { name := "fnSumRangeMeans", fn := fun _ => fun
  | [d1, d2] => { results := [.lit (.bool true)], args := [d1, d2] }
  | _ => none }
def fnSumRangeMeansRow : OpenClaim := { program := "ytafhhdimjkgihaa", sum := "27b47de943262ce66b31ea181d976653386411c48de4b9bd8fc67cfaaed3d8c9", func := "given.example/pub-alembic/laws.FnSumRangeMeans", spec := "fnSumRangeMeans", unfollowed := true, recurses := true, loops := true, apart := false }
def FnSumRangeMeansSaid : Prop := fnSumRangeMeansRow.holds Try.pinned (OpenSpec.ofChange fnSumRangeMeansSpec)

/-- ITS FALSE NEIGHBOUR: 'it returns false'. Refute it at one input. -/
def fnSumRangeMeansWrong : ChangeSpec := { name := "fnSumRangeMeans", fn := fun _ => fun
  | [d1, d2] => { results := [.lit (.bool false)], args := [d1, d2] }
  | _ => none }
def FnSumRangeMeansWrongFalsely : Prop := fnSumRangeMeansRow.holds Try.pinned (OpenSpec.ofChange fnSumRangeMeansWrong)

/-- 'laws.FnSumArrayMeans': WHATEVER THE INPUT: true; the input reads as it did. -/
def fnSumArrayMeansSpec : ChangeSpec := { name := "fnSumArrayMeans", fn := fun _ => fun
  | [d1, d2] => { results := [.lit (.bool true)], args := [d1, d2] }
  | _ => none }
def fnSumArrayMeansRow : OpenClaim := { program := "ytafhhdimjkgihaa", sum := "27b47de943262ce66b31ea181d976653386411c48de4b9bd8fc67cfaaed3d8c9", func := "given.example/pub-alembic/laws.FnSumArrayMeans", spec := "fnSumArrayMeans", unfollowed := true, recurses := true, loops := true, apart := false }
def FnSumArrayMeansSaid : Prop := fnSumArrayMeansRow.holds Try.pinned (OpenSpec.ofChange fnSumArrayMeansSpec)

/-- ITS FALSE NEIGHBOUR: 'it returns false'. Refute it at one input. -/
def fnSumArrayMeansWrong : ChangeSpec := { name := "fnSumArrayMeans", fn := fun _ => fun
  | [d1, d2] => { results := [.lit (.bool false)], args := [d1, d2] }
  | _ => none }
def FnSumArrayMeansWrongFalsely : Prop := fnSumArrayMeansRow.holds Try.pinned (OpenSpec.ofChange fnSumArrayMeansWrong)

/- THE SECOND FORM. 'bulk': how many values and letters a reading holds, each counted each time it is reached (what is shared counts as often as it is met; a slice's spare places count too). A statement '..UptoSaid' is the law's where the arguments, and the package variables that the reading takes, are together of bulk at most 1048576: NARROWER than '..Said'. Prove '..Said' where nothing that the law and all that it calls make is longer than what came in: it says more and counts as full. Else prove '..UptoSaid'. A law counts once. -/
mutual
def uptoBulk {H : Type} : DataW H → Nat
  | .lit (.string bytes) => bytes.length + 1
  | .lit _ => 1
  | .nil => 1
  | .ptr d => uptoBulk d + 1
  | .slice elems spare => uptoBulkAll elems + uptoBulkAll spare + 1
  | .agg parts => uptoBulkAll parts + 1
  | .iface _ d => uptoBulk d + 1
  | .map entries => uptoBulkEntries entries + 1
  | .held _ => 1
def uptoBulkAll {H : Type} : List (DataW H) → Nat
  | [] => 0
  | d :: r => uptoBulk d + uptoBulkAll r
def uptoBulkEntries {H : Type} : List (Lit × DataW H) → Nat
  | [] => 0
  | x :: r => uptoBulkEntry x + uptoBulkEntries r
def uptoBulkEntry {H : Type} : Lit × DataW H → Nat
  | (.string bytes, d) => bytes.length + uptoBulk d + 1
  | (_, d) => uptoBulk d + 1
 end
def uptoSmall : (H : Type) → List (DataW H) → Bool := fun _ ds => decide (uptoBulkAll ds ≤ 1048576)
def OpenSpec.upto (s : _root_.Go.ChangeSpec) : _root_.Go.OpenSpec := { _root_.Go.OpenSpec.ofChange s with cond := some uptoSmall }

/-- 'laws.FnCountAnyMeans', WHERE WHAT IT READS IS OF BULK AT MOST 1048576: true; the input reads as it did. -/
def fnCountAnyMeansUptoRow : OpenClaim := { program := "ytafhhdimjkgihaa", sum := "27b47de943262ce66b31ea181d976653386411c48de4b9bd8fc67cfaaed3d8c9", func := "given.example/pub-alembic/laws.FnCountAnyMeans", spec := "fnCountAnyMeans", unfollowed := true, recurses := true, loops := true, apart := false, narrowed := true }
def FnCountAnyMeansUptoSaid : Prop := fnCountAnyMeansUptoRow.holds Try.pinned (OpenSpec.upto fnCountAnyMeansSpec)

/-- 'laws.FnCountThresholdMeans', WHERE WHAT IT READS IS OF BULK AT MOST 1048576: true; the input reads as it did. -/
def fnCountThresholdMeansUptoRow : OpenClaim := { program := "ytafhhdimjkgihaa", sum := "27b47de943262ce66b31ea181d976653386411c48de4b9bd8fc67cfaaed3d8c9", func := "given.example/pub-alembic/laws.FnCountThresholdMeans", spec := "fnCountThresholdMeans", unfollowed := true, recurses := true, loops := true, apart := false, narrowed := true }
def FnCountThresholdMeansUptoSaid : Prop := fnCountThresholdMeansUptoRow.holds Try.pinned (OpenSpec.upto fnCountThresholdMeansSpec)

/-- 'laws.FnFilterFirstMeans', WHERE WHAT IT READS IS OF BULK AT MOST 1048576: true; the input reads as it did. -/
def fnFilterFirstMeansUptoRow : OpenClaim := { program := "ytafhhdimjkgihaa", sum := "27b47de943262ce66b31ea181d976653386411c48de4b9bd8fc67cfaaed3d8c9", func := "given.example/pub-alembic/laws.FnFilterFirstMeans", spec := "fnFilterFirstMeans", unfollowed := true, recurses := true, loops := true, apart := false, narrowed := true }
def FnFilterFirstMeansUptoSaid : Prop := fnFilterFirstMeansUptoRow.holds Try.pinned (OpenSpec.upto fnFilterFirstMeansSpec)

/-- 'laws.FnFilterLastMeans', WHERE WHAT IT READS IS OF BULK AT MOST 1048576: true; the input reads as it did. -/
def fnFilterLastMeansUptoRow : OpenClaim := { program := "ytafhhdimjkgihaa", sum := "27b47de943262ce66b31ea181d976653386411c48de4b9bd8fc67cfaaed3d8c9", func := "given.example/pub-alembic/laws.FnFilterLastMeans", spec := "fnFilterLastMeans", unfollowed := true, recurses := true, loops := true, apart := false, narrowed := true }
def FnFilterLastMeansUptoSaid : Prop := fnFilterLastMeansUptoRow.holds Try.pinned (OpenSpec.upto fnFilterLastMeansSpec)

/-- 'laws.FnFilterLenMeans', WHERE WHAT IT READS IS OF BULK AT MOST 1048576: true; the input reads as it did. -/
def fnFilterLenMeansUptoRow : OpenClaim := { program := "ytafhhdimjkgihaa", sum := "27b47de943262ce66b31ea181d976653386411c48de4b9bd8fc67cfaaed3d8c9", func := "given.example/pub-alembic/laws.FnFilterLenMeans", spec := "fnFilterLenMeans", unfollowed := true, recurses := true, loops := true, apart := false, narrowed := true }
def FnFilterLenMeansUptoSaid : Prop := fnFilterLenMeansUptoRow.holds Try.pinned (OpenSpec.upto fnFilterLenMeansSpec)

/-- 'laws.FnFilterMapMeans', WHERE WHAT IT READS IS OF BULK AT MOST 1048576: true; the input reads as it did. -/
def fnFilterMapMeansUptoRow : OpenClaim := { program := "ytafhhdimjkgihaa", sum := "27b47de943262ce66b31ea181d976653386411c48de4b9bd8fc67cfaaed3d8c9", func := "given.example/pub-alembic/laws.FnFilterMapMeans", spec := "fnFilterMapMeans", unfollowed := true, recurses := true, loops := true, apart := false, narrowed := true }
def FnFilterMapMeansUptoSaid : Prop := fnFilterMapMeansUptoRow.holds Try.pinned (OpenSpec.upto fnFilterMapMeansSpec)

/-- 'laws.FnSumMapMeans', WHERE WHAT IT READS IS OF BULK AT MOST 1048576: true; the input reads as it did. -/
def fnSumMapMeansUptoRow : OpenClaim := { program := "ytafhhdimjkgihaa", sum := "27b47de943262ce66b31ea181d976653386411c48de4b9bd8fc67cfaaed3d8c9", func := "given.example/pub-alembic/laws.FnSumMapMeans", spec := "fnSumMapMeans", unfollowed := true, recurses := true, loops := true, apart := false, narrowed := true }
def FnSumMapMeansUptoSaid : Prop := fnSumMapMeansUptoRow.holds Try.pinned (OpenSpec.upto fnSumMapMeansSpec)

/-- 'laws.FnSumRangeMeans', WHERE WHAT IT READS IS OF BULK AT MOST 1048576: true; the input reads as it did. -/
def fnSumRangeMeansUptoRow : OpenClaim := { program := "ytafhhdimjkgihaa", sum := "27b47de943262ce66b31ea181d976653386411c48de4b9bd8fc67cfaaed3d8c9", func := "given.example/pub-alembic/laws.FnSumRangeMeans", spec := "fnSumRangeMeans", unfollowed := true, recurses := true, loops := true, apart := false, narrowed := true }
def FnSumRangeMeansUptoSaid : Prop := fnSumRangeMeansUptoRow.holds Try.pinned (OpenSpec.upto fnSumRangeMeansSpec)

/-- 'laws.FnSumArrayMeans', WHERE WHAT IT READS IS OF BULK AT MOST 1048576: true; the input reads as it did. -/
def fnSumArrayMeansUptoRow : OpenClaim := { program := "ytafhhdimjkgihaa", sum := "27b47de943262ce66b31ea181d976653386411c48de4b9bd8fc67cfaaed3d8c9", func := "given.example/pub-alembic/laws.FnSumArrayMeans", spec := "fnSumArrayMeans", unfollowed := true, recurses := true, loops := true, apart := false, narrowed := true }
def FnSumArrayMeansUptoSaid : Prop := fnSumArrayMeansUptoRow.holds Try.pinned (OpenSpec.upto fnSumArrayMeansSpec)

end Rows
end Go.Proofs.Ytafhhdimjkgihaa
