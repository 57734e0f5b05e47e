/-
  No cell of these rows narrows 'for every input' (looked for: loops, veiled, ifaces, maps, wideKeys, modest, calm, conditions, laid).
  DERIVED. THE GIVEN ROWS OF THIS SEAT. 5 by the template 'for every input the law returns true; each argument reads behind the call as it read before'; 0 by the template 'total and deterministic' (their statements: YtlphfinmdacolaaTotals.lean).
  GIVEN WITH THE SEED: the statements are not yours to turn. If you find one false, say at which input.
  Laid BY PROGRAM, IN A SANDBOX (cutbox-rows.mjs): the forced cells as the released guide's own fill.sh prints them over the translation 1df7d36645fb9787… (all of the seat's roots in one cut). By AI agents, Wed Nov 11 2026. No macro, syntax, notation, axiom, sorry.
-/
import Derived.Test.YtlphfinmdacolaaChecked
import GoSem.Claim
import GoSem.ClaimJoined
import GoSem.ClaimMapViews
import Derived.JoinedTies
import Derived.KernelRfl
namespace Go.Proofs.Ytlphfinmdacolaa
/- THE CELL 'sum', in the pinned program and in every row, IS THE sha256 OF THE DUMP (.gsa) THAT YtlphfinmdacolaaProg.lean LOADS. Nothing in Lean hashes anything: it is a label: what it is worth is what the hold of that sum in a sandbox is worth. -/
noncomputable def Try.pinned : Pinned := { name := "ytlphfinmdacolaa", sum := "1df7d36645fb9787f94a48dc1b8aa7899a1c12939627947904456c6f3383dfdd", checked := Try.checked }
namespace Rows
def none {H : Type} : Left H := { results := [], args := [] }

/-- 'laws.FnRanges': WHATEVER THE INPUT: true; the input reads as it did. -/
def fnRangesSpec : ChangeSpec := { name := "fnRanges", fn := fun _ => fun
  | [d1, d2] => { results := [.lit (.bool true)], args := [d1, d2] }
  | _ => none }
def fnRangesRow : OpenClaim := { program := "ytlphfinmdacolaa", sum := "1df7d36645fb9787f94a48dc1b8aa7899a1c12939627947904456c6f3383dfdd", func := "given.example/pub-alembic/laws.FnRanges", spec := "fnRanges", apart := false }
def FnRangesSaid : Prop := fnRangesRow.holds Try.pinned (OpenSpec.ofChange fnRangesSpec)

/-- ITS FALSE NEIGHBOUR: 'it returns false'. Refute it at one input. -/
def fnRangesWrong : ChangeSpec := { name := "fnRanges", fn := fun _ => fun
  | [d1, d2] => { results := [.lit (.bool false)], args := [d1, d2] }
  | _ => none }
def FnRangesWrongFalsely : Prop := fnRangesRow.holds Try.pinned (OpenSpec.ofChange fnRangesWrong)

/-- 'laws.FnLevels': WHATEVER THE INPUT: true; the input reads as it did. -/
def fnLevelsSpec : ChangeSpec := { name := "fnLevels", fn := fun _ => fun
  | [d1, d2] => { results := [.lit (.bool true)], args := [d1, d2] }
  | _ => none }
def fnLevelsRow : OpenClaim := { program := "ytlphfinmdacolaa", sum := "1df7d36645fb9787f94a48dc1b8aa7899a1c12939627947904456c6f3383dfdd", func := "given.example/pub-alembic/laws.FnLevels", spec := "fnLevels", apart := false }
def FnLevelsSaid : Prop := fnLevelsRow.holds Try.pinned (OpenSpec.ofChange fnLevelsSpec)

/-- ITS FALSE NEIGHBOUR: 'it returns false'. Refute it at one input. -/
def fnLevelsWrong : ChangeSpec := { name := "fnLevels", fn := fun _ => fun
  | [d1, d2] => { results := [.lit (.bool false)], args := [d1, d2] }
  | _ => none }
def FnLevelsWrongFalsely : Prop := fnLevelsRow.holds Try.pinned (OpenSpec.ofChange fnLevelsWrong)

/-- 'laws.FnUnaries': WHATEVER THE INPUT: true; the input reads as it did. -/
def fnUnariesSpec : ChangeSpec := { name := "fnUnaries", fn := fun _ => fun
  | [d] => { results := [.lit (.bool true)], args := [d] }
  | _ => none }
def fnUnariesRow : OpenClaim := { program := "ytlphfinmdacolaa", sum := "1df7d36645fb9787f94a48dc1b8aa7899a1c12939627947904456c6f3383dfdd", func := "given.example/pub-alembic/laws.FnUnaries", spec := "fnUnaries", apart := false }
def FnUnariesSaid : Prop := fnUnariesRow.holds Try.pinned (OpenSpec.ofChange fnUnariesSpec)

/-- ITS FALSE NEIGHBOUR: 'it returns false'. Refute it at one input. -/
def fnUnariesWrong : ChangeSpec := { name := "fnUnaries", fn := fun _ => fun
  | [d] => { results := [.lit (.bool false)], args := [d] }
  | _ => none }
def FnUnariesWrongFalsely : Prop := fnUnariesRow.holds Try.pinned (OpenSpec.ofChange fnUnariesWrong)

/-- 'laws.FnRing': WHATEVER THE INPUT: true; the input reads as it did. -/
def fnRingSpec : ChangeSpec := { name := "fnRing", fn := fun _ => fun
  | [d1, d2] => { results := [.lit (.bool true)], args := [d1, d2] }
  | _ => none }
def fnRingRow : OpenClaim := { program := "ytlphfinmdacolaa", sum := "1df7d36645fb9787f94a48dc1b8aa7899a1c12939627947904456c6f3383dfdd", func := "given.example/pub-alembic/laws.FnRing", spec := "fnRing", apart := false }
def FnRingSaid : Prop := fnRingRow.holds Try.pinned (OpenSpec.ofChange fnRingSpec)

/-- ITS FALSE NEIGHBOUR: 'it returns false'. Refute it at one input. -/
def fnRingWrong : ChangeSpec := { name := "fnRing", fn := fun _ => fun
  | [d1, d2] => { results := [.lit (.bool false)], args := [d1, d2] }
  | _ => none }
def FnRingWrongFalsely : Prop := fnRingRow.holds Try.pinned (OpenSpec.ofChange fnRingWrong)

/-- 'laws.FnRingRoom': WHATEVER THE INPUT: true; the input reads as it did. -/
def fnRingRoomSpec : ChangeSpec := { name := "fnRingRoom", fn := fun _ => fun
  | [d1, d2] => { results := [.lit (.bool true)], args := [d1, d2] }
  | _ => none }
def fnRingRoomRow : OpenClaim := { program := "ytlphfinmdacolaa", sum := "1df7d36645fb9787f94a48dc1b8aa7899a1c12939627947904456c6f3383dfdd", func := "given.example/pub-alembic/laws.FnRingRoom", spec := "fnRingRoom", apart := false }
def FnRingRoomSaid : Prop := fnRingRoomRow.holds Try.pinned (OpenSpec.ofChange fnRingRoomSpec)

/-- ITS FALSE NEIGHBOUR: 'it returns false'. Refute it at one input. -/
def fnRingRoomWrong : ChangeSpec := { name := "fnRingRoom", fn := fun _ => fun
  | [d1, d2] => { results := [.lit (.bool false)], args := [d1, d2] }
  | _ => none }
def FnRingRoomWrongFalsely : Prop := fnRingRoomRow.holds Try.pinned (OpenSpec.ofChange fnRingRoomWrong)

/- THE SECOND FORM. 'bulk': how many values and letters a reading holds, each counted each time it is reached (what is shared counts as often as it is met; a slice's spare places count too). A statement '..UptoSaid' is the law's where the arguments, and the package variables that the reading takes, are together of bulk at most 1048576: NARROWER than '..Said'. Prove '..Said' where nothing that the law and all that it calls make is longer than what came in: it says more and counts as full. Else prove '..UptoSaid'. A law counts once. -/
mutual
def uptoBulk {H : Type} : DataW H → Nat
  | .lit (.string bytes) => bytes.length + 1
  | .lit _ => 1
  | .nil => 1
  | .ptr d => uptoBulk d + 1
  | .slice elems spare => uptoBulkAll elems + uptoBulkAll spare + 1
  | .agg parts => uptoBulkAll parts + 1
  | .iface _ d => uptoBulk d + 1
  | .map entries => uptoBulkEntries entries + 1
  | .held _ => 1
def uptoBulkAll {H : Type} : List (DataW H) → Nat
  | [] => 0
  | d :: r => uptoBulk d + uptoBulkAll r
def uptoBulkEntries {H : Type} : List (Lit × DataW H) → Nat
  | [] => 0
  | x :: r => uptoBulkEntry x + uptoBulkEntries r
def uptoBulkEntry {H : Type} : Lit × DataW H → Nat
  | (.string bytes, d) => bytes.length + uptoBulk d + 1
  | (_, d) => uptoBulk d + 1
 end
def uptoSmall : (H : Type) → List (DataW H) → Bool := fun _ ds => decide (uptoBulkAll ds ≤ 1048576)
def OpenSpec.upto (s : _root_.Go.ChangeSpec) : _root_.Go.OpenSpec := { _root_.Go.OpenSpec.ofChange s with cond := some uptoSmall }

/-- 'laws.FnRanges', WHERE WHAT IT READS IS OF BULK AT MOST 1048576: true; the input reads as it did. -/
def fnRangesUptoRow : OpenClaim := { program := "ytlphfinmdacolaa", sum := "1df7d36645fb9787f94a48dc1b8aa7899a1c12939627947904456c6f3383dfdd", func := "given.example/pub-alembic/laws.FnRanges", spec := "fnRanges", apart := false, narrowed := true }
def FnRangesUptoSaid : Prop := fnRangesUptoRow.holds Try.pinned (OpenSpec.upto fnRangesSpec)

/-- 'laws.FnLevels', WHERE WHAT IT READS IS OF BULK AT MOST 1048576: true; the input reads as it did. -/
def fnLevelsUptoRow : OpenClaim := { program := "ytlphfinmdacolaa", sum := "1df7d36645fb9787f94a48dc1b8aa7899a1c12939627947904456c6f3383dfdd", func := "given.example/pub-alembic/laws.FnLevels", spec := "fnLevels", apart := false, narrowed := true }
def FnLevelsUptoSaid : Prop := fnLevelsUptoRow.holds Try.pinned (OpenSpec.upto fnLevelsSpec)

/-- 'laws.FnUnaries', WHERE WHAT IT READS IS OF BULK AT MOST 1048576: true; the input reads as it did. -/
def fnUnariesUptoRow : OpenClaim := { program := "ytlphfinmdacolaa", sum := "1df7d36645fb9787f94a48dc1b8aa7899a1c12939627947904456c6f3383dfdd", func := "given.example/pub-alembic/laws.FnUnaries", spec := "fnUnaries", apart := false, narrowed := true }
def FnUnariesUptoSaid : Prop := fnUnariesUptoRow.holds Try.pinned (OpenSpec.upto fnUnariesSpec)

/-- 'laws.FnRing', WHERE WHAT IT READS IS OF BULK AT MOST 1048576: true; the input reads as it did. -/
def fnRingUptoRow : OpenClaim := { program := "ytlphfinmdacolaa", sum := "1df7d36645fb9787f94a48dc1b8aa7899a1c12939627947904456c6f3383dfdd", func := "given.example/pub-alembic/laws.FnRing", spec := "fnRing", apart := false, narrowed := true }
def FnRingUptoSaid : Prop := fnRingUptoRow.holds Try.pinned (OpenSpec.upto fnRingSpec)

/-- 'laws.FnRingRoom', WHERE WHAT IT READS IS OF BULK AT MOST 1048576: true; the input reads as it did. -/
def fnRingRoomUptoRow : OpenClaim := { program := "ytlphfinmdacolaa", sum := "1df7d36645fb9787f94a48dc1b8aa7899a1c12939627947904456c6f3383dfdd", func := "given.example/pub-alembic/laws.FnRingRoom", spec := "fnRingRoom", apart := false, narrowed := true }
def FnRingRoomUptoSaid : Prop := fnRingRoomUptoRow.holds Try.pinned (OpenSpec.upto fnRingRoomSpec)

end Rows
end Go.Proofs.Ytlphfinmdacolaa
