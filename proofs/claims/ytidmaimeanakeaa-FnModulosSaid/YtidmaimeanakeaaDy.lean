/- The values that come of impl.Value.any: by their kinds; what a remainder of two of them is. -/
import Derived.Test.YtidmaimeanakeaaEq
import Derived.WalkKit
import Derived.Deep.QuietTactic
import Derived.BigQuiet
import Derived.OwnWalk
import Derived.Outline
import Derived.WalkSpells
import Derived.WalkSmall
import Derived.Handy
import Derived.WalkLawsBesides
import Derived.RegionTactic
import Derived.Defers
import Derived.Recover
import Derived.Lib.Hide
set_option linter.unusedSimpArgs false
set_option linter.unusedVariables false
namespace Go.Proofs.Ytidmaimeanakeaa.Num
open Go.RowKit

/-- what may stand in an 'any' here: an integer of a kind, or none -/
inductive Dy : Option Int → Value → Prop
  | i64 (n : Int) (h0 : -9223372036854775808 ≤ n) (h1 : n ≤ 9223372036854775807) : Dy (some n) (.iface 3 (.int .i64 n))
  | i8 (n : Int) (h0 : -128 ≤ n) (h1 : n ≤ 127) : Dy (some n) (.iface 38 (.int .i8 n))
  | i16 (n : Int) (h0 : -32768 ≤ n) (h1 : n ≤ 32767) : Dy (some n) (.iface 39 (.int .i16 n))
  | i32 (n : Int) (h0 : -2147483648 ≤ n) (h1 : n ≤ 2147483647) : Dy (some n) (.iface 21 (.int .i32 n))
  | l64 (n : Int) (h0 : -9223372036854775808 ≤ n) (h1 : n ≤ 9223372036854775807) : Dy (some n) (.iface 2 (.int .i64 n))
  | u64 (n : Int) (h0 : 0 ≤ n) (h1 : n ≤ 9223372036854775807) : Dy (some n) (.iface 35 (.int .u64 n))
  | u8 (n : Int) (h0 : 0 ≤ n) (h1 : n ≤ 255) : Dy (some n) (.iface 5 (.int .u8 n))
  | u16 (n : Int) (h0 : 0 ≤ n) (h1 : n ≤ 65535) : Dy (some n) (.iface 36 (.int .u16 n))
  | u32 (n : Int) (h0 : 0 ≤ n) (h1 : n ≤ 4294967295) : Dy (some n) (.iface 37 (.int .u32 n))
  | m64 (n : Int) (h0 : 0 ≤ n) (h1 : n ≤ 9223372036854775807) : Dy (some n) (.iface 22 (.int .u64 n))
  | f32 (g : Nat) : Dy none (.iface 34 (.float .f32 g))
  | f64 (g : Nat) : Dy none (.iface 23 (.float .f64 g))
  | text (s : ByteArray) : Dy none (.iface 9 (.string s))
  | truth (b : Bool) : Dy none (.iface 4 (.bool b))
  | nil : Dy none .nilIface

/-- the remainder -/
def Rem (n m : Int) (w : World) (e : Ending) (w' : World) : Prop := (¬ m = 0 → e = .returned (.int .i64 (n.tmod m))) ∧ (m = 0 → ∃ u pv, e = .panicked [{ v := .iface u pv, recovered := false }]) ∧ Below w.heap.size w w'
/-- a panic -/
def Pan (w : World) (e : Ending) (w' : World) : Prop := (∃ u pv, e = .panicked [{ v := .iface u pv, recovered := false }]) ∧ Below w.heap.size w w'
end Go.Proofs.Ytidmaimeanakeaa.Num
