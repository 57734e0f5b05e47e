/- The walks of FnNegates: for all values of the kinds nil, int, float64, text, truth. -/
import Derived.Test.YtaabfmmfneajoaaEq
import Derived.WalkKit
import Derived.Deep.QuietTactic
import Derived.BigQuiet
import Derived.OwnWalk
import Derived.Outline
import Derived.WalkSpells
import Derived.WalkSmall
import Derived.Handy
import Derived.WalkLawsBesides
import Derived.RegionTactic
import Derived.Defers
import Derived.Recover
import Derived.Lib.Hide
set_option linter.unusedSimpArgs false
set_option linter.unusedVariables false
namespace Go.Proofs.Ytaabfmmfneajoaa.Num
open Go.RowKit


def Ret (w : World) (v : Value) (e : Ending) (w' : World) : Prop := e = .returned v ∧ Below w.heap.size w w'

theorem any_int (w : World) (i u : Int) (f : Nat) (s : ByteArray) (b : Bool) (h0 : -9223372036854775808 ≤ i) (h1 : i ≤ 9223372036854775807) :
    Calls Try.prog 19 #[V 1 i u f s b] w (Ret w (.iface 3 (.int .i64 i))) := by
  go_enter Try.func19, Try.ntmps19
  go_wp2
  go_ret
  exact ⟨rfl, by go_grown⟩

theorem negate_int (w : World) (i : Int) (h0 : -9223372036854775808 ≤ i) (h1 : i ≤ 9223372036854775807) :
    Calls Try.prog 18 #[.iface 3 (.int .i64 i)] w (Ret w (.iface 3 (.int .i64 (wrap64 (-i))))) := by
  go_enter Try.func18, Try.ntmps18
  go_wp2
  go_ret
  exact ⟨rfl, by go_grown⟩
theorem valued_int (w : World) (i : Int) (h0 : -9223372036854775808 ≤ i) (h1 : i ≤ 9223372036854775807) :
    Calls Try.prog 17 #[.iface 3 (.int .i64 i)] w (Ret w (V 1 i 0 0 ByteArray.empty false)) := by
  go_enter Try.func17, Try.ntmps17
  go_wp2
  go_returns
  exact ⟨rfl, by go_grown⟩
end Go.Proofs.Ytaabfmmfneajoaa.Num
