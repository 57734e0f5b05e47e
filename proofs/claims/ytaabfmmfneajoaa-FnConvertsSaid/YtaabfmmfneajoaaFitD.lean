/- spec.Fits at float32; the conversions between the floats. -/
import Derived.Test.YtaabfmmfneajoaaFit
set_option linter.unusedSimpArgs false
set_option linter.unusedVariables false
namespace Go.Proofs.Ytaabfmmfneajoaa.Num
open Go.RowKit

noncomputable def nar (f : Nat) (w : World) : Nat := match floatToFloatBits .f64 f .f32 with
  | some r => r
  | none => match FloatKind.f64.decode f with
    | .nan _ _ => (Question.nanConv .f32 f).cut (w.tape w.drawn (.nanConv .f32 f))
    | _ => (Question.floatToFloat f).cut (w.tape w.drawn (.floatToFloat f))
noncomputable def narN (f : Nat) : Nat := if (floatToFloatBits .f64 f .f32).isSome then 0 else 1

@[go_sem] theorem run_nar (f : Nat) (w : World) : (convert 23 40 (.float .f64 f)).run Try.prog w = .ok (.float .f32 (nar f w)) (w.drewN (narN f)) := by
  simp [convert, run_underlying Try.underlying23, run_underlying Try.underlying40, Conv.floatToFloat, nar, narN, floatToFloatBits, World.drewN]
  cases h : FloatKind.f64.decode f <;> simp [h, Question.forced]
  split <;> simp [*, Question.forced]

noncomputable def wid (f : Nat) (w : World) : Nat := match floatToFloatBits .f32 f .f64 with
  | some r => r
  | none => match FloatKind.f32.decode f with
    | .nan _ _ => (Question.nanConv .f64 f).cut (w.tape w.drawn (.nanConv .f64 f))
    | _ => (Question.floatToFloat f).cut (w.tape w.drawn (.floatToFloat f))
noncomputable def widN (f : Nat) : Nat := if (floatToFloatBits .f32 f .f64).isSome then 0 else 1

@[go_sem] theorem run_wid (f : Nat) (w : World) : (convert 40 23 (.float .f32 f)).run Try.prog w = .ok (.float .f64 (wid f w)) (w.drewN (widN f)) := by
  simp [convert, run_underlying Try.underlying23, run_underlying Try.underlying40, Conv.floatToFloat, wid, widN, floatToFloatBits, World.drewN]
  cases h : FloatKind.f32.decode f <;> simp [h, Question.forced]
  split <;> simp [*, Question.forced]

set_option maxHeartbeats 2000000 in
set_option maxRecDepth 100000 in
theorem fits_11 (w : World) (i u : Int) (f : Nat) (s : ByteArray) (b : Bool) (h0 : -9223372036854775808 ≤ i) (h1 : i ≤ 9223372036854775807) (g0 : 0 ≤ u) (g1 : u ≤ 18446744073709551615) :
    Calls Try.prog 6 #[V 11 i u f s b] w (Ans w fun r => True) := by
  go_enter Try.func6, Try.ntmps6
  go_wp2
  all_goals
    go_ret
    exact ⟨_, rfl, trivial, by first | exact below_drewN (by go_grown) _ | go_grown⟩
end Go.Proofs.Ytaabfmmfneajoaa.Num
