/- The walk of runtime.Modulo: the values that are no integers. (Printed by gen.py.) -/
import Derived.Test.YtidmaimeanakeaaDy
set_option linter.unusedSimpArgs false
set_option linter.unusedVariables false
namespace Go.Proofs.Ytidmaimeanakeaa.Num
open Go.RowKit
set_option maxRecDepth 100000 in
set_option maxHeartbeats 4000000 in
theorem mod_f32 (w : World) (v : Value) (g : Nat) : Calls Try.prog 11 #[.iface 34 (.float .f32 g), v] w (Pan w) := by
  go_enter Try.func11, Try.ntmps11
  go_wp2
  simp only [bodyPost]
  exact ⟨trivial, ⟨_, _, rfl⟩, by go_grown⟩
set_option maxRecDepth 100000 in
set_option maxHeartbeats 4000000 in
theorem mod_f64 (w : World) (v : Value) (g : Nat) : Calls Try.prog 11 #[.iface 23 (.float .f64 g), v] w (Pan w) := by
  go_enter Try.func11, Try.ntmps11
  go_wp2
  simp only [bodyPost]
  exact ⟨trivial, ⟨_, _, rfl⟩, by go_grown⟩
set_option maxRecDepth 100000 in
set_option maxHeartbeats 4000000 in
theorem mod_text (w : World) (v : Value) (s : ByteArray) : Calls Try.prog 11 #[.iface 9 (.string s), v] w (Pan w) := by
  go_enter Try.func11, Try.ntmps11
  go_wp2
  simp only [bodyPost]
  exact ⟨trivial, ⟨_, _, rfl⟩, by go_grown⟩
set_option maxRecDepth 100000 in
set_option maxHeartbeats 4000000 in
theorem mod_truth (w : World) (v : Value) (b : Bool) : Calls Try.prog 11 #[.iface 4 (.bool b), v] w (Pan w) := by
  go_enter Try.func11, Try.ntmps11
  go_wp2
  simp only [bodyPost]
  exact ⟨trivial, ⟨_, _, rfl⟩, by go_grown⟩
set_option maxRecDepth 100000 in
set_option maxHeartbeats 4000000 in
theorem mod_nil (w : World) (v : Value)  : Calls Try.prog 11 #[.nilIface, v] w (Pan w) := by
  go_enter Try.func11, Try.ntmps11
  go_wp2
  simp only [bodyPost]
  exact ⟨trivial, ⟨_, _, rfl⟩, by go_grown⟩
end Go.Proofs.Ytidmaimeanakeaa.Num
