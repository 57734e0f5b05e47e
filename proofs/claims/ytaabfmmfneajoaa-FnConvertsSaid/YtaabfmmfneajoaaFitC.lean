/- The walk of spec.Fits, the kinds from 11 on. -/
import Derived.Test.YtaabfmmfneajoaaFit
set_option linter.unusedSimpArgs false
set_option linter.unusedVariables false
namespace Go.Proofs.Ytaabfmmfneajoaa.Num
open Go.RowKit

def ZF (i u : Int) (s : ByteArray) (b : Bool) : Prop := i = 0 ∧ u = 0 ∧ s.toList = [] ∧ b = false
theorem zf_cases (i u : Int) (s : ByteArray) (b : Bool) : (i = 0 ∧ u = 0 ∧ s.toList = [] ∧ b = false) ∨ ¬ i = 0 ∨ (i = 0 ∧ ¬ u = 0) ∨ (i = 0 ∧ u = 0 ∧ ¬ s.toList = []) ∨ (i = 0 ∧ u = 0 ∧ s.toList = [] ∧ b = true) := by
  by_cases h1 : i = 0
  · by_cases h2 : u = 0
    · by_cases h3 : s.toList = []
      · cases b <;> simp [h1, h2, h3]
      · simp [h1, h2, h3]
    · simp [h1, h2]
  · simp [h1]

set_option maxHeartbeats 2000000 in
set_option maxRecDepth 100000 in
theorem fits_12 (w : World) (i u : Int) (f : Nat) (s : ByteArray) (b : Bool) (h0 : -9223372036854775808 ≤ i) (h1 : i ≤ 9223372036854775807) (g0 : 0 ≤ u) (g1 : u ≤ 18446744073709551615) :
    Calls Try.prog 6 #[V 12 i u f s b] w (Ans w fun r => r = true → feq f f = true ∧ ZF i u s b) := by
  cases hf : feq f f
  · go_enter Try.func6, Try.ntmps6
    go_wp2
    all_goals
      go_ret
      exact ⟨_, rfl, fun h => by simp at h <;> omega, by go_grown⟩
  · rcases zf_cases i u s b with ⟨rfl, rfl, h3, rfl⟩ | h2 | ⟨rfl, h2⟩ | ⟨rfl, rfl, h3⟩ | ⟨rfl, rfl, h3, rfl⟩
    · have HZ := Lib.hid (show ZF 0 0 s false from ⟨rfl, rfl, h3, rfl⟩)
      go_enter Try.func6, Try.ntmps6
      go_wp2
      all_goals
        go_ret
        exact ⟨_, rfl, fun _ => ⟨trivial, HZ.out⟩, by go_grown⟩
    all_goals
      go_enter Try.func6, Try.ntmps6
      go_wp2
      all_goals
        go_ret
        exact ⟨_, rfl, fun h => by simp at h <;> omega, by go_grown⟩

set_option maxHeartbeats 2000000 in
set_option maxRecDepth 100000 in
theorem fits_13 (w : World) (i u : Int) (f : Nat) (s : ByteArray) (b : Bool) (h0 : -9223372036854775808 ≤ i) (h1 : i ≤ 9223372036854775807) (g0 : 0 ≤ u) (g1 : u ≤ 18446744073709551615) :
    Calls Try.prog 6 #[V 13 i u f s b] w (Ans w fun r => True) := by
  go_enter Try.func6, Try.ntmps6
  go_wp2
  all_goals
    go_ret
    exact ⟨_, rfl, trivial, by go_grown⟩

set_option maxHeartbeats 2000000 in
set_option maxRecDepth 100000 in
theorem fits_14 (w : World) (i u : Int) (f : Nat) (s : ByteArray) (b : Bool) (h0 : -9223372036854775808 ≤ i) (h1 : i ≤ 9223372036854775807) (g0 : 0 ≤ u) (g1 : u ≤ 18446744073709551615) :
    Calls Try.prog 6 #[V 14 i u f s b] w (Ans w fun r => True) := by
  go_enter Try.func6, Try.ntmps6
  go_wp2
  all_goals
    go_ret
    exact ⟨_, rfl, trivial, by go_grown⟩

set_option maxHeartbeats 2000000 in
set_option maxRecDepth 100000 in
theorem fits_0 (w : World) (i u : Int) (f : Nat) (s : ByteArray) (b : Bool) (h0 : -9223372036854775808 ≤ i) (h1 : i ≤ 9223372036854775807) (g0 : 0 ≤ u) (g1 : u ≤ 18446744073709551615) :
    Calls Try.prog 6 #[V 0 i u f s b] w (Ans w fun r => True) := by
  go_enter Try.func6, Try.ntmps6
  go_wp2
  all_goals
    go_ret
    exact ⟨_, rfl, trivial, by go_grown⟩

set_option maxHeartbeats 2000000 in
set_option maxRecDepth 100000 in
theorem fits_no (k : Int) (hk : k < 0 ∨ 14 < k) (w : World) (i u : Int) (f : Nat) (s : ByteArray) (b : Bool) (h0 : -9223372036854775808 ≤ i) (h1 : i ≤ 9223372036854775807) (g0 : 0 ≤ u) (g1 : u ≤ 18446744073709551615) :
    Calls Try.prog 6 #[V k i u f s b] w (Ans w fun r => r = false) := by
  rcases hk with hk | hk
  all_goals
    go_enter Try.func6, Try.ntmps6
    go_wp2
    all_goals
      go_ret
      exact ⟨_, rfl, by simp <;> omega, by go_grown⟩
end Go.Proofs.Ytaabfmmfneajoaa.Num
