/- The walk of spec.Fits, the kinds from 6 on. -/
import Derived.Test.YtaabfmmfneajoaaFit
set_option linter.unusedSimpArgs false
set_option linter.unusedVariables false
namespace Go.Proofs.Ytaabfmmfneajoaa.Num
open Go.RowKit

def Z3 (i u : Int) (s : ByteArray) (b : Bool) : Prop := i = 0 ∧ u = 0 ∧ s.toList = [] ∧ b = false
theorem z3_cases (i u : Int) (s : ByteArray) (b : Bool) : (i = 0 ∧ u = 0 ∧ s.toList = [] ∧ b = false) ∨ ¬ i = 0 ∨ (i = 0 ∧ ¬ u = 0) ∨ (i = 0 ∧ u = 0 ∧ ¬ s.toList = []) ∨ (i = 0 ∧ u = 0 ∧ s.toList = [] ∧ b = true) := by
  by_cases h1 : i = 0
  · by_cases h2 : u = 0
    · by_cases h3 : s.toList = []
      · cases b <;> simp [h1, h2, h3]
      · simp [h1, h2, h3]
    · simp [h1, h2]
  · simp [h1]

set_option maxHeartbeats 2000000 in
set_option maxRecDepth 100000 in
theorem fits_6 (w : World) (i u : Int) (f : Nat) (s : ByteArray) (b : Bool) (h0 : -9223372036854775808 ≤ i) (h1 : i ≤ 9223372036854775807) (g0 : 0 ≤ u) (g1 : u ≤ 18446744073709551615) :
    Calls Try.prog 6 #[V 6 i u f s b] w (Ans w fun r => r = true → Z1 i f s b ∧ u ≤ 9223372036854775807) := by
  rcases z1_cases i f s b with ⟨rfl, h2, h3, rfl⟩ | h2 | ⟨rfl, h2⟩ | ⟨rfl, h2, h3⟩ | ⟨rfl, h2, h3, rfl⟩
  · have HZ := Lib.hid (show Z1 0 f s false from ⟨rfl, h2, h3, rfl⟩)
    by_cases hl : u < 9223372036854775808
    · go_enter Try.func6, Try.ntmps6
      go_wp2
      go_quiet (fail)
      go_wp2
      go_ret
      exact ⟨_, rfl, fun _ => ⟨HZ.out, by omega⟩, below_drewN (by go_grown) _⟩
    · go_enter Try.func6, Try.ntmps6
      go_wp2
      go_quiet (fail)
      go_wp2
      go_ret
      exact ⟨_, rfl, fun h => by simp at h <;> omega, below_drewN (by go_grown) _⟩
  all_goals
    go_enter Try.func6, Try.ntmps6
    go_wp2
    go_quiet (fail)
    go_wp2
    go_ret
    exact ⟨_, rfl, fun h => by simp at h <;> omega, below_drewN (by go_grown) _⟩

set_option maxHeartbeats 2000000 in
set_option maxRecDepth 100000 in
theorem fits_7 (w : World) (i u : Int) (f : Nat) (s : ByteArray) (b : Bool) (h0 : -9223372036854775808 ≤ i) (h1 : i ≤ 9223372036854775807) (g0 : 0 ≤ u) (g1 : u ≤ 18446744073709551615) :
    Calls Try.prog 6 #[V 7 i u f s b] w (Ans w fun r => r = true → Z1 i f s b ∧ u ≤ 255) := by
  rcases z1_cases i f s b with ⟨rfl, h2, h3, rfl⟩ | h2 | ⟨rfl, h2⟩ | ⟨rfl, h2, h3⟩ | ⟨rfl, h2, h3, rfl⟩
  · have HZ := Lib.hid (show Z1 0 f s false from ⟨rfl, h2, h3, rfl⟩)
    by_cases hl : u ≤ 255
    · go_enter Try.func6, Try.ntmps6
      go_wp2
      go_quiet (fail)
      go_wp2
      go_ret
      exact ⟨_, rfl, fun _ => ⟨HZ.out, by omega⟩, below_drewN (by go_grown) _⟩
    · go_enter Try.func6, Try.ntmps6
      go_wp2
      go_quiet (fail)
      go_wp2
      go_ret
      exact ⟨_, rfl, fun h => by simp at h <;> omega, below_drewN (by go_grown) _⟩
  all_goals
    go_enter Try.func6, Try.ntmps6
    go_wp2
    go_quiet (fail)
    go_wp2
    go_ret
    exact ⟨_, rfl, fun h => by simp at h <;> omega, below_drewN (by go_grown) _⟩

set_option maxHeartbeats 2000000 in
set_option maxRecDepth 100000 in
theorem fits_8 (w : World) (i u : Int) (f : Nat) (s : ByteArray) (b : Bool) (h0 : -9223372036854775808 ≤ i) (h1 : i ≤ 9223372036854775807) (g0 : 0 ≤ u) (g1 : u ≤ 18446744073709551615) :
    Calls Try.prog 6 #[V 8 i u f s b] w (Ans w fun r => r = true → Z1 i f s b ∧ u ≤ 65535) := by
  rcases z1_cases i f s b with ⟨rfl, h2, h3, rfl⟩ | h2 | ⟨rfl, h2⟩ | ⟨rfl, h2, h3⟩ | ⟨rfl, h2, h3, rfl⟩
  · have HZ := Lib.hid (show Z1 0 f s false from ⟨rfl, h2, h3, rfl⟩)
    by_cases hl : u ≤ 65535
    · go_enter Try.func6, Try.ntmps6
      go_wp2
      go_quiet (fail)
      go_wp2
      go_ret
      exact ⟨_, rfl, fun _ => ⟨HZ.out, by omega⟩, below_drewN (by go_grown) _⟩
    · go_enter Try.func6, Try.ntmps6
      go_wp2
      go_quiet (fail)
      go_wp2
      go_ret
      exact ⟨_, rfl, fun h => by simp at h <;> omega, below_drewN (by go_grown) _⟩
  all_goals
    go_enter Try.func6, Try.ntmps6
    go_wp2
    go_quiet (fail)
    go_wp2
    go_ret
    exact ⟨_, rfl, fun h => by simp at h <;> omega, below_drewN (by go_grown) _⟩

set_option maxHeartbeats 2000000 in
set_option maxRecDepth 100000 in
theorem fits_9 (w : World) (i u : Int) (f : Nat) (s : ByteArray) (b : Bool) (h0 : -9223372036854775808 ≤ i) (h1 : i ≤ 9223372036854775807) (g0 : 0 ≤ u) (g1 : u ≤ 18446744073709551615) :
    Calls Try.prog 6 #[V 9 i u f s b] w (Ans w fun r => r = true → Z1 i f s b ∧ u ≤ 4294967295) := by
  rcases z1_cases i f s b with ⟨rfl, h2, h3, rfl⟩ | h2 | ⟨rfl, h2⟩ | ⟨rfl, h2, h3⟩ | ⟨rfl, h2, h3, rfl⟩
  · have HZ := Lib.hid (show Z1 0 f s false from ⟨rfl, h2, h3, rfl⟩)
    by_cases hl : u ≤ 4294967295
    · go_enter Try.func6, Try.ntmps6
      go_wp2
      go_quiet (fail)
      go_wp2
      go_ret
      exact ⟨_, rfl, fun _ => ⟨HZ.out, by omega⟩, below_drewN (by go_grown) _⟩
    · go_enter Try.func6, Try.ntmps6
      go_wp2
      go_quiet (fail)
      go_wp2
      go_ret
      exact ⟨_, rfl, fun h => by simp at h <;> omega, below_drewN (by go_grown) _⟩
  all_goals
    go_enter Try.func6, Try.ntmps6
    go_wp2
    go_quiet (fail)
    go_wp2
    go_ret
    exact ⟨_, rfl, fun h => by simp at h <;> omega, below_drewN (by go_grown) _⟩

set_option maxHeartbeats 2000000 in
set_option maxRecDepth 100000 in
theorem fits_10 (w : World) (i u : Int) (f : Nat) (s : ByteArray) (b : Bool) (h0 : -9223372036854775808 ≤ i) (h1 : i ≤ 9223372036854775807) (g0 : 0 ≤ u) (g1 : u ≤ 18446744073709551615) :
    Calls Try.prog 6 #[V 10 i u f s b] w (Ans w fun r => r = true → Z1 i f s b ∧ u ≤ 9223372036854775807) := by
  rcases z1_cases i f s b with ⟨rfl, h2, h3, rfl⟩ | h2 | ⟨rfl, h2⟩ | ⟨rfl, h2, h3⟩ | ⟨rfl, h2, h3, rfl⟩
  · have HZ := Lib.hid (show Z1 0 f s false from ⟨rfl, h2, h3, rfl⟩)
    by_cases hl : u < 9223372036854775808
    · go_enter Try.func6, Try.ntmps6
      go_wp2
      go_quiet (fail)
      go_wp2
      go_ret
      exact ⟨_, rfl, fun _ => ⟨HZ.out, by omega⟩, below_drewN (by go_grown) _⟩
    · go_enter Try.func6, Try.ntmps6
      go_wp2
      go_quiet (fail)
      go_wp2
      go_ret
      exact ⟨_, rfl, fun h => by simp at h <;> omega, below_drewN (by go_grown) _⟩
  all_goals
    go_enter Try.func6, Try.ntmps6
    go_wp2
    go_quiet (fail)
    go_wp2
    go_ret
    exact ⟨_, rfl, fun h => by simp at h <;> omega, below_drewN (by go_grown) _⟩

end Go.Proofs.Ytaabfmmfneajoaa.Num
