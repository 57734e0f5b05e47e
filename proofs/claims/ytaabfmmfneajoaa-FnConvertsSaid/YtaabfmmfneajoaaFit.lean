/- The walk of spec.Fits. -/
import Derived.Test.YtaabfmmfneajoaaEq
import Derived.Deep.QuietTactic
import Derived.BigQuiet
import Derived.OwnWalk
import Derived.Outline
import Derived.WalkSpells
import Derived.WalkSmall
import Derived.Handy
import Derived.WalkLawsBesides
import Derived.RegionTactic
import Derived.Lib.Hide
set_option linter.unusedSimpArgs false
set_option linter.unusedVariables false
namespace Go.Proofs.Ytaabfmmfneajoaa.Num
open Go.RowKit

/-- the parts that a value of another kind has not -/
def Z1 (u : Int) (f : Nat) (s : ByteArray) (b : Bool) : Prop := u = 0 ∧ feq f 0 = true ∧ s.toList = [] ∧ b = false

/-- it answers; the answer meets p -/
def Ans (w : World) (p : Bool → Prop) (e : Ending) (w' : World) : Prop := ∃ b, e = .returned (.bool b) ∧ p b ∧ Below w.heap.size w w'

theorem z1_cases (u : Int) (f : Nat) (s : ByteArray) (b : Bool) : (u = 0 ∧ feq f 0 = true ∧ s.toList = [] ∧ b = false) ∨ ¬ u = 0 ∨ (u = 0 ∧ feq f 0 = false) ∨ (u = 0 ∧ feq f 0 = true ∧ ¬ s.toList = []) ∨ (u = 0 ∧ feq f 0 = true ∧ s.toList = [] ∧ b = true) := by
  by_cases h1 : u = 0
  · cases h2 : feq f 0
    · simp [h1]
    · by_cases h3 : s.toList = []
      · cases b <;> simp [h1, h3]
      · simp [h1, h3]
  · simp [h1]

set_option maxHeartbeats 2000000 in
set_option maxRecDepth 100000 in
theorem fits_1 (w : World) (i u : Int) (f : Nat) (s : ByteArray) (b : Bool) (h0 : -9223372036854775808 ≤ i) (h1 : i ≤ 9223372036854775807) (g0 : 0 ≤ u) (g1 : u ≤ 18446744073709551615) :
    Calls Try.prog 6 #[V 1 i u f s b] w (Ans w fun r => r = true → Z1 u f s b) := by
  rcases z1_cases u f s b with ⟨rfl, h2, h3, rfl⟩ | h2 | ⟨rfl, h2⟩ | ⟨rfl, h2, h3⟩ | ⟨rfl, h2, h3, rfl⟩
  · have HZ := Lib.hid (show Z1 0 f s false from ⟨rfl, h2, h3, rfl⟩)
    go_enter Try.func6, Try.ntmps6
    go_wp2
    go_quiet (fail)
    go_wp2
    go_ret
    exact ⟨_, rfl, fun _ => HZ.out, below_drewN (by go_grown) _⟩
  all_goals
    go_enter Try.func6, Try.ntmps6
    go_wp2
    go_quiet (fail)
    go_wp2
    go_ret
    exact ⟨_, rfl, fun h => by simp at h, below_drewN (by go_grown) _⟩

set_option maxHeartbeats 2000000 in
set_option maxRecDepth 100000 in
theorem fits_2 (w : World) (i u : Int) (f : Nat) (s : ByteArray) (b : Bool) (h0 : -9223372036854775808 ≤ i) (h1 : i ≤ 9223372036854775807) (g0 : 0 ≤ u) (g1 : u ≤ 18446744073709551615) :
    Calls Try.prog 6 #[V 2 i u f s b] w (Ans w fun r => r = true → Z1 u f s b ∧ -128 ≤ i ∧ i < 128) := by
  rcases z1_cases u f s b with ⟨rfl, h2, h3, rfl⟩ | h2 | ⟨rfl, h2⟩ | ⟨rfl, h2, h3⟩ | ⟨rfl, h2, h3, rfl⟩
  · have HZ := Lib.hid (show Z1 0 f s false from ⟨rfl, h2, h3, rfl⟩)
    by_cases hl : -128 ≤ i
    · by_cases hh : i < 128
      · have dl : decide (i < -128) = false := by simp; omega
        go_enter Try.func6, Try.ntmps6
        go_wp2
        go_quiet (fail)
        go_wp2
        go_ret
        exact ⟨_, rfl, fun _ => ⟨HZ.out, hl, hh⟩, below_drewN (by go_grown) _⟩
      · have dh : decide (i < 128) = false := by simp; omega
        go_enter Try.func6, Try.ntmps6
        go_wp2
        go_quiet (fail)
        go_wp2
        go_ret
        exact ⟨_, rfl, fun h => by simp at h, below_drewN (by go_grown) _⟩
    · have dl : decide (-128 ≤ i) = false := by simp; omega
      go_enter Try.func6, Try.ntmps6
      go_wp2
      go_quiet (fail)
      go_wp2
      go_ret
      exact ⟨_, rfl, fun h => by simp at h, below_drewN (by go_grown) _⟩
  all_goals
    go_enter Try.func6, Try.ntmps6
    go_wp2
    go_quiet (fail)
    go_wp2
    go_ret
    exact ⟨_, rfl, fun h => by simp at h, below_drewN (by go_grown) _⟩

set_option maxHeartbeats 2000000 in
set_option maxRecDepth 100000 in
theorem fits_3 (w : World) (i u : Int) (f : Nat) (s : ByteArray) (b : Bool) (h0 : -9223372036854775808 ≤ i) (h1 : i ≤ 9223372036854775807) (g0 : 0 ≤ u) (g1 : u ≤ 18446744073709551615) :
    Calls Try.prog 6 #[V 3 i u f s b] w (Ans w fun r => r = true → Z1 u f s b ∧ -32768 ≤ i ∧ i < 32768) := by
  rcases z1_cases u f s b with ⟨rfl, h2, h3, rfl⟩ | h2 | ⟨rfl, h2⟩ | ⟨rfl, h2, h3⟩ | ⟨rfl, h2, h3, rfl⟩
  · have HZ := Lib.hid (show Z1 0 f s false from ⟨rfl, h2, h3, rfl⟩)
    by_cases hl : -32768 ≤ i
    · by_cases hh : i < 32768
      · have dl : decide (i < -32768) = false := by simp; omega
        go_enter Try.func6, Try.ntmps6
        go_wp2
        go_quiet (fail)
        go_wp2
        go_ret
        exact ⟨_, rfl, fun _ => ⟨HZ.out, hl, hh⟩, below_drewN (by go_grown) _⟩
      · have dh : decide (i < 32768) = false := by simp; omega
        go_enter Try.func6, Try.ntmps6
        go_wp2
        go_quiet (fail)
        go_wp2
        go_ret
        exact ⟨_, rfl, fun h => by simp at h, below_drewN (by go_grown) _⟩
    · have dl : decide (-32768 ≤ i) = false := by simp; omega
      go_enter Try.func6, Try.ntmps6
      go_wp2
      go_quiet (fail)
      go_wp2
      go_ret
      exact ⟨_, rfl, fun h => by simp at h, below_drewN (by go_grown) _⟩
  all_goals
    go_enter Try.func6, Try.ntmps6
    go_wp2
    go_quiet (fail)
    go_wp2
    go_ret
    exact ⟨_, rfl, fun h => by simp at h, below_drewN (by go_grown) _⟩

set_option maxHeartbeats 2000000 in
set_option maxRecDepth 100000 in
theorem fits_4 (w : World) (i u : Int) (f : Nat) (s : ByteArray) (b : Bool) (h0 : -9223372036854775808 ≤ i) (h1 : i ≤ 9223372036854775807) (g0 : 0 ≤ u) (g1 : u ≤ 18446744073709551615) :
    Calls Try.prog 6 #[V 4 i u f s b] w (Ans w fun r => r = true → Z1 u f s b ∧ -2147483648 ≤ i ∧ i < 2147483648) := by
  rcases z1_cases u f s b with ⟨rfl, h2, h3, rfl⟩ | h2 | ⟨rfl, h2⟩ | ⟨rfl, h2, h3⟩ | ⟨rfl, h2, h3, rfl⟩
  · have HZ := Lib.hid (show Z1 0 f s false from ⟨rfl, h2, h3, rfl⟩)
    by_cases hl : -2147483648 ≤ i
    · by_cases hh : i < 2147483648
      · have dl : decide (i < -2147483648) = false := by simp; omega
        go_enter Try.func6, Try.ntmps6
        go_wp2
        go_quiet (fail)
        go_wp2
        go_ret
        exact ⟨_, rfl, fun _ => ⟨HZ.out, hl, hh⟩, below_drewN (by go_grown) _⟩
      · have dh : decide (i < 2147483648) = false := by simp; omega
        go_enter Try.func6, Try.ntmps6
        go_wp2
        go_quiet (fail)
        go_wp2
        go_ret
        exact ⟨_, rfl, fun h => by simp at h, below_drewN (by go_grown) _⟩
    · have dl : decide (-2147483648 ≤ i) = false := by simp; omega
      go_enter Try.func6, Try.ntmps6
      go_wp2
      go_quiet (fail)
      go_wp2
      go_ret
      exact ⟨_, rfl, fun h => by simp at h, below_drewN (by go_grown) _⟩
  all_goals
    go_enter Try.func6, Try.ntmps6
    go_wp2
    go_quiet (fail)
    go_wp2
    go_ret
    exact ⟨_, rfl, fun h => by simp at h, below_drewN (by go_grown) _⟩

set_option maxHeartbeats 2000000 in
set_option maxRecDepth 100000 in
theorem fits_5 (w : World) (i u : Int) (f : Nat) (s : ByteArray) (b : Bool) (h0 : -9223372036854775808 ≤ i) (h1 : i ≤ 9223372036854775807) (g0 : 0 ≤ u) (g1 : u ≤ 18446744073709551615) :
    Calls Try.prog 6 #[V 5 i u f s b] w (Ans w fun r => r = true → Z1 u f s b) := by
  rcases z1_cases u f s b with ⟨rfl, h2, h3, rfl⟩ | h2 | ⟨rfl, h2⟩ | ⟨rfl, h2, h3⟩ | ⟨rfl, h2, h3, rfl⟩
  · have HZ := Lib.hid (show Z1 0 f s false from ⟨rfl, h2, h3, rfl⟩)
    go_enter Try.func6, Try.ntmps6
    go_wp2
    go_quiet (fail)
    go_wp2
    go_ret
    exact ⟨_, rfl, fun _ => HZ.out, below_drewN (by go_grown) _⟩
  all_goals
    go_enter Try.func6, Try.ntmps6
    go_wp2
    go_quiet (fail)
    go_wp2
    go_ret
    exact ⟨_, rfl, fun h => by simp at h, below_drewN (by go_grown) _⟩

end Go.Proofs.Ytaabfmmfneajoaa.Num
