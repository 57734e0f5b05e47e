/- What impl.Value.any answers; spec.Fits, whatever the kind. (Printed by gen2.py.) -/
import Derived.Test.YtidmaimeanakeaaDy
import Derived.Test.YtidmaimeanakeaaFitB
import Derived.Test.YtidmaimeanakeaaFitC
import Derived.Test.YtidmaimeanakeaaFitD
set_option linter.unusedSimpArgs false
set_option linter.unusedVariables false
namespace Go.Proofs.Ytidmaimeanakeaa.Num
open Go.RowKit

def Fit (k i u : Int) : Prop := 0 ≤ k ∧ k ≤ 14 ∧ (k = 2 → -128 ≤ i ∧ i < 128) ∧ (k = 3 → -32768 ≤ i ∧ i < 32768) ∧ (k = 4 → -2147483648 ≤ i ∧ i < 2147483648) ∧
  (k = 6 → u ≤ 9223372036854775807) ∧ (k = 7 → u ≤ 255) ∧ (k = 8 → u ≤ 65535) ∧ (k = 9 → u ≤ 4294967295) ∧ (k = 10 → u ≤ 9223372036854775807)
def oi (k i u : Int) : Option Int := if 1 ≤ k ∧ k ≤ 10 then some (if 5 < k then u else i) else none
def Any (k i u : Int) (w : World) (e : Ending) (w' : World) : Prop := ∃ v, e = .returned v ∧ Dy (oi k i u) v ∧ Below w.heap.size w w'
set_option maxHeartbeats 2000000 in
theorem any_0 (w : World) (i u : Int) (f : Nat) (s : ByteArray) (b : Bool) (h0 : -9223372036854775808 ≤ i) (h1 : i ≤ 9223372036854775807) (g0 : 0 ≤ u) (g1 : u ≤ 18446744073709551615) (hr : True) : Calls Try.prog 12 #[V 0 i u f s b] w (Any 0 i u w) := by
  go_enter Try.func12, Try.ntmps12
  go_wp2
  go_ret
  exact ⟨_, rfl, .nil, by first | exact below_drewN (by go_grown) _ | go_grown⟩
set_option maxHeartbeats 2000000 in
theorem any_1 (w : World) (i u : Int) (f : Nat) (s : ByteArray) (b : Bool) (h0 : -9223372036854775808 ≤ i) (h1 : i ≤ 9223372036854775807) (g0 : 0 ≤ u) (g1 : u ≤ 18446744073709551615) (hr : True) : Calls Try.prog 12 #[V 1 i u f s b] w (Any 1 i u w) := by
  go_enter Try.func12, Try.ntmps12
  go_wp2
  go_ret
  exact ⟨_, rfl, .i64 i (by omega) (by omega), by first | exact below_drewN (by go_grown) _ | go_grown⟩
set_option maxHeartbeats 2000000 in
theorem any_2 (w : World) (i u : Int) (f : Nat) (s : ByteArray) (b : Bool) (h0 : -9223372036854775808 ≤ i) (h1 : i ≤ 9223372036854775807) (g0 : 0 ≤ u) (g1 : u ≤ 18446744073709551615) (hr : -128 ≤ i ∧ i < 128) : Calls Try.prog 12 #[V 2 i u f s b] w (Any 2 i u w) := by
  obtain ⟨hr0, hr1⟩ := hr
  go_enter Try.func12, Try.ntmps12
  go_wp2
  go_ret
  exact ⟨_, rfl, .i8 i (by omega) (by omega), by first | exact below_drewN (by go_grown) _ | go_grown⟩
set_option maxHeartbeats 2000000 in
theorem any_3 (w : World) (i u : Int) (f : Nat) (s : ByteArray) (b : Bool) (h0 : -9223372036854775808 ≤ i) (h1 : i ≤ 9223372036854775807) (g0 : 0 ≤ u) (g1 : u ≤ 18446744073709551615) (hr : -32768 ≤ i ∧ i < 32768) : Calls Try.prog 12 #[V 3 i u f s b] w (Any 3 i u w) := by
  obtain ⟨hr0, hr1⟩ := hr
  go_enter Try.func12, Try.ntmps12
  go_wp2
  go_ret
  exact ⟨_, rfl, .i16 i (by omega) (by omega), by first | exact below_drewN (by go_grown) _ | go_grown⟩
set_option maxHeartbeats 2000000 in
theorem any_4 (w : World) (i u : Int) (f : Nat) (s : ByteArray) (b : Bool) (h0 : -9223372036854775808 ≤ i) (h1 : i ≤ 9223372036854775807) (g0 : 0 ≤ u) (g1 : u ≤ 18446744073709551615) (hr : -2147483648 ≤ i ∧ i < 2147483648) : Calls Try.prog 12 #[V 4 i u f s b] w (Any 4 i u w) := by
  obtain ⟨hr0, hr1⟩ := hr
  go_enter Try.func12, Try.ntmps12
  go_wp2
  go_ret
  exact ⟨_, rfl, .i32 i (by omega) (by omega), by first | exact below_drewN (by go_grown) _ | go_grown⟩
set_option maxHeartbeats 2000000 in
theorem any_5 (w : World) (i u : Int) (f : Nat) (s : ByteArray) (b : Bool) (h0 : -9223372036854775808 ≤ i) (h1 : i ≤ 9223372036854775807) (g0 : 0 ≤ u) (g1 : u ≤ 18446744073709551615) (hr : True) : Calls Try.prog 12 #[V 5 i u f s b] w (Any 5 i u w) := by
  go_enter Try.func12, Try.ntmps12
  go_wp2
  go_ret
  exact ⟨_, rfl, .l64 i (by omega) (by omega), by first | exact below_drewN (by go_grown) _ | go_grown⟩
set_option maxHeartbeats 2000000 in
theorem any_6 (w : World) (i u : Int) (f : Nat) (s : ByteArray) (b : Bool) (h0 : -9223372036854775808 ≤ i) (h1 : i ≤ 9223372036854775807) (g0 : 0 ≤ u) (g1 : u ≤ 18446744073709551615) (hr : u ≤ 9223372036854775807) : Calls Try.prog 12 #[V 6 i u f s b] w (Any 6 i u w) := by
  go_enter Try.func12, Try.ntmps12
  go_wp2
  go_ret
  exact ⟨_, rfl, .u64 u (by omega) (by omega), by first | exact below_drewN (by go_grown) _ | go_grown⟩
set_option maxHeartbeats 2000000 in
theorem any_7 (w : World) (i u : Int) (f : Nat) (s : ByteArray) (b : Bool) (h0 : -9223372036854775808 ≤ i) (h1 : i ≤ 9223372036854775807) (g0 : 0 ≤ u) (g1 : u ≤ 18446744073709551615) (hr : u ≤ 255) : Calls Try.prog 12 #[V 7 i u f s b] w (Any 7 i u w) := by
  go_enter Try.func12, Try.ntmps12
  go_wp2
  go_ret
  exact ⟨_, rfl, .u8 u (by omega) (by omega), by first | exact below_drewN (by go_grown) _ | go_grown⟩
set_option maxHeartbeats 2000000 in
theorem any_8 (w : World) (i u : Int) (f : Nat) (s : ByteArray) (b : Bool) (h0 : -9223372036854775808 ≤ i) (h1 : i ≤ 9223372036854775807) (g0 : 0 ≤ u) (g1 : u ≤ 18446744073709551615) (hr : u ≤ 65535) : Calls Try.prog 12 #[V 8 i u f s b] w (Any 8 i u w) := by
  go_enter Try.func12, Try.ntmps12
  go_wp2
  go_ret
  exact ⟨_, rfl, .u16 u (by omega) (by omega), by first | exact below_drewN (by go_grown) _ | go_grown⟩
set_option maxHeartbeats 2000000 in
theorem any_9 (w : World) (i u : Int) (f : Nat) (s : ByteArray) (b : Bool) (h0 : -9223372036854775808 ≤ i) (h1 : i ≤ 9223372036854775807) (g0 : 0 ≤ u) (g1 : u ≤ 18446744073709551615) (hr : u ≤ 4294967295) : Calls Try.prog 12 #[V 9 i u f s b] w (Any 9 i u w) := by
  go_enter Try.func12, Try.ntmps12
  go_wp2
  go_ret
  exact ⟨_, rfl, .u32 u (by omega) (by omega), by first | exact below_drewN (by go_grown) _ | go_grown⟩
set_option maxHeartbeats 2000000 in
theorem any_10 (w : World) (i u : Int) (f : Nat) (s : ByteArray) (b : Bool) (h0 : -9223372036854775808 ≤ i) (h1 : i ≤ 9223372036854775807) (g0 : 0 ≤ u) (g1 : u ≤ 18446744073709551615) (hr : u ≤ 9223372036854775807) : Calls Try.prog 12 #[V 10 i u f s b] w (Any 10 i u w) := by
  go_enter Try.func12, Try.ntmps12
  go_wp2
  go_ret
  exact ⟨_, rfl, .m64 u (by omega) (by omega), by first | exact below_drewN (by go_grown) _ | go_grown⟩
set_option maxHeartbeats 2000000 in
theorem any_11 (w : World) (i u : Int) (f : Nat) (s : ByteArray) (b : Bool) (h0 : -9223372036854775808 ≤ i) (h1 : i ≤ 9223372036854775807) (g0 : 0 ≤ u) (g1 : u ≤ 18446744073709551615) (hr : True) : Calls Try.prog 12 #[V 11 i u f s b] w (Any 11 i u w) := by
  go_enter Try.func12, Try.ntmps12
  go_wp2
  go_ret
  exact ⟨_, rfl, .f32 _, by first | exact below_drewN (by go_grown) _ | go_grown⟩
set_option maxHeartbeats 2000000 in
theorem any_12 (w : World) (i u : Int) (f : Nat) (s : ByteArray) (b : Bool) (h0 : -9223372036854775808 ≤ i) (h1 : i ≤ 9223372036854775807) (g0 : 0 ≤ u) (g1 : u ≤ 18446744073709551615) (hr : True) : Calls Try.prog 12 #[V 12 i u f s b] w (Any 12 i u w) := by
  go_enter Try.func12, Try.ntmps12
  go_wp2
  go_ret
  exact ⟨_, rfl, .f64 f, by first | exact below_drewN (by go_grown) _ | go_grown⟩
set_option maxHeartbeats 2000000 in
theorem any_13 (w : World) (i u : Int) (f : Nat) (s : ByteArray) (b : Bool) (h0 : -9223372036854775808 ≤ i) (h1 : i ≤ 9223372036854775807) (g0 : 0 ≤ u) (g1 : u ≤ 18446744073709551615) (hr : True) : Calls Try.prog 12 #[V 13 i u f s b] w (Any 13 i u w) := by
  go_enter Try.func12, Try.ntmps12
  go_wp2
  go_ret
  exact ⟨_, rfl, .text s, by first | exact below_drewN (by go_grown) _ | go_grown⟩
set_option maxHeartbeats 2000000 in
theorem any_14 (w : World) (i u : Int) (f : Nat) (s : ByteArray) (b : Bool) (h0 : -9223372036854775808 ≤ i) (h1 : i ≤ 9223372036854775807) (g0 : 0 ≤ u) (g1 : u ≤ 18446744073709551615) (hr : True) : Calls Try.prog 12 #[V 14 i u f s b] w (Any 14 i u w) := by
  go_enter Try.func12, Try.ntmps12
  go_wp2
  go_ret
  exact ⟨_, rfl, .truth b, by first | exact below_drewN (by go_grown) _ | go_grown⟩
theorem any_all (k : Int) (w : World) (i u : Int) (f : Nat) (s : ByteArray) (b : Bool) (h0 : -9223372036854775808 ≤ i) (h1 : i ≤ 9223372036854775807) (g0 : 0 ≤ u) (g1 : u ≤ 18446744073709551615) (hf : Fit k i u) : Calls Try.prog 12 #[V k i u f s b] w (Any k i u w) := by
  unfold Fit at hf
  have : k = 0 ∨ k = 1 ∨ k = 2 ∨ k = 3 ∨ k = 4 ∨ k = 5 ∨ k = 6 ∨ k = 7 ∨ k = 8 ∨ k = 9 ∨ k = 10 ∨ k = 11 ∨ k = 12 ∨ k = 13 ∨ k = 14 := by omega
  rcases this with rfl | rfl | rfl | rfl | rfl | rfl | rfl | rfl | rfl | rfl | rfl | rfl | rfl | rfl | rfl
  · exact any_0 w i u f s b h0 h1 g0 g1 trivial
  · exact any_1 w i u f s b h0 h1 g0 g1 trivial
  · exact any_2 w i u f s b h0 h1 g0 g1 (by omega)
  · exact any_3 w i u f s b h0 h1 g0 g1 (by omega)
  · exact any_4 w i u f s b h0 h1 g0 g1 (by omega)
  · exact any_5 w i u f s b h0 h1 g0 g1 trivial
  · exact any_6 w i u f s b h0 h1 g0 g1 (by omega)
  · exact any_7 w i u f s b h0 h1 g0 g1 (by omega)
  · exact any_8 w i u f s b h0 h1 g0 g1 (by omega)
  · exact any_9 w i u f s b h0 h1 g0 g1 (by omega)
  · exact any_10 w i u f s b h0 h1 g0 g1 (by omega)
  · exact any_11 w i u f s b h0 h1 g0 g1 trivial
  · exact any_12 w i u f s b h0 h1 g0 g1 trivial
  · exact any_13 w i u f s b h0 h1 g0 g1 trivial
  · exact any_14 w i u f s b h0 h1 g0 g1 trivial
theorem fits_all (k : Int) (w : World) (i u : Int) (f : Nat) (s : ByteArray) (b : Bool) (h0 : -9223372036854775808 ≤ i) (h1 : i ≤ 9223372036854775807) (g0 : 0 ≤ u) (g1 : u ≤ 18446744073709551615) : Calls Try.prog 9 #[V k i u f s b] w (Ans w fun r => r = true → Fit k i u) := by
  by_cases hk : k < 0 ∨ 14 < k
  · exact (fits_no k hk w i u f s b h0 h1 g0 g1).mono fun e w' ⟨r, he, hr, hb⟩ => ⟨r, he, fun h => (by simp [hr] at h), hb⟩
  have : k = 0 ∨ k = 1 ∨ k = 2 ∨ k = 3 ∨ k = 4 ∨ k = 5 ∨ k = 6 ∨ k = 7 ∨ k = 8 ∨ k = 9 ∨ k = 10 ∨ k = 11 ∨ k = 12 ∨ k = 13 ∨ k = 14 := by omega
  rcases this with rfl | rfl | rfl | rfl | rfl | rfl | rfl | rfl | rfl | rfl | rfl | rfl | rfl | rfl | rfl
  · exact (fits_0 w i u f s b h0 h1 g0 g1).mono fun e w' ⟨r, he, hr, hb⟩ => ⟨r, he, fun h => (by first | (unfold Fit; omega) | (have := hr h; unfold Fit; omega)), hb⟩
  · exact (fits_1 w i u f s b h0 h1 g0 g1).mono fun e w' ⟨r, he, hr, hb⟩ => ⟨r, he, fun h => (by first | (unfold Fit; omega) | (have := hr h; unfold Fit; omega)), hb⟩
  · exact (fits_2 w i u f s b h0 h1 g0 g1).mono fun e w' ⟨r, he, hr, hb⟩ => ⟨r, he, fun h => (by first | (unfold Fit; omega) | (have := hr h; unfold Fit; omega)), hb⟩
  · exact (fits_3 w i u f s b h0 h1 g0 g1).mono fun e w' ⟨r, he, hr, hb⟩ => ⟨r, he, fun h => (by first | (unfold Fit; omega) | (have := hr h; unfold Fit; omega)), hb⟩
  · exact (fits_4 w i u f s b h0 h1 g0 g1).mono fun e w' ⟨r, he, hr, hb⟩ => ⟨r, he, fun h => (by first | (unfold Fit; omega) | (have := hr h; unfold Fit; omega)), hb⟩
  · exact (fits_5 w i u f s b h0 h1 g0 g1).mono fun e w' ⟨r, he, hr, hb⟩ => ⟨r, he, fun h => (by first | (unfold Fit; omega) | (have := hr h; unfold Fit; omega)), hb⟩
  · exact (fits_6 w i u f s b h0 h1 g0 g1).mono fun e w' ⟨r, he, hr, hb⟩ => ⟨r, he, fun h => (by first | (unfold Fit; omega) | (have := hr h; unfold Fit; omega)), hb⟩
  · exact (fits_7 w i u f s b h0 h1 g0 g1).mono fun e w' ⟨r, he, hr, hb⟩ => ⟨r, he, fun h => (by first | (unfold Fit; omega) | (have := hr h; unfold Fit; omega)), hb⟩
  · exact (fits_8 w i u f s b h0 h1 g0 g1).mono fun e w' ⟨r, he, hr, hb⟩ => ⟨r, he, fun h => (by first | (unfold Fit; omega) | (have := hr h; unfold Fit; omega)), hb⟩
  · exact (fits_9 w i u f s b h0 h1 g0 g1).mono fun e w' ⟨r, he, hr, hb⟩ => ⟨r, he, fun h => (by first | (unfold Fit; omega) | (have := hr h; unfold Fit; omega)), hb⟩
  · exact (fits_10 w i u f s b h0 h1 g0 g1).mono fun e w' ⟨r, he, hr, hb⟩ => ⟨r, he, fun h => (by first | (unfold Fit; omega) | (have := hr h; unfold Fit; omega)), hb⟩
  · exact (fits_11 w i u f s b h0 h1 g0 g1).mono fun e w' ⟨r, he, hr, hb⟩ => ⟨r, he, fun h => (by first | (unfold Fit; omega) | (have := hr h; unfold Fit; omega)), hb⟩
  · exact (fits_12 w i u f s b h0 h1 g0 g1).mono fun e w' ⟨r, he, hr, hb⟩ => ⟨r, he, fun h => (by first | (unfold Fit; omega) | (have := hr h; unfold Fit; omega)), hb⟩
  · exact (fits_13 w i u f s b h0 h1 g0 g1).mono fun e w' ⟨r, he, hr, hb⟩ => ⟨r, he, fun h => (by first | (unfold Fit; omega) | (have := hr h; unfold Fit; omega)), hb⟩
  · exact (fits_14 w i u f s b h0 h1 g0 g1).mono fun e w' ⟨r, he, hr, hb⟩ => ⟨r, he, fun h => (by first | (unfold Fit; omega) | (have := hr h; unfold Fit; omega)), hb⟩
end Go.Proofs.Ytidmaimeanakeaa.Num
