/- The walk of runtime.Modulo: the kinds l64, u64. (Printed by gen.py.) -/
import Derived.Test.YtidmaimeanakeaaDy
set_option linter.unusedSimpArgs false
set_option linter.unusedVariables false
namespace Go.Proofs.Ytidmaimeanakeaa.Num
open Go.RowKit
set_option maxRecDepth 100000 in
set_option maxHeartbeats 4000000 in
theorem mod_l64_i64 (w : World) (n m : Int) (h0 : -9223372036854775808 ≤ n) (h1 : n ≤ 9223372036854775807) (g0 : -9223372036854775808 ≤ m) (g1 : m ≤ 9223372036854775807) : Calls Try.prog 11 #[.iface 2 (.int .i64 n), .iface 3 (.int .i64 m)] w (Rem n m w) := by
  by_cases hm : m = 0
  · go_enter Try.func11, Try.ntmps11
    go_wp2
    simp only [bodyPost]
    exact ⟨trivial, fun h => absurd rfl h, fun _ => ⟨_, _, rfl⟩, by go_grown⟩
  · go_enter Try.func11, Try.ntmps11
    go_wp2
    go_ret
    exact ⟨fun _ => by first | rfl | (rw [Int.tmod_eq_emod_of_nonneg (by omega)]; rfl), fun h => absurd h hm, by go_grown⟩
set_option maxRecDepth 100000 in
set_option maxHeartbeats 4000000 in
theorem mod_l64_i8 (w : World) (n m : Int) (h0 : -9223372036854775808 ≤ n) (h1 : n ≤ 9223372036854775807) (g0 : -128 ≤ m) (g1 : m ≤ 127) : Calls Try.prog 11 #[.iface 2 (.int .i64 n), .iface 38 (.int .i8 m)] w (Rem n m w) := by
  by_cases hm : m = 0
  · go_enter Try.func11, Try.ntmps11
    go_wp2
    simp only [bodyPost]
    exact ⟨trivial, fun h => absurd rfl h, fun _ => ⟨_, _, rfl⟩, by go_grown⟩
  · go_enter Try.func11, Try.ntmps11
    go_wp2
    go_ret
    exact ⟨fun _ => by first | rfl | (rw [Int.tmod_eq_emod_of_nonneg (by omega)]; rfl), fun h => absurd h hm, by go_grown⟩
set_option maxRecDepth 100000 in
set_option maxHeartbeats 4000000 in
theorem mod_l64_i16 (w : World) (n m : Int) (h0 : -9223372036854775808 ≤ n) (h1 : n ≤ 9223372036854775807) (g0 : -32768 ≤ m) (g1 : m ≤ 32767) : Calls Try.prog 11 #[.iface 2 (.int .i64 n), .iface 39 (.int .i16 m)] w (Rem n m w) := by
  by_cases hm : m = 0
  · go_enter Try.func11, Try.ntmps11
    go_wp2
    simp only [bodyPost]
    exact ⟨trivial, fun h => absurd rfl h, fun _ => ⟨_, _, rfl⟩, by go_grown⟩
  · go_enter Try.func11, Try.ntmps11
    go_wp2
    go_ret
    exact ⟨fun _ => by first | rfl | (rw [Int.tmod_eq_emod_of_nonneg (by omega)]; rfl), fun h => absurd h hm, by go_grown⟩
set_option maxRecDepth 100000 in
set_option maxHeartbeats 4000000 in
theorem mod_l64_i32 (w : World) (n m : Int) (h0 : -9223372036854775808 ≤ n) (h1 : n ≤ 9223372036854775807) (g0 : -2147483648 ≤ m) (g1 : m ≤ 2147483647) : Calls Try.prog 11 #[.iface 2 (.int .i64 n), .iface 21 (.int .i32 m)] w (Rem n m w) := by
  by_cases hm : m = 0
  · go_enter Try.func11, Try.ntmps11
    go_wp2
    simp only [bodyPost]
    exact ⟨trivial, fun h => absurd rfl h, fun _ => ⟨_, _, rfl⟩, by go_grown⟩
  · go_enter Try.func11, Try.ntmps11
    go_wp2
    go_ret
    exact ⟨fun _ => by first | rfl | (rw [Int.tmod_eq_emod_of_nonneg (by omega)]; rfl), fun h => absurd h hm, by go_grown⟩
set_option maxRecDepth 100000 in
set_option maxHeartbeats 4000000 in
theorem mod_l64_l64 (w : World) (n m : Int) (h0 : -9223372036854775808 ≤ n) (h1 : n ≤ 9223372036854775807) (g0 : -9223372036854775808 ≤ m) (g1 : m ≤ 9223372036854775807) : Calls Try.prog 11 #[.iface 2 (.int .i64 n), .iface 2 (.int .i64 m)] w (Rem n m w) := by
  by_cases hm : m = 0
  · go_enter Try.func11, Try.ntmps11
    go_wp2
    simp only [bodyPost]
    exact ⟨trivial, fun h => absurd rfl h, fun _ => ⟨_, _, rfl⟩, by go_grown⟩
  · go_enter Try.func11, Try.ntmps11
    go_wp2
    go_ret
    exact ⟨fun _ => by first | rfl | (rw [Int.tmod_eq_emod_of_nonneg (by omega)]; rfl), fun h => absurd h hm, by go_grown⟩
set_option maxRecDepth 100000 in
set_option maxHeartbeats 4000000 in
theorem mod_l64_u64 (w : World) (n m : Int) (h0 : -9223372036854775808 ≤ n) (h1 : n ≤ 9223372036854775807) (g0 : 0 ≤ m) (g1 : m ≤ 9223372036854775807) : Calls Try.prog 11 #[.iface 2 (.int .i64 n), .iface 35 (.int .u64 m)] w (Rem n m w) := by
  by_cases hm : m = 0
  · go_enter Try.func11, Try.ntmps11
    go_wp2
    simp only [bodyPost]
    exact ⟨trivial, fun h => absurd rfl h, fun _ => ⟨_, _, rfl⟩, by go_grown⟩
  · go_enter Try.func11, Try.ntmps11
    go_wp2
    go_ret
    exact ⟨fun _ => by first | rfl | (rw [Int.tmod_eq_emod_of_nonneg (by omega)]; rfl), fun h => absurd h hm, by go_grown⟩
set_option maxRecDepth 100000 in
set_option maxHeartbeats 4000000 in
theorem mod_l64_u8 (w : World) (n m : Int) (h0 : -9223372036854775808 ≤ n) (h1 : n ≤ 9223372036854775807) (g0 : 0 ≤ m) (g1 : m ≤ 255) : Calls Try.prog 11 #[.iface 2 (.int .i64 n), .iface 5 (.int .u8 m)] w (Rem n m w) := by
  by_cases hm : m = 0
  · go_enter Try.func11, Try.ntmps11
    go_wp2
    simp only [bodyPost]
    exact ⟨trivial, fun h => absurd rfl h, fun _ => ⟨_, _, rfl⟩, by go_grown⟩
  · go_enter Try.func11, Try.ntmps11
    go_wp2
    go_ret
    exact ⟨fun _ => by first | rfl | (rw [Int.tmod_eq_emod_of_nonneg (by omega)]; rfl), fun h => absurd h hm, by go_grown⟩
set_option maxRecDepth 100000 in
set_option maxHeartbeats 4000000 in
theorem mod_l64_u16 (w : World) (n m : Int) (h0 : -9223372036854775808 ≤ n) (h1 : n ≤ 9223372036854775807) (g0 : 0 ≤ m) (g1 : m ≤ 65535) : Calls Try.prog 11 #[.iface 2 (.int .i64 n), .iface 36 (.int .u16 m)] w (Rem n m w) := by
  by_cases hm : m = 0
  · go_enter Try.func11, Try.ntmps11
    go_wp2
    simp only [bodyPost]
    exact ⟨trivial, fun h => absurd rfl h, fun _ => ⟨_, _, rfl⟩, by go_grown⟩
  · go_enter Try.func11, Try.ntmps11
    go_wp2
    go_ret
    exact ⟨fun _ => by first | rfl | (rw [Int.tmod_eq_emod_of_nonneg (by omega)]; rfl), fun h => absurd h hm, by go_grown⟩
set_option maxRecDepth 100000 in
set_option maxHeartbeats 4000000 in
theorem mod_l64_u32 (w : World) (n m : Int) (h0 : -9223372036854775808 ≤ n) (h1 : n ≤ 9223372036854775807) (g0 : 0 ≤ m) (g1 : m ≤ 4294967295) : Calls Try.prog 11 #[.iface 2 (.int .i64 n), .iface 37 (.int .u32 m)] w (Rem n m w) := by
  by_cases hm : m = 0
  · go_enter Try.func11, Try.ntmps11
    go_wp2
    simp only [bodyPost]
    exact ⟨trivial, fun h => absurd rfl h, fun _ => ⟨_, _, rfl⟩, by go_grown⟩
  · go_enter Try.func11, Try.ntmps11
    go_wp2
    go_ret
    exact ⟨fun _ => by first | rfl | (rw [Int.tmod_eq_emod_of_nonneg (by omega)]; rfl), fun h => absurd h hm, by go_grown⟩
set_option maxRecDepth 100000 in
set_option maxHeartbeats 4000000 in
theorem mod_l64_m64 (w : World) (n m : Int) (h0 : -9223372036854775808 ≤ n) (h1 : n ≤ 9223372036854775807) (g0 : 0 ≤ m) (g1 : m ≤ 9223372036854775807) : Calls Try.prog 11 #[.iface 2 (.int .i64 n), .iface 22 (.int .u64 m)] w (Rem n m w) := by
  by_cases hm : m = 0
  · go_enter Try.func11, Try.ntmps11
    go_wp2
    simp only [bodyPost]
    exact ⟨trivial, fun h => absurd rfl h, fun _ => ⟨_, _, rfl⟩, by go_grown⟩
  · go_enter Try.func11, Try.ntmps11
    go_wp2
    go_ret
    exact ⟨fun _ => by first | rfl | (rw [Int.tmod_eq_emod_of_nonneg (by omega)]; rfl), fun h => absurd h hm, by go_grown⟩
set_option maxRecDepth 100000 in
set_option maxHeartbeats 4000000 in
theorem mod_l64_f32 (w : World) (n : Int) (h0 : -9223372036854775808 ≤ n) (h1 : n ≤ 9223372036854775807) (g : Nat) : Calls Try.prog 11 #[.iface 2 (.int .i64 n), .iface 34 (.float .f32 g)] w (Pan w) := by
  go_enter Try.func11, Try.ntmps11
  go_wp2
  simp only [bodyPost]
  exact ⟨trivial, ⟨_, _, rfl⟩, by go_grown⟩
set_option maxRecDepth 100000 in
set_option maxHeartbeats 4000000 in
theorem mod_l64_f64 (w : World) (n : Int) (h0 : -9223372036854775808 ≤ n) (h1 : n ≤ 9223372036854775807) (g : Nat) : Calls Try.prog 11 #[.iface 2 (.int .i64 n), .iface 23 (.float .f64 g)] w (Pan w) := by
  go_enter Try.func11, Try.ntmps11
  go_wp2
  simp only [bodyPost]
  exact ⟨trivial, ⟨_, _, rfl⟩, by go_grown⟩
set_option maxRecDepth 100000 in
set_option maxHeartbeats 4000000 in
theorem mod_l64_text (w : World) (n : Int) (h0 : -9223372036854775808 ≤ n) (h1 : n ≤ 9223372036854775807) (s : ByteArray) : Calls Try.prog 11 #[.iface 2 (.int .i64 n), .iface 9 (.string s)] w (Pan w) := by
  go_enter Try.func11, Try.ntmps11
  go_wp2
  simp only [bodyPost]
  exact ⟨trivial, ⟨_, _, rfl⟩, by go_grown⟩
set_option maxRecDepth 100000 in
set_option maxHeartbeats 4000000 in
theorem mod_l64_truth (w : World) (n : Int) (h0 : -9223372036854775808 ≤ n) (h1 : n ≤ 9223372036854775807) (b : Bool) : Calls Try.prog 11 #[.iface 2 (.int .i64 n), .iface 4 (.bool b)] w (Pan w) := by
  go_enter Try.func11, Try.ntmps11
  go_wp2
  simp only [bodyPost]
  exact ⟨trivial, ⟨_, _, rfl⟩, by go_grown⟩
set_option maxRecDepth 100000 in
set_option maxHeartbeats 4000000 in
theorem mod_l64_nil (w : World) (n : Int) (h0 : -9223372036854775808 ≤ n) (h1 : n ≤ 9223372036854775807)  : Calls Try.prog 11 #[.iface 2 (.int .i64 n), .nilIface] w (Pan w) := by
  go_enter Try.func11, Try.ntmps11
  go_wp2
  simp only [bodyPost]
  exact ⟨trivial, ⟨_, _, rfl⟩, by go_grown⟩
set_option maxRecDepth 100000 in
set_option maxHeartbeats 4000000 in
theorem mod_u64_i64 (w : World) (n m : Int) (h0 : 0 ≤ n) (h1 : n ≤ 9223372036854775807) (g0 : -9223372036854775808 ≤ m) (g1 : m ≤ 9223372036854775807) : Calls Try.prog 11 #[.iface 35 (.int .u64 n), .iface 3 (.int .i64 m)] w (Rem n m w) := by
  by_cases hm : m = 0
  · go_enter Try.func11, Try.ntmps11
    go_wp2
    simp only [bodyPost]
    exact ⟨trivial, fun h => absurd rfl h, fun _ => ⟨_, _, rfl⟩, by go_grown⟩
  · go_enter Try.func11, Try.ntmps11
    go_wp2
    go_ret
    exact ⟨fun _ => by first | rfl | (rw [Int.tmod_eq_emod_of_nonneg (by omega)]; rfl), fun h => absurd h hm, by go_grown⟩
set_option maxRecDepth 100000 in
set_option maxHeartbeats 4000000 in
theorem mod_u64_i8 (w : World) (n m : Int) (h0 : 0 ≤ n) (h1 : n ≤ 9223372036854775807) (g0 : -128 ≤ m) (g1 : m ≤ 127) : Calls Try.prog 11 #[.iface 35 (.int .u64 n), .iface 38 (.int .i8 m)] w (Rem n m w) := by
  by_cases hm : m = 0
  · go_enter Try.func11, Try.ntmps11
    go_wp2
    simp only [bodyPost]
    exact ⟨trivial, fun h => absurd rfl h, fun _ => ⟨_, _, rfl⟩, by go_grown⟩
  · go_enter Try.func11, Try.ntmps11
    go_wp2
    go_ret
    exact ⟨fun _ => by first | rfl | (rw [Int.tmod_eq_emod_of_nonneg (by omega)]; rfl), fun h => absurd h hm, by go_grown⟩
set_option maxRecDepth 100000 in
set_option maxHeartbeats 4000000 in
theorem mod_u64_i16 (w : World) (n m : Int) (h0 : 0 ≤ n) (h1 : n ≤ 9223372036854775807) (g0 : -32768 ≤ m) (g1 : m ≤ 32767) : Calls Try.prog 11 #[.iface 35 (.int .u64 n), .iface 39 (.int .i16 m)] w (Rem n m w) := by
  by_cases hm : m = 0
  · go_enter Try.func11, Try.ntmps11
    go_wp2
    simp only [bodyPost]
    exact ⟨trivial, fun h => absurd rfl h, fun _ => ⟨_, _, rfl⟩, by go_grown⟩
  · go_enter Try.func11, Try.ntmps11
    go_wp2
    go_ret
    exact ⟨fun _ => by first | rfl | (rw [Int.tmod_eq_emod_of_nonneg (by omega)]; rfl), fun h => absurd h hm, by go_grown⟩
set_option maxRecDepth 100000 in
set_option maxHeartbeats 4000000 in
theorem mod_u64_i32 (w : World) (n m : Int) (h0 : 0 ≤ n) (h1 : n ≤ 9223372036854775807) (g0 : -2147483648 ≤ m) (g1 : m ≤ 2147483647) : Calls Try.prog 11 #[.iface 35 (.int .u64 n), .iface 21 (.int .i32 m)] w (Rem n m w) := by
  by_cases hm : m = 0
  · go_enter Try.func11, Try.ntmps11
    go_wp2
    simp only [bodyPost]
    exact ⟨trivial, fun h => absurd rfl h, fun _ => ⟨_, _, rfl⟩, by go_grown⟩
  · go_enter Try.func11, Try.ntmps11
    go_wp2
    go_ret
    exact ⟨fun _ => by first | rfl | (rw [Int.tmod_eq_emod_of_nonneg (by omega)]; rfl), fun h => absurd h hm, by go_grown⟩
set_option maxRecDepth 100000 in
set_option maxHeartbeats 4000000 in
theorem mod_u64_l64 (w : World) (n m : Int) (h0 : 0 ≤ n) (h1 : n ≤ 9223372036854775807) (g0 : -9223372036854775808 ≤ m) (g1 : m ≤ 9223372036854775807) : Calls Try.prog 11 #[.iface 35 (.int .u64 n), .iface 2 (.int .i64 m)] w (Rem n m w) := by
  by_cases hm : m = 0
  · go_enter Try.func11, Try.ntmps11
    go_wp2
    simp only [bodyPost]
    exact ⟨trivial, fun h => absurd rfl h, fun _ => ⟨_, _, rfl⟩, by go_grown⟩
  · go_enter Try.func11, Try.ntmps11
    go_wp2
    go_ret
    exact ⟨fun _ => by first | rfl | (rw [Int.tmod_eq_emod_of_nonneg (by omega)]; rfl), fun h => absurd h hm, by go_grown⟩
set_option maxRecDepth 100000 in
set_option maxHeartbeats 4000000 in
theorem mod_u64_u64 (w : World) (n m : Int) (h0 : 0 ≤ n) (h1 : n ≤ 9223372036854775807) (g0 : 0 ≤ m) (g1 : m ≤ 9223372036854775807) : Calls Try.prog 11 #[.iface 35 (.int .u64 n), .iface 35 (.int .u64 m)] w (Rem n m w) := by
  by_cases hm : m = 0
  · go_enter Try.func11, Try.ntmps11
    go_wp2
    simp only [bodyPost]
    exact ⟨trivial, fun h => absurd rfl h, fun _ => ⟨_, _, rfl⟩, by go_grown⟩
  · go_enter Try.func11, Try.ntmps11
    go_wp2
    go_ret
    exact ⟨fun _ => by first | rfl | (rw [Int.tmod_eq_emod_of_nonneg (by omega)]; rfl), fun h => absurd h hm, by go_grown⟩
set_option maxRecDepth 100000 in
set_option maxHeartbeats 4000000 in
theorem mod_u64_u8 (w : World) (n m : Int) (h0 : 0 ≤ n) (h1 : n ≤ 9223372036854775807) (g0 : 0 ≤ m) (g1 : m ≤ 255) : Calls Try.prog 11 #[.iface 35 (.int .u64 n), .iface 5 (.int .u8 m)] w (Rem n m w) := by
  by_cases hm : m = 0
  · go_enter Try.func11, Try.ntmps11
    go_wp2
    simp only [bodyPost]
    exact ⟨trivial, fun h => absurd rfl h, fun _ => ⟨_, _, rfl⟩, by go_grown⟩
  · go_enter Try.func11, Try.ntmps11
    go_wp2
    go_ret
    exact ⟨fun _ => by first | rfl | (rw [Int.tmod_eq_emod_of_nonneg (by omega)]; rfl), fun h => absurd h hm, by go_grown⟩
set_option maxRecDepth 100000 in
set_option maxHeartbeats 4000000 in
theorem mod_u64_u16 (w : World) (n m : Int) (h0 : 0 ≤ n) (h1 : n ≤ 9223372036854775807) (g0 : 0 ≤ m) (g1 : m ≤ 65535) : Calls Try.prog 11 #[.iface 35 (.int .u64 n), .iface 36 (.int .u16 m)] w (Rem n m w) := by
  by_cases hm : m = 0
  · go_enter Try.func11, Try.ntmps11
    go_wp2
    simp only [bodyPost]
    exact ⟨trivial, fun h => absurd rfl h, fun _ => ⟨_, _, rfl⟩, by go_grown⟩
  · go_enter Try.func11, Try.ntmps11
    go_wp2
    go_ret
    exact ⟨fun _ => by first | rfl | (rw [Int.tmod_eq_emod_of_nonneg (by omega)]; rfl), fun h => absurd h hm, by go_grown⟩
set_option maxRecDepth 100000 in
set_option maxHeartbeats 4000000 in
theorem mod_u64_u32 (w : World) (n m : Int) (h0 : 0 ≤ n) (h1 : n ≤ 9223372036854775807) (g0 : 0 ≤ m) (g1 : m ≤ 4294967295) : Calls Try.prog 11 #[.iface 35 (.int .u64 n), .iface 37 (.int .u32 m)] w (Rem n m w) := by
  by_cases hm : m = 0
  · go_enter Try.func11, Try.ntmps11
    go_wp2
    simp only [bodyPost]
    exact ⟨trivial, fun h => absurd rfl h, fun _ => ⟨_, _, rfl⟩, by go_grown⟩
  · go_enter Try.func11, Try.ntmps11
    go_wp2
    go_ret
    exact ⟨fun _ => by first | rfl | (rw [Int.tmod_eq_emod_of_nonneg (by omega)]; rfl), fun h => absurd h hm, by go_grown⟩
set_option maxRecDepth 100000 in
set_option maxHeartbeats 4000000 in
theorem mod_u64_m64 (w : World) (n m : Int) (h0 : 0 ≤ n) (h1 : n ≤ 9223372036854775807) (g0 : 0 ≤ m) (g1 : m ≤ 9223372036854775807) : Calls Try.prog 11 #[.iface 35 (.int .u64 n), .iface 22 (.int .u64 m)] w (Rem n m w) := by
  by_cases hm : m = 0
  · go_enter Try.func11, Try.ntmps11
    go_wp2
    simp only [bodyPost]
    exact ⟨trivial, fun h => absurd rfl h, fun _ => ⟨_, _, rfl⟩, by go_grown⟩
  · go_enter Try.func11, Try.ntmps11
    go_wp2
    go_ret
    exact ⟨fun _ => by first | rfl | (rw [Int.tmod_eq_emod_of_nonneg (by omega)]; rfl), fun h => absurd h hm, by go_grown⟩
set_option maxRecDepth 100000 in
set_option maxHeartbeats 4000000 in
theorem mod_u64_f32 (w : World) (n : Int) (h0 : 0 ≤ n) (h1 : n ≤ 9223372036854775807) (g : Nat) : Calls Try.prog 11 #[.iface 35 (.int .u64 n), .iface 34 (.float .f32 g)] w (Pan w) := by
  go_enter Try.func11, Try.ntmps11
  go_wp2
  simp only [bodyPost]
  exact ⟨trivial, ⟨_, _, rfl⟩, by go_grown⟩
set_option maxRecDepth 100000 in
set_option maxHeartbeats 4000000 in
theorem mod_u64_f64 (w : World) (n : Int) (h0 : 0 ≤ n) (h1 : n ≤ 9223372036854775807) (g : Nat) : Calls Try.prog 11 #[.iface 35 (.int .u64 n), .iface 23 (.float .f64 g)] w (Pan w) := by
  go_enter Try.func11, Try.ntmps11
  go_wp2
  simp only [bodyPost]
  exact ⟨trivial, ⟨_, _, rfl⟩, by go_grown⟩
set_option maxRecDepth 100000 in
set_option maxHeartbeats 4000000 in
theorem mod_u64_text (w : World) (n : Int) (h0 : 0 ≤ n) (h1 : n ≤ 9223372036854775807) (s : ByteArray) : Calls Try.prog 11 #[.iface 35 (.int .u64 n), .iface 9 (.string s)] w (Pan w) := by
  go_enter Try.func11, Try.ntmps11
  go_wp2
  simp only [bodyPost]
  exact ⟨trivial, ⟨_, _, rfl⟩, by go_grown⟩
set_option maxRecDepth 100000 in
set_option maxHeartbeats 4000000 in
theorem mod_u64_truth (w : World) (n : Int) (h0 : 0 ≤ n) (h1 : n ≤ 9223372036854775807) (b : Bool) : Calls Try.prog 11 #[.iface 35 (.int .u64 n), .iface 4 (.bool b)] w (Pan w) := by
  go_enter Try.func11, Try.ntmps11
  go_wp2
  simp only [bodyPost]
  exact ⟨trivial, ⟨_, _, rfl⟩, by go_grown⟩
set_option maxRecDepth 100000 in
set_option maxHeartbeats 4000000 in
theorem mod_u64_nil (w : World) (n : Int) (h0 : 0 ≤ n) (h1 : n ≤ 9223372036854775807)  : Calls Try.prog 11 #[.iface 35 (.int .u64 n), .nilIface] w (Pan w) := by
  go_enter Try.func11, Try.ntmps11
  go_wp2
  simp only [bodyPost]
  exact ⟨trivial, ⟨_, _, rfl⟩, by go_grown⟩
end Go.Proofs.Ytidmaimeanakeaa.Num
