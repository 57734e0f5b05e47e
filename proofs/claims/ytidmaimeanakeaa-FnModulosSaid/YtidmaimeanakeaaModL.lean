/- The law of the remainders. -/
import Derived.Test.YtidmaimeanakeaaModI
import Derived.Test.YtidmaimeanakeaaModJ
set_option linter.unusedSimpArgs false
set_option linter.unusedVariables false
namespace Go.Proofs.Ytidmaimeanakeaa.Num
open Go.RowKit
theorem zz2 (w : World) (k i u : Int) (f : Nat) (s : ByteArray) (b : Bool) : Calls Try.prog 4 #[V k i u f s b] w (Ans w fun _ => True) := by
  go_enter Try.func4, Try.ntmps4
  go_wp2
  all_goals
    go_ret
    exact ⟨_, rfl, trivial, by go_grown⟩
theorem whole10 (w : World) (k i u : Int) (f : Nat) (s : ByteArray) (b : Bool) (h0 : -9223372036854775808 ≤ k) (h1 : k ≤ 9223372036854775807) : Calls Try.prog 7 #[V k i u f s b] w (fun e w' => e = .returned (.bool (decide (1 ≤ k ∧ k ≤ 10))) ∧ Below w.heap.size w w') := by
  by_cases h : 1 ≤ k
  · by_cases g : k ≤ 10
    all_goals
      go_enter Try.func7, Try.ntmps7
      go_wp2
      go_ret
      exact ⟨by simp <;> omega, by go_grown⟩
  · go_enter Try.func7, Try.ntmps7
    go_wp2
    go_ret
    exact ⟨by simp <;> omega, by go_grown⟩
theorem asInt (w : World) (k i u : Int) (f : Nat) (s : ByteArray) (b : Bool) (hi : W64 i) (hu : WU u) (hk0 : -9223372036854775808 ≤ k) (hk1 : k ≤ 9223372036854775807) (hf : Fit k i u) (n : Int) (hn : oi k i u = some n) : Calls Try.prog 8 #[V k i u f s b] w (fun e w' => e = .returned (.int .i64 n) ∧ Below w.heap.size w w') := by
  obtain ⟨hi0, hi1⟩ := hi
  obtain ⟨hu0, hu1⟩ := hu
  unfold Fit at hf
  unfold oi at hn
  split at hn
  · have hu2 : 5 < k → u ≤ 9223372036854775807 := by omega
    clear hf
    by_cases h : 5 < k
    · have hu3 := hu2 h
      rw [if_pos h] at hn
      cases hn
      go_enter Try.func8, Try.ntmps8
      go_wp2
      go_ret
      exact ⟨by first | rfl | (simp <;> omega), by go_grown⟩
    · rw [if_neg h] at hn
      cases hn
      go_enter Try.func8, Try.ntmps8
      go_wp2
      go_ret
      exact ⟨by first | rfl | (simp <;> omega), by go_grown⟩
  · cases hn
def Is (k i u k' i' u' : Int) (n m : Int) : Prop := oi k i u = some n ∧ oi k' i' u' = some m ∧ ¬ m = 0
theorem impl_all (w : World) (k i u : Int) (f : Nat) (s : ByteArray) (b : Bool) (k' i' u' : Int) (f' : Nat) (s' : ByteArray) (b' : Bool) (hi : W64 i) (hu : WU u) (hi' : W64 i') (hu' : WU u') (hf : Fit k i u) (hf' : Fit k' i' u') (hno : ∀ n m, ¬ Is k i u k' i' u' n m) :
    Calls Try.prog 6 #[V k i u f s b, V k' i' u' f' s' b'] w (fun e w' => e = .returned (.tuple #[.int .i64 0, .bool false]) ∧ Below w.heap.size w w') := by
  refine impl_no w k i u f s b k' i' u' f' s' b' hi hu hi' hu' hf hf' fun w v1 v2 d1 d2 => ?_
  cases h1 : oi k i u with
  | none => exact modulo_none w v1 v2 (h1 ▸ d1)
  | some n =>
    cases h2 : oi k' i' u' with
    | none => exact modulo_half w n v1 v2 (h1 ▸ d1) (h2 ▸ d2)
    | some m =>
      have hm : m = 0 := by
        by_cases hm : m = 0
        · exact hm
        · exact absurd ⟨h1, h2, hm⟩ (hno n m)
      exact (modulo_some w n m v1 v2 (h1 ▸ d1) (h2 ▸ d2)).mono fun e w' ⟨_, hp, hb⟩ => ⟨hp hm, hb⟩
theorem impl_yes (w : World) (k i u : Int) (f : Nat) (s : ByteArray) (b : Bool) (k' i' u' : Int) (f' : Nat) (s' : ByteArray) (b' : Bool) (hi : W64 i) (hu : WU u) (hi' : W64 i') (hu' : WU u') (hf : Fit k i u) (hf' : Fit k' i' u') (n m : Int) (h : Is k i u k' i' u' n m) :
    Calls Try.prog 6 #[V k i u f s b, V k' i' u' f' s' b'] w (fun e w' => e = .returned (.tuple #[.int .i64 (n.tmod m), .bool true]) ∧ Below w.heap.size w w') :=
  impl_ok w k i u f s b k' i' u' f' s' b' hi hu hi' hu' hf hf' n m h.1 h.2.1 h.2.2 (fun w v1 v2 d1 d2 => modulo_some w n m v1 v2 d1 d2)
end Go.Proofs.Ytidmaimeanakeaa.Num
