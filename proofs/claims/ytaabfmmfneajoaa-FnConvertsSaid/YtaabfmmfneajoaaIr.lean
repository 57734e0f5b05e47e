/- Plain laws of Ieee: a float of an amount below 2^53, cut towards zero, is below 2^53. -/
import Derived.Test.YtaabfmmfneajoaaIv
namespace Go.Proofs.Ytaabfmmfneajoaa.Num
open Ieee

theorem read_p53 : double.read 4845873199050653696 = .number false 4503599627370496 1 := by decide
theorem read_n53 : double.read 14069245235905429504 = .number true 4503599627370496 1 := by decide

theorem trunc_lt (m : Nat) (i : Int) (h : m * 2 ^ (i - min i 1).toNat < 4503599627370496 * 2 ^ (1 - min i 1).toNat) : trunc m i < 9007199254740992 := by
  unfold trunc
  by_cases hi : 1 ≤ i
  · rw [Int.min_eq_right hi] at h
    rw [show (-i).toNat = 0 by omega, show i.toNat = (i - 1).toNat + 1 by omega, Nat.pow_succ, ← Nat.mul_assoc]
    simp at h ⊢
    omega
  · rw [Int.min_eq_left (by omega), Int.sub_self] at h
    rw [show i.toNat = 0 by omega]
    rw [show (1 - i).toNat = (-i).toNat + 1 by omega, Nat.pow_succ] at h
    simp only [Int.toNat_zero, Nat.pow_zero, Nat.mul_one] at h ⊢
    rw [Nat.div_lt_iff_lt_mul (Nat.two_pow_pos _)]
    generalize 2 ^ (-i).toNat = x at *
    omega

theorem small (f : Nat) (h1 : double.order f 4845873199050653696 = some .lt) (h2 : double.order f 14069245235905429504 = some .gt) :
    ∃ s m e, double.read f = .number s m e ∧ m * 2 ^ (e - min e 1).toNat < 4503599627370496 * 2 ^ (1 - min e 1).toNat := by
  unfold Format.order at h1 h2
  rw [read_p53] at h1
  rw [read_n53] at h2
  cases hd : double.read f with
  | nan => rw [hd] at h1; simp [Datum.order] at h1
  | infinity s => rw [hd] at h1 h2; cases s <;> simp [Datum.order] at h1 h2
  | number s m e =>
    rw [hd] at h1 h2
    refine ⟨s, m, e, rfl, ?_⟩
    simp only [Datum.order, Option.some.injEq, signed, Nat.shiftLeft_eq] at h1 h2
    have a1 := Int.compare_eq_lt.1 h1
    have a2 := Int.compare_eq_gt.1 h2
    generalize m * 2 ^ (e - min e 1).toNat = A at *
    generalize 4503599627370496 * 2 ^ (1 - min e 1).toNat = B at *
    cases s <;> simp only [Bool.false_eq_true, if_true, if_false] at a1 a2 <;> omega
end Go.Proofs.Ytaabfmmfneajoaa.Num
