/- Plain laws of Ieee: a number cut towards zero; equal numbers are cut alike. -/
import Derived.Laws.FloatArith
namespace Go.Proofs.Ytaabfmmfneajoaa.Num
open Ieee

/-- 'm * 2 ^ e' cut towards zero -/
def trunc (m : Nat) (e : Int) : Nat := (m * 2 ^ e.toNat) / 2 ^ (-e).toNat

theorem log2_lt (n : Nat) : n < 2 ^ (n.log2 + 2) := by
  by_cases h : n = 0
  · subst h; exact Nat.two_pow_pos _
  · have := (Nat.log2_lt h).1 (Nat.lt_succ_self n.log2)
    rw [Nat.pow_succ]; omega

theorem cut_zero (s : Bool) (n drop : Nat) : Toward.zero.cut s n drop = n / 2 ^ drop := by
  unfold Toward.cut
  simp only [Bool.toNat_false, Nat.add_zero, Nat.one_shiftLeft]
  by_cases h : drop ≤ n.log2 + 2
  · rw [Nat.min_eq_left h]
  · rw [Nat.min_eq_right (by omega), Nat.div_eq_of_lt (log2_lt n)]
    rw [Nat.div_eq_of_lt]
    exact Nat.lt_of_lt_of_le (log2_lt n) (Nat.pow_le_pow_right (by omega) (by omega))

theorem toInt_number (s : Bool) (m : Nat) (e : Int) : (Datum.number s m e).toInt .zero = some (if s then -(trunc m e : Int) else (trunc m e : Int)) := by
  simp [Datum.toInt, Datum.integral, cut_zero, signed, Nat.shiftLeft_eq, trunc]

theorem trunc_up (n : Nat) (i j : Int) (h : i ≤ j) : trunc (n * 2 ^ (j - i).toNat) i = trunc n j := by
  unfold trunc
  by_cases hi : 0 ≤ i
  · rw [show (-i).toNat = 0 by omega, show (-j).toNat = 0 by omega, Nat.mul_assoc, ← Nat.pow_add, show (j - i).toNat + i.toNat = j.toNat by omega]
  · by_cases hj : 0 ≤ j
    · rw [show i.toNat = 0 by omega, show (-j).toNat = 0 by omega, show (j - i).toNat = j.toNat + (-i).toNat by omega, Nat.pow_add]
      simp only [Nat.pow_zero, Nat.mul_one, Nat.div_one, ← Nat.mul_assoc]
      exact Nat.mul_div_cancel _ (Nat.two_pow_pos _)
    · rw [show i.toNat = 0 by omega, show j.toNat = 0 by omega, show (-i).toNat = (-j).toNat + (j - i).toNat by omega, Nat.pow_add 2 (-j).toNat]
      simp only [Nat.pow_zero, Nat.mul_one]
      exact Nat.mul_div_mul_right _ _ (Nat.two_pow_pos _)

/-- equal numbers are cut alike -/
theorem trunc_same (m n : Nat) (i j : Int) (h : m * 2 ^ (i - min i j).toNat = n * 2 ^ (j - min i j).toNat) : trunc m i = trunc n j := by
  by_cases hij : i ≤ j
  · rw [Int.min_eq_left hij, Int.sub_self] at h
    simp only [Int.toNat_zero, Nat.pow_zero, Nat.mul_one] at h
    rw [h, trunc_up n i j hij]
  · have hji : j ≤ i := by omega
    rw [Int.min_eq_right hji, Int.sub_self] at h
    simp only [Int.toNat_zero, Nat.pow_zero, Nat.mul_one] at h
    rw [← h, trunc_up m j i hji]

/-- what is equal is cut alike -/
theorem toInt_same (a b : Datum) (h : a.order b = some .eq) : a.toInt .zero = b.toInt .zero := by
  cases a with
  | nan => simp [Datum.order] at h
  | infinity s =>
    cases b with
    | nan => simp [Datum.order] at h
    | infinity t => simp [Datum.toInt, Datum.integral]
    | number t n j => simp [Datum.order] at h; split at h <;> simp at h
  | number s m i =>
    cases b with
    | nan => simp [Datum.order] at h
    | infinity t => simp [Datum.order] at h; split at h <;> simp at h
    | number t n j =>
      rw [toInt_number, toInt_number]
      simp only [Datum.order, Option.some.injEq] at h
      have h1 := Int.compare_eq_eq.1 h
      simp only [signed, Nat.shiftLeft_eq] at h1
      have key : ∀ A B : Nat, (if s then -(A : Int) else (A : Int)) = (if t then -(B : Int) else (B : Int)) → A = B ∧ (s ≠ t → B = 0) := by
        intro A B hab
        cases s <;> cases t <;> simp only [Bool.false_eq_true, if_true, if_false] at hab <;> refine ⟨by omega, fun hst => ?_⟩ <;> first | exact absurd rfl hst | omega
      obtain ⟨hp, hz⟩ := key _ _ h1
      rw [trunc_same m n i j hp]
      by_cases hst : s = t
      · rw [hst]
      · have hn : n = 0 := by
          rcases Nat.mul_eq_zero.1 (hz hst) with h | h
          · exact h
          · exact absurd h (Nat.ne_of_gt (Nat.two_pow_pos _))
        subst hn
        simp [trunc]
end Go.Proofs.Ytaabfmmfneajoaa.Num
