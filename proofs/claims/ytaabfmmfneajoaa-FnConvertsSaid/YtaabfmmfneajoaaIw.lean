/- Plain laws of Ieee: what a double holds exactly is read as it was written. -/
import Derived.Test.YtaabfmmfneajoaaIe
namespace Go.Proofs.Ytaabfmmfneajoaa.Num
open Ieee

theorem dbl_binade : double.binade = 4503599627370496 := by decide
theorem dbl_weight : double.signWeight = 9223372036854775808 := by decide
theorem dbl_inf : double.infRung = 9218868437227405312 := by decide
theorem dbl_least : double.leastPlace = -1074 := by decide

theorem cut_none (s : Bool) (n : Nat) : Toward.even.cut s n 0 = n := by
  unfold Toward.cut
  simp [Nat.mod_one]

theorem read_word (s : Bool) (r : Nat) (h : r < 9218868437227405312) :
    double.read (double.word s r) = if r < 4503599627370496 then .number s r (-1074) else .number s (4503599627370496 + r % 4503599627370496) (-1074 + (r / 4503599627370496 - 1 : Nat)) := by
  unfold Format.read Format.word
  simp only [dbl_binade, dbl_weight, dbl_inf, dbl_least]
  cases s
  · simp only [Bool.false_eq_true, if_false]
    rw [show r % 9223372036854775808 = r by omega, show r / 9223372036854775808 = 0 by omega]
    simp [h]
  · simp only [if_true]
    rw [show (9223372036854775808 + r) % 9223372036854775808 = r by omega, show (9223372036854775808 + r) / 9223372036854775808 = 1 by omega]
    simp [h]

theorem nearest_exact (s : Bool) (m : Nat) (e : Int) (hm : m < 9007199254740992) (he : -1074 ≤ e) (hmax : e + m.log2 ≤ 1000) :
    ∃ m' e', double.read (double.nearest s m e) = .number s m' e' ∧ e' ≤ e ∧ m' = m * 2 ^ (e - e').toNat := by
  by_cases h0 : m = 0
  · subst h0
    refine ⟨0, -1074, ?_, he, by simp⟩
    simp only [Format.nearest, if_true]
    rw [read_word s 0 (by omega)]; simp
  · have hlog : m.log2 ≤ 52 := by
      have := (Nat.log2_lt h0).2 (show m < 2 ^ 53 by omega); omega
    have hlo : 2 ^ m.log2 ≤ m := Nat.log2_self_le h0
    have hhi : m < 2 ^ (m.log2 + 1) := (Nat.log2_lt h0).1 (Nat.lt_succ_self _)
    obtain ⟨last, hlast⟩ : ∃ last : Int, last = max (e + m.log2 - 52) (-1074) := ⟨_, rfl⟩
    have hle : last ≤ e := by omega
    have hkept : Toward.even.cut s (m <<< (e - last).toNat) (last - e).toNat = m * 2 ^ (e - last).toNat := by
      rw [show (last - e).toNat = 0 by omega, cut_none, Nat.shiftLeft_eq]
    obtain ⟨kept, hk⟩ : ∃ kept, kept = m * 2 ^ (e - last).toNat := ⟨_, rfl⟩
    have hd : (e - last).toNat ≤ 52 - m.log2 := by omega
    have k1 : kept < 9007199254740992 := by
      have h1 : kept < 2 ^ (m.log2 + 1) * 2 ^ (e - last).toNat := by rw [hk]; exact Nat.mul_lt_mul_of_pos_right hhi (Nat.two_pow_pos _)
      rw [← Nat.pow_add] at h1
      have h2 : 2 ^ (m.log2 + 1 + (e - last).toNat) ≤ 2 ^ 53 := Nat.pow_le_pow_right (by omega) (by omega)
      omega
    have k2 : -1074 < last → 4503599627370496 ≤ kept := by
      intro hl
      have h1 : 2 ^ m.log2 * 2 ^ (e - last).toNat ≤ kept := by rw [hk]; exact Nat.mul_le_mul_right _ hlo
      rw [← Nat.pow_add, show m.log2 + (e - last).toNat = 52 by omega] at h1
      omega
    have hn : double.nearest s m e = double.word s ((last + 1074).toNat * 4503599627370496 + kept) := by
      unfold Format.nearest
      rw [if_neg h0]
      have hfb : (double.fractionBits : Int) = 52 := rfl
      simp only [dbl_least, dbl_binade, dbl_inf, hfb]
      rw [← hlast, hkept, ← hk, show last - -1074 = last + 1074 by omega]
      rw [Nat.min_eq_left (by omega)]
    refine ⟨kept, last, ?_, hle, hk⟩
    rw [hn, read_word _ _ (by omega)]
    by_cases hlt : (last + 1074).toNat * 4503599627370496 + kept < 4503599627370496
    · rw [if_pos hlt]
      rw [show last = -1074 by omega]; simp
    · rw [if_neg hlt]
      have a1 : ((last + 1074).toNat * 4503599627370496 + kept) / 4503599627370496 = (last + 1074).toNat + 1 := by omega
      have a2 : ((last + 1074).toNat * 4503599627370496 + kept) % 4503599627370496 = kept - 4503599627370496 := by omega
      have a3 : 4503599627370496 + (kept - 4503599627370496) = kept := by omega
      have a4 : (-1074 : Int) + (((last + 1074).toNat + 1 - 1 : Nat) : Int) = last := by omega
      rw [a1, a2, a3, a4]
end Go.Proofs.Ytaabfmmfneajoaa.Num
