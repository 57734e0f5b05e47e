/- Plain laws of Ieee for the conversions: a float of an amount below 2^53 as a single, as an integer; a float of an integer is a number. -/
import Derived.Test.YtaabfmmfneajoaaIr
import Derived.Laws.FloatArith
namespace Go.Proofs.Ytaabfmmfneajoaa.Num
open Ieee

theorem nearest_number (s : Bool) (m : Nat) (e : Int) : ∃ r, double.nearest s m e = double.word s r ∧ r ≤ 9218868437227405312 := by
  unfold Format.nearest
  by_cases h0 : m = 0
  · rw [if_pos h0]; exact ⟨0, rfl, by omega⟩
  · rw [if_neg h0]; exact ⟨_, rfl, by rw [← dbl_inf]; exact Nat.min_le_right _ _⟩

theorem word_notNaN (s : Bool) (r : Nat) (h : r ≤ 9218868437227405312) : (double.read (double.word s r)).isNaN = false := by
  by_cases h1 : r < 9218868437227405312
  · rw [read_word s r h1]; split <;> rfl
  · obtain rfl : r = 9218868437227405312 := by omega
    cases s <;> decide

theorem order_self' (d : Datum) (h : d.isNaN = false) : d.order d = some .eq := by
  cases d <;> simp [Datum.order, Datum.isNaN] at *

/-- a float of an integer is equal to itself -/
theorem int_order (n : Int) : double.order (floatOfInt .f64 n) (floatOfInt .f64 n) = some .eq := by
  obtain ⟨r, hr, hle⟩ := nearest_number (n < 0) n.natAbs 0
  refine order_self' _ ?_
  show (double.read (double.nearest (n < 0) n.natAbs 0)).isNaN = false
  rw [hr]; exact word_notNaN _ _ hle

theorem toInt_val (f : Nat) (s : Bool) (m : Nat) (e : Int) (hr : double.read f = .number s m e) (h : trunc m e < 9007199254740992) :
    floatToIntVal .f64 f .i64 = some (if s then -(trunc m e : Int) else (trunc m e : Int)) := by
  unfold floatToIntVal
  have : (FloatKind.f64.decode f).toInt .zero = some (if s then -(trunc m e : Int) else (trunc m e : Int)) := by
    show (double.read f).toInt .zero = _
    rw [hr, toInt_number]
  rw [this]
  simp only
  rw [if_pos]
  cases s <;> simp [IntKind.min, IntKind.max, IntKind.bits, IntKind.signed] <;> omega

/-- below 2^53: an integer comes of it -/
theorem toInt_small (f : Nat) (h1 : double.order f 4845873199050653696 = some .lt) (h2 : double.order f 14069245235905429504 = some .gt) :
    ∃ n, floatToIntVal .f64 f .i64 = some n ∧ -9007199254740992 < n ∧ n < 9007199254740992 := by
  obtain ⟨s, m, e, hr, hb⟩ := small f h1 h2
  have ht := trunc_lt m e hb
  exact ⟨_, toInt_val f s m e hr ht, by cases s <;> simp <;> omega, by cases s <;> simp <;> omega⟩

theorem log_small (m : Nat) (e : Int) (h0 : m ≠ 0) (h : m * 2 ^ (e - min e 1).toNat < 4503599627370496 * 2 ^ (1 - min e 1).toNat) : e + m.log2 ≤ 52 := by
  have hlo : 2 ^ m.log2 ≤ m := Nat.log2_self_le h0
  by_cases hi : 1 ≤ e
  · rw [Int.min_eq_right hi] at h
    have h2 : 2 ^ (m.log2 + (e - 1).toNat) < 2 ^ 52 := by
      rw [Nat.pow_add]
      refine Nat.lt_of_le_of_lt (Nat.mul_le_mul_right _ hlo) ?_
      simpa using h
    have := (Nat.pow_lt_pow_iff_right (a := 2) (by omega)).1 h2
    omega
  · rw [Int.min_eq_left (by omega), Int.sub_self] at h
    simp only [Int.toNat_zero, Nat.pow_zero, Nat.mul_one] at h
    have h2 : 2 ^ m.log2 < 2 ^ (52 + (1 - e).toNat) := by
      rw [Nat.pow_add]
      exact Nat.lt_of_le_of_lt hlo h
    have := (Nat.pow_lt_pow_iff_right (a := 2) (by omega)).1 h2
    omega

theorem cut_le (s : Bool) (n drop : Nat) : Toward.even.cut s n drop ≤ n / 2 ^ min drop (n.log2 + 2) + 1 := by
  unfold Toward.cut
  simp only [Nat.one_shiftLeft]
  have : ∀ b : Bool, b.toNat ≤ 1 := by decide
  exact Nat.add_le_add_left (this _) _

theorem sgl_read_word (s : Bool) (r : Nat) (h : r < 2139095040) :
    ∃ m e, single.read (single.word s r) = .number s m e := by
  unfold Format.read Format.word
  simp only [sgl_binade, sgl_weight, sgl_inf, sgl_least]
  cases s
  · simp only [Bool.false_eq_true, if_false]
    rw [show r % 2147483648 = r by omega, show r / 2147483648 = 0 by omega]
    simp only [h, if_true]
    split <;> exact ⟨_, _, rfl⟩
  · simp only [if_true]
    rw [show (2147483648 + r) % 2147483648 = r by omega, show (2147483648 + r) / 2147483648 = 1 by omega]
    simp only [h, if_true]
    split <;> exact ⟨_, _, rfl⟩

/-- below 2^53 a single comes of it, no infinity -/
theorem sgl_small (s : Bool) (m : Nat) (e : Int) (h : m * 2 ^ (e - min e 1).toNat < 4503599627370496 * 2 ^ (1 - min e 1).toNat) :
    ∃ m' e', single.read (single.nearest s m e) = .number s m' e' := by
  by_cases h0 : m = 0
  · subst h0
    simp only [Format.nearest, if_true]
    exact sgl_read_word s 0 (by omega)
  · have hl := log_small m e h0 h
    obtain ⟨last, hlast⟩ : ∃ last : Int, last = max (e + m.log2 - 23) (-149) := ⟨_, rfl⟩
    have hhi : m < 2 ^ (m.log2 + 1) := (Nat.log2_lt h0).1 (Nat.lt_succ_self _)
    have hkept : Toward.even.cut s (m <<< (e - last).toNat) (last - e).toNat ≤ 33554432 := by
      refine Nat.le_trans (cut_le _ _ _) ?_
      rw [Nat.shiftLeft_eq]
      by_cases hc : e ≤ last
      · rw [show (e - last).toNat = 0 by omega, Nat.pow_zero, Nat.mul_one]
        by_cases hd : (last - e).toNat ≤ m.log2 + 2
        · rw [Nat.min_eq_left hd]
          have : m / 2 ^ (last - e).toNat < 2 ^ 24 := by
            rw [Nat.div_lt_iff_lt_mul (Nat.two_pow_pos _), ← Nat.pow_add]
            exact Nat.lt_of_lt_of_le hhi (Nat.pow_le_pow_right (by omega) (by omega))
          omega
        · rw [Nat.min_eq_right (by omega), Nat.div_eq_of_lt (log2_lt m)]; omega
      · rw [show (last - e).toNat = 0 by omega, Nat.zero_min, Nat.pow_zero, Nat.div_one]
        have : m * 2 ^ (e - last).toNat < 2 ^ 24 := by
          refine Nat.lt_of_lt_of_le (Nat.mul_lt_mul_of_pos_right hhi (Nat.two_pow_pos _)) ?_
          rw [← Nat.pow_add]
          exact Nat.pow_le_pow_right (by omega) (by omega)
        omega
    have hn : ∃ r, single.nearest s m e = single.word s r ∧ r < 2139095040 := by
      unfold Format.nearest
      rw [if_neg h0]
      have hfb : (single.fractionBits : Int) = 23 := rfl
      simp only [sgl_least, sgl_binade, sgl_inf, hfb]
      rw [← hlast]
      refine ⟨_, rfl, ?_⟩
      refine Nat.lt_of_le_of_lt (Nat.min_le_left _ _) ?_
      have : (last - -149).toNat ≤ 178 := by omega
      omega
    obtain ⟨r, hr, hlt⟩ := hn
    rw [hr]; exact sgl_read_word s r hlt

/-- a float64 of an amount below 2^53 as a float32, and back -/
theorem both_ways (f : Nat) (h1 : double.order f 4845873199050653696 = some .lt) (h2 : double.order f 14069245235905429504 = some .gt) :
    ∃ r q n, floatToFloatBits .f64 f .f32 = some r ∧ floatToFloatBits .f32 r .f64 = some q ∧ floatToIntVal .f64 f .i64 = some n ∧ -9007199254740992 < n ∧ n < 9007199254740992 ∧ (double.order q f = some .eq → floatToIntVal .f32 r .i64 = some n) := by
  obtain ⟨s, m, e, hr, hb⟩ := small f h1 h2
  have ht := trunc_lt m e hb
  obtain ⟨m1, e1, hs⟩ := sgl_small s m e hb
  obtain ⟨m2, e2, hw, htr⟩ := widen _ _ _ _ hs
  refine ⟨single.nearest s m e, double.nearest s m1 e1, _, ?_, ?_, toInt_val f s m e hr ht, by cases s <;> simp <;> omega, by cases s <;> simp <;> omega, ?_⟩
  · unfold floatToFloatBits
    rw [if_neg (by decide)]
    have : FloatKind.f64.decode f = .number s m e := hr
    rw [this]
    simp only
    have h3 : FloatKind.f32.decode (FloatKind.f32.encode (.number s m e)) = .number s m1 e1 := hs
    rw [h3]; simp [Datum.isInfinity]; rfl
  · unfold floatToFloatBits
    rw [if_neg (by decide)]
    have : FloatKind.f32.decode (single.nearest s m e) = .number s m1 e1 := hs
    rw [this]
    simp only
    have h3 : FloatKind.f64.decode (FloatKind.f64.encode (.number s m1 e1)) = .number s m2 e2 := hw
    rw [h3]; simp [Datum.isInfinity]; rfl
  · intro ho
    have h4 := toInt_same _ _ (show (double.read (double.nearest s m1 e1)).order (double.read f) = some .eq from ho)
    rw [hw, hr, toInt_number, toInt_number, htr] at h4
    have h5 : (FloatKind.f32.decode (single.nearest s m e)).toInt .zero = some (if s then -(trunc m e : Int) else (trunc m e : Int)) := by
      show (single.read (single.nearest s m e)).toInt .zero = _
      rw [hs, toInt_number]; exact h4
    unfold floatToIntVal
    rw [h5]
    simp only
    rw [if_pos]
    cases s <;> simp [IntKind.min, IntKind.max, IntKind.bits, IntKind.signed] <;> omega
end Go.Proofs.Ytaabfmmfneajoaa.Num
