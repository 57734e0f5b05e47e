/- Of two binary operators, the one that binds more is that of the higher level; the right one of two powers is the operand of the left one; nothing else is a binary operator. For any two texts. -/
import Derived.Test.YtlphfinmdacolaaPFnLevelsx3
set_option linter.unusedSimpArgs false
set_option linter.unusedVariables false
namespace Go.Proofs.Ytlphfinmdacolaa.Pure
open Go.RowKit Go.Proofs.Ytlphfinmdacolaa.PFnLevels Go.Proofs.YtlphfinmdacolaaW.PrintWords Go.Proofs.YtlphfinmdacolaaW.PrintLast

def Tab (p sd m : Int) : Prop :=
  (p = 0 ∧ sd = 1 ∧ m = 0) ∨ (p = 10 ∧ sd = 1 ∧ m = 1) ∨ (p = 15 ∧ sd = 1 ∧ m = 2) ∨ (p = 20 ∧ sd = 1 ∧ m = 3) ∨ (p = 25 ∧ sd = 1 ∧ m = 4) ∨
  (p = 30 ∧ sd = 1 ∧ m = 5) ∨ (p = 60 ∧ sd = 1 ∧ m = 6) ∨ (p = 100 ∧ sd = 2 ∧ m = 7) ∨ (p = 500 ∧ sd = 1 ∧ m = 8)

def Lv (k : Nat) (s : ByteArray) : Prop :=
  (∃ p sd m, impl_Binary.f s = some (p, sd, true) ∧ spec_Level.f k s = some m ∧ Tab p sd m) ∨
  (impl_Binary.f s = some (0, 0, false) ∧ spec_Level.f k s = some (-1))

theorem lv (s : ByteArray) (k : Nat) : Lv (k + 6) s := by
  unfold Lv
  by_cases h0 : s.toList = [124]
  · exact .inl ⟨0, 1, 0, by simp [impl_Binary.f, operator_FindBinary.f, h0], by simp [spec_Level.f, spec_Level.j0, spec_Level.j1, spec_Level.j2, spec_Level.j3, spec_Level.j4, spec_Level.j5, h0], by simp [Tab]⟩
  by_cases h1 : s.toList = [111, 114]
  · exact .inl ⟨10, 1, 1, by simp [impl_Binary.f, operator_FindBinary.f, h1], by simp [spec_Level.f, spec_Level.j0, spec_Level.j1, spec_Level.j2, spec_Level.j3, spec_Level.j4, spec_Level.j5, h1], by simp [Tab]⟩
  by_cases h2 : s.toList = [124, 124]
  · exact .inl ⟨10, 1, 1, by simp [impl_Binary.f, operator_FindBinary.f, h2], by simp [spec_Level.f, spec_Level.j0, spec_Level.j1, spec_Level.j2, spec_Level.j3, spec_Level.j4, spec_Level.j5, h2], by simp [Tab]⟩
  by_cases h3 : s.toList = [97, 110, 100]
  · exact .inl ⟨15, 1, 2, by simp [impl_Binary.f, operator_FindBinary.f, h3], by simp [spec_Level.f, spec_Level.j0, spec_Level.j1, spec_Level.j2, spec_Level.j3, spec_Level.j4, spec_Level.j5, h3], by simp [Tab]⟩
  by_cases h4 : s.toList = [38, 38]
  · exact .inl ⟨15, 1, 2, by simp [impl_Binary.f, operator_FindBinary.f, h4], by simp [spec_Level.f, spec_Level.j0, spec_Level.j1, spec_Level.j2, spec_Level.j3, spec_Level.j4, spec_Level.j5, h4], by simp [Tab]⟩
  by_cases h5 : s.toList = [61, 61]
  · exact .inl ⟨20, 1, 3, by simp [impl_Binary.f, operator_FindBinary.f, h5], by simp [spec_Level.f, spec_Level.j0, spec_Level.j1, spec_Level.j2, spec_Level.j3, spec_Level.j4, spec_Level.j5, h5], by simp [Tab]⟩
  by_cases h6 : s.toList = [33, 61]
  · exact .inl ⟨20, 1, 3, by simp [impl_Binary.f, operator_FindBinary.f, h6], by simp [spec_Level.f, spec_Level.j0, spec_Level.j1, spec_Level.j2, spec_Level.j3, spec_Level.j4, spec_Level.j5, h6], by simp [Tab]⟩
  by_cases h7 : s.toList = [60]
  · exact .inl ⟨20, 1, 3, by simp [impl_Binary.f, operator_FindBinary.f, h7], by simp [spec_Level.f, spec_Level.j0, spec_Level.j1, spec_Level.j2, spec_Level.j3, spec_Level.j4, spec_Level.j5, h7], by simp [Tab]⟩
  by_cases h8 : s.toList = [62]
  · exact .inl ⟨20, 1, 3, by simp [impl_Binary.f, operator_FindBinary.f, h8], by simp [spec_Level.f, spec_Level.j0, spec_Level.j1, spec_Level.j2, spec_Level.j3, spec_Level.j4, spec_Level.j5, h8], by simp [Tab]⟩
  by_cases h9 : s.toList = [62, 61]
  · exact .inl ⟨20, 1, 3, by simp [impl_Binary.f, operator_FindBinary.f, h9], by simp [spec_Level.f, spec_Level.j0, spec_Level.j1, spec_Level.j2, spec_Level.j3, spec_Level.j4, spec_Level.j5, h9], by simp [Tab]⟩
  by_cases h10 : s.toList = [60, 61]
  · exact .inl ⟨20, 1, 3, by simp [impl_Binary.f, operator_FindBinary.f, h10], by simp [spec_Level.f, spec_Level.j0, spec_Level.j1, spec_Level.j2, spec_Level.j3, spec_Level.j4, spec_Level.j5, h10], by simp [Tab]⟩
  by_cases h11 : s.toList = [105, 110]
  · exact .inl ⟨20, 1, 3, by simp [impl_Binary.f, operator_FindBinary.f, h11], by simp [spec_Level.f, spec_Level.j0, spec_Level.j1, spec_Level.j2, spec_Level.j3, spec_Level.j4, spec_Level.j5, h11], by simp [Tab]⟩
  by_cases h12 : s.toList = [109, 97, 116, 99, 104, 101, 115]
  · exact .inl ⟨20, 1, 3, by simp [impl_Binary.f, operator_FindBinary.f, h12], by simp [spec_Level.f, spec_Level.j0, spec_Level.j1, spec_Level.j2, spec_Level.j3, spec_Level.j4, spec_Level.j5, h12], by simp [Tab]⟩
  by_cases h13 : s.toList = [99, 111, 110, 116, 97, 105, 110, 115]
  · exact .inl ⟨20, 1, 3, by simp [impl_Binary.f, operator_FindBinary.f, h13], by simp [spec_Level.f, spec_Level.j0, spec_Level.j1, spec_Level.j2, spec_Level.j3, spec_Level.j4, spec_Level.j5, h13], by simp [Tab]⟩
  by_cases h14 : s.toList = [115, 116, 97, 114, 116, 115, 87, 105, 116, 104]
  · exact .inl ⟨20, 1, 3, by simp [impl_Binary.f, operator_FindBinary.f, h14], by simp [spec_Level.f, spec_Level.j0, spec_Level.j1, spec_Level.j2, spec_Level.j3, spec_Level.j4, spec_Level.j5, h14], by simp [Tab]⟩
  by_cases h15 : s.toList = [101, 110, 100, 115, 87, 105, 116, 104]
  · exact .inl ⟨20, 1, 3, by simp [impl_Binary.f, operator_FindBinary.f, h15], by simp [spec_Level.f, spec_Level.j0, spec_Level.j1, spec_Level.j2, spec_Level.j3, spec_Level.j4, spec_Level.j5, h15], by simp [Tab]⟩
  by_cases h16 : s.toList = [46, 46]
  · exact .inl ⟨25, 1, 4, by simp [impl_Binary.f, operator_FindBinary.f, h16], by simp [spec_Level.f, spec_Level.j0, spec_Level.j1, spec_Level.j2, spec_Level.j3, spec_Level.j4, spec_Level.j5, h16], by simp [Tab]⟩
  by_cases h17 : s.toList = [43]
  · exact .inl ⟨30, 1, 5, by simp [impl_Binary.f, operator_FindBinary.f, h17], by simp [spec_Level.f, spec_Level.j0, spec_Level.j1, spec_Level.j2, spec_Level.j3, spec_Level.j4, spec_Level.j5, h17], by simp [Tab]⟩
  by_cases h18 : s.toList = [45]
  · exact .inl ⟨30, 1, 5, by simp [impl_Binary.f, operator_FindBinary.f, h18], by simp [spec_Level.f, spec_Level.j0, spec_Level.j1, spec_Level.j2, spec_Level.j3, spec_Level.j4, spec_Level.j5, h18], by simp [Tab]⟩
  by_cases h19 : s.toList = [42]
  · exact .inl ⟨60, 1, 6, by simp [impl_Binary.f, operator_FindBinary.f, h19], by simp [spec_Level.f, spec_Level.j0, spec_Level.j1, spec_Level.j2, spec_Level.j3, spec_Level.j4, spec_Level.j5, h19], by simp [Tab]⟩
  by_cases h20 : s.toList = [47]
  · exact .inl ⟨60, 1, 6, by simp [impl_Binary.f, operator_FindBinary.f, h20], by simp [spec_Level.f, spec_Level.j0, spec_Level.j1, spec_Level.j2, spec_Level.j3, spec_Level.j4, spec_Level.j5, h20], by simp [Tab]⟩
  by_cases h21 : s.toList = [37]
  · exact .inl ⟨60, 1, 6, by simp [impl_Binary.f, operator_FindBinary.f, h21], by simp [spec_Level.f, spec_Level.j0, spec_Level.j1, spec_Level.j2, spec_Level.j3, spec_Level.j4, spec_Level.j5, h21], by simp [Tab]⟩
  by_cases h22 : s.toList = [42, 42]
  · exact .inl ⟨100, 2, 7, by simp [impl_Binary.f, operator_FindBinary.f, h22], by simp [spec_Level.f, spec_Level.j0, spec_Level.j1, spec_Level.j2, spec_Level.j3, spec_Level.j4, spec_Level.j5, h22], by simp [Tab]⟩
  by_cases h23 : s.toList = [94]
  · exact .inl ⟨100, 2, 7, by simp [impl_Binary.f, operator_FindBinary.f, h23], by simp [spec_Level.f, spec_Level.j0, spec_Level.j1, spec_Level.j2, spec_Level.j3, spec_Level.j4, spec_Level.j5, h23], by simp [Tab]⟩
  by_cases h24 : s.toList = [63, 63]
  · exact .inl ⟨500, 1, 8, by simp [impl_Binary.f, operator_FindBinary.f, h24], by simp [spec_Level.f, spec_Level.j0, spec_Level.j1, spec_Level.j2, spec_Level.j3, spec_Level.j4, spec_Level.j5, h24], by simp [Tab]⟩
  exact .inr ⟨by simp [impl_Binary.f, operator_FindBinary.f, h0, h1, h2, h3, h4, h5, h6, h7, h8, h9, h10, h11, h12, h13, h14, h15, h16, h17, h18, h19, h20, h21, h22, h23, h24], by simp [spec_Level.f, spec_Level.j0, spec_Level.j1, spec_Level.j2, spec_Level.j3, spec_Level.j4, spec_Level.j5, h0, h1, h2, h3, h4, h5, h6, h7, h8, h9, h10, h11, h12, h13, h14, h15, h16, h17, h18, h19, h20, h21, h22, h23, h24]⟩

theorem lv_power (k : Nat) : spec_Level.f (k + 6) (⟨#[94]⟩ : ByteArray) = some 7 := by
  simp [spec_Level.f, spec_Level.j0, spec_Level.j1, spec_Level.j2, spec_Level.j3, spec_Level.j4, spec_Level.j5]

theorem lv_plus : impl_Binary.f (⟨#[43]⟩ : ByteArray) = some (30, 1, true) := by simp [impl_Binary.f, operator_FindBinary.f]

theorem two (p q sd sd' m n : Int) (h : Tab p sd m) (h' : Tab q sd' n) :
    (decide (p < q) == decide (m < n)) = true ∧ ((p == q) == (m == n)) = true ∧ (m = 7 → sd = 2) ∧ (m ≠ 7 → sd = 1) ∧ 0 ≤ m := by
  unfold Tab at h h'
  rcases h with ⟨rfl, rfl, rfl⟩ | ⟨rfl, rfl, rfl⟩ | ⟨rfl, rfl, rfl⟩ | ⟨rfl, rfl, rfl⟩ | ⟨rfl, rfl, rfl⟩ | ⟨rfl, rfl, rfl⟩ | ⟨rfl, rfl, rfl⟩ | ⟨rfl, rfl, rfl⟩ | ⟨rfl, rfl, rfl⟩ <;>
  rcases h' with ⟨rfl, rfl, rfl⟩ | ⟨rfl, rfl, rfl⟩ | ⟨rfl, rfl, rfl⟩ | ⟨rfl, rfl, rfl⟩ | ⟨rfl, rfl, rfl⟩ | ⟨rfl, rfl, rfl⟩ | ⟨rfl, rfl, rfl⟩ | ⟨rfl, rfl, rfl⟩ | ⟨rfl, rfl, rfl⟩ <;>
  decide

theorem FnLevels : laws_FnLevels.Pure := by
  intro a b _ _
  refine ⟨20, ?_⟩
  have main : ∀ x, laws_FnLevels.j0 20 a b x = some true := by
    intro x
    have ha := lv a 13
    have hb := lv b 13
    rw [show (20 : Nat) = 19 + 1 from rfl, laws_FnLevels.j0]
    by_cases hx : x = true
    · rw [if_pos hx]
    rw [if_neg hx]
    unfold Lv at ha hb
    rcases ha with ⟨p, sd, m, e1, e2, t1⟩ | ⟨e1, e2⟩ <;> rcases hb with ⟨q, sd', n, f1, f2, t2⟩ | ⟨f1, f2⟩
    · obtain ⟨h1, h2, h3, h4, h5⟩ := two p q sd sd' m n t1 t2
      obtain ⟨_, _, _, _, h6⟩ := two q p sd' sd n m t2 t1
      simp only [e1, e2, f1, f2, lv_plus, Option.bind_some]
      have d1 : decide (m ≥ 0) = true := by simpa using h5
      have d2 : decide (n ≥ 0) = true := by simpa using h6
      simp only [d1, d2, laws_FnLevels.j1, laws_FnLevels.j2, lv_power 11, Option.bind_some, h1, h2]
      by_cases h7 : m = 7
      · simp [h7, h3 h7]
      · simp [h7, h4 h7]
    · obtain ⟨_, _, _, _, h5⟩ := two p p sd sd m m t1 t1
      have d1 : decide (m ≥ 0) = true := by simpa using h5
      simp only [e1, e2, f1, f2, lv_plus, Option.bind_some]
      simp [d1, laws_FnLevels.j1, laws_FnLevels.j2]
    · obtain ⟨_, _, _, _, h6⟩ := two q q sd' sd' n n t2 t2
      have d2 : decide (n ≥ 0) = true := by simpa using h6
      simp only [e1, e2, f1, f2, lv_plus, Option.bind_some]
      simp [d2, laws_FnLevels.j1, laws_FnLevels.j2]
    · simp only [e1, e2, f1, f2, lv_plus, Option.bind_some]
      simp [laws_FnLevels.j1, laws_FnLevels.j2]
  unfold laws_FnLevels.f
  split <;> exact main _

end Go.Proofs.Ytlphfinmdacolaa.Pure
