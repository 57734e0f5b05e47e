/- The unary operators are not, !, - and +; the first two bind less than * and more than +, the others less than ^ and more than *. For any text. -/
import Derived.Test.YtlphfinmdacolaaPFnUnariesx1
set_option linter.unusedSimpArgs false
set_option linter.unusedVariables false
namespace Go.Proofs.Ytlphfinmdacolaa.Pure
open Go.RowKit Go.Proofs.Ytlphfinmdacolaa.PFnUnaries Go.Proofs.YtlphfinmdacolaaW.PrintWords Go.Proofs.YtlphfinmdacolaaW.PrintLast

theorem un_plus : impl_Binary.f (⟨#[43]⟩ : ByteArray) = some (30, 1, true) := by simp [impl_Binary.f, operator_FindBinary.f]
theorem un_times : impl_Binary.f (⟨#[42]⟩ : ByteArray) = some (60, 1, true) := by simp [impl_Binary.f, operator_FindBinary.f]
theorem un_power : impl_Binary.f (⟨#[94]⟩ : ByteArray) = some (100, 2, true) := by simp [impl_Binary.f, operator_FindBinary.f]

theorem FnUnaries : laws_FnUnaries.Pure := by
  intro a _
  refine ⟨20, ?_⟩
  unfold laws_FnUnaries.f
  by_cases hx : (a.size : Int) > 2147483647
  · rw [if_pos hx]
  rw [if_neg hx]
  simp only [un_plus, un_times, un_power, Option.bind_some, impl_Unary.f, operator_FindUnary.f, laws_FnUnaries.j0]
  generalize a.toList = l
  by_cases h1 : l = [110, 111, 116]
  · subst h1; simp
  by_cases h2 : l = [33]
  · subst h2; simp
  by_cases h3 : l = [45]
  · subst h3; simp
  by_cases h4 : l = [43]
  · subst h4; simp
  simp [h1, h2, h3, h4]

end Go.Proofs.Ytlphfinmdacolaa.Pure
