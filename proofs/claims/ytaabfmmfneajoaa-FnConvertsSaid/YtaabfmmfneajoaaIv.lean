/- Plain laws of Ieee: a single made a double keeps its worth. -/
import Derived.Test.YtaabfmmfneajoaaIw
namespace Go.Proofs.Ytaabfmmfneajoaa.Num
open Ieee

theorem sgl_binade : single.binade = 8388608 := by decide
theorem sgl_weight : single.signWeight = 2147483648 := by decide
theorem sgl_inf : single.infRung = 2139095040 := by decide
theorem sgl_least : single.leastPlace = -149 := by decide

theorem sgl_read (g : Nat) (s : Bool) (m : Nat) (e : Int) (h : single.read g = .number s m e) : m < 16777216 ∧ -149 ≤ e ∧ e ≤ 110 := by
  unfold Format.read at h
  simp only [sgl_binade, sgl_weight, sgl_inf, sgl_least] at h
  split at h
  · cases h; omega
  · split at h
    · cases h; omega
    · split at h <;> cases h

theorem widen (g : Nat) (s : Bool) (m : Nat) (e : Int) (h : single.read g = .number s m e) :
    ∃ m' e', double.read (double.nearest s m e) = .number s m' e' ∧ trunc m' e' = trunc m e := by
  obtain ⟨h1, h2, h3⟩ := sgl_read g s m e h
  have hl : m.log2 ≤ 24 := by
    by_cases h0 : m = 0
    · subst h0; simp
    · have := (Nat.log2_lt h0).2 (show m < 2 ^ 24 by omega); omega
  obtain ⟨m', e', hr, he, hm⟩ := nearest_exact s m e (by omega) (by omega) (by omega)
  exact ⟨m', e', hr, by rw [hm]; exact trunc_up m e' e he⟩
end Go.Proofs.Ytaabfmmfneajoaa.Num
