/- The law of the conversions, whatever the kind. -/
import Derived.Test.YtaabfmmfneajoaaCv4
set_option linter.unusedSimpArgs false
set_option linter.unusedVariables false
namespace Go.Proofs.Ytaabfmmfneajoaa.Num
open Go.RowKit

theorem order_some (a b : Ieee.Datum) (ha : a.isNaN = false) (hb : b.isNaN = false) : ∃ o, a.order b = some o := by
  cases a <;> cases b <;> simp [Ieee.Datum.isNaN, Ieee.Datum.order] at *

theorem not_nan (f : Nat) (h : feq f f = true) : (Ieee.double.read f).isNaN = false := by
  have h1 : (Ieee.double.read f).order (Ieee.double.read f) = some .eq := by
    have : Ieee.double.order f f = some .eq := by simpa [feq] using h
    exact this
  cases hd : Ieee.double.read f <;> rw [hd] at h1 <;> simp [Ieee.Datum.order, Ieee.Datum.isNaN] at *

theorem five (f : Nat) : feq f f = false ∨ Ieee.double.order f 14069245235905429504 = some .lt ∨ Ieee.double.order f 14069245235905429504 = some .eq ∨
    (Ieee.double.order f 14069245235905429504 = some .gt ∧ Ieee.double.order f 4845873199050653696 = some .gt) ∨ (Ieee.double.order f 14069245235905429504 = some .gt ∧ Ieee.double.order f 4845873199050653696 = some .eq) ∨
    (Ieee.double.order f f = some .eq ∧ Ieee.double.order f 14069245235905429504 = some .gt ∧ Ieee.double.order f 4845873199050653696 = some .lt) := by
  cases hf : feq f f
  · exact .inl rfl
  · have hn := not_nan f hf
    have hs : Ieee.double.order f f = some .eq := by simpa [feq] using hf
    obtain ⟨o, ho⟩ := order_some _ (Ieee.double.read 14069245235905429504) hn (by decide)
    obtain ⟨p, hp⟩ := order_some _ (Ieee.double.read 4845873199050653696) hn (by decide)
    have ho' : Ieee.double.order f 14069245235905429504 = some o := ho
    have hp' : Ieee.double.order f 4845873199050653696 = some p := hp
    cases o <;> cases p <;> simp [ho', hp', hs]

theorem cv_law (k : Int) (hk0 : -9223372036854775808 ≤ k) (hk1 : k ≤ 9223372036854775807) (w : World) (i u : Int) (f : Nat) (s : ByteArray) (b : Bool) (h0 : -9223372036854775808 ≤ i) (h1 : i ≤ 9223372036854775807) (g0 : 0 ≤ u) (g1 : u ≤ 18446744073709551615) : Calls Try.prog 4 #[V k i u f s b] w (Fine w) := by
  by_cases hk : k < 0 ∨ 14 < k
  · exact cv_no k hk hk0 hk1 w i u f s b h0 h1 g0 g1
  · have : k = 0 ∨ k = 1 ∨ k = 2 ∨ k = 3 ∨ k = 4 ∨ k = 5 ∨ k = 6 ∨ k = 7 ∨ k = 8 ∨ k = 9 ∨ k = 10 ∨ k = 11 ∨ k = 12 ∨ k = 13 ∨ k = 14 := by omega
    rcases this with rfl | rfl | rfl | rfl | rfl | rfl | rfl | rfl | rfl | rfl | rfl | rfl | rfl | rfl | rfl
    · exact cv_0 w i u f s b h0 h1 g0 g1
    · exact cv_1 w i u f s b h0 h1 g0 g1
    · exact cv_2 w i u f s b h0 h1 g0 g1
    · exact cv_3 w i u f s b h0 h1 g0 g1
    · exact cv_4 w i u f s b h0 h1 g0 g1
    · exact cv_5 w i u f s b h0 h1 g0 g1
    · exact cv_6 w i u f s b h0 h1 g0 g1
    · exact cv_7 w i u f s b h0 h1 g0 g1
    · exact cv_8 w i u f s b h0 h1 g0 g1
    · exact cv_9 w i u f s b h0 h1 g0 g1
    · exact cv_10 w i u f s b h0 h1 g0 g1
    · rcases five f with hf | hf | hf | ⟨hf, hg⟩ | ⟨hf, hg⟩ | ⟨hs, hf, hg⟩
      · exact cv_11_nan w i u f s b h0 h1 g0 g1 hf
      · exact cv_11_out0 w i u f s b h0 h1 g0 g1 hf
      · exact cv_11_out1 w i u f s b h0 h1 g0 g1 hf
      · exact cv_11_out2 w i u f s b h0 h1 g0 g1 hf hg
      · exact cv_11_out3 w i u f s b h0 h1 g0 g1 hf hg
      · obtain ⟨r, q, n, hr, hq, hn, _, _, hi⟩ := both_ways f hg hf
        exact cv_11 w i u f s b h0 h1 g0 g1 r q n (fun w => by simp [nar, hr]) (by simp [narN, hr]) (fun w => by simp [wid, hq]) (by simp [widN, hq]) hn hi hg hf
    · rcases five f with hf | hf | hf | ⟨hf, hg⟩ | ⟨hf, hg⟩ | ⟨hs, hf, hg⟩
      · exact cv_12_nan w i u f s b h0 h1 g0 g1 hf
      · exact cv_12_out0 w i u f s b h0 h1 g0 g1 hf
      · exact cv_12_out1 w i u f s b h0 h1 g0 g1 hf
      · exact cv_12_out2 w i u f s b h0 h1 g0 g1 hf hg
      · exact cv_12_out3 w i u f s b h0 h1 g0 g1 hf hg
      · obtain ⟨n, hn, _, _⟩ := toInt_small f hg hf
        exact cv_12 w i u f s b h0 h1 g0 g1 n hn hs hg hf
    · exact cv_13 w i u f s b h0 h1 g0 g1
    · exact cv_14 w i u f s b h0 h1 g0 g1
end Go.Proofs.Ytaabfmmfneajoaa.Num
