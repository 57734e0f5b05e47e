/- A tree in which the first elements of filters have been made into searches has the value that it had, if it had one: for all trees of at most 300 nodes of the kinds and operators that spec.Whole lets in, that take at most 20000 steps, and all values of names. -/
import Derived.Test.YtafhhdimjkgihaaRows
import Derived.Test.YtafhhdimjkgihaaKFilterFirst2
import Derived.Test.YtafhhdimjkgihaaM43
namespace Go.Proofs.Ytafhhdimjkgihaa.fnFilterFirst
open Go.ChangeShapes Go.WideShapes Go.ChangeAt Go.RowKit
set_option linter.unusedVariables false
set_option linter.unusedSimpArgs false
theorem own : ownKnob Try.prog.godebug = none := by kernel_rfl
theorem laidOut : laidOutB Try.prog = true := by kernel_rfl
set_option maxRecDepth 100000 in
theorem lifted (os : Os) (started : os.Started) (H : Type) (enc : TypeId × Value → H) :
    ReturnsInHanded {} Try.checked os 5 .any (Rows.fnFilterFirstMeansSpec.pre6 enc Try.prog Try.f5 Rows.fnFilterFirstMeansRow.domain false) (Rows.fnFilterFirstMeansSpec.post enc Try.prog Try.f5 false true false false) := by
  refine returnsInHanded_of_change_sized (C := Try.checked) own started (by kernel_rfl) Try.func5
    (ChangeSpec.witness6 (enc := enc) (C := Try.checked) false ⟨#[], #[Mn.zT, .slice none 0 0], []⟩ 8 (by kernel_rfl) (by kernel_rfl) (by kernel_rfl) (by kernel_rfl)) ?_
  intro W base args ds gs before hval0 hW hcnd hsz0 _
  have hval : ∀ (j : Nat) t v, Try.f5.params[j]? = some t → args[j]? = some v → Value.okWide Try.prog W .any base t v := hval0
  have hW' := hW
  obtain ⟨p, q, hA0, hV, rfl, hfz, hnd⟩ := hW
  have hA : DataW.TrodAll enc Try.prog W 0 (fun _ => true) true Try.f5.params.toList args.toList ds p := hA0
  rw [Try.params5] at hA hval
  obtain ⟨v0, vs0, d0, ds0, p0, q0, hargs, rfl, rfl, h0, r0⟩ := trodAll_cons hA
  obtain ⟨v1, vs1, d1, ds1, p1, q1, rfl, rfl, rfl, h1, r1⟩ := trodAll_cons r0
  obtain ⟨rfl, rfl, rfl⟩ := trodAll_nil r1
  obtain rfl : args = #[v0, v1] := by cases args; simp_all
  obtain ⟨rfl, rfl⟩ := trodVars_none hV
  have hsz : (DataW.weightsEach Try.prog [25, 26] [d0, d1]).all (· ≤ reachBytes) = true := hsz0
  have z0 : Mn.Sz 25 d0 := fun n hn => by have := List.all_eq_true.1 hsz n (DataW.weights_mem_each (j := 0) rfl rfl n hn); simpa using this
  have z1 : Mn.Sz 26 d1 := fun n hn => by have := List.all_eq_true.1 hsz n (DataW.weights_mem_each (j := 1) rfl rfl n hn); simpa using this
  have k0 := h0
  have k1 := h1
  have lt0 : ∀ x ∈ p0, x.block < W.heap.size := by obtain ⟨m, hm⟩ := k0; exact DataW.trod_lt m _ _ _ hm
  have lt1 : ∀ x ∈ p1, x.block < W.heap.size := by obtain ⟨m, hm⟩ := k1; exact DataW.trod_lt m _ _ _ hm
  obtain ⟨⟨l⟩, rfl, _⟩ := okWide_struct Try.underlying25 (hval 0 25 v0 rfl rfl)
  obtain ⟨a1, len1, cap1, rfl⟩ := okWide_slice Try.underlying26 (hval 1 26 v1 rfl rfl)
  obtain ⟨fuel0, hf0⟩ := h0
  obtain ⟨fuel1, hf1⟩ := h1
  obtain ⟨t, f, a, c, a', c', pp, qq, hl, hT⟩ := Mn.openT fuel0 l _ (by simpa [Value.cells] using hf0) z0
  obtain ⟨names, an, cn, ncs, hn, hR, hN⟩ := Mn.openN (fuel := fuel1) (u := .slice a1 len1 cap1) (by simpa [Value.cells] using hf1) z1
  subst hl
  rw [hn] at k1 hW' ⊢
  clear hA0 hval0 hf0 hf1
  refine (Mn.law_filterFirst t Mn.stFilterFirst (Mn.impl_filterFirst t (fun hW => Mn.zz_filterFirst _ (Mn.Struck.bare ⟨t, hW, rfl⟩))) names (Mn.asks_filterFirst names t) (fun _ => False) an cn ncs f a c a' c' pp qq W (fun _ h => h.elim) hR hN hT).mono fun e W' ⟨he, bel⟩ => ?_
  subst he
  exact ⟨_, rfl, _, _, _, [], _, [], hW', trodAll_mk1 (shut_bool Try.underlying4 _), (trodAll_cons_mk (Below.trod laidOut (by kernel_rfl) (of_decide_eq_true (by kernel_rfl)) k0 bel lt0) (trodAll_cons_mk (Below.trod laidOut (by kernel_rfl) (of_decide_eq_true (by kernel_rfl)) k1 bel lt1) trodAll_mk0)), rfl, bel.frame _, fun h => by cases h⟩

theorem over : Rows.fnFilterFirstMeansRow.holds Try.pinned (OpenSpec.ofChange Rows.fnFilterFirstMeansSpec) :=
  OpenClaim.holds_of_wide 5 Try.f5 rfl rfl rfl rfl rfl rfl rfl ⟨rfl, rfl, rfl, rfl, rfl⟩ rfl rfl rfl rfl rfl (by kernel_rfl) Try.func5 (by kernel_rfl)
    (of_decide_eq_true (by kernel_rfl)) (by unfold Func.isWrapper; first | (rw [if_pos (by decide +kernel)]; kernel_rfl) | (rw [if_neg (by decide +kernel)]; exact ⟨rfl, rfl⟩))
    (fun os started H enc _ => lifted os started H enc)

/-- ████ THE STATEMENT ████ -/
theorem proved : Rows.FnFilterFirstMeansSaid := over
#print axioms proved
end Go.Proofs.Ytafhhdimjkgihaa.fnFilterFirst
namespace Go.Proofs.Ytafhhdimjkgihaa
/-- The row, under a short name, for the claim. -/
theorem fnFilterFirst_holds : Rows.FnFilterFirstMeansSaid := fnFilterFirst.proved
end Go.Proofs.Ytafhhdimjkgihaa
