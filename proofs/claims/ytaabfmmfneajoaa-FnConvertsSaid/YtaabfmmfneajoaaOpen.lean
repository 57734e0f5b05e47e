/- A value of impl.Value that came in, opened: six cells, each of its kind. -/
import Derived.Test.YtaabfmmfneajoaaRows
import Derived.Test.YtaabfmmfneajoaaEq
import Derived.WalkKit
import Derived.ProofKit
import Derived.OpenShut
import Derived.ShutString
import Derived.ChangeOld
import Derived.Below
import Derived.Deep.Fields
set_option linter.unusedVariables false
set_option linter.unusedSimpArgs false
namespace Go.Proofs.Ytaabfmmfneajoaa.Num
open Go.ChangeShapes Go.WideShapes Go.ChangeAt Go.RowKit
section
variable {H : Type} {enc : TypeId × Value → H} {w : World} {base : Nat} {spare : Nat → Bool} {held : Bool}
theorem n25 : Try.prog.cellsOf 25 = 6 := by kernel_rfl
theorem n3 : Try.prog.cellsOf 3 = 1 := by kernel_rfl
theorem n2 : Try.prog.cellsOf 2 = 1 := by kernel_rfl
theorem n22 : Try.prog.cellsOf 22 = 1 := by kernel_rfl
theorem n23 : Try.prog.cellsOf 23 = 1 := by kernel_rfl
theorem n9 : Try.prog.cellsOf 9 = 1 := by kernel_rfl
theorem n4 : Try.prog.cellsOf 4 = 1 := by kernel_rfl
theorem trodFloat {t : TypeId} {fuel : Nat} {cs : List Value} {x : DataW H × List MemPlace} (ht : Try.prog.underlying t = some (.float .f64)) (h : DataW.trod enc Try.prog w base spare held fuel t cs = some x) : ∃ f : Nat, cs = [.float .f64 f] := by
  cases fuel with
  | zero => simp [DataW.trod] at h
  | succ n =>
    unfold DataW.trod at h
    rw [ht] at h
    split at h <;> simp_all
theorem open25 {r : Reach} {b0 : Nat} {v : Value} {d : DataW H} {p : List MemPlace} (hv : Value.okWide Try.prog w r b0 25 v) (h : DataW.Trod enc Try.prog w base spare held 25 v d p) :
    ∃ (k i u : Int) (f : Nat) (s : ByteArray) (b : Bool), v = V k i u f s b ∧ (Lit.int .i64 k).wf = true ∧ (Lit.int .i64 i).wf = true ∧ (Lit.int .u64 u).wf = true := by
  obtain ⟨⟨l⟩, rfl, hsz⟩ := okWide_struct Try.underlying25 hv
  rw [n25] at hsz
  obtain ⟨fuel, hf⟩ := h
  obtain ⟨xs, n, _, _, _, hlen, hg⟩ := DataW.trod_struct Try.underlying25 hf
  match l, hsz, xs, hlen, hg with
  | [v0, v1, v2, v3, v4, v5], _, [x0, x1, x2, x3, x4, x5], _, hg =>
    have e0 : DataW.trod enc Try.prog w base spare held n 3 [v0] = some x0 := by simpa [Value.cells, n3] using hg 0 _ rfl
    have e1 : DataW.trod enc Try.prog w base spare held n 2 [v1] = some x1 := by simpa [Value.cells, n2] using hg 1 _ rfl
    have e2 : DataW.trod enc Try.prog w base spare held n 22 [v2] = some x2 := by simpa [Value.cells, n22] using hg 2 _ rfl
    have e3 : DataW.trod enc Try.prog w base spare held n 23 [v3] = some x3 := by simpa [Value.cells, n23] using hg 3 _ rfl
    have e4 : DataW.trod enc Try.prog w base spare held n 9 [v4] = some x4 := by simpa [Value.cells, n9] using hg 4 _ rfl
    have e5 : DataW.trod enc Try.prog w base spare held n 4 [v5] = some x5 := by simpa [Value.cells, n4] using hg 5 _ rfl
    obtain ⟨k, hk, _, wk⟩ := DataW.trod_int Try.underlying3 e0
    obtain ⟨i, hi, _, wi⟩ := DataW.trod_int Try.underlying2 e1
    obtain ⟨u, hu, _, wu⟩ := DataW.trod_int Try.underlying22 e2
    obtain ⟨f, hF⟩ := trodFloat Try.underlying23 e3
    obtain ⟨s, hs, _, ws⟩ := DataW.trod_string Try.underlying9 e4
    obtain ⟨b, hb, _⟩ := DataW.trod_bool Try.underlying4 e5
    simp only [List.cons.injEq, and_true] at hk hi hu hF hs hb
    subst hk hi hu hF hs hb
    exact ⟨k, i, u, f, s, b, rfl, wk, wi, wu⟩
end
end Go.Proofs.Ytaabfmmfneajoaa.Num
