/- Two impl.Values compared. -/
import Derived.Test.YtaabfmmfneajoaaTa
import Derived.Laws.StructEq
set_option linter.unusedSimpArgs false
set_option linter.unusedVariables false
namespace Go.Proofs.Ytaabfmmfneajoaa.Num
open Go.RowKit

abbrev V (k i u : Int) (f : Nat) (s : ByteArray) (b : Bool) : Value := .agg #[.int .i64 k, .int .i64 i, .int .u64 u, .float .f64 f, .string s, .bool b]

def feq (f g : Nat) : Bool := Ieee.double.order f g == some .eq

theorem stood25 : Try.prog.stoodInHeld 25 = false := by kernel_rfl
@[go_sem] theorem run_eq_float (w : World) (d : Nat) (a b : Nat) : (Op.equalIn (d + 1) 23 (.float .f64 a) (.float .f64 b)).run Try.prog w = .ok (feq a b) w := by
  simp [Op.equalIn, run_underlying Try.underlying23, Op.floatEq, feq]
  rfl

theorem eqV (k i u : Int) (f : Nat) (s : ByteArray) (b : Bool) (k' i' u' : Int) (f' : Nat) (s' : ByteArray) (b' : Bool) (w : World) :
    (binOp .eql 25 (V k i u f s b) (V k' i' u' f' s' b')).run Try.prog w = .ok (.bool (k == k' && (i == i' && (u == u' && (feq f f' && (s.toList == s'.toList && b == b')))))) w := by
  have hfs : Try.prog.fieldsOf 25 = #[⟨ "Kind", 3, 0, false, "", "", 0⟩, ⟨ "Int", 2, 1, false, "", "", 8⟩, ⟨ "Uint", 22, 2, false, "", "", 16⟩, ⟨ "Float", 23, 3, false, "", "", 24⟩, ⟨ "Text", 9, 4, false, "", "", 32⟩, ⟨ "Bool", 4, 5, false, "", "", 48⟩] := by
    simp [Program.fieldsOf, Try.underlying25]
  have h : (Op.equalIn 10000 25 (V k i u f s b) (V k' i' u' f' s' b')).run Try.prog w = .ok (k == k' && (i == i' && (u == u' && (feq f f' && (s.toList == s'.toList && b == b'))))) w := by
    rw [run_equalIn_struct (P := Try.prog) w 9999 25 _ _ (by rw [hfs]; exact Try.underlying25) stood25, hfs]
    simp [Op.eqFields, go_sem, run_eq_float w 9998]
    by_cases h1 : k = k' <;> by_cases h2 : i = i' <;> by_cases h3 : u = u' <;> by_cases h5 : s.toList = s'.toList <;> by_cases h6 : b = b' <;> cases feq f f' <;> simp [h1, h2, h3, h5, h6]
  simp only [binOp, Op.equal, Op.maxDepth]
  simp [h]
end Go.Proofs.Ytaabfmmfneajoaa.Num
