/- Type assertions with two results to types that are no interfaces, as laws for the walk. -/
import Derived.Test.YtaabfmmfneajoaaRows
import Derived.WalkKit
import Derived.KernelRfl
import Derived.Laws.Entries
set_option linter.unusedSimpArgs false
set_option linter.unusedVariables false
namespace Go.Proofs.Ytaabfmmfneajoaa.Num
open Go.RowKit

def NoIface : TypeDesc → Prop
  | .interface _ => False
  | _ => True

theorem ta_gen {P : Program} {T xT : TypeId} {d : TypeDesc} {z : Value} (hu : P.underlying T = some d) (hd : NoIface d) (hz : ∀ w, (zeroValue T).run P w = .ok z w) (t : TypeId) (v : Value) (w : World) :
    (Instr.typeAssert (.iface t v) xT T true).run P w = .ok (.tuple #[if t = T then v else z, .bool (decide (t = T))]) w := by
  unfold Instr.typeAssert
  by_cases h : t = T
  · cases d <;> first | exact hd.elim | simp [run_underlying hu, h]
  · cases d <;> first | exact hd.elim | simp [run_underlying hu, h, hz]

theorem ta_nil {P : Program} {T xT : TypeId} {d : TypeDesc} {z : Value} (hu : P.underlying T = some d) (hd : NoIface d) (hz : ∀ w, (zeroValue T).run P w = .ok z w) (w : World) :
    (Instr.typeAssert .nilIface xT T true).run P w = .ok (.tuple #[z, .bool false]) w := by
  unfold Instr.typeAssert
  cases d <;> first | exact hd.elim | simp [run_underlying hu, hz]

@[go_sem] theorem run_store_float (P : Program) (w : World) (a : Addr) (m : Mode) (k : FloatKind) (b : Nat) : (store a (.float k b) m).run P w = stored P w a (.float k b) m := run_store P w a _ m rfl
theorem zr40 (w : World) : (zeroValue 40).run Try.prog w = .ok (.float .f32 0) w := by kernel_rfl
@[go_sem] theorem ta40 (t : TypeId) (v : Value) (w : World) : Sem.run Try.prog (Instr.typeAssert (.iface t v) 20 40 true) w = .ok (.tuple #[if t = 40 then v else .float .f32 0, .bool (decide (t = 40))]) w := ta_gen Try.underlying40 trivial zr40 t v w
@[go_sem] theorem tn40 (w : World) : Sem.run Try.prog (Instr.typeAssert .nilIface 20 40 true) w = .ok (.tuple #[.float .f32 0, .bool false]) w := ta_nil Try.underlying40 trivial zr40 w
theorem zr23 (w : World) : (zeroValue 23).run Try.prog w = .ok (.float .f64 0) w := by kernel_rfl
@[go_sem] theorem ta23 (t : TypeId) (v : Value) (w : World) : Sem.run Try.prog (Instr.typeAssert (.iface t v) 20 23 true) w = .ok (.tuple #[if t = 23 then v else .float .f64 0, .bool (decide (t = 23))]) w := ta_gen Try.underlying23 trivial zr23 t v w
@[go_sem] theorem tn23 (w : World) : Sem.run Try.prog (Instr.typeAssert .nilIface 20 23 true) w = .ok (.tuple #[.float .f64 0, .bool false]) w := ta_nil Try.underlying23 trivial zr23 w
theorem zr3 (w : World) : (zeroValue 3).run Try.prog w = .ok (.int .i64 0) w := by kernel_rfl
@[go_sem] theorem ta3 (t : TypeId) (v : Value) (w : World) : Sem.run Try.prog (Instr.typeAssert (.iface t v) 20 3 true) w = .ok (.tuple #[if t = 3 then v else .int .i64 0, .bool (decide (t = 3))]) w := ta_gen Try.underlying3 trivial zr3 t v w
@[go_sem] theorem tn3 (w : World) : Sem.run Try.prog (Instr.typeAssert .nilIface 20 3 true) w = .ok (.tuple #[.int .i64 0, .bool false]) w := ta_nil Try.underlying3 trivial zr3 w
theorem zr48 (w : World) : (zeroValue 48).run Try.prog w = .ok (.int .i8 0) w := by kernel_rfl
@[go_sem] theorem ta48 (t : TypeId) (v : Value) (w : World) : Sem.run Try.prog (Instr.typeAssert (.iface t v) 20 48 true) w = .ok (.tuple #[if t = 48 then v else .int .i8 0, .bool (decide (t = 48))]) w := ta_gen Try.underlying48 trivial zr48 t v w
@[go_sem] theorem tn48 (w : World) : Sem.run Try.prog (Instr.typeAssert .nilIface 20 48 true) w = .ok (.tuple #[.int .i8 0, .bool false]) w := ta_nil Try.underlying48 trivial zr48 w
theorem zr49 (w : World) : (zeroValue 49).run Try.prog w = .ok (.int .i16 0) w := by kernel_rfl
@[go_sem] theorem ta49 (t : TypeId) (v : Value) (w : World) : Sem.run Try.prog (Instr.typeAssert (.iface t v) 20 49 true) w = .ok (.tuple #[if t = 49 then v else .int .i16 0, .bool (decide (t = 49))]) w := ta_gen Try.underlying49 trivial zr49 t v w
@[go_sem] theorem tn49 (w : World) : Sem.run Try.prog (Instr.typeAssert .nilIface 20 49 true) w = .ok (.tuple #[.int .i16 0, .bool false]) w := ta_nil Try.underlying49 trivial zr49 w
theorem zr21 (w : World) : (zeroValue 21).run Try.prog w = .ok (.int .i32 0) w := by kernel_rfl
@[go_sem] theorem ta21 (t : TypeId) (v : Value) (w : World) : Sem.run Try.prog (Instr.typeAssert (.iface t v) 20 21 true) w = .ok (.tuple #[if t = 21 then v else .int .i32 0, .bool (decide (t = 21))]) w := ta_gen Try.underlying21 trivial zr21 t v w
@[go_sem] theorem tn21 (w : World) : Sem.run Try.prog (Instr.typeAssert .nilIface 20 21 true) w = .ok (.tuple #[.int .i32 0, .bool false]) w := ta_nil Try.underlying21 trivial zr21 w
theorem zr2 (w : World) : (zeroValue 2).run Try.prog w = .ok (.int .i64 0) w := by kernel_rfl
@[go_sem] theorem ta2 (t : TypeId) (v : Value) (w : World) : Sem.run Try.prog (Instr.typeAssert (.iface t v) 20 2 true) w = .ok (.tuple #[if t = 2 then v else .int .i64 0, .bool (decide (t = 2))]) w := ta_gen Try.underlying2 trivial zr2 t v w
@[go_sem] theorem tn2 (w : World) : Sem.run Try.prog (Instr.typeAssert .nilIface 20 2 true) w = .ok (.tuple #[.int .i64 0, .bool false]) w := ta_nil Try.underlying2 trivial zr2 w
theorem zr50 (w : World) : (zeroValue 50).run Try.prog w = .ok (.int .u64 0) w := by kernel_rfl
@[go_sem] theorem ta50 (t : TypeId) (v : Value) (w : World) : Sem.run Try.prog (Instr.typeAssert (.iface t v) 20 50 true) w = .ok (.tuple #[if t = 50 then v else .int .u64 0, .bool (decide (t = 50))]) w := ta_gen Try.underlying50 trivial zr50 t v w
@[go_sem] theorem tn50 (w : World) : Sem.run Try.prog (Instr.typeAssert .nilIface 20 50 true) w = .ok (.tuple #[.int .u64 0, .bool false]) w := ta_nil Try.underlying50 trivial zr50 w
theorem zr5 (w : World) : (zeroValue 5).run Try.prog w = .ok (.int .u8 0) w := by kernel_rfl
@[go_sem] theorem ta5 (t : TypeId) (v : Value) (w : World) : Sem.run Try.prog (Instr.typeAssert (.iface t v) 20 5 true) w = .ok (.tuple #[if t = 5 then v else .int .u8 0, .bool (decide (t = 5))]) w := ta_gen Try.underlying5 trivial zr5 t v w
@[go_sem] theorem tn5 (w : World) : Sem.run Try.prog (Instr.typeAssert .nilIface 20 5 true) w = .ok (.tuple #[.int .u8 0, .bool false]) w := ta_nil Try.underlying5 trivial zr5 w
theorem zr51 (w : World) : (zeroValue 51).run Try.prog w = .ok (.int .u16 0) w := by kernel_rfl
@[go_sem] theorem ta51 (t : TypeId) (v : Value) (w : World) : Sem.run Try.prog (Instr.typeAssert (.iface t v) 20 51 true) w = .ok (.tuple #[if t = 51 then v else .int .u16 0, .bool (decide (t = 51))]) w := ta_gen Try.underlying51 trivial zr51 t v w
@[go_sem] theorem tn51 (w : World) : Sem.run Try.prog (Instr.typeAssert .nilIface 20 51 true) w = .ok (.tuple #[.int .u16 0, .bool false]) w := ta_nil Try.underlying51 trivial zr51 w
theorem zr52 (w : World) : (zeroValue 52).run Try.prog w = .ok (.int .u32 0) w := by kernel_rfl
@[go_sem] theorem ta52 (t : TypeId) (v : Value) (w : World) : Sem.run Try.prog (Instr.typeAssert (.iface t v) 20 52 true) w = .ok (.tuple #[if t = 52 then v else .int .u32 0, .bool (decide (t = 52))]) w := ta_gen Try.underlying52 trivial zr52 t v w
@[go_sem] theorem tn52 (w : World) : Sem.run Try.prog (Instr.typeAssert .nilIface 20 52 true) w = .ok (.tuple #[.int .u32 0, .bool false]) w := ta_nil Try.underlying52 trivial zr52 w
theorem zr22 (w : World) : (zeroValue 22).run Try.prog w = .ok (.int .u64 0) w := by kernel_rfl
@[go_sem] theorem ta22 (t : TypeId) (v : Value) (w : World) : Sem.run Try.prog (Instr.typeAssert (.iface t v) 20 22 true) w = .ok (.tuple #[if t = 22 then v else .int .u64 0, .bool (decide (t = 22))]) w := ta_gen Try.underlying22 trivial zr22 t v w
@[go_sem] theorem tn22 (w : World) : Sem.run Try.prog (Instr.typeAssert .nilIface 20 22 true) w = .ok (.tuple #[.int .u64 0, .bool false]) w := ta_nil Try.underlying22 trivial zr22 w
theorem zr9 (w : World) : (zeroValue 9).run Try.prog w = .ok (.string ByteArray.empty) w := by kernel_rfl
@[go_sem] theorem ta9 (t : TypeId) (v : Value) (w : World) : Sem.run Try.prog (Instr.typeAssert (.iface t v) 20 9 true) w = .ok (.tuple #[if t = 9 then v else .string ByteArray.empty, .bool (decide (t = 9))]) w := ta_gen Try.underlying9 trivial zr9 t v w
@[go_sem] theorem tn9 (w : World) : Sem.run Try.prog (Instr.typeAssert .nilIface 20 9 true) w = .ok (.tuple #[.string ByteArray.empty, .bool false]) w := ta_nil Try.underlying9 trivial zr9 w
theorem zr4 (w : World) : (zeroValue 4).run Try.prog w = .ok (.bool false) w := by kernel_rfl
@[go_sem] theorem ta4 (t : TypeId) (v : Value) (w : World) : Sem.run Try.prog (Instr.typeAssert (.iface t v) 20 4 true) w = .ok (.tuple #[if t = 4 then v else .bool false, .bool (decide (t = 4))]) w := ta_gen Try.underlying4 trivial zr4 t v w
@[go_sem] theorem tn4 (w : World) : Sem.run Try.prog (Instr.typeAssert .nilIface 20 4 true) w = .ok (.tuple #[.bool false, .bool false]) w := ta_nil Try.underlying4 trivial zr4 w
end Go.Proofs.Ytaabfmmfneajoaa.Num
