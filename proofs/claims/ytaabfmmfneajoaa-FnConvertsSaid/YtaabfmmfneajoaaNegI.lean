/- The walk of impl.Negate: the deferred recovery; each kind. -/
import Derived.Test.YtaabfmmfneajoaaNegW
import Derived.Laws.FloatArith
set_option linter.unusedSimpArgs false
set_option linter.unusedVariables false
namespace Go.Proofs.Ytaabfmmfneajoaa.Num
open Go.RowKit
@[go_sem] theorem run_neg_float (w : World) (f : Nat) : (Op.unary .neg (.float .f64 f)).run Try.prog w = .ok (.float .f64 (Op.negFloat .f64 f)) w := by
  simp [Op.unary]
theorem catch_panicking (b q : Nat) (hbq : b ≠ q) (u : TypeId) (pv : Value) (older : List PanicEntry) (w : World) (x0 x1 x2 x3 x4 x5 y0 : Value)
  (c0 : w.cell? ⟨b, 0, none⟩ = some x0) (c1 : w.cell? ⟨b, 1, none⟩ = some x1) (c2 : w.cell? ⟨b, 2, none⟩ = some x2) (c3 : w.cell? ⟨b, 3, none⟩ = some x3) (c4 : w.cell? ⟨b, 4, none⟩ = some x4) (c5 : w.cell? ⟨b, 5, none⟩ = some x5) (c6 : w.cell? ⟨q, 0, none⟩ = some y0)
  (hz0 : w.frozen? ⟨b, 0, none⟩ = false) (hz1 : w.frozen? ⟨b, 1, none⟩ = false) (hz2 : w.frozen? ⟨b, 2, none⟩ = false) (hz3 : w.frozen? ⟨b, 3, none⟩ = false) (hz4 : w.frozen? ⟨b, 4, none⟩ = false) (hz5 : w.frozen? ⟨b, 5, none⟩ = false) (hz6 : w.frozen? ⟨q, 0, none⟩ = false) :
    CallsD Try.prog 16 #[.pointer (some ⟨b, 0, none⟩), .pointer (some ⟨q, 0, none⟩)] (.panicking ({ v := .iface u pv, recovered := false } :: older)) w fun e u' w' =>
      e = .returned (.tuple #[]) ∧ u' = .panicking ({ v := .iface u pv, recovered := true } :: older) ∧ w' = ((((((w.setCell ⟨b, 0, none⟩ (.int .i64 0)).setCell ⟨b, 1, none⟩ (.int .i64 0)).setCell ⟨b, 2, none⟩ (.int .u64 0)).setCell ⟨b, 3, none⟩ (.float .f64 0)).setCell ⟨b, 4, none⟩ (.string ByteArray.empty)).setCell ⟨b, 5, none⟩ (.bool false)).setCell ⟨q, 0, none⟩ (.bool false) := by
  refine callsD_of_wpS Try.func16 rfl fun c₀ cs hu => ?_
  apply wpS_seq
  apply wpS_region
  simp [wpOpsS, go_sem, recoverD, hu, Try.ntmps16, Exit.thenS]
  refine wpS_cond (t := true) (by simp [Act.eval, Array.replicate]) ?_
  simp only [if_true]
  refine wpS_of_wp ?_
  go_wp2
  simp [bodyPostS, results, Try.results16]
  rfl
theorem catch_idle (p q : Addr) (w : World) :
    CallsD Try.prog 16 #[.pointer (some p), .pointer (some q)] .returning w fun e u' w' => e = .returned (.tuple #[]) ∧ u' = .returning ∧ w' = w := by
  refine callsD_of_wpS Try.func16 rfl fun c₀ cs hu => ?_
  apply wpS_seq
  apply wpS_region
  simp [wpOpsS, go_sem, recoverD, hu, Try.ntmps16, Exit.thenS]
  refine wpS_cond (t := false) (by simp [Act.eval, Array.replicate]) ?_
  simp only [Bool.false_eq_true, if_false]
  refine wpS_of_wp (wp_skip ?_)
  cases c₀
  simp_all [bodyPostS, results, Try.results16]
theorem negate_float (w : World) (f : Nat) :
    Calls Try.prog 18 #[.iface 23 (.float .f64 f)] w (Ret w (.iface 23 (.float .f64 (Op.negFloat .f64 f)))) := by
  go_enter Try.func18, Try.ntmps18
  go_wp2
  go_ret
  exact ⟨rfl, by go_grown⟩
theorem neg_13 (w : World) (i u : Int) (f : Nat) (s : ByteArray) (b : Bool) :
    Calls Try.prog 7 #[V 13 i u f s b] w (fun e w' => e = .returned (.tuple #[V 0 0 0 0 ByteArray.empty false, .bool false]) ∧ Below w.heap.size w w') := by
  have hmf : ∀ (fn : Fn) (first cap : Array Value) (w : World), (Instr.makeFunc fn first cap).run Try.prog w = .ok (.func fn first cap) w := fun _ _ _ _ => rfl
  go_enter_defers Try.func7, Try.ntmps7
  go_wp2
  simp only [bodyPost, bodyPostD]
  refine ⟨trivial, ?_⟩
  refine leaves_cons (f := 16) (args := #[.pointer (some ⟨w.heap.size + 1, 0, none⟩), .pointer (some ⟨w.heap.size + 1 + 1, 0, none⟩)]) (by simp) (by simp [go_sem]) ?_
  refine (catch_panicking (w.heap.size + 1) (w.heap.size + 1 + 1) (by omega) _ _ [] _ _ _ _ _ _ _ _ (by simp [go_sem]; rfl) (by simp [go_sem]; rfl) (by simp [go_sem]; rfl) (by simp [go_sem]; rfl) (by simp [go_sem]; rfl) (by simp [go_sem]; rfl) (by simp [go_sem]; rfl) (by simp [go_sem]) (by simp [go_sem]) (by simp [go_sem]) (by simp [go_sem]) (by simp [go_sem]) (by simp [go_sem]) (by simp [go_sem])).mono ?_
  rintro e u' w'' ⟨rfl, rfl, rfl⟩
  simp [Leaves, settle, results, Try.results7, go_sem]
  try (refine ⟨rfl, ?_⟩)
  go_grown
theorem neg_14 (w : World) (i u : Int) (f : Nat) (s : ByteArray) (b : Bool) :
    Calls Try.prog 7 #[V 14 i u f s b] w (fun e w' => e = .returned (.tuple #[V 0 0 0 0 ByteArray.empty false, .bool false]) ∧ Below w.heap.size w w') := by
  have hmf : ∀ (fn : Fn) (first cap : Array Value) (w : World), (Instr.makeFunc fn first cap).run Try.prog w = .ok (.func fn first cap) w := fun _ _ _ _ => rfl
  go_enter_defers Try.func7, Try.ntmps7
  go_wp2
  simp only [bodyPost, bodyPostD]
  refine ⟨trivial, ?_⟩
  refine leaves_cons (f := 16) (args := #[.pointer (some ⟨w.heap.size + 1, 0, none⟩), .pointer (some ⟨w.heap.size + 1 + 1, 0, none⟩)]) (by simp) (by simp [go_sem]) ?_
  refine (catch_panicking (w.heap.size + 1) (w.heap.size + 1 + 1) (by omega) _ _ [] _ _ _ _ _ _ _ _ (by simp [go_sem]; rfl) (by simp [go_sem]; rfl) (by simp [go_sem]; rfl) (by simp [go_sem]; rfl) (by simp [go_sem]; rfl) (by simp [go_sem]; rfl) (by simp [go_sem]; rfl) (by simp [go_sem]) (by simp [go_sem]) (by simp [go_sem]) (by simp [go_sem]) (by simp [go_sem]) (by simp [go_sem]) (by simp [go_sem])).mono ?_
  rintro e u' w'' ⟨rfl, rfl, rfl⟩
  simp [Leaves, settle, results, Try.results7, go_sem]
  try (refine ⟨rfl, ?_⟩)
  go_grown
theorem neg_0 (w : World) (i u : Int) (f : Nat) (s : ByteArray) (b : Bool) :
    Calls Try.prog 7 #[V 0 i u f s b] w (fun e w' => e = .returned (.tuple #[V 0 0 0 0 ByteArray.empty false, .bool false]) ∧ Below w.heap.size w w') := by
  have hmf : ∀ (fn : Fn) (first cap : Array Value) (w : World), (Instr.makeFunc fn first cap).run Try.prog w = .ok (.func fn first cap) w := fun _ _ _ _ => rfl
  go_enter_defers Try.func7, Try.ntmps7
  go_wp2
  simp only [bodyPost, bodyPostD]
  refine ⟨trivial, ?_⟩
  refine leaves_cons (f := 16) (args := #[.pointer (some ⟨w.heap.size + 1, 0, none⟩), .pointer (some ⟨w.heap.size + 1 + 1, 0, none⟩)]) (by simp) (by simp [go_sem]) ?_
  refine (catch_panicking (w.heap.size + 1) (w.heap.size + 1 + 1) (by omega) _ _ [] _ _ _ _ _ _ _ _ (by simp [go_sem]; rfl) (by simp [go_sem]; rfl) (by simp [go_sem]; rfl) (by simp [go_sem]; rfl) (by simp [go_sem]; rfl) (by simp [go_sem]; rfl) (by simp [go_sem]; rfl) (by simp [go_sem]) (by simp [go_sem]) (by simp [go_sem]) (by simp [go_sem]) (by simp [go_sem]) (by simp [go_sem]) (by simp [go_sem])).mono ?_
  rintro e u' w'' ⟨rfl, rfl, rfl⟩
  simp [Leaves, settle, results, Try.results7, go_sem]
  try (refine ⟨rfl, ?_⟩)
  go_grown
theorem neg_1 (w : World) (i u : Int) (f : Nat) (s : ByteArray) (b : Bool) (h0 : -9223372036854775808 ≤ i) (h1 : i ≤ 9223372036854775807) :
    Calls Try.prog 7 #[V 1 i u f s b] w (fun e w' => e = .returned (.tuple #[V 1 (wrap64 (-i)) 0 0 ByteArray.empty false, .bool true]) ∧ Below w.heap.size w w') := by
  have hmf : ∀ (fn : Fn) (first cap : Array Value) (w : World), (Instr.makeFunc fn first cap).run Try.prog w = .ok (.func fn first cap) w := fun _ _ _ _ => rfl
  go_enter_defers Try.func7, Try.ntmps7
  go_wp2
  refine leaves_cons (f := 16) (args := #[.pointer (some ⟨w.heap.size + 1, 0, none⟩), .pointer (some ⟨w.heap.size + 1 + 1, 0, none⟩)]) (by simp) (by simp [go_sem]) ?_
  refine (catch_idle ⟨w.heap.size + 1, 0, none⟩ ⟨w.heap.size + 1 + 1, 0, none⟩ _).mono ?_
  rintro e u' w'' ⟨rfl, rfl, rfl⟩
  simp [Leaves, settle, results, Try.results7, go_sem]
  refine ⟨rfl, ?_⟩
  go_grown
theorem neg_12 (w : World) (i u : Int) (f : Nat) (s : ByteArray) (b : Bool)  :
    Calls Try.prog 7 #[V 12 i u f s b] w (fun e w' => e = .returned (.tuple #[V 12 0 0 (Op.negFloat .f64 f) ByteArray.empty false, .bool true]) ∧ Below w.heap.size w w') := by
  have hmf : ∀ (fn : Fn) (first cap : Array Value) (w : World), (Instr.makeFunc fn first cap).run Try.prog w = .ok (.func fn first cap) w := fun _ _ _ _ => rfl
  go_enter_defers Try.func7, Try.ntmps7
  go_wp2
  refine leaves_cons (f := 16) (args := #[.pointer (some ⟨w.heap.size + 1, 0, none⟩), .pointer (some ⟨w.heap.size + 1 + 1, 0, none⟩)]) (by simp) (by simp [go_sem]) ?_
  refine (catch_idle ⟨w.heap.size + 1, 0, none⟩ ⟨w.heap.size + 1 + 1, 0, none⟩ _).mono ?_
  rintro e u' w'' ⟨rfl, rfl, rfl⟩
  simp [Leaves, settle, results, Try.results7, go_sem]
  refine ⟨rfl, ?_⟩
  go_grown
end Go.Proofs.Ytaabfmmfneajoaa.Num
