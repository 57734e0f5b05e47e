/- What the conversions answer, kind by kind. (Printed by gen5.py.) -/
import Derived.Test.YtaabfmmfneajoaaNegI
import Derived.Test.YtaabfmmfneajoaaFitD
import Derived.Test.YtaabfmmfneajoaaCv1
set_option linter.unusedSimpArgs false
set_option linter.unusedVariables false
namespace Go.Proofs.Ytaabfmmfneajoaa.Num
open Go.RowKit

/-- it answers v -/
def Gives (w : World) (v : Value) (e : Ending) (w' : World) : Prop := e = .returned v ∧ Below w.heap.size w w'
theorem dz (w : World) : w.drewN 0 = w := by cases w; rfl
theorem run_cutF (f n : Nat) (m : Int) (h : floatToIntVal .f64 f .i64 = some m) (w : World) : (convert 23 3 (.float .f64 f)).run Try.prog w = .ok (.int .i64 m) w :=
  run_convert_float_int w 23 3 .f64 .i64 f m (by rw [Try.underlying23]; rfl) Try.underlying3 h
theorem run_cutF2 (f n : Nat) (m : Int) (h : floatToIntVal .f64 f .i64 = some m) (w : World) : (convert 23 2 (.float .f64 f)).run Try.prog w = .ok (.int .i64 m) w :=
  run_convert_float_int w 23 2 .f64 .i64 f m (by rw [Try.underlying23]; rfl) Try.underlying2 h
theorem run_cutS (f n : Nat) (m : Int) (h : floatToIntVal .f32 f .i64 = some m) (w : World) : (convert 40 3 (.float .f32 f)).run Try.prog w = .ok (.int .i64 m) w :=
  run_convert_float_int w 40 3 .f32 .i64 f m (by rw [Try.underlying40]; rfl) Try.underlying3 h
theorem run_cutS2 (f n : Nat) (m : Int) (h : floatToIntVal .f32 f .i64 = some m) (w : World) : (convert 40 2 (.float .f32 f)).run Try.prog w = .ok (.int .i64 m) w :=
  run_convert_float_int w 40 2 .f32 .i64 f m (by rw [Try.underlying40]; rfl) Try.underlying2 h
theorem idle20 (p q : Addr) (w : World) :
    CallsD Try.prog 20 #[.pointer (some p), .pointer (some q)] .returning w fun e u' w' => e = .returned (.tuple #[]) ∧ u' = .returning ∧ w' = w := by
  refine callsD_of_wpS Try.func20 rfl fun c₀ cs hu => ?_
  apply wpS_seq
  apply wpS_region
  simp [wpOpsS, go_sem, recoverD, hu, Try.ntmps20, Exit.thenS]
  refine wpS_cond (t := false) (by simp [Act.eval, Array.replicate]) ?_
  simp only [Bool.false_eq_true, if_false]
  refine wpS_of_wp (wp_skip ?_)
  cases c₀
  simp_all [bodyPostS, results, Try.results20]
theorem pan20 (b q : Nat) (hbq : b ≠ q) (u : TypeId) (pv : Value) (older : List PanicEntry) (w : World) (x0 y0 : Value)
  (c0 : w.cell? ⟨b, 0, none⟩ = some x0) (c6 : w.cell? ⟨q, 0, none⟩ = some y0)
  (hz0 : w.frozen? ⟨b, 0, none⟩ = false) (hz6 : w.frozen? ⟨q, 0, none⟩ = false) :
    CallsD Try.prog 20 #[.pointer (some ⟨b, 0, none⟩), .pointer (some ⟨q, 0, none⟩)] (.panicking ({ v := .iface u pv, recovered := false } :: older)) w fun e u' w' =>
      e = .returned (.tuple #[]) ∧ u' = .panicking ({ v := .iface u pv, recovered := true } :: older) ∧ w' = (w.setCell ⟨b, 0, none⟩ (.int .i64 0)).setCell ⟨q, 0, none⟩ (.bool false) := by
  refine callsD_of_wpS Try.func20 rfl fun c₀ cs hu => ?_
  apply wpS_seq
  apply wpS_region
  simp [wpOpsS, go_sem, recoverD, hu, Try.ntmps20, Exit.thenS]
  refine wpS_cond (t := true) (by simp [Act.eval, Array.replicate]) ?_
  simp only [if_true]
  refine wpS_of_wp ?_
  go_wp2
  simp [bodyPostS, results, Try.results20]
  try rfl
theorem idle22 (p q : Addr) (w : World) :
    CallsD Try.prog 22 #[.pointer (some p), .pointer (some q)] .returning w fun e u' w' => e = .returned (.tuple #[]) ∧ u' = .returning ∧ w' = w := by
  refine callsD_of_wpS Try.func22 rfl fun c₀ cs hu => ?_
  apply wpS_seq
  apply wpS_region
  simp [wpOpsS, go_sem, recoverD, hu, Try.ntmps22, Exit.thenS]
  refine wpS_cond (t := false) (by simp [Act.eval, Array.replicate]) ?_
  simp only [Bool.false_eq_true, if_false]
  refine wpS_of_wp (wp_skip ?_)
  cases c₀
  simp_all [bodyPostS, results, Try.results22]
theorem pan22 (b q : Nat) (hbq : b ≠ q) (u : TypeId) (pv : Value) (older : List PanicEntry) (w : World) (x0 y0 : Value)
  (c0 : w.cell? ⟨b, 0, none⟩ = some x0) (c6 : w.cell? ⟨q, 0, none⟩ = some y0)
  (hz0 : w.frozen? ⟨b, 0, none⟩ = false) (hz6 : w.frozen? ⟨q, 0, none⟩ = false) :
    CallsD Try.prog 22 #[.pointer (some ⟨b, 0, none⟩), .pointer (some ⟨q, 0, none⟩)] (.panicking ({ v := .iface u pv, recovered := false } :: older)) w fun e u' w' =>
      e = .returned (.tuple #[]) ∧ u' = .panicking ({ v := .iface u pv, recovered := true } :: older) ∧ w' = (w.setCell ⟨b, 0, none⟩ (.int .i64 0)).setCell ⟨q, 0, none⟩ (.bool false) := by
  refine callsD_of_wpS Try.func22 rfl fun c₀ cs hu => ?_
  apply wpS_seq
  apply wpS_region
  simp [wpOpsS, go_sem, recoverD, hu, Try.ntmps22, Exit.thenS]
  refine wpS_cond (t := true) (by simp [Act.eval, Array.replicate]) ?_
  simp only [if_true]
  refine wpS_of_wp ?_
  go_wp2
  simp [bodyPostS, results, Try.results22]
  try rfl
theorem idle24 (p q : Addr) (w : World) :
    CallsD Try.prog 24 #[.pointer (some p), .pointer (some q)] .returning w fun e u' w' => e = .returned (.tuple #[]) ∧ u' = .returning ∧ w' = w := by
  refine callsD_of_wpS Try.func24 rfl fun c₀ cs hu => ?_
  apply wpS_seq
  apply wpS_region
  simp [wpOpsS, go_sem, recoverD, hu, Try.ntmps24, Exit.thenS]
  refine wpS_cond (t := false) (by simp [Act.eval, Array.replicate]) ?_
  simp only [Bool.false_eq_true, if_false]
  refine wpS_of_wp (wp_skip ?_)
  cases c₀
  simp_all [bodyPostS, results, Try.results24]
theorem pan24 (b q : Nat) (hbq : b ≠ q) (u : TypeId) (pv : Value) (older : List PanicEntry) (w : World) (x0 y0 : Value)
  (c0 : w.cell? ⟨b, 0, none⟩ = some x0) (c6 : w.cell? ⟨q, 0, none⟩ = some y0)
  (hz0 : w.frozen? ⟨b, 0, none⟩ = false) (hz6 : w.frozen? ⟨q, 0, none⟩ = false) :
    CallsD Try.prog 24 #[.pointer (some ⟨b, 0, none⟩), .pointer (some ⟨q, 0, none⟩)] (.panicking ({ v := .iface u pv, recovered := false } :: older)) w fun e u' w' =>
      e = .returned (.tuple #[]) ∧ u' = .panicking ({ v := .iface u pv, recovered := true } :: older) ∧ w' = (w.setCell ⟨b, 0, none⟩ (.float .f64 0)).setCell ⟨q, 0, none⟩ (.bool false) := by
  refine callsD_of_wpS Try.func24 rfl fun c₀ cs hu => ?_
  apply wpS_seq
  apply wpS_region
  simp [wpOpsS, go_sem, recoverD, hu, Try.ntmps24, Exit.thenS]
  refine wpS_cond (t := true) (by simp [Act.eval, Array.replicate]) ?_
  simp only [if_true]
  refine wpS_of_wp ?_
  go_wp2
  simp [bodyPostS, results, Try.results24]
  try rfl
theorem idle26 (p q : Addr) (w : World) :
    CallsD Try.prog 26 #[.pointer (some p), .pointer (some q)] .returning w fun e u' w' => e = .returned (.tuple #[]) ∧ u' = .returning ∧ w' = w := by
  refine callsD_of_wpS Try.func26 rfl fun c₀ cs hu => ?_
  apply wpS_seq
  apply wpS_region
  simp [wpOpsS, go_sem, recoverD, hu, Try.ntmps26, Exit.thenS]
  refine wpS_cond (t := false) (by simp [Act.eval, Array.replicate]) ?_
  simp only [Bool.false_eq_true, if_false]
  refine wpS_of_wp (wp_skip ?_)
  cases c₀
  simp_all [bodyPostS, results, Try.results26]
theorem pan26 (b q : Nat) (hbq : b ≠ q) (u : TypeId) (pv : Value) (older : List PanicEntry) (w : World) (x0 y0 : Value)
  (c0 : w.cell? ⟨b, 0, none⟩ = some x0) (c6 : w.cell? ⟨q, 0, none⟩ = some y0)
  (hz0 : w.frozen? ⟨b, 0, none⟩ = false) (hz6 : w.frozen? ⟨q, 0, none⟩ = false) :
    CallsD Try.prog 26 #[.pointer (some ⟨b, 0, none⟩), .pointer (some ⟨q, 0, none⟩)] (.panicking ({ v := .iface u pv, recovered := false } :: older)) w fun e u' w' =>
      e = .returned (.tuple #[]) ∧ u' = .panicking ({ v := .iface u pv, recovered := true } :: older) ∧ w' = (w.setCell ⟨b, 0, none⟩ (.bool false)).setCell ⟨q, 0, none⟩ (.bool false) := by
  refine callsD_of_wpS Try.func26 rfl fun c₀ cs hu => ?_
  apply wpS_seq
  apply wpS_region
  simp [wpOpsS, go_sem, recoverD, hu, Try.ntmps26, Exit.thenS]
  refine wpS_cond (t := true) (by simp [Act.eval, Array.replicate]) ?_
  simp only [if_true]
  refine wpS_of_wp ?_
  go_wp2
  simp [bodyPostS, results, Try.results26]
  try rfl
theorem toint_0 (w : World) (i u : Int) (f : Nat) (s : ByteArray) (b : Bool)  :
    Calls Try.prog 8 #[V 0 i u f s b] w (Gives w (.tuple #[.int .i64 0, .bool false])) := by
  have hmf : ∀ (fn : Fn) (first cap : Array Value) (w : World), (Instr.makeFunc fn first cap).run Try.prog w = .ok (.func fn first cap) w := fun _ _ _ _ => rfl
  go_enter_defers Try.func8, Try.ntmps8
  go_wp2
  simp only [bodyPost, bodyPostD]
  refine ⟨trivial, ?_⟩
  refine leaves_cons (f := 20) (args := #[.pointer (some ⟨w.heap.size + 1, 0, none⟩), .pointer (some ⟨w.heap.size + 1 + 1, 0, none⟩)]) (by simp) (by simp [go_sem]) ?_
  refine (pan20 (w.heap.size + 1) (w.heap.size + 1 + 1) (by omega) _ _ [] _ _ _ (by simp [go_sem]; rfl) (by simp [go_sem]; rfl) (by simp [go_sem]) (by simp [go_sem])).mono ?_
  rintro e u' w'' ⟨rfl, rfl, rfl⟩
  simp [Leaves, settle, results, Try.results8, go_sem]
  try (refine ⟨rfl, ?_⟩)
  go_grown
theorem toint64_0 (w : World) (i u : Int) (f : Nat) (s : ByteArray) (b : Bool)  :
    Calls Try.prog 9 #[V 0 i u f s b] w (Gives w (.tuple #[.int .i64 0, .bool false])) := by
  have hmf : ∀ (fn : Fn) (first cap : Array Value) (w : World), (Instr.makeFunc fn first cap).run Try.prog w = .ok (.func fn first cap) w := fun _ _ _ _ => rfl
  go_enter_defers Try.func9, Try.ntmps9
  go_wp2
  simp only [bodyPost, bodyPostD]
  refine ⟨trivial, ?_⟩
  refine leaves_cons (f := 22) (args := #[.pointer (some ⟨w.heap.size + 1, 0, none⟩), .pointer (some ⟨w.heap.size + 1 + 1, 0, none⟩)]) (by simp) (by simp [go_sem]) ?_
  refine (pan22 (w.heap.size + 1) (w.heap.size + 1 + 1) (by omega) _ _ [] _ _ _ (by simp [go_sem]; rfl) (by simp [go_sem]; rfl) (by simp [go_sem]) (by simp [go_sem])).mono ?_
  rintro e u' w'' ⟨rfl, rfl, rfl⟩
  simp [Leaves, settle, results, Try.results9, go_sem]
  try (refine ⟨rfl, ?_⟩)
  go_grown
theorem tofl_0 (w : World) (i u : Int) (f : Nat) (s : ByteArray) (b : Bool)  :
    Calls Try.prog 10 #[V 0 i u f s b] w (Gives w (.tuple #[.float .f64 0, .bool false])) := by
  have hmf : ∀ (fn : Fn) (first cap : Array Value) (w : World), (Instr.makeFunc fn first cap).run Try.prog w = .ok (.func fn first cap) w := fun _ _ _ _ => rfl
  go_enter_defers Try.func10, Try.ntmps10
  go_wp2
  simp only [bodyPost, bodyPostD]
  refine ⟨trivial, ?_⟩
  refine leaves_cons (f := 24) (args := #[.pointer (some ⟨w.heap.size + 1, 0, none⟩), .pointer (some ⟨w.heap.size + 1 + 1, 0, none⟩)]) (by simp) (by simp [go_sem]) ?_
  refine (pan24 (w.heap.size + 1) (w.heap.size + 1 + 1) (by omega) _ _ [] _ _ _ (by simp [go_sem]; rfl) (by simp [go_sem]; rfl) (by simp [go_sem]) (by simp [go_sem])).mono ?_
  rintro e u' w'' ⟨rfl, rfl, rfl⟩
  simp [Leaves, settle, results, Try.results10, go_sem]
  try (refine ⟨rfl, ?_⟩)
  go_grown
theorem tobool_0 (w : World) (i u : Int) (f : Nat) (s : ByteArray) (b : Bool)  :
    Calls Try.prog 11 #[V 0 i u f s b] w (Gives w (.tuple #[.bool false, .bool true])) := by
  have hmf : ∀ (fn : Fn) (first cap : Array Value) (w : World), (Instr.makeFunc fn first cap).run Try.prog w = .ok (.func fn first cap) w := fun _ _ _ _ => rfl
  go_enter_defers Try.func11, Try.ntmps11
  go_wp2
  refine leaves_cons (f := 26) (args := #[.pointer (some ⟨w.heap.size + 1, 0, none⟩), .pointer (some ⟨w.heap.size + 1 + 1, 0, none⟩)]) (by simp) (by simp [go_sem]) ?_
  refine (idle26 ⟨w.heap.size + 1, 0, none⟩ ⟨w.heap.size + 1 + 1, 0, none⟩ _).mono ?_
  rintro e u' w'' ⟨rfl, rfl, rfl⟩
  simp [Leaves, settle, results, Try.results11, go_sem]
  try (refine ⟨rfl, ?_⟩)
  go_grown
theorem toint_1 (w : World) (i u : Int) (f : Nat) (s : ByteArray) (b : Bool) (hr : -9223372036854775808 ≤ i ∧ i ≤ 9223372036854775807) :
    Calls Try.prog 8 #[V 1 i u f s b] w (Gives w (.tuple #[.int .i64 i, .bool true])) := by
  obtain ⟨hr0, hr1⟩ := hr
  have hmf : ∀ (fn : Fn) (first cap : Array Value) (w : World), (Instr.makeFunc fn first cap).run Try.prog w = .ok (.func fn first cap) w := fun _ _ _ _ => rfl
  go_enter_defers Try.func8, Try.ntmps8
  go_wp2
  refine leaves_cons (f := 20) (args := #[.pointer (some ⟨w.heap.size + 1, 0, none⟩), .pointer (some ⟨w.heap.size + 1 + 1, 0, none⟩)]) (by simp) (by simp [go_sem]) ?_
  refine (idle20 ⟨w.heap.size + 1, 0, none⟩ ⟨w.heap.size + 1 + 1, 0, none⟩ _).mono ?_
  rintro e u' w'' ⟨rfl, rfl, rfl⟩
  simp [Leaves, settle, results, Try.results8, go_sem]
  try (refine ⟨rfl, ?_⟩)
  go_grown
theorem toint64_1 (w : World) (i u : Int) (f : Nat) (s : ByteArray) (b : Bool) (hr : -9223372036854775808 ≤ i ∧ i ≤ 9223372036854775807) :
    Calls Try.prog 9 #[V 1 i u f s b] w (Gives w (.tuple #[.int .i64 i, .bool true])) := by
  obtain ⟨hr0, hr1⟩ := hr
  have hmf : ∀ (fn : Fn) (first cap : Array Value) (w : World), (Instr.makeFunc fn first cap).run Try.prog w = .ok (.func fn first cap) w := fun _ _ _ _ => rfl
  go_enter_defers Try.func9, Try.ntmps9
  go_wp2
  refine leaves_cons (f := 22) (args := #[.pointer (some ⟨w.heap.size + 1, 0, none⟩), .pointer (some ⟨w.heap.size + 1 + 1, 0, none⟩)]) (by simp) (by simp [go_sem]) ?_
  refine (idle22 ⟨w.heap.size + 1, 0, none⟩ ⟨w.heap.size + 1 + 1, 0, none⟩ _).mono ?_
  rintro e u' w'' ⟨rfl, rfl, rfl⟩
  simp [Leaves, settle, results, Try.results9, go_sem]
  try (refine ⟨rfl, ?_⟩)
  go_grown
theorem tofl_1 (w : World) (i u : Int) (f : Nat) (s : ByteArray) (b : Bool) (hr : -9223372036854775808 ≤ i ∧ i ≤ 9223372036854775807) :
    Calls Try.prog 10 #[V 1 i u f s b] w (Gives w (.tuple #[.float .f64 (floatOfInt .f64 i), .bool true])) := by
  obtain ⟨hr0, hr1⟩ := hr
  have hmf : ∀ (fn : Fn) (first cap : Array Value) (w : World), (Instr.makeFunc fn first cap).run Try.prog w = .ok (.func fn first cap) w := fun _ _ _ _ => rfl
  go_enter_defers Try.func10, Try.ntmps10
  go_wp2
  refine leaves_cons (f := 24) (args := #[.pointer (some ⟨w.heap.size + 1, 0, none⟩), .pointer (some ⟨w.heap.size + 1 + 1, 0, none⟩)]) (by simp) (by simp [go_sem]) ?_
  refine (idle24 ⟨w.heap.size + 1, 0, none⟩ ⟨w.heap.size + 1 + 1, 0, none⟩ _).mono ?_
  rintro e u' w'' ⟨rfl, rfl, rfl⟩
  simp [Leaves, settle, results, Try.results10, go_sem]
  try (refine ⟨rfl, ?_⟩)
  go_grown
theorem tobool_1 (w : World) (i u : Int) (f : Nat) (s : ByteArray) (b : Bool) (hr : -9223372036854775808 ≤ i ∧ i ≤ 9223372036854775807) :
    Calls Try.prog 11 #[V 1 i u f s b] w (Gives w (.tuple #[.bool false, .bool false])) := by
  obtain ⟨hr0, hr1⟩ := hr
  have hmf : ∀ (fn : Fn) (first cap : Array Value) (w : World), (Instr.makeFunc fn first cap).run Try.prog w = .ok (.func fn first cap) w := fun _ _ _ _ => rfl
  go_enter_defers Try.func11, Try.ntmps11
  go_wp2
  simp only [bodyPost, bodyPostD]
  refine ⟨trivial, ?_⟩
  refine leaves_cons (f := 26) (args := #[.pointer (some ⟨w.heap.size + 1, 0, none⟩), .pointer (some ⟨w.heap.size + 1 + 1, 0, none⟩)]) (by simp) (by simp [go_sem]) ?_
  refine (pan26 (w.heap.size + 1) (w.heap.size + 1 + 1) (by omega) _ _ [] _ _ _ (by simp [go_sem]; rfl) (by simp [go_sem]; rfl) (by simp [go_sem]) (by simp [go_sem])).mono ?_
  rintro e u' w'' ⟨rfl, rfl, rfl⟩
  simp [Leaves, settle, results, Try.results11, go_sem]
  try (refine ⟨rfl, ?_⟩)
  go_grown
theorem asf_1 (w : World) (i u : Int) (f : Nat) (s : ByteArray) (b : Bool) (hr : -9223372036854775808 ≤ i ∧ i ≤ 9223372036854775807) :
    Calls Try.prog 12 #[V 1 i u f s b] w (Gives w (.float .f64 (floatOfInt .f64 i))) := by
  obtain ⟨hr0, hr1⟩ := hr
  go_enter Try.func12, Try.ntmps12
  go_wp2
  go_ret
  exact ⟨rfl, by go_grown⟩
theorem whole_1 (w : World) (i u : Int) (f : Nat) (s : ByteArray) (b : Bool) (hr : -9223372036854775808 ≤ i ∧ i ≤ 9223372036854775807) :
    Calls Try.prog 13 #[V 1 i u f s b] w (Gives w (.bool true)) := by
  obtain ⟨hr0, hr1⟩ := hr
  go_enter Try.func13, Try.ntmps13
  go_wp2
  go_ret
  exact ⟨rfl, by go_grown⟩
theorem asint_1 (w : World) (i u : Int) (f : Nat) (s : ByteArray) (b : Bool) (hr : -9223372036854775808 ≤ i ∧ i ≤ 9223372036854775807) :
    Calls Try.prog 14 #[V 1 i u f s b] w (Gives w (.int .i64 i)) := by
  obtain ⟨hr0, hr1⟩ := hr
  go_enter Try.func14, Try.ntmps14
  go_wp2
  go_ret
  exact ⟨rfl, by go_grown⟩
theorem toint_2 (w : World) (i u : Int) (f : Nat) (s : ByteArray) (b : Bool) (hr : -128 ≤ i ∧ i < 128) :
    Calls Try.prog 8 #[V 2 i u f s b] w (Gives w (.tuple #[.int .i64 i, .bool true])) := by
  obtain ⟨hr0, hr1⟩ := hr
  have hmf : ∀ (fn : Fn) (first cap : Array Value) (w : World), (Instr.makeFunc fn first cap).run Try.prog w = .ok (.func fn first cap) w := fun _ _ _ _ => rfl
  go_enter_defers Try.func8, Try.ntmps8
  go_wp2
  refine leaves_cons (f := 20) (args := #[.pointer (some ⟨w.heap.size + 1, 0, none⟩), .pointer (some ⟨w.heap.size + 1 + 1, 0, none⟩)]) (by simp) (by simp [go_sem]) ?_
  refine (idle20 ⟨w.heap.size + 1, 0, none⟩ ⟨w.heap.size + 1 + 1, 0, none⟩ _).mono ?_
  rintro e u' w'' ⟨rfl, rfl, rfl⟩
  simp [Leaves, settle, results, Try.results8, go_sem]
  try (refine ⟨rfl, ?_⟩)
  go_grown
theorem toint64_2 (w : World) (i u : Int) (f : Nat) (s : ByteArray) (b : Bool) (hr : -128 ≤ i ∧ i < 128) :
    Calls Try.prog 9 #[V 2 i u f s b] w (Gives w (.tuple #[.int .i64 i, .bool true])) := by
  obtain ⟨hr0, hr1⟩ := hr
  have hmf : ∀ (fn : Fn) (first cap : Array Value) (w : World), (Instr.makeFunc fn first cap).run Try.prog w = .ok (.func fn first cap) w := fun _ _ _ _ => rfl
  go_enter_defers Try.func9, Try.ntmps9
  go_wp2
  refine leaves_cons (f := 22) (args := #[.pointer (some ⟨w.heap.size + 1, 0, none⟩), .pointer (some ⟨w.heap.size + 1 + 1, 0, none⟩)]) (by simp) (by simp [go_sem]) ?_
  refine (idle22 ⟨w.heap.size + 1, 0, none⟩ ⟨w.heap.size + 1 + 1, 0, none⟩ _).mono ?_
  rintro e u' w'' ⟨rfl, rfl, rfl⟩
  simp [Leaves, settle, results, Try.results9, go_sem]
  try (refine ⟨rfl, ?_⟩)
  go_grown
theorem tofl_2 (w : World) (i u : Int) (f : Nat) (s : ByteArray) (b : Bool) (hr : -128 ≤ i ∧ i < 128) :
    Calls Try.prog 10 #[V 2 i u f s b] w (Gives w (.tuple #[.float .f64 (floatOfInt .f64 i), .bool true])) := by
  obtain ⟨hr0, hr1⟩ := hr
  have hmf : ∀ (fn : Fn) (first cap : Array Value) (w : World), (Instr.makeFunc fn first cap).run Try.prog w = .ok (.func fn first cap) w := fun _ _ _ _ => rfl
  go_enter_defers Try.func10, Try.ntmps10
  go_wp2
  refine leaves_cons (f := 24) (args := #[.pointer (some ⟨w.heap.size + 1, 0, none⟩), .pointer (some ⟨w.heap.size + 1 + 1, 0, none⟩)]) (by simp) (by simp [go_sem]) ?_
  refine (idle24 ⟨w.heap.size + 1, 0, none⟩ ⟨w.heap.size + 1 + 1, 0, none⟩ _).mono ?_
  rintro e u' w'' ⟨rfl, rfl, rfl⟩
  simp [Leaves, settle, results, Try.results10, go_sem]
  try (refine ⟨rfl, ?_⟩)
  go_grown
theorem tobool_2 (w : World) (i u : Int) (f : Nat) (s : ByteArray) (b : Bool) (hr : -128 ≤ i ∧ i < 128) :
    Calls Try.prog 11 #[V 2 i u f s b] w (Gives w (.tuple #[.bool false, .bool false])) := by
  obtain ⟨hr0, hr1⟩ := hr
  have hmf : ∀ (fn : Fn) (first cap : Array Value) (w : World), (Instr.makeFunc fn first cap).run Try.prog w = .ok (.func fn first cap) w := fun _ _ _ _ => rfl
  go_enter_defers Try.func11, Try.ntmps11
  go_wp2
  simp only [bodyPost, bodyPostD]
  refine ⟨trivial, ?_⟩
  refine leaves_cons (f := 26) (args := #[.pointer (some ⟨w.heap.size + 1, 0, none⟩), .pointer (some ⟨w.heap.size + 1 + 1, 0, none⟩)]) (by simp) (by simp [go_sem]) ?_
  refine (pan26 (w.heap.size + 1) (w.heap.size + 1 + 1) (by omega) _ _ [] _ _ _ (by simp [go_sem]; rfl) (by simp [go_sem]; rfl) (by simp [go_sem]) (by simp [go_sem])).mono ?_
  rintro e u' w'' ⟨rfl, rfl, rfl⟩
  simp [Leaves, settle, results, Try.results11, go_sem]
  try (refine ⟨rfl, ?_⟩)
  go_grown
theorem asf_2 (w : World) (i u : Int) (f : Nat) (s : ByteArray) (b : Bool) (hr : -128 ≤ i ∧ i < 128) :
    Calls Try.prog 12 #[V 2 i u f s b] w (Gives w (.float .f64 (floatOfInt .f64 i))) := by
  obtain ⟨hr0, hr1⟩ := hr
  go_enter Try.func12, Try.ntmps12
  go_wp2
  go_ret
  exact ⟨rfl, by go_grown⟩
theorem whole_2 (w : World) (i u : Int) (f : Nat) (s : ByteArray) (b : Bool) (hr : -128 ≤ i ∧ i < 128) :
    Calls Try.prog 13 #[V 2 i u f s b] w (Gives w (.bool true)) := by
  obtain ⟨hr0, hr1⟩ := hr
  go_enter Try.func13, Try.ntmps13
  go_wp2
  go_ret
  exact ⟨rfl, by go_grown⟩
theorem asint_2 (w : World) (i u : Int) (f : Nat) (s : ByteArray) (b : Bool) (hr : -128 ≤ i ∧ i < 128) :
    Calls Try.prog 14 #[V 2 i u f s b] w (Gives w (.int .i64 i)) := by
  obtain ⟨hr0, hr1⟩ := hr
  go_enter Try.func14, Try.ntmps14
  go_wp2
  go_ret
  exact ⟨rfl, by go_grown⟩
theorem toint_3 (w : World) (i u : Int) (f : Nat) (s : ByteArray) (b : Bool) (hr : -32768 ≤ i ∧ i < 32768) :
    Calls Try.prog 8 #[V 3 i u f s b] w (Gives w (.tuple #[.int .i64 i, .bool true])) := by
  obtain ⟨hr0, hr1⟩ := hr
  have hmf : ∀ (fn : Fn) (first cap : Array Value) (w : World), (Instr.makeFunc fn first cap).run Try.prog w = .ok (.func fn first cap) w := fun _ _ _ _ => rfl
  go_enter_defers Try.func8, Try.ntmps8
  go_wp2
  refine leaves_cons (f := 20) (args := #[.pointer (some ⟨w.heap.size + 1, 0, none⟩), .pointer (some ⟨w.heap.size + 1 + 1, 0, none⟩)]) (by simp) (by simp [go_sem]) ?_
  refine (idle20 ⟨w.heap.size + 1, 0, none⟩ ⟨w.heap.size + 1 + 1, 0, none⟩ _).mono ?_
  rintro e u' w'' ⟨rfl, rfl, rfl⟩
  simp [Leaves, settle, results, Try.results8, go_sem]
  try (refine ⟨rfl, ?_⟩)
  go_grown
theorem toint64_3 (w : World) (i u : Int) (f : Nat) (s : ByteArray) (b : Bool) (hr : -32768 ≤ i ∧ i < 32768) :
    Calls Try.prog 9 #[V 3 i u f s b] w (Gives w (.tuple #[.int .i64 i, .bool true])) := by
  obtain ⟨hr0, hr1⟩ := hr
  have hmf : ∀ (fn : Fn) (first cap : Array Value) (w : World), (Instr.makeFunc fn first cap).run Try.prog w = .ok (.func fn first cap) w := fun _ _ _ _ => rfl
  go_enter_defers Try.func9, Try.ntmps9
  go_wp2
  refine leaves_cons (f := 22) (args := #[.pointer (some ⟨w.heap.size + 1, 0, none⟩), .pointer (some ⟨w.heap.size + 1 + 1, 0, none⟩)]) (by simp) (by simp [go_sem]) ?_
  refine (idle22 ⟨w.heap.size + 1, 0, none⟩ ⟨w.heap.size + 1 + 1, 0, none⟩ _).mono ?_
  rintro e u' w'' ⟨rfl, rfl, rfl⟩
  simp [Leaves, settle, results, Try.results9, go_sem]
  try (refine ⟨rfl, ?_⟩)
  go_grown
theorem tofl_3 (w : World) (i u : Int) (f : Nat) (s : ByteArray) (b : Bool) (hr : -32768 ≤ i ∧ i < 32768) :
    Calls Try.prog 10 #[V 3 i u f s b] w (Gives w (.tuple #[.float .f64 (floatOfInt .f64 i), .bool true])) := by
  obtain ⟨hr0, hr1⟩ := hr
  have hmf : ∀ (fn : Fn) (first cap : Array Value) (w : World), (Instr.makeFunc fn first cap).run Try.prog w = .ok (.func fn first cap) w := fun _ _ _ _ => rfl
  go_enter_defers Try.func10, Try.ntmps10
  go_wp2
  refine leaves_cons (f := 24) (args := #[.pointer (some ⟨w.heap.size + 1, 0, none⟩), .pointer (some ⟨w.heap.size + 1 + 1, 0, none⟩)]) (by simp) (by simp [go_sem]) ?_
  refine (idle24 ⟨w.heap.size + 1, 0, none⟩ ⟨w.heap.size + 1 + 1, 0, none⟩ _).mono ?_
  rintro e u' w'' ⟨rfl, rfl, rfl⟩
  simp [Leaves, settle, results, Try.results10, go_sem]
  try (refine ⟨rfl, ?_⟩)
  go_grown
theorem tobool_3 (w : World) (i u : Int) (f : Nat) (s : ByteArray) (b : Bool) (hr : -32768 ≤ i ∧ i < 32768) :
    Calls Try.prog 11 #[V 3 i u f s b] w (Gives w (.tuple #[.bool false, .bool false])) := by
  obtain ⟨hr0, hr1⟩ := hr
  have hmf : ∀ (fn : Fn) (first cap : Array Value) (w : World), (Instr.makeFunc fn first cap).run Try.prog w = .ok (.func fn first cap) w := fun _ _ _ _ => rfl
  go_enter_defers Try.func11, Try.ntmps11
  go_wp2
  simp only [bodyPost, bodyPostD]
  refine ⟨trivial, ?_⟩
  refine leaves_cons (f := 26) (args := #[.pointer (some ⟨w.heap.size + 1, 0, none⟩), .pointer (some ⟨w.heap.size + 1 + 1, 0, none⟩)]) (by simp) (by simp [go_sem]) ?_
  refine (pan26 (w.heap.size + 1) (w.heap.size + 1 + 1) (by omega) _ _ [] _ _ _ (by simp [go_sem]; rfl) (by simp [go_sem]; rfl) (by simp [go_sem]) (by simp [go_sem])).mono ?_
  rintro e u' w'' ⟨rfl, rfl, rfl⟩
  simp [Leaves, settle, results, Try.results11, go_sem]
  try (refine ⟨rfl, ?_⟩)
  go_grown
theorem asf_3 (w : World) (i u : Int) (f : Nat) (s : ByteArray) (b : Bool) (hr : -32768 ≤ i ∧ i < 32768) :
    Calls Try.prog 12 #[V 3 i u f s b] w (Gives w (.float .f64 (floatOfInt .f64 i))) := by
  obtain ⟨hr0, hr1⟩ := hr
  go_enter Try.func12, Try.ntmps12
  go_wp2
  go_ret
  exact ⟨rfl, by go_grown⟩
theorem whole_3 (w : World) (i u : Int) (f : Nat) (s : ByteArray) (b : Bool) (hr : -32768 ≤ i ∧ i < 32768) :
    Calls Try.prog 13 #[V 3 i u f s b] w (Gives w (.bool true)) := by
  obtain ⟨hr0, hr1⟩ := hr
  go_enter Try.func13, Try.ntmps13
  go_wp2
  go_ret
  exact ⟨rfl, by go_grown⟩
theorem asint_3 (w : World) (i u : Int) (f : Nat) (s : ByteArray) (b : Bool) (hr : -32768 ≤ i ∧ i < 32768) :
    Calls Try.prog 14 #[V 3 i u f s b] w (Gives w (.int .i64 i)) := by
  obtain ⟨hr0, hr1⟩ := hr
  go_enter Try.func14, Try.ntmps14
  go_wp2
  go_ret
  exact ⟨rfl, by go_grown⟩
theorem toint_4 (w : World) (i u : Int) (f : Nat) (s : ByteArray) (b : Bool) (hr : -2147483648 ≤ i ∧ i < 2147483648) :
    Calls Try.prog 8 #[V 4 i u f s b] w (Gives w (.tuple #[.int .i64 i, .bool true])) := by
  obtain ⟨hr0, hr1⟩ := hr
  have hmf : ∀ (fn : Fn) (first cap : Array Value) (w : World), (Instr.makeFunc fn first cap).run Try.prog w = .ok (.func fn first cap) w := fun _ _ _ _ => rfl
  go_enter_defers Try.func8, Try.ntmps8
  go_wp2
  refine leaves_cons (f := 20) (args := #[.pointer (some ⟨w.heap.size + 1, 0, none⟩), .pointer (some ⟨w.heap.size + 1 + 1, 0, none⟩)]) (by simp) (by simp [go_sem]) ?_
  refine (idle20 ⟨w.heap.size + 1, 0, none⟩ ⟨w.heap.size + 1 + 1, 0, none⟩ _).mono ?_
  rintro e u' w'' ⟨rfl, rfl, rfl⟩
  simp [Leaves, settle, results, Try.results8, go_sem]
  try (refine ⟨rfl, ?_⟩)
  go_grown
theorem toint64_4 (w : World) (i u : Int) (f : Nat) (s : ByteArray) (b : Bool) (hr : -2147483648 ≤ i ∧ i < 2147483648) :
    Calls Try.prog 9 #[V 4 i u f s b] w (Gives w (.tuple #[.int .i64 i, .bool true])) := by
  obtain ⟨hr0, hr1⟩ := hr
  have hmf : ∀ (fn : Fn) (first cap : Array Value) (w : World), (Instr.makeFunc fn first cap).run Try.prog w = .ok (.func fn first cap) w := fun _ _ _ _ => rfl
  go_enter_defers Try.func9, Try.ntmps9
  go_wp2
  refine leaves_cons (f := 22) (args := #[.pointer (some ⟨w.heap.size + 1, 0, none⟩), .pointer (some ⟨w.heap.size + 1 + 1, 0, none⟩)]) (by simp) (by simp [go_sem]) ?_
  refine (idle22 ⟨w.heap.size + 1, 0, none⟩ ⟨w.heap.size + 1 + 1, 0, none⟩ _).mono ?_
  rintro e u' w'' ⟨rfl, rfl, rfl⟩
  simp [Leaves, settle, results, Try.results9, go_sem]
  try (refine ⟨rfl, ?_⟩)
  go_grown
theorem tofl_4 (w : World) (i u : Int) (f : Nat) (s : ByteArray) (b : Bool) (hr : -2147483648 ≤ i ∧ i < 2147483648) :
    Calls Try.prog 10 #[V 4 i u f s b] w (Gives w (.tuple #[.float .f64 (floatOfInt .f64 i), .bool true])) := by
  obtain ⟨hr0, hr1⟩ := hr
  have hmf : ∀ (fn : Fn) (first cap : Array Value) (w : World), (Instr.makeFunc fn first cap).run Try.prog w = .ok (.func fn first cap) w := fun _ _ _ _ => rfl
  go_enter_defers Try.func10, Try.ntmps10
  go_wp2
  refine leaves_cons (f := 24) (args := #[.pointer (some ⟨w.heap.size + 1, 0, none⟩), .pointer (some ⟨w.heap.size + 1 + 1, 0, none⟩)]) (by simp) (by simp [go_sem]) ?_
  refine (idle24 ⟨w.heap.size + 1, 0, none⟩ ⟨w.heap.size + 1 + 1, 0, none⟩ _).mono ?_
  rintro e u' w'' ⟨rfl, rfl, rfl⟩
  simp [Leaves, settle, results, Try.results10, go_sem]
  try (refine ⟨rfl, ?_⟩)
  go_grown
theorem tobool_4 (w : World) (i u : Int) (f : Nat) (s : ByteArray) (b : Bool) (hr : -2147483648 ≤ i ∧ i < 2147483648) :
    Calls Try.prog 11 #[V 4 i u f s b] w (Gives w (.tuple #[.bool false, .bool false])) := by
  obtain ⟨hr0, hr1⟩ := hr
  have hmf : ∀ (fn : Fn) (first cap : Array Value) (w : World), (Instr.makeFunc fn first cap).run Try.prog w = .ok (.func fn first cap) w := fun _ _ _ _ => rfl
  go_enter_defers Try.func11, Try.ntmps11
  go_wp2
  simp only [bodyPost, bodyPostD]
  refine ⟨trivial, ?_⟩
  refine leaves_cons (f := 26) (args := #[.pointer (some ⟨w.heap.size + 1, 0, none⟩), .pointer (some ⟨w.heap.size + 1 + 1, 0, none⟩)]) (by simp) (by simp [go_sem]) ?_
  refine (pan26 (w.heap.size + 1) (w.heap.size + 1 + 1) (by omega) _ _ [] _ _ _ (by simp [go_sem]; rfl) (by simp [go_sem]; rfl) (by simp [go_sem]) (by simp [go_sem])).mono ?_
  rintro e u' w'' ⟨rfl, rfl, rfl⟩
  simp [Leaves, settle, results, Try.results11, go_sem]
  try (refine ⟨rfl, ?_⟩)
  go_grown
theorem asf_4 (w : World) (i u : Int) (f : Nat) (s : ByteArray) (b : Bool) (hr : -2147483648 ≤ i ∧ i < 2147483648) :
    Calls Try.prog 12 #[V 4 i u f s b] w (Gives w (.float .f64 (floatOfInt .f64 i))) := by
  obtain ⟨hr0, hr1⟩ := hr
  go_enter Try.func12, Try.ntmps12
  go_wp2
  go_ret
  exact ⟨rfl, by go_grown⟩
theorem whole_4 (w : World) (i u : Int) (f : Nat) (s : ByteArray) (b : Bool) (hr : -2147483648 ≤ i ∧ i < 2147483648) :
    Calls Try.prog 13 #[V 4 i u f s b] w (Gives w (.bool true)) := by
  obtain ⟨hr0, hr1⟩ := hr
  go_enter Try.func13, Try.ntmps13
  go_wp2
  go_ret
  exact ⟨rfl, by go_grown⟩
theorem asint_4 (w : World) (i u : Int) (f : Nat) (s : ByteArray) (b : Bool) (hr : -2147483648 ≤ i ∧ i < 2147483648) :
    Calls Try.prog 14 #[V 4 i u f s b] w (Gives w (.int .i64 i)) := by
  obtain ⟨hr0, hr1⟩ := hr
  go_enter Try.func14, Try.ntmps14
  go_wp2
  go_ret
  exact ⟨rfl, by go_grown⟩
theorem toint_5 (w : World) (i u : Int) (f : Nat) (s : ByteArray) (b : Bool) (hr : -9223372036854775808 ≤ i ∧ i ≤ 9223372036854775807) :
    Calls Try.prog 8 #[V 5 i u f s b] w (Gives w (.tuple #[.int .i64 i, .bool true])) := by
  obtain ⟨hr0, hr1⟩ := hr
  have hmf : ∀ (fn : Fn) (first cap : Array Value) (w : World), (Instr.makeFunc fn first cap).run Try.prog w = .ok (.func fn first cap) w := fun _ _ _ _ => rfl
  go_enter_defers Try.func8, Try.ntmps8
  go_wp2
  refine leaves_cons (f := 20) (args := #[.pointer (some ⟨w.heap.size + 1, 0, none⟩), .pointer (some ⟨w.heap.size + 1 + 1, 0, none⟩)]) (by simp) (by simp [go_sem]) ?_
  refine (idle20 ⟨w.heap.size + 1, 0, none⟩ ⟨w.heap.size + 1 + 1, 0, none⟩ _).mono ?_
  rintro e u' w'' ⟨rfl, rfl, rfl⟩
  simp [Leaves, settle, results, Try.results8, go_sem]
  try (refine ⟨rfl, ?_⟩)
  go_grown
theorem toint64_5 (w : World) (i u : Int) (f : Nat) (s : ByteArray) (b : Bool) (hr : -9223372036854775808 ≤ i ∧ i ≤ 9223372036854775807) :
    Calls Try.prog 9 #[V 5 i u f s b] w (Gives w (.tuple #[.int .i64 i, .bool true])) := by
  obtain ⟨hr0, hr1⟩ := hr
  have hmf : ∀ (fn : Fn) (first cap : Array Value) (w : World), (Instr.makeFunc fn first cap).run Try.prog w = .ok (.func fn first cap) w := fun _ _ _ _ => rfl
  go_enter_defers Try.func9, Try.ntmps9
  go_wp2
  refine leaves_cons (f := 22) (args := #[.pointer (some ⟨w.heap.size + 1, 0, none⟩), .pointer (some ⟨w.heap.size + 1 + 1, 0, none⟩)]) (by simp) (by simp [go_sem]) ?_
  refine (idle22 ⟨w.heap.size + 1, 0, none⟩ ⟨w.heap.size + 1 + 1, 0, none⟩ _).mono ?_
  rintro e u' w'' ⟨rfl, rfl, rfl⟩
  simp [Leaves, settle, results, Try.results9, go_sem]
  try (refine ⟨rfl, ?_⟩)
  go_grown
theorem tofl_5 (w : World) (i u : Int) (f : Nat) (s : ByteArray) (b : Bool) (hr : -9223372036854775808 ≤ i ∧ i ≤ 9223372036854775807) :
    Calls Try.prog 10 #[V 5 i u f s b] w (Gives w (.tuple #[.float .f64 (floatOfInt .f64 i), .bool true])) := by
  obtain ⟨hr0, hr1⟩ := hr
  have hmf : ∀ (fn : Fn) (first cap : Array Value) (w : World), (Instr.makeFunc fn first cap).run Try.prog w = .ok (.func fn first cap) w := fun _ _ _ _ => rfl
  go_enter_defers Try.func10, Try.ntmps10
  go_wp2
  refine leaves_cons (f := 24) (args := #[.pointer (some ⟨w.heap.size + 1, 0, none⟩), .pointer (some ⟨w.heap.size + 1 + 1, 0, none⟩)]) (by simp) (by simp [go_sem]) ?_
  refine (idle24 ⟨w.heap.size + 1, 0, none⟩ ⟨w.heap.size + 1 + 1, 0, none⟩ _).mono ?_
  rintro e u' w'' ⟨rfl, rfl, rfl⟩
  simp [Leaves, settle, results, Try.results10, go_sem]
  try (refine ⟨rfl, ?_⟩)
  go_grown
theorem tobool_5 (w : World) (i u : Int) (f : Nat) (s : ByteArray) (b : Bool) (hr : -9223372036854775808 ≤ i ∧ i ≤ 9223372036854775807) :
    Calls Try.prog 11 #[V 5 i u f s b] w (Gives w (.tuple #[.bool false, .bool false])) := by
  obtain ⟨hr0, hr1⟩ := hr
  have hmf : ∀ (fn : Fn) (first cap : Array Value) (w : World), (Instr.makeFunc fn first cap).run Try.prog w = .ok (.func fn first cap) w := fun _ _ _ _ => rfl
  go_enter_defers Try.func11, Try.ntmps11
  go_wp2
  simp only [bodyPost, bodyPostD]
  refine ⟨trivial, ?_⟩
  refine leaves_cons (f := 26) (args := #[.pointer (some ⟨w.heap.size + 1, 0, none⟩), .pointer (some ⟨w.heap.size + 1 + 1, 0, none⟩)]) (by simp) (by simp [go_sem]) ?_
  refine (pan26 (w.heap.size + 1) (w.heap.size + 1 + 1) (by omega) _ _ [] _ _ _ (by simp [go_sem]; rfl) (by simp [go_sem]; rfl) (by simp [go_sem]) (by simp [go_sem])).mono ?_
  rintro e u' w'' ⟨rfl, rfl, rfl⟩
  simp [Leaves, settle, results, Try.results11, go_sem]
  try (refine ⟨rfl, ?_⟩)
  go_grown
theorem asf_5 (w : World) (i u : Int) (f : Nat) (s : ByteArray) (b : Bool) (hr : -9223372036854775808 ≤ i ∧ i ≤ 9223372036854775807) :
    Calls Try.prog 12 #[V 5 i u f s b] w (Gives w (.float .f64 (floatOfInt .f64 i))) := by
  obtain ⟨hr0, hr1⟩ := hr
  go_enter Try.func12, Try.ntmps12
  go_wp2
  go_ret
  exact ⟨rfl, by go_grown⟩
theorem whole_5 (w : World) (i u : Int) (f : Nat) (s : ByteArray) (b : Bool) (hr : -9223372036854775808 ≤ i ∧ i ≤ 9223372036854775807) :
    Calls Try.prog 13 #[V 5 i u f s b] w (Gives w (.bool true)) := by
  obtain ⟨hr0, hr1⟩ := hr
  go_enter Try.func13, Try.ntmps13
  go_wp2
  go_ret
  exact ⟨rfl, by go_grown⟩
theorem asint_5 (w : World) (i u : Int) (f : Nat) (s : ByteArray) (b : Bool) (hr : -9223372036854775808 ≤ i ∧ i ≤ 9223372036854775807) :
    Calls Try.prog 14 #[V 5 i u f s b] w (Gives w (.int .i64 i)) := by
  obtain ⟨hr0, hr1⟩ := hr
  go_enter Try.func14, Try.ntmps14
  go_wp2
  go_ret
  exact ⟨rfl, by go_grown⟩
theorem toint_6 (w : World) (i u : Int) (f : Nat) (s : ByteArray) (b : Bool) (hr : 0 ≤ u ∧ u ≤ 9223372036854775807) :
    Calls Try.prog 8 #[V 6 i u f s b] w (Gives w (.tuple #[.int .i64 u, .bool true])) := by
  obtain ⟨hr0, hr1⟩ := hr
  have hmf : ∀ (fn : Fn) (first cap : Array Value) (w : World), (Instr.makeFunc fn first cap).run Try.prog w = .ok (.func fn first cap) w := fun _ _ _ _ => rfl
  go_enter_defers Try.func8, Try.ntmps8
  go_wp2
  refine leaves_cons (f := 20) (args := #[.pointer (some ⟨w.heap.size + 1, 0, none⟩), .pointer (some ⟨w.heap.size + 1 + 1, 0, none⟩)]) (by simp) (by simp [go_sem]) ?_
  refine (idle20 ⟨w.heap.size + 1, 0, none⟩ ⟨w.heap.size + 1 + 1, 0, none⟩ _).mono ?_
  rintro e u' w'' ⟨rfl, rfl, rfl⟩
  simp [Leaves, settle, results, Try.results8, go_sem]
  try (refine ⟨rfl, ?_⟩)
  go_grown
theorem toint64_6 (w : World) (i u : Int) (f : Nat) (s : ByteArray) (b : Bool) (hr : 0 ≤ u ∧ u ≤ 9223372036854775807) :
    Calls Try.prog 9 #[V 6 i u f s b] w (Gives w (.tuple #[.int .i64 u, .bool true])) := by
  obtain ⟨hr0, hr1⟩ := hr
  have hmf : ∀ (fn : Fn) (first cap : Array Value) (w : World), (Instr.makeFunc fn first cap).run Try.prog w = .ok (.func fn first cap) w := fun _ _ _ _ => rfl
  go_enter_defers Try.func9, Try.ntmps9
  go_wp2
  refine leaves_cons (f := 22) (args := #[.pointer (some ⟨w.heap.size + 1, 0, none⟩), .pointer (some ⟨w.heap.size + 1 + 1, 0, none⟩)]) (by simp) (by simp [go_sem]) ?_
  refine (idle22 ⟨w.heap.size + 1, 0, none⟩ ⟨w.heap.size + 1 + 1, 0, none⟩ _).mono ?_
  rintro e u' w'' ⟨rfl, rfl, rfl⟩
  simp [Leaves, settle, results, Try.results9, go_sem]
  try (refine ⟨rfl, ?_⟩)
  go_grown
theorem tofl_6 (w : World) (i u : Int) (f : Nat) (s : ByteArray) (b : Bool) (hr : 0 ≤ u ∧ u ≤ 9223372036854775807) :
    Calls Try.prog 10 #[V 6 i u f s b] w (Gives w (.tuple #[.float .f64 (floatOfInt .f64 u), .bool true])) := by
  obtain ⟨hr0, hr1⟩ := hr
  have hmf : ∀ (fn : Fn) (first cap : Array Value) (w : World), (Instr.makeFunc fn first cap).run Try.prog w = .ok (.func fn first cap) w := fun _ _ _ _ => rfl
  go_enter_defers Try.func10, Try.ntmps10
  go_wp2
  refine leaves_cons (f := 24) (args := #[.pointer (some ⟨w.heap.size + 1, 0, none⟩), .pointer (some ⟨w.heap.size + 1 + 1, 0, none⟩)]) (by simp) (by simp [go_sem]) ?_
  refine (idle24 ⟨w.heap.size + 1, 0, none⟩ ⟨w.heap.size + 1 + 1, 0, none⟩ _).mono ?_
  rintro e u' w'' ⟨rfl, rfl, rfl⟩
  simp [Leaves, settle, results, Try.results10, go_sem]
  try (refine ⟨rfl, ?_⟩)
  go_grown
theorem tobool_6 (w : World) (i u : Int) (f : Nat) (s : ByteArray) (b : Bool) (hr : 0 ≤ u ∧ u ≤ 9223372036854775807) :
    Calls Try.prog 11 #[V 6 i u f s b] w (Gives w (.tuple #[.bool false, .bool false])) := by
  obtain ⟨hr0, hr1⟩ := hr
  have hmf : ∀ (fn : Fn) (first cap : Array Value) (w : World), (Instr.makeFunc fn first cap).run Try.prog w = .ok (.func fn first cap) w := fun _ _ _ _ => rfl
  go_enter_defers Try.func11, Try.ntmps11
  go_wp2
  simp only [bodyPost, bodyPostD]
  refine ⟨trivial, ?_⟩
  refine leaves_cons (f := 26) (args := #[.pointer (some ⟨w.heap.size + 1, 0, none⟩), .pointer (some ⟨w.heap.size + 1 + 1, 0, none⟩)]) (by simp) (by simp [go_sem]) ?_
  refine (pan26 (w.heap.size + 1) (w.heap.size + 1 + 1) (by omega) _ _ [] _ _ _ (by simp [go_sem]; rfl) (by simp [go_sem]; rfl) (by simp [go_sem]) (by simp [go_sem])).mono ?_
  rintro e u' w'' ⟨rfl, rfl, rfl⟩
  simp [Leaves, settle, results, Try.results11, go_sem]
  try (refine ⟨rfl, ?_⟩)
  go_grown
theorem asf_6 (w : World) (i u : Int) (f : Nat) (s : ByteArray) (b : Bool) (hr : 0 ≤ u ∧ u ≤ 9223372036854775807) :
    Calls Try.prog 12 #[V 6 i u f s b] w (Gives w (.float .f64 (floatOfInt .f64 u))) := by
  obtain ⟨hr0, hr1⟩ := hr
  go_enter Try.func12, Try.ntmps12
  go_wp2
  go_ret
  exact ⟨rfl, by go_grown⟩
theorem whole_6 (w : World) (i u : Int) (f : Nat) (s : ByteArray) (b : Bool) (hr : 0 ≤ u ∧ u ≤ 9223372036854775807) :
    Calls Try.prog 13 #[V 6 i u f s b] w (Gives w (.bool true)) := by
  obtain ⟨hr0, hr1⟩ := hr
  go_enter Try.func13, Try.ntmps13
  go_wp2
  go_ret
  exact ⟨rfl, by go_grown⟩
theorem asint_6 (w : World) (i u : Int) (f : Nat) (s : ByteArray) (b : Bool) (hr : 0 ≤ u ∧ u ≤ 9223372036854775807) :
    Calls Try.prog 14 #[V 6 i u f s b] w (Gives w (.int .i64 u)) := by
  obtain ⟨hr0, hr1⟩ := hr
  go_enter Try.func14, Try.ntmps14
  go_wp2
  go_ret
  exact ⟨rfl, by go_grown⟩
theorem toint_7 (w : World) (i u : Int) (f : Nat) (s : ByteArray) (b : Bool) (hr : 0 ≤ u ∧ u ≤ 255) :
    Calls Try.prog 8 #[V 7 i u f s b] w (Gives w (.tuple #[.int .i64 u, .bool true])) := by
  obtain ⟨hr0, hr1⟩ := hr
  have hmf : ∀ (fn : Fn) (first cap : Array Value) (w : World), (Instr.makeFunc fn first cap).run Try.prog w = .ok (.func fn first cap) w := fun _ _ _ _ => rfl
  go_enter_defers Try.func8, Try.ntmps8
  go_wp2
  refine leaves_cons (f := 20) (args := #[.pointer (some ⟨w.heap.size + 1, 0, none⟩), .pointer (some ⟨w.heap.size + 1 + 1, 0, none⟩)]) (by simp) (by simp [go_sem]) ?_
  refine (idle20 ⟨w.heap.size + 1, 0, none⟩ ⟨w.heap.size + 1 + 1, 0, none⟩ _).mono ?_
  rintro e u' w'' ⟨rfl, rfl, rfl⟩
  simp [Leaves, settle, results, Try.results8, go_sem]
  try (refine ⟨rfl, ?_⟩)
  go_grown
theorem toint64_7 (w : World) (i u : Int) (f : Nat) (s : ByteArray) (b : Bool) (hr : 0 ≤ u ∧ u ≤ 255) :
    Calls Try.prog 9 #[V 7 i u f s b] w (Gives w (.tuple #[.int .i64 u, .bool true])) := by
  obtain ⟨hr0, hr1⟩ := hr
  have hmf : ∀ (fn : Fn) (first cap : Array Value) (w : World), (Instr.makeFunc fn first cap).run Try.prog w = .ok (.func fn first cap) w := fun _ _ _ _ => rfl
  go_enter_defers Try.func9, Try.ntmps9
  go_wp2
  refine leaves_cons (f := 22) (args := #[.pointer (some ⟨w.heap.size + 1, 0, none⟩), .pointer (some ⟨w.heap.size + 1 + 1, 0, none⟩)]) (by simp) (by simp [go_sem]) ?_
  refine (idle22 ⟨w.heap.size + 1, 0, none⟩ ⟨w.heap.size + 1 + 1, 0, none⟩ _).mono ?_
  rintro e u' w'' ⟨rfl, rfl, rfl⟩
  simp [Leaves, settle, results, Try.results9, go_sem]
  try (refine ⟨rfl, ?_⟩)
  go_grown
theorem tofl_7 (w : World) (i u : Int) (f : Nat) (s : ByteArray) (b : Bool) (hr : 0 ≤ u ∧ u ≤ 255) :
    Calls Try.prog 10 #[V 7 i u f s b] w (Gives w (.tuple #[.float .f64 (floatOfInt .f64 u), .bool true])) := by
  obtain ⟨hr0, hr1⟩ := hr
  have hmf : ∀ (fn : Fn) (first cap : Array Value) (w : World), (Instr.makeFunc fn first cap).run Try.prog w = .ok (.func fn first cap) w := fun _ _ _ _ => rfl
  go_enter_defers Try.func10, Try.ntmps10
  go_wp2
  refine leaves_cons (f := 24) (args := #[.pointer (some ⟨w.heap.size + 1, 0, none⟩), .pointer (some ⟨w.heap.size + 1 + 1, 0, none⟩)]) (by simp) (by simp [go_sem]) ?_
  refine (idle24 ⟨w.heap.size + 1, 0, none⟩ ⟨w.heap.size + 1 + 1, 0, none⟩ _).mono ?_
  rintro e u' w'' ⟨rfl, rfl, rfl⟩
  simp [Leaves, settle, results, Try.results10, go_sem]
  try (refine ⟨rfl, ?_⟩)
  go_grown
theorem tobool_7 (w : World) (i u : Int) (f : Nat) (s : ByteArray) (b : Bool) (hr : 0 ≤ u ∧ u ≤ 255) :
    Calls Try.prog 11 #[V 7 i u f s b] w (Gives w (.tuple #[.bool false, .bool false])) := by
  obtain ⟨hr0, hr1⟩ := hr
  have hmf : ∀ (fn : Fn) (first cap : Array Value) (w : World), (Instr.makeFunc fn first cap).run Try.prog w = .ok (.func fn first cap) w := fun _ _ _ _ => rfl
  go_enter_defers Try.func11, Try.ntmps11
  go_wp2
  simp only [bodyPost, bodyPostD]
  refine ⟨trivial, ?_⟩
  refine leaves_cons (f := 26) (args := #[.pointer (some ⟨w.heap.size + 1, 0, none⟩), .pointer (some ⟨w.heap.size + 1 + 1, 0, none⟩)]) (by simp) (by simp [go_sem]) ?_
  refine (pan26 (w.heap.size + 1) (w.heap.size + 1 + 1) (by omega) _ _ [] _ _ _ (by simp [go_sem]; rfl) (by simp [go_sem]; rfl) (by simp [go_sem]) (by simp [go_sem])).mono ?_
  rintro e u' w'' ⟨rfl, rfl, rfl⟩
  simp [Leaves, settle, results, Try.results11, go_sem]
  try (refine ⟨rfl, ?_⟩)
  go_grown
theorem asf_7 (w : World) (i u : Int) (f : Nat) (s : ByteArray) (b : Bool) (hr : 0 ≤ u ∧ u ≤ 255) :
    Calls Try.prog 12 #[V 7 i u f s b] w (Gives w (.float .f64 (floatOfInt .f64 u))) := by
  obtain ⟨hr0, hr1⟩ := hr
  go_enter Try.func12, Try.ntmps12
  go_wp2
  go_ret
  exact ⟨rfl, by go_grown⟩
theorem whole_7 (w : World) (i u : Int) (f : Nat) (s : ByteArray) (b : Bool) (hr : 0 ≤ u ∧ u ≤ 255) :
    Calls Try.prog 13 #[V 7 i u f s b] w (Gives w (.bool true)) := by
  obtain ⟨hr0, hr1⟩ := hr
  go_enter Try.func13, Try.ntmps13
  go_wp2
  go_ret
  exact ⟨rfl, by go_grown⟩
theorem asint_7 (w : World) (i u : Int) (f : Nat) (s : ByteArray) (b : Bool) (hr : 0 ≤ u ∧ u ≤ 255) :
    Calls Try.prog 14 #[V 7 i u f s b] w (Gives w (.int .i64 u)) := by
  obtain ⟨hr0, hr1⟩ := hr
  go_enter Try.func14, Try.ntmps14
  go_wp2
  go_ret
  exact ⟨rfl, by go_grown⟩
theorem toint_8 (w : World) (i u : Int) (f : Nat) (s : ByteArray) (b : Bool) (hr : 0 ≤ u ∧ u ≤ 65535) :
    Calls Try.prog 8 #[V 8 i u f s b] w (Gives w (.tuple #[.int .i64 u, .bool true])) := by
  obtain ⟨hr0, hr1⟩ := hr
  have hmf : ∀ (fn : Fn) (first cap : Array Value) (w : World), (Instr.makeFunc fn first cap).run Try.prog w = .ok (.func fn first cap) w := fun _ _ _ _ => rfl
  go_enter_defers Try.func8, Try.ntmps8
  go_wp2
  refine leaves_cons (f := 20) (args := #[.pointer (some ⟨w.heap.size + 1, 0, none⟩), .pointer (some ⟨w.heap.size + 1 + 1, 0, none⟩)]) (by simp) (by simp [go_sem]) ?_
  refine (idle20 ⟨w.heap.size + 1, 0, none⟩ ⟨w.heap.size + 1 + 1, 0, none⟩ _).mono ?_
  rintro e u' w'' ⟨rfl, rfl, rfl⟩
  simp [Leaves, settle, results, Try.results8, go_sem]
  try (refine ⟨rfl, ?_⟩)
  go_grown
theorem toint64_8 (w : World) (i u : Int) (f : Nat) (s : ByteArray) (b : Bool) (hr : 0 ≤ u ∧ u ≤ 65535) :
    Calls Try.prog 9 #[V 8 i u f s b] w (Gives w (.tuple #[.int .i64 u, .bool true])) := by
  obtain ⟨hr0, hr1⟩ := hr
  have hmf : ∀ (fn : Fn) (first cap : Array Value) (w : World), (Instr.makeFunc fn first cap).run Try.prog w = .ok (.func fn first cap) w := fun _ _ _ _ => rfl
  go_enter_defers Try.func9, Try.ntmps9
  go_wp2
  refine leaves_cons (f := 22) (args := #[.pointer (some ⟨w.heap.size + 1, 0, none⟩), .pointer (some ⟨w.heap.size + 1 + 1, 0, none⟩)]) (by simp) (by simp [go_sem]) ?_
  refine (idle22 ⟨w.heap.size + 1, 0, none⟩ ⟨w.heap.size + 1 + 1, 0, none⟩ _).mono ?_
  rintro e u' w'' ⟨rfl, rfl, rfl⟩
  simp [Leaves, settle, results, Try.results9, go_sem]
  try (refine ⟨rfl, ?_⟩)
  go_grown
theorem tofl_8 (w : World) (i u : Int) (f : Nat) (s : ByteArray) (b : Bool) (hr : 0 ≤ u ∧ u ≤ 65535) :
    Calls Try.prog 10 #[V 8 i u f s b] w (Gives w (.tuple #[.float .f64 (floatOfInt .f64 u), .bool true])) := by
  obtain ⟨hr0, hr1⟩ := hr
  have hmf : ∀ (fn : Fn) (first cap : Array Value) (w : World), (Instr.makeFunc fn first cap).run Try.prog w = .ok (.func fn first cap) w := fun _ _ _ _ => rfl
  go_enter_defers Try.func10, Try.ntmps10
  go_wp2
  refine leaves_cons (f := 24) (args := #[.pointer (some ⟨w.heap.size + 1, 0, none⟩), .pointer (some ⟨w.heap.size + 1 + 1, 0, none⟩)]) (by simp) (by simp [go_sem]) ?_
  refine (idle24 ⟨w.heap.size + 1, 0, none⟩ ⟨w.heap.size + 1 + 1, 0, none⟩ _).mono ?_
  rintro e u' w'' ⟨rfl, rfl, rfl⟩
  simp [Leaves, settle, results, Try.results10, go_sem]
  try (refine ⟨rfl, ?_⟩)
  go_grown
theorem tobool_8 (w : World) (i u : Int) (f : Nat) (s : ByteArray) (b : Bool) (hr : 0 ≤ u ∧ u ≤ 65535) :
    Calls Try.prog 11 #[V 8 i u f s b] w (Gives w (.tuple #[.bool false, .bool false])) := by
  obtain ⟨hr0, hr1⟩ := hr
  have hmf : ∀ (fn : Fn) (first cap : Array Value) (w : World), (Instr.makeFunc fn first cap).run Try.prog w = .ok (.func fn first cap) w := fun _ _ _ _ => rfl
  go_enter_defers Try.func11, Try.ntmps11
  go_wp2
  simp only [bodyPost, bodyPostD]
  refine ⟨trivial, ?_⟩
  refine leaves_cons (f := 26) (args := #[.pointer (some ⟨w.heap.size + 1, 0, none⟩), .pointer (some ⟨w.heap.size + 1 + 1, 0, none⟩)]) (by simp) (by simp [go_sem]) ?_
  refine (pan26 (w.heap.size + 1) (w.heap.size + 1 + 1) (by omega) _ _ [] _ _ _ (by simp [go_sem]; rfl) (by simp [go_sem]; rfl) (by simp [go_sem]) (by simp [go_sem])).mono ?_
  rintro e u' w'' ⟨rfl, rfl, rfl⟩
  simp [Leaves, settle, results, Try.results11, go_sem]
  try (refine ⟨rfl, ?_⟩)
  go_grown
theorem asf_8 (w : World) (i u : Int) (f : Nat) (s : ByteArray) (b : Bool) (hr : 0 ≤ u ∧ u ≤ 65535) :
    Calls Try.prog 12 #[V 8 i u f s b] w (Gives w (.float .f64 (floatOfInt .f64 u))) := by
  obtain ⟨hr0, hr1⟩ := hr
  go_enter Try.func12, Try.ntmps12
  go_wp2
  go_ret
  exact ⟨rfl, by go_grown⟩
theorem whole_8 (w : World) (i u : Int) (f : Nat) (s : ByteArray) (b : Bool) (hr : 0 ≤ u ∧ u ≤ 65535) :
    Calls Try.prog 13 #[V 8 i u f s b] w (Gives w (.bool true)) := by
  obtain ⟨hr0, hr1⟩ := hr
  go_enter Try.func13, Try.ntmps13
  go_wp2
  go_ret
  exact ⟨rfl, by go_grown⟩
theorem asint_8 (w : World) (i u : Int) (f : Nat) (s : ByteArray) (b : Bool) (hr : 0 ≤ u ∧ u ≤ 65535) :
    Calls Try.prog 14 #[V 8 i u f s b] w (Gives w (.int .i64 u)) := by
  obtain ⟨hr0, hr1⟩ := hr
  go_enter Try.func14, Try.ntmps14
  go_wp2
  go_ret
  exact ⟨rfl, by go_grown⟩
theorem toint_9 (w : World) (i u : Int) (f : Nat) (s : ByteArray) (b : Bool) (hr : 0 ≤ u ∧ u ≤ 4294967295) :
    Calls Try.prog 8 #[V 9 i u f s b] w (Gives w (.tuple #[.int .i64 u, .bool true])) := by
  obtain ⟨hr0, hr1⟩ := hr
  have hmf : ∀ (fn : Fn) (first cap : Array Value) (w : World), (Instr.makeFunc fn first cap).run Try.prog w = .ok (.func fn first cap) w := fun _ _ _ _ => rfl
  go_enter_defers Try.func8, Try.ntmps8
  go_wp2
  refine leaves_cons (f := 20) (args := #[.pointer (some ⟨w.heap.size + 1, 0, none⟩), .pointer (some ⟨w.heap.size + 1 + 1, 0, none⟩)]) (by simp) (by simp [go_sem]) ?_
  refine (idle20 ⟨w.heap.size + 1, 0, none⟩ ⟨w.heap.size + 1 + 1, 0, none⟩ _).mono ?_
  rintro e u' w'' ⟨rfl, rfl, rfl⟩
  simp [Leaves, settle, results, Try.results8, go_sem]
  try (refine ⟨rfl, ?_⟩)
  go_grown
theorem toint64_9 (w : World) (i u : Int) (f : Nat) (s : ByteArray) (b : Bool) (hr : 0 ≤ u ∧ u ≤ 4294967295) :
    Calls Try.prog 9 #[V 9 i u f s b] w (Gives w (.tuple #[.int .i64 u, .bool true])) := by
  obtain ⟨hr0, hr1⟩ := hr
  have hmf : ∀ (fn : Fn) (first cap : Array Value) (w : World), (Instr.makeFunc fn first cap).run Try.prog w = .ok (.func fn first cap) w := fun _ _ _ _ => rfl
  go_enter_defers Try.func9, Try.ntmps9
  go_wp2
  refine leaves_cons (f := 22) (args := #[.pointer (some ⟨w.heap.size + 1, 0, none⟩), .pointer (some ⟨w.heap.size + 1 + 1, 0, none⟩)]) (by simp) (by simp [go_sem]) ?_
  refine (idle22 ⟨w.heap.size + 1, 0, none⟩ ⟨w.heap.size + 1 + 1, 0, none⟩ _).mono ?_
  rintro e u' w'' ⟨rfl, rfl, rfl⟩
  simp [Leaves, settle, results, Try.results9, go_sem]
  try (refine ⟨rfl, ?_⟩)
  go_grown
theorem tofl_9 (w : World) (i u : Int) (f : Nat) (s : ByteArray) (b : Bool) (hr : 0 ≤ u ∧ u ≤ 4294967295) :
    Calls Try.prog 10 #[V 9 i u f s b] w (Gives w (.tuple #[.float .f64 (floatOfInt .f64 u), .bool true])) := by
  obtain ⟨hr0, hr1⟩ := hr
  have hmf : ∀ (fn : Fn) (first cap : Array Value) (w : World), (Instr.makeFunc fn first cap).run Try.prog w = .ok (.func fn first cap) w := fun _ _ _ _ => rfl
  go_enter_defers Try.func10, Try.ntmps10
  go_wp2
  refine leaves_cons (f := 24) (args := #[.pointer (some ⟨w.heap.size + 1, 0, none⟩), .pointer (some ⟨w.heap.size + 1 + 1, 0, none⟩)]) (by simp) (by simp [go_sem]) ?_
  refine (idle24 ⟨w.heap.size + 1, 0, none⟩ ⟨w.heap.size + 1 + 1, 0, none⟩ _).mono ?_
  rintro e u' w'' ⟨rfl, rfl, rfl⟩
  simp [Leaves, settle, results, Try.results10, go_sem]
  try (refine ⟨rfl, ?_⟩)
  go_grown
theorem tobool_9 (w : World) (i u : Int) (f : Nat) (s : ByteArray) (b : Bool) (hr : 0 ≤ u ∧ u ≤ 4294967295) :
    Calls Try.prog 11 #[V 9 i u f s b] w (Gives w (.tuple #[.bool false, .bool false])) := by
  obtain ⟨hr0, hr1⟩ := hr
  have hmf : ∀ (fn : Fn) (first cap : Array Value) (w : World), (Instr.makeFunc fn first cap).run Try.prog w = .ok (.func fn first cap) w := fun _ _ _ _ => rfl
  go_enter_defers Try.func11, Try.ntmps11
  go_wp2
  simp only [bodyPost, bodyPostD]
  refine ⟨trivial, ?_⟩
  refine leaves_cons (f := 26) (args := #[.pointer (some ⟨w.heap.size + 1, 0, none⟩), .pointer (some ⟨w.heap.size + 1 + 1, 0, none⟩)]) (by simp) (by simp [go_sem]) ?_
  refine (pan26 (w.heap.size + 1) (w.heap.size + 1 + 1) (by omega) _ _ [] _ _ _ (by simp [go_sem]; rfl) (by simp [go_sem]; rfl) (by simp [go_sem]) (by simp [go_sem])).mono ?_
  rintro e u' w'' ⟨rfl, rfl, rfl⟩
  simp [Leaves, settle, results, Try.results11, go_sem]
  try (refine ⟨rfl, ?_⟩)
  go_grown
theorem asf_9 (w : World) (i u : Int) (f : Nat) (s : ByteArray) (b : Bool) (hr : 0 ≤ u ∧ u ≤ 4294967295) :
    Calls Try.prog 12 #[V 9 i u f s b] w (Gives w (.float .f64 (floatOfInt .f64 u))) := by
  obtain ⟨hr0, hr1⟩ := hr
  go_enter Try.func12, Try.ntmps12
  go_wp2
  go_ret
  exact ⟨rfl, by go_grown⟩
theorem whole_9 (w : World) (i u : Int) (f : Nat) (s : ByteArray) (b : Bool) (hr : 0 ≤ u ∧ u ≤ 4294967295) :
    Calls Try.prog 13 #[V 9 i u f s b] w (Gives w (.bool true)) := by
  obtain ⟨hr0, hr1⟩ := hr
  go_enter Try.func13, Try.ntmps13
  go_wp2
  go_ret
  exact ⟨rfl, by go_grown⟩
theorem asint_9 (w : World) (i u : Int) (f : Nat) (s : ByteArray) (b : Bool) (hr : 0 ≤ u ∧ u ≤ 4294967295) :
    Calls Try.prog 14 #[V 9 i u f s b] w (Gives w (.int .i64 u)) := by
  obtain ⟨hr0, hr1⟩ := hr
  go_enter Try.func14, Try.ntmps14
  go_wp2
  go_ret
  exact ⟨rfl, by go_grown⟩
theorem toint_10 (w : World) (i u : Int) (f : Nat) (s : ByteArray) (b : Bool) (hr : 0 ≤ u ∧ u ≤ 9223372036854775807) :
    Calls Try.prog 8 #[V 10 i u f s b] w (Gives w (.tuple #[.int .i64 u, .bool true])) := by
  obtain ⟨hr0, hr1⟩ := hr
  have hmf : ∀ (fn : Fn) (first cap : Array Value) (w : World), (Instr.makeFunc fn first cap).run Try.prog w = .ok (.func fn first cap) w := fun _ _ _ _ => rfl
  go_enter_defers Try.func8, Try.ntmps8
  go_wp2
  refine leaves_cons (f := 20) (args := #[.pointer (some ⟨w.heap.size + 1, 0, none⟩), .pointer (some ⟨w.heap.size + 1 + 1, 0, none⟩)]) (by simp) (by simp [go_sem]) ?_
  refine (idle20 ⟨w.heap.size + 1, 0, none⟩ ⟨w.heap.size + 1 + 1, 0, none⟩ _).mono ?_
  rintro e u' w'' ⟨rfl, rfl, rfl⟩
  simp [Leaves, settle, results, Try.results8, go_sem]
  try (refine ⟨rfl, ?_⟩)
  go_grown
theorem toint64_10 (w : World) (i u : Int) (f : Nat) (s : ByteArray) (b : Bool) (hr : 0 ≤ u ∧ u ≤ 9223372036854775807) :
    Calls Try.prog 9 #[V 10 i u f s b] w (Gives w (.tuple #[.int .i64 u, .bool true])) := by
  obtain ⟨hr0, hr1⟩ := hr
  have hmf : ∀ (fn : Fn) (first cap : Array Value) (w : World), (Instr.makeFunc fn first cap).run Try.prog w = .ok (.func fn first cap) w := fun _ _ _ _ => rfl
  go_enter_defers Try.func9, Try.ntmps9
  go_wp2
  refine leaves_cons (f := 22) (args := #[.pointer (some ⟨w.heap.size + 1, 0, none⟩), .pointer (some ⟨w.heap.size + 1 + 1, 0, none⟩)]) (by simp) (by simp [go_sem]) ?_
  refine (idle22 ⟨w.heap.size + 1, 0, none⟩ ⟨w.heap.size + 1 + 1, 0, none⟩ _).mono ?_
  rintro e u' w'' ⟨rfl, rfl, rfl⟩
  simp [Leaves, settle, results, Try.results9, go_sem]
  try (refine ⟨rfl, ?_⟩)
  go_grown
theorem tofl_10 (w : World) (i u : Int) (f : Nat) (s : ByteArray) (b : Bool) (hr : 0 ≤ u ∧ u ≤ 9223372036854775807) :
    Calls Try.prog 10 #[V 10 i u f s b] w (Gives w (.tuple #[.float .f64 (floatOfInt .f64 u), .bool true])) := by
  obtain ⟨hr0, hr1⟩ := hr
  have hmf : ∀ (fn : Fn) (first cap : Array Value) (w : World), (Instr.makeFunc fn first cap).run Try.prog w = .ok (.func fn first cap) w := fun _ _ _ _ => rfl
  go_enter_defers Try.func10, Try.ntmps10
  go_wp2
  refine leaves_cons (f := 24) (args := #[.pointer (some ⟨w.heap.size + 1, 0, none⟩), .pointer (some ⟨w.heap.size + 1 + 1, 0, none⟩)]) (by simp) (by simp [go_sem]) ?_
  refine (idle24 ⟨w.heap.size + 1, 0, none⟩ ⟨w.heap.size + 1 + 1, 0, none⟩ _).mono ?_
  rintro e u' w'' ⟨rfl, rfl, rfl⟩
  simp [Leaves, settle, results, Try.results10, go_sem]
  try (refine ⟨rfl, ?_⟩)
  go_grown
theorem tobool_10 (w : World) (i u : Int) (f : Nat) (s : ByteArray) (b : Bool) (hr : 0 ≤ u ∧ u ≤ 9223372036854775807) :
    Calls Try.prog 11 #[V 10 i u f s b] w (Gives w (.tuple #[.bool false, .bool false])) := by
  obtain ⟨hr0, hr1⟩ := hr
  have hmf : ∀ (fn : Fn) (first cap : Array Value) (w : World), (Instr.makeFunc fn first cap).run Try.prog w = .ok (.func fn first cap) w := fun _ _ _ _ => rfl
  go_enter_defers Try.func11, Try.ntmps11
  go_wp2
  simp only [bodyPost, bodyPostD]
  refine ⟨trivial, ?_⟩
  refine leaves_cons (f := 26) (args := #[.pointer (some ⟨w.heap.size + 1, 0, none⟩), .pointer (some ⟨w.heap.size + 1 + 1, 0, none⟩)]) (by simp) (by simp [go_sem]) ?_
  refine (pan26 (w.heap.size + 1) (w.heap.size + 1 + 1) (by omega) _ _ [] _ _ _ (by simp [go_sem]; rfl) (by simp [go_sem]; rfl) (by simp [go_sem]) (by simp [go_sem])).mono ?_
  rintro e u' w'' ⟨rfl, rfl, rfl⟩
  simp [Leaves, settle, results, Try.results11, go_sem]
  try (refine ⟨rfl, ?_⟩)
  go_grown
theorem asf_10 (w : World) (i u : Int) (f : Nat) (s : ByteArray) (b : Bool) (hr : 0 ≤ u ∧ u ≤ 9223372036854775807) :
    Calls Try.prog 12 #[V 10 i u f s b] w (Gives w (.float .f64 (floatOfInt .f64 u))) := by
  obtain ⟨hr0, hr1⟩ := hr
  go_enter Try.func12, Try.ntmps12
  go_wp2
  go_ret
  exact ⟨rfl, by go_grown⟩
theorem whole_10 (w : World) (i u : Int) (f : Nat) (s : ByteArray) (b : Bool) (hr : 0 ≤ u ∧ u ≤ 9223372036854775807) :
    Calls Try.prog 13 #[V 10 i u f s b] w (Gives w (.bool true)) := by
  obtain ⟨hr0, hr1⟩ := hr
  go_enter Try.func13, Try.ntmps13
  go_wp2
  go_ret
  exact ⟨rfl, by go_grown⟩
theorem asint_10 (w : World) (i u : Int) (f : Nat) (s : ByteArray) (b : Bool) (hr : 0 ≤ u ∧ u ≤ 9223372036854775807) :
    Calls Try.prog 14 #[V 10 i u f s b] w (Gives w (.int .i64 u)) := by
  obtain ⟨hr0, hr1⟩ := hr
  go_enter Try.func14, Try.ntmps14
  go_wp2
  go_ret
  exact ⟨rfl, by go_grown⟩
theorem toint_11 (w : World) (i u : Int) (f : Nat) (s : ByteArray) (b : Bool) (r : Nat) (n : Int) (hr : ∀ w, nar f w = r) (hr0 : narN f = 0) (hn : floatToIntVal .f32 r .i64 = some n) :
    Calls Try.prog 8 #[V 11 i u f s b] w (Gives w (.tuple #[.int .i64 n, .bool true])) := by
  have hc1 := run_cutS r 0 n hn
  have hc2 := run_cutS2 r 0 n hn
  have hz := dz
  clear hn
  have hmf : ∀ (fn : Fn) (first cap : Array Value) (w : World), (Instr.makeFunc fn first cap).run Try.prog w = .ok (.func fn first cap) w := fun _ _ _ _ => rfl
  go_enter_defers Try.func8, Try.ntmps8
  go_wp2
  refine leaves_cons (f := 20) (args := #[.pointer (some ⟨w.heap.size + 1, 0, none⟩), .pointer (some ⟨w.heap.size + 1 + 1, 0, none⟩)]) (by simp) (by simp [go_sem]) ?_
  refine (idle20 ⟨w.heap.size + 1, 0, none⟩ ⟨w.heap.size + 1 + 1, 0, none⟩ _).mono ?_
  rintro e u' w'' ⟨rfl, rfl, rfl⟩
  simp [Leaves, settle, results, Try.results8, go_sem]
  try (refine ⟨rfl, ?_⟩)
  go_grown
theorem toint64_11 (w : World) (i u : Int) (f : Nat) (s : ByteArray) (b : Bool) (r : Nat) (n : Int) (hr : ∀ w, nar f w = r) (hr0 : narN f = 0) (hn : floatToIntVal .f32 r .i64 = some n) :
    Calls Try.prog 9 #[V 11 i u f s b] w (Gives w (.tuple #[.int .i64 n, .bool true])) := by
  have hc1 := run_cutS r 0 n hn
  have hc2 := run_cutS2 r 0 n hn
  have hz := dz
  clear hn
  have hmf : ∀ (fn : Fn) (first cap : Array Value) (w : World), (Instr.makeFunc fn first cap).run Try.prog w = .ok (.func fn first cap) w := fun _ _ _ _ => rfl
  go_enter_defers Try.func9, Try.ntmps9
  go_wp2
  refine leaves_cons (f := 22) (args := #[.pointer (some ⟨w.heap.size + 1, 0, none⟩), .pointer (some ⟨w.heap.size + 1 + 1, 0, none⟩)]) (by simp) (by simp [go_sem]) ?_
  refine (idle22 ⟨w.heap.size + 1, 0, none⟩ ⟨w.heap.size + 1 + 1, 0, none⟩ _).mono ?_
  rintro e u' w'' ⟨rfl, rfl, rfl⟩
  simp [Leaves, settle, results, Try.results9, go_sem]
  try (refine ⟨rfl, ?_⟩)
  go_grown
theorem tofl_11 (w : World) (i u : Int) (f : Nat) (s : ByteArray) (b : Bool) (r q : Nat) (hr : ∀ w, nar f w = r) (hr0 : narN f = 0) (hq : ∀ w, wid r w = q) (hq0 : widN r = 0) :
    Calls Try.prog 10 #[V 11 i u f s b] w (Gives w (.tuple #[.float .f64 q, .bool true])) := by
  have hz := dz
  have hmf : ∀ (fn : Fn) (first cap : Array Value) (w : World), (Instr.makeFunc fn first cap).run Try.prog w = .ok (.func fn first cap) w := fun _ _ _ _ => rfl
  go_enter_defers Try.func10, Try.ntmps10
  go_wp2
  refine leaves_cons (f := 24) (args := #[.pointer (some ⟨w.heap.size + 1, 0, none⟩), .pointer (some ⟨w.heap.size + 1 + 1, 0, none⟩)]) (by simp) (by simp [go_sem]) ?_
  refine (idle24 ⟨w.heap.size + 1, 0, none⟩ ⟨w.heap.size + 1 + 1, 0, none⟩ _).mono ?_
  rintro e u' w'' ⟨rfl, rfl, rfl⟩
  simp [Leaves, settle, results, Try.results10, go_sem]
  try (refine ⟨rfl, ?_⟩)
  go_grown
theorem tobool_11 (w : World) (i u : Int) (f : Nat) (s : ByteArray) (b : Bool) (r : Nat) (hr : ∀ w, nar f w = r) (hr0 : narN f = 0) :
    Calls Try.prog 11 #[V 11 i u f s b] w (Gives w (.tuple #[.bool false, .bool false])) := by
  have hz := dz
  have hmf : ∀ (fn : Fn) (first cap : Array Value) (w : World), (Instr.makeFunc fn first cap).run Try.prog w = .ok (.func fn first cap) w := fun _ _ _ _ => rfl
  go_enter_defers Try.func11, Try.ntmps11
  go_wp2
  simp only [bodyPost, bodyPostD]
  refine ⟨trivial, ?_⟩
  refine leaves_cons (f := 26) (args := #[.pointer (some ⟨w.heap.size + 1, 0, none⟩), .pointer (some ⟨w.heap.size + 1 + 1, 0, none⟩)]) (by simp) (by simp [go_sem]) ?_
  refine (pan26 (w.heap.size + 1) (w.heap.size + 1 + 1) (by omega) _ _ [] _ _ _ (by simp [go_sem]; rfl) (by simp [go_sem]; rfl) (by simp [go_sem]) (by simp [go_sem])).mono ?_
  rintro e u' w'' ⟨rfl, rfl, rfl⟩
  simp [Leaves, settle, results, Try.results11, go_sem]
  try (refine ⟨rfl, ?_⟩)
  go_grown
theorem asf_11 (w : World) (i u : Int) (f : Nat) (s : ByteArray) (b : Bool)  :
    Calls Try.prog 12 #[V 11 i u f s b] w (Gives w (.float .f64 f)) := by
  go_enter Try.func12, Try.ntmps12
  go_wp2
  go_ret
  exact ⟨rfl, by go_grown⟩
theorem whole_11 (w : World) (i u : Int) (f : Nat) (s : ByteArray) (b : Bool)  :
    Calls Try.prog 13 #[V 11 i u f s b] w (Gives w (.bool false)) := by
  go_enter Try.func13, Try.ntmps13
  go_wp2
  go_ret
  exact ⟨rfl, by go_grown⟩
theorem toint_12 (w : World) (i u : Int) (f : Nat) (s : ByteArray) (b : Bool) (n : Int) (hn : floatToIntVal .f64 f .i64 = some n) :
    Calls Try.prog 8 #[V 12 i u f s b] w (Gives w (.tuple #[.int .i64 n, .bool true])) := by
  have hc1 := run_cutF f 0 n hn
  have hc2 := run_cutF2 f 0 n hn
  clear hn
  have hmf : ∀ (fn : Fn) (first cap : Array Value) (w : World), (Instr.makeFunc fn first cap).run Try.prog w = .ok (.func fn first cap) w := fun _ _ _ _ => rfl
  go_enter_defers Try.func8, Try.ntmps8
  go_wp2
  refine leaves_cons (f := 20) (args := #[.pointer (some ⟨w.heap.size + 1, 0, none⟩), .pointer (some ⟨w.heap.size + 1 + 1, 0, none⟩)]) (by simp) (by simp [go_sem]) ?_
  refine (idle20 ⟨w.heap.size + 1, 0, none⟩ ⟨w.heap.size + 1 + 1, 0, none⟩ _).mono ?_
  rintro e u' w'' ⟨rfl, rfl, rfl⟩
  simp [Leaves, settle, results, Try.results8, go_sem]
  try (refine ⟨rfl, ?_⟩)
  go_grown
theorem toint64_12 (w : World) (i u : Int) (f : Nat) (s : ByteArray) (b : Bool) (n : Int) (hn : floatToIntVal .f64 f .i64 = some n) :
    Calls Try.prog 9 #[V 12 i u f s b] w (Gives w (.tuple #[.int .i64 n, .bool true])) := by
  have hc1 := run_cutF f 0 n hn
  have hc2 := run_cutF2 f 0 n hn
  clear hn
  have hmf : ∀ (fn : Fn) (first cap : Array Value) (w : World), (Instr.makeFunc fn first cap).run Try.prog w = .ok (.func fn first cap) w := fun _ _ _ _ => rfl
  go_enter_defers Try.func9, Try.ntmps9
  go_wp2
  refine leaves_cons (f := 22) (args := #[.pointer (some ⟨w.heap.size + 1, 0, none⟩), .pointer (some ⟨w.heap.size + 1 + 1, 0, none⟩)]) (by simp) (by simp [go_sem]) ?_
  refine (idle22 ⟨w.heap.size + 1, 0, none⟩ ⟨w.heap.size + 1 + 1, 0, none⟩ _).mono ?_
  rintro e u' w'' ⟨rfl, rfl, rfl⟩
  simp [Leaves, settle, results, Try.results9, go_sem]
  try (refine ⟨rfl, ?_⟩)
  go_grown
theorem tofl_12 (w : World) (i u : Int) (f : Nat) (s : ByteArray) (b : Bool)  :
    Calls Try.prog 10 #[V 12 i u f s b] w (Gives w (.tuple #[.float .f64 f, .bool true])) := by
  have hmf : ∀ (fn : Fn) (first cap : Array Value) (w : World), (Instr.makeFunc fn first cap).run Try.prog w = .ok (.func fn first cap) w := fun _ _ _ _ => rfl
  go_enter_defers Try.func10, Try.ntmps10
  go_wp2
  refine leaves_cons (f := 24) (args := #[.pointer (some ⟨w.heap.size + 1, 0, none⟩), .pointer (some ⟨w.heap.size + 1 + 1, 0, none⟩)]) (by simp) (by simp [go_sem]) ?_
  refine (idle24 ⟨w.heap.size + 1, 0, none⟩ ⟨w.heap.size + 1 + 1, 0, none⟩ _).mono ?_
  rintro e u' w'' ⟨rfl, rfl, rfl⟩
  simp [Leaves, settle, results, Try.results10, go_sem]
  try (refine ⟨rfl, ?_⟩)
  go_grown
theorem tobool_12 (w : World) (i u : Int) (f : Nat) (s : ByteArray) (b : Bool)  :
    Calls Try.prog 11 #[V 12 i u f s b] w (Gives w (.tuple #[.bool false, .bool false])) := by
  have hmf : ∀ (fn : Fn) (first cap : Array Value) (w : World), (Instr.makeFunc fn first cap).run Try.prog w = .ok (.func fn first cap) w := fun _ _ _ _ => rfl
  go_enter_defers Try.func11, Try.ntmps11
  go_wp2
  simp only [bodyPost, bodyPostD]
  refine ⟨trivial, ?_⟩
  refine leaves_cons (f := 26) (args := #[.pointer (some ⟨w.heap.size + 1, 0, none⟩), .pointer (some ⟨w.heap.size + 1 + 1, 0, none⟩)]) (by simp) (by simp [go_sem]) ?_
  refine (pan26 (w.heap.size + 1) (w.heap.size + 1 + 1) (by omega) _ _ [] _ _ _ (by simp [go_sem]; rfl) (by simp [go_sem]; rfl) (by simp [go_sem]) (by simp [go_sem])).mono ?_
  rintro e u' w'' ⟨rfl, rfl, rfl⟩
  simp [Leaves, settle, results, Try.results11, go_sem]
  try (refine ⟨rfl, ?_⟩)
  go_grown
theorem asf_12 (w : World) (i u : Int) (f : Nat) (s : ByteArray) (b : Bool)  :
    Calls Try.prog 12 #[V 12 i u f s b] w (Gives w (.float .f64 f)) := by
  go_enter Try.func12, Try.ntmps12
  go_wp2
  go_ret
  exact ⟨rfl, by go_grown⟩
theorem whole_12 (w : World) (i u : Int) (f : Nat) (s : ByteArray) (b : Bool)  :
    Calls Try.prog 13 #[V 12 i u f s b] w (Gives w (.bool false)) := by
  go_enter Try.func13, Try.ntmps13
  go_wp2
  go_ret
  exact ⟨rfl, by go_grown⟩
theorem toint_14 (w : World) (i u : Int) (f : Nat) (s : ByteArray) (b : Bool)  :
    Calls Try.prog 8 #[V 14 i u f s b] w (Gives w (.tuple #[.int .i64 0, .bool false])) := by
  have hmf : ∀ (fn : Fn) (first cap : Array Value) (w : World), (Instr.makeFunc fn first cap).run Try.prog w = .ok (.func fn first cap) w := fun _ _ _ _ => rfl
  go_enter_defers Try.func8, Try.ntmps8
  go_wp2
  simp only [bodyPost, bodyPostD]
  refine ⟨trivial, ?_⟩
  refine leaves_cons (f := 20) (args := #[.pointer (some ⟨w.heap.size + 1, 0, none⟩), .pointer (some ⟨w.heap.size + 1 + 1, 0, none⟩)]) (by simp) (by simp [go_sem]) ?_
  refine (pan20 (w.heap.size + 1) (w.heap.size + 1 + 1) (by omega) _ _ [] _ _ _ (by simp [go_sem]; rfl) (by simp [go_sem]; rfl) (by simp [go_sem]) (by simp [go_sem])).mono ?_
  rintro e u' w'' ⟨rfl, rfl, rfl⟩
  simp [Leaves, settle, results, Try.results8, go_sem]
  try (refine ⟨rfl, ?_⟩)
  go_grown
theorem toint64_14 (w : World) (i u : Int) (f : Nat) (s : ByteArray) (b : Bool)  :
    Calls Try.prog 9 #[V 14 i u f s b] w (Gives w (.tuple #[.int .i64 0, .bool false])) := by
  have hmf : ∀ (fn : Fn) (first cap : Array Value) (w : World), (Instr.makeFunc fn first cap).run Try.prog w = .ok (.func fn first cap) w := fun _ _ _ _ => rfl
  go_enter_defers Try.func9, Try.ntmps9
  go_wp2
  simp only [bodyPost, bodyPostD]
  refine ⟨trivial, ?_⟩
  refine leaves_cons (f := 22) (args := #[.pointer (some ⟨w.heap.size + 1, 0, none⟩), .pointer (some ⟨w.heap.size + 1 + 1, 0, none⟩)]) (by simp) (by simp [go_sem]) ?_
  refine (pan22 (w.heap.size + 1) (w.heap.size + 1 + 1) (by omega) _ _ [] _ _ _ (by simp [go_sem]; rfl) (by simp [go_sem]; rfl) (by simp [go_sem]) (by simp [go_sem])).mono ?_
  rintro e u' w'' ⟨rfl, rfl, rfl⟩
  simp [Leaves, settle, results, Try.results9, go_sem]
  try (refine ⟨rfl, ?_⟩)
  go_grown
theorem tofl_14 (w : World) (i u : Int) (f : Nat) (s : ByteArray) (b : Bool)  :
    Calls Try.prog 10 #[V 14 i u f s b] w (Gives w (.tuple #[.float .f64 0, .bool false])) := by
  have hmf : ∀ (fn : Fn) (first cap : Array Value) (w : World), (Instr.makeFunc fn first cap).run Try.prog w = .ok (.func fn first cap) w := fun _ _ _ _ => rfl
  go_enter_defers Try.func10, Try.ntmps10
  go_wp2
  simp only [bodyPost, bodyPostD]
  refine ⟨trivial, ?_⟩
  refine leaves_cons (f := 24) (args := #[.pointer (some ⟨w.heap.size + 1, 0, none⟩), .pointer (some ⟨w.heap.size + 1 + 1, 0, none⟩)]) (by simp) (by simp [go_sem]) ?_
  refine (pan24 (w.heap.size + 1) (w.heap.size + 1 + 1) (by omega) _ _ [] _ _ _ (by simp [go_sem]; rfl) (by simp [go_sem]; rfl) (by simp [go_sem]) (by simp [go_sem])).mono ?_
  rintro e u' w'' ⟨rfl, rfl, rfl⟩
  simp [Leaves, settle, results, Try.results10, go_sem]
  try (refine ⟨rfl, ?_⟩)
  go_grown
theorem tobool_14 (w : World) (i u : Int) (f : Nat) (s : ByteArray) (b : Bool)  :
    Calls Try.prog 11 #[V 14 i u f s b] w (Gives w (.tuple #[.bool b, .bool true])) := by
  have hmf : ∀ (fn : Fn) (first cap : Array Value) (w : World), (Instr.makeFunc fn first cap).run Try.prog w = .ok (.func fn first cap) w := fun _ _ _ _ => rfl
  go_enter_defers Try.func11, Try.ntmps11
  go_wp2
  refine leaves_cons (f := 26) (args := #[.pointer (some ⟨w.heap.size + 1, 0, none⟩), .pointer (some ⟨w.heap.size + 1 + 1, 0, none⟩)]) (by simp) (by simp [go_sem]) ?_
  refine (idle26 ⟨w.heap.size + 1, 0, none⟩ ⟨w.heap.size + 1 + 1, 0, none⟩ _).mono ?_
  rintro e u' w'' ⟨rfl, rfl, rfl⟩
  simp [Leaves, settle, results, Try.results11, go_sem]
  try (refine ⟨rfl, ?_⟩)
  go_grown
end Go.Proofs.Ytaabfmmfneajoaa.Num
