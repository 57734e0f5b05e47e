/- The walk of impl.Modulo: the deferred recovery; both endings. -/
import Derived.Test.YtidmaimeanakeaaAny
import Derived.Deep.RegionWith
set_option linter.unusedSimpArgs false
set_option linter.unusedVariables false
namespace Go.Proofs.Ytidmaimeanakeaa.Num
open Go.RowKit

theorem catch_panicking (b q : Nat) (u : TypeId) (pv : Value) (older : List PanicEntry) (w : World) (x0 y0 : Value)
  (c0 : w.cell? ⟨b, 0, none⟩ = some x0) (c6 : w.cell? ⟨q, 0, none⟩ = some y0)
  (hz0 : w.frozen? ⟨b, 0, none⟩ = false) (hz6 : w.frozen? ⟨q, 0, none⟩ = false) (hbq : b ≠ q) :
    CallsD Try.prog 10 #[.pointer (some ⟨b, 0, none⟩), .pointer (some ⟨q, 0, none⟩)] (.panicking ({ v := .iface u pv, recovered := false } :: older)) w fun e u' w' =>
      e = .returned (.tuple #[]) ∧ u' = .panicking ({ v := .iface u pv, recovered := true } :: older) ∧ w' = (w.setCell ⟨b, 0, none⟩ (.int .i64 0)).setCell ⟨q, 0, none⟩ (.bool false) := by
  refine callsD_of_wpS Try.func10 rfl fun c₀ cs hu => ?_
  apply wpS_seq
  apply wpS_region
  simp [wpOpsS, go_sem, recoverD, hu, Try.ntmps10, Exit.thenS]
  refine wpS_cond (t := true) (by simp [Act.eval, Array.replicate]) ?_
  simp only [if_true]
  refine wpS_of_wp ?_
  go_wp2
  simp [bodyPostS, results, Try.results10]
theorem catch_idle (p q : Addr) (w : World) :
    CallsD Try.prog 10 #[.pointer (some p), .pointer (some q)] .returning w fun e u' w' => e = .returned (.tuple #[]) ∧ u' = .returning ∧ w' = w := by
  refine callsD_of_wpS Try.func10 rfl fun c₀ cs hu => ?_
  apply wpS_seq
  apply wpS_region
  simp [wpOpsS, go_sem, recoverD, hu, Try.ntmps10, Exit.thenS]
  refine wpS_cond (t := false) (by simp [Act.eval, Array.replicate]) ?_
  simp only [Bool.false_eq_true, if_false]
  refine wpS_of_wp (wp_skip ?_)
  cases c₀
  simp_all [bodyPostS, results, Try.results10]

def W64 (i : Int) : Prop := -9223372036854775808 ≤ i ∧ i ≤ 9223372036854775807
def WU (u : Int) : Prop := 0 ≤ u ∧ u ≤ 18446744073709551615

structure Sm (w w1 : World) (k i u : Int) (f : Nat) (s : ByteArray) (b : Bool) (k' i' u' : Int) (f' : Nat) (s' : ByteArray) (b' : Bool) : Prop where
  below : Below w.heap.size w w1
  size : w.heap.size + 1 + 1 + 1 < w1.heap.size
  c00 : w1.cell? ⟨w.heap.size, 0, none⟩ = some (.int .i64 k)
  c01 : w1.cell? ⟨w.heap.size, 1, none⟩ = some (.int .i64 i)
  c02 : w1.cell? ⟨w.heap.size, 2, none⟩ = some (.int .u64 u)
  c03 : w1.cell? ⟨w.heap.size, 3, none⟩ = some (.float .f64 f)
  c04 : w1.cell? ⟨w.heap.size, 4, none⟩ = some (.string s)
  c05 : w1.cell? ⟨w.heap.size, 5, none⟩ = some (.bool b)
  c10 : w1.cell? ⟨w.heap.size + 1, 0, none⟩ = some (.int .i64 k')
  c11 : w1.cell? ⟨w.heap.size + 1, 1, none⟩ = some (.int .i64 i')
  c12 : w1.cell? ⟨w.heap.size + 1, 2, none⟩ = some (.int .u64 u')
  c13 : w1.cell? ⟨w.heap.size + 1, 3, none⟩ = some (.float .f64 f')
  c14 : w1.cell? ⟨w.heap.size + 1, 4, none⟩ = some (.string s')
  c15 : w1.cell? ⟨w.heap.size + 1, 5, none⟩ = some (.bool b')
  c20 : w1.cell? ⟨w.heap.size + 1 + 1, 0, none⟩ = some (.int .i64 0)
  c30 : w1.cell? ⟨w.heap.size + 1 + 1 + 1, 0, none⟩ = some (.bool false)
  z2 : w1.frozen? ⟨w.heap.size + 1 + 1, 0, none⟩ = false
  z3 : w1.frozen? ⟨w.heap.size + 1 + 1 + 1, 0, none⟩ = false
theorem Sm.next {w w1 w2 : World} {k i u : Int} {f : Nat} {s : ByteArray} {b : Bool} {k' i' u' : Int} {f' : Nat} {s' : ByteArray} {b' : Bool} (h : Sm w w1 k i u f s b k' i' u' f' s' b') (hb : Below w1.heap.size w1 w2) : Sm w w2 k i u f s b k' i' u' f' s' b' where
  below := h.below.trans (hb.mono (by have := h.size; omega))
  size := Nat.lt_of_lt_of_le h.size hb.size
  c00 := (hb.cell (p := ⟨w.heap.size, 0, none⟩) (by have := h.size; simp only; omega)).trans h.c00
  c01 := (hb.cell (p := ⟨w.heap.size, 1, none⟩) (by have := h.size; simp only; omega)).trans h.c01
  c02 := (hb.cell (p := ⟨w.heap.size, 2, none⟩) (by have := h.size; simp only; omega)).trans h.c02
  c03 := (hb.cell (p := ⟨w.heap.size, 3, none⟩) (by have := h.size; simp only; omega)).trans h.c03
  c04 := (hb.cell (p := ⟨w.heap.size, 4, none⟩) (by have := h.size; simp only; omega)).trans h.c04
  c05 := (hb.cell (p := ⟨w.heap.size, 5, none⟩) (by have := h.size; simp only; omega)).trans h.c05
  c10 := (hb.cell (p := ⟨w.heap.size + 1, 0, none⟩) (by have := h.size; simp only; omega)).trans h.c10
  c11 := (hb.cell (p := ⟨w.heap.size + 1, 1, none⟩) (by have := h.size; simp only; omega)).trans h.c11
  c12 := (hb.cell (p := ⟨w.heap.size + 1, 2, none⟩) (by have := h.size; simp only; omega)).trans h.c12
  c13 := (hb.cell (p := ⟨w.heap.size + 1, 3, none⟩) (by have := h.size; simp only; omega)).trans h.c13
  c14 := (hb.cell (p := ⟨w.heap.size + 1, 4, none⟩) (by have := h.size; simp only; omega)).trans h.c14
  c15 := (hb.cell (p := ⟨w.heap.size + 1, 5, none⟩) (by have := h.size; simp only; omega)).trans h.c15
  c20 := (hb.cell (p := ⟨w.heap.size + 1 + 1, 0, none⟩) (by have := h.size; simp only; omega)).trans h.c20
  c30 := (hb.cell (p := ⟨w.heap.size + 1 + 1 + 1, 0, none⟩) (by have := h.size; simp only; omega)).trans h.c30
  z2 := (hb.frozen (p := ⟨w.heap.size + 1 + 1, 0, none⟩) (by have := h.size; simp only; omega)).trans h.z2
  z3 := (hb.frozen (p := ⟨w.heap.size + 1 + 1 + 1, 0, none⟩) (by have := h.size; simp only; omega)).trans h.z3
theorem Sm.drew {w w1 : World} {k i u : Int} {f : Nat} {s : ByteArray} {b : Bool} {k' i' u' : Int} {f' : Nat} {s' : ByteArray} {b' : Bool} (h : Sm w w1 k i u f s b k' i' u' f' s' b') (n : Nat) : Sm w (w1.drewN n) k i u f s b k' i' u' f' s' b' where
  below := below_drewN h.below n
  size := h.size
  c00 := h.c00
  c01 := h.c01
  c02 := h.c02
  c03 := h.c03
  c04 := h.c04
  c05 := h.c05
  c10 := h.c10
  c11 := h.c11
  c12 := h.c12
  c13 := h.c13
  c14 := h.c14
  c15 := h.c15
  c20 := h.c20
  c30 := h.c30
  z2 := h.z2
  z3 := h.z3
theorem Sm.drew1 {w w1 : World} {k i u : Int} {f : Nat} {s : ByteArray} {b : Bool} {k' i' u' : Int} {f' : Nat} {s' : ByteArray} {b' : Bool} (h : Sm w w1 k i u f s b k' i' u' f' s' b') : Sm w w1.drew k i u f s b k' i' u' f' s' b' where
  below := h.below.drew
  size := h.size
  c00 := h.c00
  c01 := h.c01
  c02 := h.c02
  c03 := h.c03
  c04 := h.c04
  c05 := h.c05
  c10 := h.c10
  c11 := h.c11
  c12 := h.c12
  c13 := h.c13
  c14 := h.c14
  c15 := h.c15
  c20 := h.c20
  c30 := h.c30
  z2 := h.z2
  z3 := h.z3
theorem Sm.first (w : World) (k i u : Int) (f : Nat) (s : ByteArray) (b : Bool) (k' i' u' : Int) (f' : Nat) (s' : ByteArray) (b' : Bool) : Sm w ((((w.alloc (.cells #[.int .i64 k, .int .i64 i, .int .u64 u, .float .f64 f, .string s, .bool b] 25)).alloc (.cells #[.int .i64 k', .int .i64 i', .int .u64 u', .float .f64 f', .string s', .bool b'] 25)).alloc (.cells #[.int .i64 0] 3)).alloc (.cells #[.bool false] 4)) k i u f s b k' i' u' f' s' b' where
  below := by go_grown
  size := by simp only [World.size_alloc]; omega
  c00 := by simp [go_sem]
  c01 := by simp [go_sem]
  c02 := by simp [go_sem]
  c03 := by simp [go_sem]
  c04 := by simp [go_sem]
  c05 := by simp [go_sem]
  c10 := by simp [go_sem]
  c11 := by simp [go_sem]
  c12 := by simp [go_sem]
  c13 := by simp [go_sem]
  c14 := by simp [go_sem]
  c15 := by simp [go_sem]
  c20 := by simp [go_sem]
  c30 := by simp [go_sem]
  z2 := by simp [go_sem]
  z3 := by simp [go_sem]
set_option maxHeartbeats 2000000 in
set_option maxRecDepth 100000 in
theorem impl_ok (w : World) (k i u : Int) (f : Nat) (s : ByteArray) (b : Bool) (k' i' u' : Int) (f' : Nat) (s' : ByteArray) (b' : Bool) (hi : W64 i) (hu : WU u) (hi' : W64 i') (hu' : WU u') (hf : Fit k i u) (hf' : Fit k' i' u')
    (n m : Int) (hn : oi k i u = some n) (hm : oi k' i' u' = some m) (h0 : ¬ m = 0)
    (H : ∀ w v1 v2, Dy (some n) v1 → Dy (some m) v2 → Calls Try.prog 11 #[v1, v2] w (Rem n m w)) :
    Calls Try.prog 6 #[V k i u f s b, V k' i' u' f' s' b'] w (fun e w' => e = .returned (.tuple #[.int .i64 (n.tmod m), .bool true]) ∧ Below w.heap.size w w') := by
  have hmf : ∀ (fn : Fn) (first cap : Array Value) (w : World), (Instr.makeFunc fn first cap).run Try.prog w = .ok (.func fn first cap) w := fun _ _ _ _ => rfl
  have A1 := Lib.hid (fun w => any_all k w i u f s b hi.1 hi.2 hu.1 hu.2 hf)
  have A2 := Lib.hid (fun w => any_all k' w i' u' f' s' b' hi'.1 hi'.2 hu'.1 hu'.2 hf')
  have HH := Lib.hid H
  clear H
  go_enter_defers Try.func6, Try.ntmps6
  go_wp2
  have S := Sm.first w k i u f s b k' i' u' f' s' b'
  revert S
  generalize ((((w.alloc (.cells #[.int .i64 k, .int .i64 i, .int .u64 u, .float .f64 f, .string s, .bool b] 25)).alloc (.cells #[.int .i64 k', .int .i64 i', .int .u64 u', .float .f64 f', .string s', .bool b'] 25)).alloc (.cells #[.int .i64 0] 3)).alloc (.cells #[.bool false] 4)) = w0
  intro S
  have c00 := S.c00; have c01 := S.c01; have c02 := S.c02; have c03 := S.c03; have c04 := S.c04; have c05 := S.c05; have c10 := S.c10; have c11 := S.c11; have c12 := S.c12; have c13 := S.c13; have c14 := S.c14; have c15 := S.c15; have c20 := S.c20; have c30 := S.c30; have z2 := S.z2; have z3 := S.z3
  go_region_with (first
    | (go_at_call 12; apply Calls.mono; (focus (with_reducible exact A1.out _)); rintro e w1 ⟨v1, rfl, d1, hb1⟩; replace S := (by first | (with_reducible exact S.next hb1) | (with_reducible exact S.drew1.next hb1) | (with_reducible exact (S.drew _).next hb1)); clear c00 c01 c02 c03 c04 c05 c10 c11 c12 c13 c14 c15 c20 c30 z2 z3; have c00 := S.c00; have c01 := S.c01; have c02 := S.c02; have c03 := S.c03; have c04 := S.c04; have c05 := S.c05; have c10 := S.c10; have c11 := S.c11; have c12 := S.c12; have c13 := S.c13; have c14 := S.c14; have c15 := S.c15; have c20 := S.c20; have c30 := S.c30; have z2 := S.z2; have z3 := S.z3)
    | (go_at_call 12; apply Calls.mono; (focus (with_reducible exact A2.out _)); rintro e w2 ⟨v2, rfl, d2, hb2⟩; replace S := (by first | (with_reducible exact S.next hb2) | (with_reducible exact S.drew1.next hb2) | (with_reducible exact (S.drew _).next hb2)); clear c00 c01 c02 c03 c04 c05 c10 c11 c12 c13 c14 c15 c20 c30 z2 z3; have c00 := S.c00; have c01 := S.c01; have c02 := S.c02; have c03 := S.c03; have c04 := S.c04; have c05 := S.c05; have c10 := S.c10; have c11 := S.c11; have c12 := S.c12; have c13 := S.c13; have c14 := S.c14; have c15 := S.c15; have c20 := S.c20; have c30 := S.c30; have z2 := S.z2; have z3 := S.z3)
    | (go_at_call 11; apply Calls.mono; (focus (with_reducible exact HH.out _ _ _ (hn ▸ d1) (hm ▸ d2))); rintro e w3 ⟨hr1, hr2, hb3⟩; obtain rfl := hr1 h0; replace S := (by first | (with_reducible exact S.next hb3) | (with_reducible exact S.drew1.next hb3) | (with_reducible exact (S.drew _).next hb3)); clear c00 c01 c02 c03 c04 c05 c10 c11 c12 c13 c14 c15 c20 c30 z2 z3; have c00 := S.c00; have c01 := S.c01; have c02 := S.c02; have c03 := S.c03; have c04 := S.c04; have c05 := S.c05; have c10 := S.c10; have c11 := S.c11; have c12 := S.c12; have c13 := S.c13; have c14 := S.c14; have c15 := S.c15; have c20 := S.c20; have c30 := S.c30; have z2 := S.z2; have z3 := S.z3))
  all_goals
    go_wp2
    simp only [bodyPostD]
    refine leaves_cons (f := 10) (args := #[.pointer (some ⟨w.heap.size + 1 + 1, 0, none⟩), .pointer (some ⟨w.heap.size + 1 + 1 + 1, 0, none⟩)]) (by simp) (by simp [go_sem]) ?_
    refine (catch_idle ⟨w.heap.size + 1 + 1, 0, none⟩ ⟨w.heap.size + 1 + 1 + 1, 0, none⟩ _).mono ?_
    rintro e u' w'' ⟨rfl, rfl, rfl⟩
    have hB := S.below
    simp [Leaves, settle, results, Try.results6, go_sem, c20, c30]
    go_grown
/-- AT A CALL THAT PANICS, INSIDE A REGION THAT DRAWS: the walk wants one goal left there, with its own continuation: it is left under 'False'. -/
theorem panic_arm {P : Program} {f : FuncId} {args : Array Value} {w : World} {P0 R : Ending → World → Prop} (v : Value) (hc : Calls P f args w P0) (hp : ∀ e w', P0 e w' → R e w') (hr : False → R (.returned v) w) : Calls P f args w R := hc.mono hp
set_option maxHeartbeats 2000000 in
set_option maxRecDepth 100000 in
theorem impl_no (w : World) (k i u : Int) (f : Nat) (s : ByteArray) (b : Bool) (k' i' u' : Int) (f' : Nat) (s' : ByteArray) (b' : Bool) (hi : W64 i) (hu : WU u) (hi' : W64 i') (hu' : WU u') (hf : Fit k i u) (hf' : Fit k' i' u')
    (H : ∀ w v1 v2, Dy (oi k i u) v1 → Dy (oi k' i' u') v2 → Calls Try.prog 11 #[v1, v2] w (Pan w)) :
    Calls Try.prog 6 #[V k i u f s b, V k' i' u' f' s' b'] w (fun e w' => e = .returned (.tuple #[.int .i64 0, .bool false]) ∧ Below w.heap.size w w') := by
  have hmf : ∀ (fn : Fn) (first cap : Array Value) (w : World), (Instr.makeFunc fn first cap).run Try.prog w = .ok (.func fn first cap) w := fun _ _ _ _ => rfl
  have A1 := Lib.hid (fun w => any_all k w i u f s b hi.1 hi.2 hu.1 hu.2 hf)
  have A2 := Lib.hid (fun w => any_all k' w i' u' f' s' b' hi'.1 hi'.2 hu'.1 hu'.2 hf')
  have HH := Lib.hid H
  clear H
  go_enter_defers Try.func6, Try.ntmps6
  go_wp2
  have S := Sm.first w k i u f s b k' i' u' f' s' b'
  revert S
  generalize ((((w.alloc (.cells #[.int .i64 k, .int .i64 i, .int .u64 u, .float .f64 f, .string s, .bool b] 25)).alloc (.cells #[.int .i64 k', .int .i64 i', .int .u64 u', .float .f64 f', .string s', .bool b'] 25)).alloc (.cells #[.int .i64 0] 3)).alloc (.cells #[.bool false] 4)) = w0
  intro S
  have c00 := S.c00; have c01 := S.c01; have c02 := S.c02; have c03 := S.c03; have c04 := S.c04; have c05 := S.c05; have c10 := S.c10; have c11 := S.c11; have c12 := S.c12; have c13 := S.c13; have c14 := S.c14; have c15 := S.c15; have c20 := S.c20; have c30 := S.c30; have z2 := S.z2; have z3 := S.z3
  go_region_with (first
    | (go_at_call 12; apply Calls.mono; (focus (with_reducible exact A1.out _)); rintro e w1 ⟨v1, rfl, d1, hb1⟩; replace S := (by first | (with_reducible exact S.next hb1) | (with_reducible exact S.drew1.next hb1) | (with_reducible exact (S.drew _).next hb1)); clear c00 c01 c02 c03 c04 c05 c10 c11 c12 c13 c14 c15 c20 c30 z2 z3; have c00 := S.c00; have c01 := S.c01; have c02 := S.c02; have c03 := S.c03; have c04 := S.c04; have c05 := S.c05; have c10 := S.c10; have c11 := S.c11; have c12 := S.c12; have c13 := S.c13; have c14 := S.c14; have c15 := S.c15; have c20 := S.c20; have c30 := S.c30; have z2 := S.z2; have z3 := S.z3)
    | (go_at_call 12; apply Calls.mono; (focus (with_reducible exact A2.out _)); rintro e w2 ⟨v2, rfl, d2, hb2⟩; replace S := (by first | (with_reducible exact S.next hb2) | (with_reducible exact S.drew1.next hb2) | (with_reducible exact (S.drew _).next hb2)); clear c00 c01 c02 c03 c04 c05 c10 c11 c12 c13 c14 c15 c20 c30 z2 z3; have c00 := S.c00; have c01 := S.c01; have c02 := S.c02; have c03 := S.c03; have c04 := S.c04; have c05 := S.c05; have c10 := S.c10; have c11 := S.c11; have c12 := S.c12; have c13 := S.c13; have c14 := S.c14; have c15 := S.c15; have c20 := S.c20; have c30 := S.c30; have z2 := S.z2; have z3 := S.z3)
    | (go_at_call 11; refine panic_arm (.int .i64 0) (by with_reducible exact HH.out _ _ _ d1 d2) (by (rintro e w3 ⟨⟨ty, pv, rfl⟩, hb3⟩; replace S := (by first | (with_reducible exact S.next hb3) | (with_reducible exact S.drew1.next hb3) | (with_reducible exact (S.drew _).next hb3)); clear c00 c01 c02 c03 c04 c05 c10 c11 c12 c13 c14 c15 c20 c30 z2 z3; have c00 := S.c00; have c01 := S.c01; have c02 := S.c02; have c03 := S.c03; have c04 := S.c04; have c05 := S.c05; have c10 := S.c10; have c11 := S.c11; have c12 := S.c12; have c13 := S.c13; have c14 := S.c14; have c15 := S.c15; have c20 := S.c20; have c30 := S.c30; have z2 := S.z2; have z3 := S.z3; simp only [bodyPostD, Exit.then]; refine leaves_cons (f := 10) (args := #[.pointer (some ⟨w.heap.size + 1 + 1, 0, none⟩), .pointer (some ⟨w.heap.size + 1 + 1 + 1, 0, none⟩)]) (by simp) (by simp [go_sem]) ?_; refine (catch_panicking (w.heap.size + 1 + 1) (w.heap.size + 1 + 1 + 1) _ _ [] _ _ _ c20 c30 z2 z3 (by omega)).mono ?_; rintro e u' w'' ⟨rfl, rfl, rfl⟩; have hB := S.below; simp [Leaves, settle, results, Try.results6, go_sem, c20, c30]; go_grown)) ?_; intro hF0; have hF := Lib.hid hF0; clear hF0; dsimp only))
  all_goals exact hF.out.elim
end Go.Proofs.Ytidmaimeanakeaa.Num
