/- The law of the remainders, walked. (Printed by gen4.py.) -/
import Derived.Test.YtidmaimeanakeaaModL
set_option linter.unusedSimpArgs false
set_option linter.unusedVariables false
namespace Go.Proofs.Ytidmaimeanakeaa.Num
open Go.RowKit
structure Sp (w w1 : World) (k i u : Int) (f : Nat) (s : ByteArray) (b : Bool) (k' i' u' : Int) (f' : Nat) (s' : ByteArray) (b' : Bool) : Prop where
  below : Below w.heap.size w w1
  size : w.heap.size + 1 < w1.heap.size
  c00 : w1.cell? ⟨w.heap.size, 0, none⟩ = some (.int .i64 k)
  c01 : w1.cell? ⟨w.heap.size, 1, none⟩ = some (.int .i64 i)
  c02 : w1.cell? ⟨w.heap.size, 2, none⟩ = some (.int .u64 u)
  c03 : w1.cell? ⟨w.heap.size, 3, none⟩ = some (.float .f64 f)
  c04 : w1.cell? ⟨w.heap.size, 4, none⟩ = some (.string s)
  c05 : w1.cell? ⟨w.heap.size, 5, none⟩ = some (.bool b)
  c10 : w1.cell? ⟨w.heap.size + 1, 0, none⟩ = some (.int .i64 k')
  c11 : w1.cell? ⟨w.heap.size + 1, 1, none⟩ = some (.int .i64 i')
  c12 : w1.cell? ⟨w.heap.size + 1, 2, none⟩ = some (.int .u64 u')
  c13 : w1.cell? ⟨w.heap.size + 1, 3, none⟩ = some (.float .f64 f')
  c14 : w1.cell? ⟨w.heap.size + 1, 4, none⟩ = some (.string s')
  c15 : w1.cell? ⟨w.heap.size + 1, 5, none⟩ = some (.bool b')
theorem Sp.next {w w1 w2 : World} {k i u : Int} {f : Nat} {s : ByteArray} {b : Bool} {k' i' u' : Int} {f' : Nat} {s' : ByteArray} {b' : Bool} (h : Sp w w1 k i u f s b k' i' u' f' s' b') (hb : Below w1.heap.size w1 w2) : Sp w w2 k i u f s b k' i' u' f' s' b' where
  below := h.below.trans (hb.mono (by have := h.size; omega))
  size := Nat.lt_of_lt_of_le h.size hb.size
  c00 := (hb.cell (p := ⟨w.heap.size, 0, none⟩) (by have := h.size; simp only; omega)).trans h.c00
  c01 := (hb.cell (p := ⟨w.heap.size, 1, none⟩) (by have := h.size; simp only; omega)).trans h.c01
  c02 := (hb.cell (p := ⟨w.heap.size, 2, none⟩) (by have := h.size; simp only; omega)).trans h.c02
  c03 := (hb.cell (p := ⟨w.heap.size, 3, none⟩) (by have := h.size; simp only; omega)).trans h.c03
  c04 := (hb.cell (p := ⟨w.heap.size, 4, none⟩) (by have := h.size; simp only; omega)).trans h.c04
  c05 := (hb.cell (p := ⟨w.heap.size, 5, none⟩) (by have := h.size; simp only; omega)).trans h.c05
  c10 := (hb.cell (p := ⟨w.heap.size + 1, 0, none⟩) (by have := h.size; simp only; omega)).trans h.c10
  c11 := (hb.cell (p := ⟨w.heap.size + 1, 1, none⟩) (by have := h.size; simp only; omega)).trans h.c11
  c12 := (hb.cell (p := ⟨w.heap.size + 1, 2, none⟩) (by have := h.size; simp only; omega)).trans h.c12
  c13 := (hb.cell (p := ⟨w.heap.size + 1, 3, none⟩) (by have := h.size; simp only; omega)).trans h.c13
  c14 := (hb.cell (p := ⟨w.heap.size + 1, 4, none⟩) (by have := h.size; simp only; omega)).trans h.c14
  c15 := (hb.cell (p := ⟨w.heap.size + 1, 5, none⟩) (by have := h.size; simp only; omega)).trans h.c15
theorem Sp.first (w : World) (k i u : Int) (f : Nat) (s : ByteArray) (b : Bool) (k' i' u' : Int) (f' : Nat) (s' : ByteArray) (b' : Bool) : Sp w ((w.alloc (.cells #[.int .i64 k, .int .i64 i, .int .u64 u, .float .f64 f, .string s, .bool b] 25)).alloc (.cells #[.int .i64 k', .int .i64 i', .int .u64 u', .float .f64 f', .string s', .bool b'] 25)) k i u f s b k' i' u' f' s' b' where
  below := by go_grown
  size := by simp only [World.size_alloc]; omega
  c00 := by simp [go_sem]
  c01 := by simp [go_sem]
  c02 := by simp [go_sem]
  c03 := by simp [go_sem]
  c04 := by simp [go_sem]
  c05 := by simp [go_sem]
  c10 := by simp [go_sem]
  c11 := by simp [go_sem]
  c12 := by simp [go_sem]
  c13 := by simp [go_sem]
  c14 := by simp [go_sem]
  c15 := by simp [go_sem]

set_option maxHeartbeats 2000000 in
set_option maxRecDepth 100000 in
theorem fit_both (w : World) (k i u : Int) (f : Nat) (s : ByteArray) (b : Bool) (k' i' u' : Int) (f' : Nat) (s' : ByteArray) (b' : Bool) (hi : W64 i) (hu : WU u) (hi' : W64 i') (hu' : WU u') : Calls Try.prog 5 #[V k i u f s b, V k' i' u' f' s' b'] w (Ans w fun r => r = true → Fit k i u ∧ Fit k' i' u') := by
  have F1 := Lib.hid (fun w => fits_all k w i u f s b hi.1 hi.2 hu.1 hu.2)
  have F2 := Lib.hid (fun w => fits_all k' w i' u' f' s' b' hi'.1 hi'.2 hu'.1 hu'.2)
  go_enter Try.func5, Try.ntmps5
  go_wp2_with (first | (go_at_call 90; skip))
  have S := Sp.first w k i u f s b k' i' u' f' s' b'
  revert S
  generalize ((w.alloc (.cells #[.int .i64 k, .int .i64 i, .int .u64 u, .float .f64 f, .string s, .bool b] 25)).alloc (.cells #[.int .i64 k', .int .i64 i', .int .u64 u', .float .f64 f', .string s', .bool b'] 25)) = w0
  intro S
  have c00 := S.c00; have c01 := S.c01; have c02 := S.c02; have c03 := S.c03; have c04 := S.c04; have c05 := S.c05; have c10 := S.c10; have c11 := S.c11; have c12 := S.c12; have c13 := S.c13; have c14 := S.c14; have c15 := S.c15; have hsz := S.size; have hB := S.below
  go_wp2_with (first
    | (go_at_call 9; apply Calls.mono; (focus (with_reducible exact F1.out _)); rintro e w1 ⟨r1, rfl, hr1, hb⟩; replace S := S.next hb; clear hb; clear c00 c01 c02 c03 c04 c05 c10 c11 c12 c13 c14 c15 hsz hB; have c00 := S.c00; have c01 := S.c01; have c02 := S.c02; have c03 := S.c03; have c04 := S.c04; have c05 := S.c05; have c10 := S.c10; have c11 := S.c11; have c12 := S.c12; have c13 := S.c13; have c14 := S.c14; have c15 := S.c15; have hsz := S.size; have hB := S.below; have R1 := Lib.hid hr1; clear hr1; cases r1)
    | (go_at_call 9; apply Calls.mono; (focus (with_reducible exact F2.out _)); rintro e w2 ⟨r2, rfl, hr2, hb⟩; replace S := S.next hb; clear hb; clear c00 c01 c02 c03 c04 c05 c10 c11 c12 c13 c14 c15 hsz hB; have c00 := S.c00; have c01 := S.c01; have c02 := S.c02; have c03 := S.c03; have c04 := S.c04; have c05 := S.c05; have c10 := S.c10; have c11 := S.c11; have c12 := S.c12; have c13 := S.c13; have c14 := S.c14; have c15 := S.c15; have hsz := S.size; have hB := S.below; have R2 := Lib.hid hr2; clear hr2; cases r2))
  all_goals
    go_ret
    refine ⟨_, rfl, ?_, by go_grown⟩
    first | (intro h; simp at h; done) | (intro _; exact ⟨R1.out (by simp), R2.out (by simp)⟩)
theorem Sp.drew1 {w w1 : World} {k i u : Int} {f : Nat} {s : ByteArray} {b : Bool} {k' i' u' : Int} {f' : Nat} {s' : ByteArray} {b' : Bool} (h : Sp w w1 k i u f s b k' i' u' f' s' b') : Sp w w1.drew k i u f s b k' i' u' f' s' b' where
  below := h.below.drew
  size := h.size
  c00 := h.c00
  c01 := h.c01
  c02 := h.c02
  c03 := h.c03
  c04 := h.c04
  c05 := h.c05
  c10 := h.c10
  c11 := h.c11
  c12 := h.c12
  c13 := h.c13
  c14 := h.c14
  c15 := h.c15
def Fine (w : World) (e : Ending) (w' : World) : Prop := e = .returned (.bool true) ∧ Below w.heap.size w w'
set_option maxHeartbeats 2000000 in
set_option maxRecDepth 100000 in
theorem law_yes (w : World) (k i u : Int) (f : Nat) (s : ByteArray) (b : Bool) (k' i' u' : Int) (f' : Nat) (s' : ByteArray) (b' : Bool) (hi : W64 i) (hu : WU u) (hi' : W64 i') (hu' : WU u') (hk : W64 k) (hk' : W64 k') (n m : Int) (h : Is k i u k' i' u' n m) : Calls Try.prog 3 #[V k i u f s b, V k' i' u' f' s' b'] w (Fine w) := by
  have Z1 := Lib.hid (fun w => zz2 w k i u f s b)
  have Z2 := Lib.hid (fun w => zz2 w k' i' u' f' s' b')
  have FB := Lib.hid (fun w => fit_both w k i u f s b k' i' u' f' s' b' hi hu hi' hu')
  have T1 := Lib.hid (fun w => whole10 w k i u f s b hk.1 hk.2)
  have T2 := Lib.hid (fun w => whole10 w k' i' u' f' s' b' hk'.1 hk'.2)
  have IM := Lib.hid (fun w hf hf' => impl_yes w k i u f s b k' i' u' f' s' b' hi hu hi' hu' hf hf' n m h)
  have A1 := Lib.hid (fun w hf => asInt w k i u f s b hi hu hk.1 hk.2 hf n h.1)
  have A2 := Lib.hid (fun w hf => asInt w k' i' u' f' s' b' hi' hu' hk'.1 hk'.2 hf m h.2.1)
  have D1 : decide (1 ≤ k ∧ k ≤ 10) = true := by
    have := h.1; unfold oi at this; split at this
    · simpa using ‹_›
    · cases this
  have D2 : decide (1 ≤ k' ∧ k' ≤ 10) = true := by
    have := h.2.1; unfold oi at this; split at this
    · simpa using ‹_›
    · cases this
  have hm0 := h.2.2
  have hm1 : ¬ 0 = m := fun e => hm0 e.symm
  go_enter Try.func3, Try.ntmps3
  go_wp2_with (first | (go_at_call 90; skip))
  have S := Sp.first w k i u f s b k' i' u' f' s' b'
  revert S
  generalize ((w.alloc (.cells #[.int .i64 k, .int .i64 i, .int .u64 u, .float .f64 f, .string s, .bool b] 25)).alloc (.cells #[.int .i64 k', .int .i64 i', .int .u64 u', .float .f64 f', .string s', .bool b'] 25)) = w0
  intro S
  have c00 := S.c00; have c01 := S.c01; have c02 := S.c02; have c03 := S.c03; have c04 := S.c04; have c05 := S.c05; have c10 := S.c10; have c11 := S.c11; have c12 := S.c12; have c13 := S.c13; have c14 := S.c14; have c15 := S.c15; have hsz := S.size; have hB := S.below
  go_wp2_with (first
    | (go_at_call 4; apply Calls.mono; (focus (with_reducible exact Z1.out _)); rintro e w1 ⟨r1, rfl, _, hb⟩; replace S := S.next hb; clear hb; clear c00 c01 c02 c03 c04 c05 c10 c11 c12 c13 c14 c15 hsz hB; have c00 := S.c00; have c01 := S.c01; have c02 := S.c02; have c03 := S.c03; have c04 := S.c04; have c05 := S.c05; have c10 := S.c10; have c11 := S.c11; have c12 := S.c12; have c13 := S.c13; have c14 := S.c14; have c15 := S.c15; have hsz := S.size; have hB := S.below; cases r1)
    | (go_at_call 4; apply Calls.mono; (focus (with_reducible exact Z2.out _)); rintro e w2 ⟨r2, rfl, _, hb⟩; replace S := S.next hb; clear hb; clear c00 c01 c02 c03 c04 c05 c10 c11 c12 c13 c14 c15 hsz hB; have c00 := S.c00; have c01 := S.c01; have c02 := S.c02; have c03 := S.c03; have c04 := S.c04; have c05 := S.c05; have c10 := S.c10; have c11 := S.c11; have c12 := S.c12; have c13 := S.c13; have c14 := S.c14; have c15 := S.c15; have hsz := S.size; have hB := S.below; cases r2)
    | (go_at_call 5; apply Calls.mono; (focus (with_reducible exact FB.out _)); rintro e w3 ⟨r3, rfl, hf, hb⟩; replace S := S.next hb; clear hb; clear c00 c01 c02 c03 c04 c05 c10 c11 c12 c13 c14 c15 hsz hB; have c00 := S.c00; have c01 := S.c01; have c02 := S.c02; have c03 := S.c03; have c04 := S.c04; have c05 := S.c05; have c10 := S.c10; have c11 := S.c11; have c12 := S.c12; have c13 := S.c13; have c14 := S.c14; have c15 := S.c15; have hsz := S.size; have hB := S.below; have HF := Lib.hid hf; clear hf; cases r3)
    | (go_at_call 6; apply Calls.mono; (focus (with_reducible exact IM.out _ (HF.out (by simp)).1 (HF.out (by simp)).2)); rintro e w4 ⟨rfl, hb⟩; replace S := S.next hb; clear hb; clear c00 c01 c02 c03 c04 c05 c10 c11 c12 c13 c14 c15 hsz hB; have c00 := S.c00; have c01 := S.c01; have c02 := S.c02; have c03 := S.c03; have c04 := S.c04; have c05 := S.c05; have c10 := S.c10; have c11 := S.c11; have c12 := S.c12; have c13 := S.c13; have c14 := S.c14; have c15 := S.c15; have hsz := S.size; have hB := S.below)
    | (go_at_call 7; apply Calls.mono; (focus (with_reducible exact T1.out _)); rintro e w5 ⟨rfl, hb⟩; replace S := S.next hb; clear hb; clear c00 c01 c02 c03 c04 c05 c10 c11 c12 c13 c14 c15 hsz hB; have c00 := S.c00; have c01 := S.c01; have c02 := S.c02; have c03 := S.c03; have c04 := S.c04; have c05 := S.c05; have c10 := S.c10; have c11 := S.c11; have c12 := S.c12; have c13 := S.c13; have c14 := S.c14; have c15 := S.c15; have hsz := S.size; have hB := S.below; simp only [D1])
    | (go_at_call 7; apply Calls.mono; (focus (with_reducible exact T2.out _)); rintro e w6 ⟨rfl, hb⟩; replace S := S.next hb; clear hb; clear c00 c01 c02 c03 c04 c05 c10 c11 c12 c13 c14 c15 hsz hB; have c00 := S.c00; have c01 := S.c01; have c02 := S.c02; have c03 := S.c03; have c04 := S.c04; have c05 := S.c05; have c10 := S.c10; have c11 := S.c11; have c12 := S.c12; have c13 := S.c13; have c14 := S.c14; have c15 := S.c15; have hsz := S.size; have hB := S.below; simp only [D2])
    | (go_at_call 8; apply Calls.mono; (focus (with_reducible exact A1.out _ (HF.out (by simp)).1)); rintro e w7 ⟨rfl, hb⟩; replace S := S.next hb; clear hb; clear c00 c01 c02 c03 c04 c05 c10 c11 c12 c13 c14 c15 hsz hB; have c00 := S.c00; have c01 := S.c01; have c02 := S.c02; have c03 := S.c03; have c04 := S.c04; have c05 := S.c05; have c10 := S.c10; have c11 := S.c11; have c12 := S.c12; have c13 := S.c13; have c14 := S.c14; have c15 := S.c15; have hsz := S.size; have hB := S.below)
    | (go_at_call 8; apply Calls.mono; (focus (with_reducible exact A2.out _ (HF.out (by simp)).2)); rintro e w8 ⟨rfl, hb⟩; replace S := S.next hb; clear hb; clear c00 c01 c02 c03 c04 c05 c10 c11 c12 c13 c14 c15 hsz hB; have c00 := S.c00; have c01 := S.c01; have c02 := S.c02; have c03 := S.c03; have c04 := S.c04; have c05 := S.c05; have c10 := S.c10; have c11 := S.c11; have c12 := S.c12; have c13 := S.c13; have c14 := S.c14; have c15 := S.c15; have hsz := S.size; have hB := S.below))
  all_goals first
    | (go_ret; exact ⟨by first | rfl | (simp [hm0]; done), by go_grown⟩)
    | (go_region_with (first
    | (go_at_call 8; apply Calls.mono; (focus (with_reducible exact A1.out _ (HF.out (by simp)).1)); rintro e w7 ⟨rfl, hb⟩; replace S := (by first | (with_reducible exact S.next hb) | (with_reducible exact S.drew1.next hb)); clear hb; clear c00 c01 c02 c03 c04 c05 c10 c11 c12 c13 c14 c15 hsz hB; have c00 := S.c00; have c01 := S.c01; have c02 := S.c02; have c03 := S.c03; have c04 := S.c04; have c05 := S.c05; have c10 := S.c10; have c11 := S.c11; have c12 := S.c12; have c13 := S.c13; have c14 := S.c14; have c15 := S.c15; have hsz := S.size; have hB := S.below)
    | (go_at_call 8; apply Calls.mono; (focus (with_reducible exact A2.out _ (HF.out (by simp)).2)); rintro e w8 ⟨rfl, hb⟩; replace S := (by first | (with_reducible exact S.next hb) | (with_reducible exact S.drew1.next hb)); clear hb; clear c00 c01 c02 c03 c04 c05 c10 c11 c12 c13 c14 c15 hsz hB; have c00 := S.c00; have c01 := S.c01; have c02 := S.c02; have c03 := S.c03; have c04 := S.c04; have c05 := S.c05; have c10 := S.c10; have c11 := S.c11; have c12 := S.c12; have c13 := S.c13; have c14 := S.c14; have c15 := S.c15; have hsz := S.size; have hB := S.below))
       all_goals (go_wp2; go_ret; exact ⟨by first | rfl | (simp [hm0]; done), by go_grown⟩))
set_option maxHeartbeats 2000000 in
set_option maxRecDepth 100000 in
theorem law_no1 (w : World) (k i u : Int) (f : Nat) (s : ByteArray) (b : Bool) (k' i' u' : Int) (f' : Nat) (s' : ByteArray) (b' : Bool) (hi : W64 i) (hu : WU u) (hi' : W64 i') (hu' : WU u') (hk : W64 k) (hk' : W64 k') (hno : ∀ n m, ¬ Is k i u k' i' u' n m) (D1 : decide (1 ≤ k ∧ k ≤ 10) = false) : Calls Try.prog 3 #[V k i u f s b, V k' i' u' f' s' b'] w (Fine w) := by
  have Z1 := Lib.hid (fun w => zz2 w k i u f s b)
  have Z2 := Lib.hid (fun w => zz2 w k' i' u' f' s' b')
  have FB := Lib.hid (fun w => fit_both w k i u f s b k' i' u' f' s' b' hi hu hi' hu')
  have T1 := Lib.hid (fun w => whole10 w k i u f s b hk.1 hk.2)
  have T2 := Lib.hid (fun w => whole10 w k' i' u' f' s' b' hk'.1 hk'.2)
  have IM := Lib.hid (fun w hf hf' => impl_all w k i u f s b k' i' u' f' s' b' hi hu hi' hu' hf hf' hno)
  clear hno
  go_enter Try.func3, Try.ntmps3
  go_wp2_with (first | (go_at_call 90; skip))
  have S := Sp.first w k i u f s b k' i' u' f' s' b'
  revert S
  generalize ((w.alloc (.cells #[.int .i64 k, .int .i64 i, .int .u64 u, .float .f64 f, .string s, .bool b] 25)).alloc (.cells #[.int .i64 k', .int .i64 i', .int .u64 u', .float .f64 f', .string s', .bool b'] 25)) = w0
  intro S
  have c00 := S.c00; have c01 := S.c01; have c02 := S.c02; have c03 := S.c03; have c04 := S.c04; have c05 := S.c05; have c10 := S.c10; have c11 := S.c11; have c12 := S.c12; have c13 := S.c13; have c14 := S.c14; have c15 := S.c15; have hsz := S.size; have hB := S.below
  go_wp2_with (first
    | (go_at_call 4; apply Calls.mono; (focus (with_reducible exact Z1.out _)); rintro e w1 ⟨r1, rfl, _, hb⟩; replace S := S.next hb; clear hb; clear c00 c01 c02 c03 c04 c05 c10 c11 c12 c13 c14 c15 hsz hB; have c00 := S.c00; have c01 := S.c01; have c02 := S.c02; have c03 := S.c03; have c04 := S.c04; have c05 := S.c05; have c10 := S.c10; have c11 := S.c11; have c12 := S.c12; have c13 := S.c13; have c14 := S.c14; have c15 := S.c15; have hsz := S.size; have hB := S.below; cases r1)
    | (go_at_call 4; apply Calls.mono; (focus (with_reducible exact Z2.out _)); rintro e w2 ⟨r2, rfl, _, hb⟩; replace S := S.next hb; clear hb; clear c00 c01 c02 c03 c04 c05 c10 c11 c12 c13 c14 c15 hsz hB; have c00 := S.c00; have c01 := S.c01; have c02 := S.c02; have c03 := S.c03; have c04 := S.c04; have c05 := S.c05; have c10 := S.c10; have c11 := S.c11; have c12 := S.c12; have c13 := S.c13; have c14 := S.c14; have c15 := S.c15; have hsz := S.size; have hB := S.below; cases r2)
    | (go_at_call 5; apply Calls.mono; (focus (with_reducible exact FB.out _)); rintro e w3 ⟨r3, rfl, hf, hb⟩; replace S := S.next hb; clear hb; clear c00 c01 c02 c03 c04 c05 c10 c11 c12 c13 c14 c15 hsz hB; have c00 := S.c00; have c01 := S.c01; have c02 := S.c02; have c03 := S.c03; have c04 := S.c04; have c05 := S.c05; have c10 := S.c10; have c11 := S.c11; have c12 := S.c12; have c13 := S.c13; have c14 := S.c14; have c15 := S.c15; have hsz := S.size; have hB := S.below; have HF := Lib.hid hf; clear hf; cases r3)
    | (go_at_call 6; apply Calls.mono; (focus (with_reducible exact IM.out _ (HF.out (by simp)).1 (HF.out (by simp)).2)); rintro e w4 ⟨rfl, hb⟩; replace S := S.next hb; clear hb; clear c00 c01 c02 c03 c04 c05 c10 c11 c12 c13 c14 c15 hsz hB; have c00 := S.c00; have c01 := S.c01; have c02 := S.c02; have c03 := S.c03; have c04 := S.c04; have c05 := S.c05; have c10 := S.c10; have c11 := S.c11; have c12 := S.c12; have c13 := S.c13; have c14 := S.c14; have c15 := S.c15; have hsz := S.size; have hB := S.below)
    | (go_at_call 7; apply Calls.mono; (focus (with_reducible exact T1.out _)); rintro e w5 ⟨rfl, hb⟩; replace S := S.next hb; clear hb; clear c00 c01 c02 c03 c04 c05 c10 c11 c12 c13 c14 c15 hsz hB; have c00 := S.c00; have c01 := S.c01; have c02 := S.c02; have c03 := S.c03; have c04 := S.c04; have c05 := S.c05; have c10 := S.c10; have c11 := S.c11; have c12 := S.c12; have c13 := S.c13; have c14 := S.c14; have c15 := S.c15; have hsz := S.size; have hB := S.below; simp only [D1])
    | (go_at_call 7; apply Calls.mono; (focus (with_reducible exact T2.out _)); rintro e w6 ⟨rfl, hb⟩; replace S := S.next hb; clear hb; clear c00 c01 c02 c03 c04 c05 c10 c11 c12 c13 c14 c15 hsz hB; have c00 := S.c00; have c01 := S.c01; have c02 := S.c02; have c03 := S.c03; have c04 := S.c04; have c05 := S.c05; have c10 := S.c10; have c11 := S.c11; have c12 := S.c12; have c13 := S.c13; have c14 := S.c14; have c15 := S.c15; have hsz := S.size; have hB := S.below; simp only [D2])
    | (go_at_call 8; apply Calls.mono; (focus (with_reducible exact A1.out _ (HF.out (by simp)).1)); rintro e w7 ⟨rfl, hb⟩; replace S := S.next hb; clear hb; clear c00 c01 c02 c03 c04 c05 c10 c11 c12 c13 c14 c15 hsz hB; have c00 := S.c00; have c01 := S.c01; have c02 := S.c02; have c03 := S.c03; have c04 := S.c04; have c05 := S.c05; have c10 := S.c10; have c11 := S.c11; have c12 := S.c12; have c13 := S.c13; have c14 := S.c14; have c15 := S.c15; have hsz := S.size; have hB := S.below)
    | (go_at_call 8; apply Calls.mono; (focus (with_reducible exact A2.out _ (HF.out (by simp)).2)); rintro e w8 ⟨rfl, hb⟩; replace S := S.next hb; clear hb; clear c00 c01 c02 c03 c04 c05 c10 c11 c12 c13 c14 c15 hsz hB; have c00 := S.c00; have c01 := S.c01; have c02 := S.c02; have c03 := S.c03; have c04 := S.c04; have c05 := S.c05; have c10 := S.c10; have c11 := S.c11; have c12 := S.c12; have c13 := S.c13; have c14 := S.c14; have c15 := S.c15; have hsz := S.size; have hB := S.below))
  all_goals
    go_ret
    exact ⟨by first | rfl | (simp; done), by go_grown⟩
set_option maxHeartbeats 2000000 in
set_option maxRecDepth 100000 in
theorem law_no2 (w : World) (k i u : Int) (f : Nat) (s : ByteArray) (b : Bool) (k' i' u' : Int) (f' : Nat) (s' : ByteArray) (b' : Bool) (hi : W64 i) (hu : WU u) (hi' : W64 i') (hu' : WU u') (hk : W64 k) (hk' : W64 k') (hno : ∀ n m, ¬ Is k i u k' i' u' n m) (D1 : decide (1 ≤ k ∧ k ≤ 10) = true) (D2 : decide (1 ≤ k' ∧ k' ≤ 10) = false) : Calls Try.prog 3 #[V k i u f s b, V k' i' u' f' s' b'] w (Fine w) := by
  have Z1 := Lib.hid (fun w => zz2 w k i u f s b)
  have Z2 := Lib.hid (fun w => zz2 w k' i' u' f' s' b')
  have FB := Lib.hid (fun w => fit_both w k i u f s b k' i' u' f' s' b' hi hu hi' hu')
  have T1 := Lib.hid (fun w => whole10 w k i u f s b hk.1 hk.2)
  have T2 := Lib.hid (fun w => whole10 w k' i' u' f' s' b' hk'.1 hk'.2)
  have IM := Lib.hid (fun w hf hf' => impl_all w k i u f s b k' i' u' f' s' b' hi hu hi' hu' hf hf' hno)
  clear hno
  go_enter Try.func3, Try.ntmps3
  go_wp2_with (first | (go_at_call 90; skip))
  have S := Sp.first w k i u f s b k' i' u' f' s' b'
  revert S
  generalize ((w.alloc (.cells #[.int .i64 k, .int .i64 i, .int .u64 u, .float .f64 f, .string s, .bool b] 25)).alloc (.cells #[.int .i64 k', .int .i64 i', .int .u64 u', .float .f64 f', .string s', .bool b'] 25)) = w0
  intro S
  have c00 := S.c00; have c01 := S.c01; have c02 := S.c02; have c03 := S.c03; have c04 := S.c04; have c05 := S.c05; have c10 := S.c10; have c11 := S.c11; have c12 := S.c12; have c13 := S.c13; have c14 := S.c14; have c15 := S.c15; have hsz := S.size; have hB := S.below
  go_wp2_with (first
    | (go_at_call 4; apply Calls.mono; (focus (with_reducible exact Z1.out _)); rintro e w1 ⟨r1, rfl, _, hb⟩; replace S := S.next hb; clear hb; clear c00 c01 c02 c03 c04 c05 c10 c11 c12 c13 c14 c15 hsz hB; have c00 := S.c00; have c01 := S.c01; have c02 := S.c02; have c03 := S.c03; have c04 := S.c04; have c05 := S.c05; have c10 := S.c10; have c11 := S.c11; have c12 := S.c12; have c13 := S.c13; have c14 := S.c14; have c15 := S.c15; have hsz := S.size; have hB := S.below; cases r1)
    | (go_at_call 4; apply Calls.mono; (focus (with_reducible exact Z2.out _)); rintro e w2 ⟨r2, rfl, _, hb⟩; replace S := S.next hb; clear hb; clear c00 c01 c02 c03 c04 c05 c10 c11 c12 c13 c14 c15 hsz hB; have c00 := S.c00; have c01 := S.c01; have c02 := S.c02; have c03 := S.c03; have c04 := S.c04; have c05 := S.c05; have c10 := S.c10; have c11 := S.c11; have c12 := S.c12; have c13 := S.c13; have c14 := S.c14; have c15 := S.c15; have hsz := S.size; have hB := S.below; cases r2)
    | (go_at_call 5; apply Calls.mono; (focus (with_reducible exact FB.out _)); rintro e w3 ⟨r3, rfl, hf, hb⟩; replace S := S.next hb; clear hb; clear c00 c01 c02 c03 c04 c05 c10 c11 c12 c13 c14 c15 hsz hB; have c00 := S.c00; have c01 := S.c01; have c02 := S.c02; have c03 := S.c03; have c04 := S.c04; have c05 := S.c05; have c10 := S.c10; have c11 := S.c11; have c12 := S.c12; have c13 := S.c13; have c14 := S.c14; have c15 := S.c15; have hsz := S.size; have hB := S.below; have HF := Lib.hid hf; clear hf; cases r3)
    | (go_at_call 6; apply Calls.mono; (focus (with_reducible exact IM.out _ (HF.out (by simp)).1 (HF.out (by simp)).2)); rintro e w4 ⟨rfl, hb⟩; replace S := S.next hb; clear hb; clear c00 c01 c02 c03 c04 c05 c10 c11 c12 c13 c14 c15 hsz hB; have c00 := S.c00; have c01 := S.c01; have c02 := S.c02; have c03 := S.c03; have c04 := S.c04; have c05 := S.c05; have c10 := S.c10; have c11 := S.c11; have c12 := S.c12; have c13 := S.c13; have c14 := S.c14; have c15 := S.c15; have hsz := S.size; have hB := S.below)
    | (go_at_call 7; apply Calls.mono; (focus (with_reducible exact T1.out _)); rintro e w5 ⟨rfl, hb⟩; replace S := S.next hb; clear hb; clear c00 c01 c02 c03 c04 c05 c10 c11 c12 c13 c14 c15 hsz hB; have c00 := S.c00; have c01 := S.c01; have c02 := S.c02; have c03 := S.c03; have c04 := S.c04; have c05 := S.c05; have c10 := S.c10; have c11 := S.c11; have c12 := S.c12; have c13 := S.c13; have c14 := S.c14; have c15 := S.c15; have hsz := S.size; have hB := S.below; simp only [D1])
    | (go_at_call 7; apply Calls.mono; (focus (with_reducible exact T2.out _)); rintro e w6 ⟨rfl, hb⟩; replace S := S.next hb; clear hb; clear c00 c01 c02 c03 c04 c05 c10 c11 c12 c13 c14 c15 hsz hB; have c00 := S.c00; have c01 := S.c01; have c02 := S.c02; have c03 := S.c03; have c04 := S.c04; have c05 := S.c05; have c10 := S.c10; have c11 := S.c11; have c12 := S.c12; have c13 := S.c13; have c14 := S.c14; have c15 := S.c15; have hsz := S.size; have hB := S.below; simp only [D2])
    | (go_at_call 8; apply Calls.mono; (focus (with_reducible exact A1.out _ (HF.out (by simp)).1)); rintro e w7 ⟨rfl, hb⟩; replace S := S.next hb; clear hb; clear c00 c01 c02 c03 c04 c05 c10 c11 c12 c13 c14 c15 hsz hB; have c00 := S.c00; have c01 := S.c01; have c02 := S.c02; have c03 := S.c03; have c04 := S.c04; have c05 := S.c05; have c10 := S.c10; have c11 := S.c11; have c12 := S.c12; have c13 := S.c13; have c14 := S.c14; have c15 := S.c15; have hsz := S.size; have hB := S.below)
    | (go_at_call 8; apply Calls.mono; (focus (with_reducible exact A2.out _ (HF.out (by simp)).2)); rintro e w8 ⟨rfl, hb⟩; replace S := S.next hb; clear hb; clear c00 c01 c02 c03 c04 c05 c10 c11 c12 c13 c14 c15 hsz hB; have c00 := S.c00; have c01 := S.c01; have c02 := S.c02; have c03 := S.c03; have c04 := S.c04; have c05 := S.c05; have c10 := S.c10; have c11 := S.c11; have c12 := S.c12; have c13 := S.c13; have c14 := S.c14; have c15 := S.c15; have hsz := S.size; have hB := S.below))
  all_goals
    go_ret
    exact ⟨by first | rfl | (simp; done), by go_grown⟩
set_option maxHeartbeats 2000000 in
set_option maxRecDepth 100000 in
theorem law_no3 (w : World) (k i u : Int) (f : Nat) (s : ByteArray) (b : Bool) (k' i' u' : Int) (f' : Nat) (s' : ByteArray) (b' : Bool) (hi : W64 i) (hu : WU u) (hi' : W64 i') (hu' : WU u') (hk : W64 k) (hk' : W64 k') (hno : ∀ n m, ¬ Is k i u k' i' u' n m) (D1 : decide (1 ≤ k ∧ k ≤ 10) = true) (D2 : decide (1 ≤ k' ∧ k' ≤ 10) = true) (h2 : oi k' i' u' = some 0) : Calls Try.prog 3 #[V k i u f s b, V k' i' u' f' s' b'] w (Fine w) := by
  have Z1 := Lib.hid (fun w => zz2 w k i u f s b)
  have Z2 := Lib.hid (fun w => zz2 w k' i' u' f' s' b')
  have FB := Lib.hid (fun w => fit_both w k i u f s b k' i' u' f' s' b' hi hu hi' hu')
  have T1 := Lib.hid (fun w => whole10 w k i u f s b hk.1 hk.2)
  have T2 := Lib.hid (fun w => whole10 w k' i' u' f' s' b' hk'.1 hk'.2)
  have IM := Lib.hid (fun w hf hf' => impl_all w k i u f s b k' i' u' f' s' b' hi hu hi' hu' hf hf' hno)
  have A2 := Lib.hid (fun w hf => asInt w k' i' u' f' s' b' hi' hu' hk'.1 hk'.2 hf 0 h2)
  clear hno
  go_enter Try.func3, Try.ntmps3
  go_wp2_with (first | (go_at_call 90; skip))
  have S := Sp.first w k i u f s b k' i' u' f' s' b'
  revert S
  generalize ((w.alloc (.cells #[.int .i64 k, .int .i64 i, .int .u64 u, .float .f64 f, .string s, .bool b] 25)).alloc (.cells #[.int .i64 k', .int .i64 i', .int .u64 u', .float .f64 f', .string s', .bool b'] 25)) = w0
  intro S
  have c00 := S.c00; have c01 := S.c01; have c02 := S.c02; have c03 := S.c03; have c04 := S.c04; have c05 := S.c05; have c10 := S.c10; have c11 := S.c11; have c12 := S.c12; have c13 := S.c13; have c14 := S.c14; have c15 := S.c15; have hsz := S.size; have hB := S.below
  go_wp2_with (first
    | (go_at_call 4; apply Calls.mono; (focus (with_reducible exact Z1.out _)); rintro e w1 ⟨r1, rfl, _, hb⟩; replace S := S.next hb; clear hb; clear c00 c01 c02 c03 c04 c05 c10 c11 c12 c13 c14 c15 hsz hB; have c00 := S.c00; have c01 := S.c01; have c02 := S.c02; have c03 := S.c03; have c04 := S.c04; have c05 := S.c05; have c10 := S.c10; have c11 := S.c11; have c12 := S.c12; have c13 := S.c13; have c14 := S.c14; have c15 := S.c15; have hsz := S.size; have hB := S.below; cases r1)
    | (go_at_call 4; apply Calls.mono; (focus (with_reducible exact Z2.out _)); rintro e w2 ⟨r2, rfl, _, hb⟩; replace S := S.next hb; clear hb; clear c00 c01 c02 c03 c04 c05 c10 c11 c12 c13 c14 c15 hsz hB; have c00 := S.c00; have c01 := S.c01; have c02 := S.c02; have c03 := S.c03; have c04 := S.c04; have c05 := S.c05; have c10 := S.c10; have c11 := S.c11; have c12 := S.c12; have c13 := S.c13; have c14 := S.c14; have c15 := S.c15; have hsz := S.size; have hB := S.below; cases r2)
    | (go_at_call 5; apply Calls.mono; (focus (with_reducible exact FB.out _)); rintro e w3 ⟨r3, rfl, hf, hb⟩; replace S := S.next hb; clear hb; clear c00 c01 c02 c03 c04 c05 c10 c11 c12 c13 c14 c15 hsz hB; have c00 := S.c00; have c01 := S.c01; have c02 := S.c02; have c03 := S.c03; have c04 := S.c04; have c05 := S.c05; have c10 := S.c10; have c11 := S.c11; have c12 := S.c12; have c13 := S.c13; have c14 := S.c14; have c15 := S.c15; have hsz := S.size; have hB := S.below; have HF := Lib.hid hf; clear hf; cases r3)
    | (go_at_call 6; apply Calls.mono; (focus (with_reducible exact IM.out _ (HF.out (by simp)).1 (HF.out (by simp)).2)); rintro e w4 ⟨rfl, hb⟩; replace S := S.next hb; clear hb; clear c00 c01 c02 c03 c04 c05 c10 c11 c12 c13 c14 c15 hsz hB; have c00 := S.c00; have c01 := S.c01; have c02 := S.c02; have c03 := S.c03; have c04 := S.c04; have c05 := S.c05; have c10 := S.c10; have c11 := S.c11; have c12 := S.c12; have c13 := S.c13; have c14 := S.c14; have c15 := S.c15; have hsz := S.size; have hB := S.below)
    | (go_at_call 7; apply Calls.mono; (focus (with_reducible exact T1.out _)); rintro e w5 ⟨rfl, hb⟩; replace S := S.next hb; clear hb; clear c00 c01 c02 c03 c04 c05 c10 c11 c12 c13 c14 c15 hsz hB; have c00 := S.c00; have c01 := S.c01; have c02 := S.c02; have c03 := S.c03; have c04 := S.c04; have c05 := S.c05; have c10 := S.c10; have c11 := S.c11; have c12 := S.c12; have c13 := S.c13; have c14 := S.c14; have c15 := S.c15; have hsz := S.size; have hB := S.below; simp only [D1])
    | (go_at_call 7; apply Calls.mono; (focus (with_reducible exact T2.out _)); rintro e w6 ⟨rfl, hb⟩; replace S := S.next hb; clear hb; clear c00 c01 c02 c03 c04 c05 c10 c11 c12 c13 c14 c15 hsz hB; have c00 := S.c00; have c01 := S.c01; have c02 := S.c02; have c03 := S.c03; have c04 := S.c04; have c05 := S.c05; have c10 := S.c10; have c11 := S.c11; have c12 := S.c12; have c13 := S.c13; have c14 := S.c14; have c15 := S.c15; have hsz := S.size; have hB := S.below; simp only [D2])
    | (go_at_call 8; apply Calls.mono; (focus (with_reducible exact A1.out _ (HF.out (by simp)).1)); rintro e w7 ⟨rfl, hb⟩; replace S := S.next hb; clear hb; clear c00 c01 c02 c03 c04 c05 c10 c11 c12 c13 c14 c15 hsz hB; have c00 := S.c00; have c01 := S.c01; have c02 := S.c02; have c03 := S.c03; have c04 := S.c04; have c05 := S.c05; have c10 := S.c10; have c11 := S.c11; have c12 := S.c12; have c13 := S.c13; have c14 := S.c14; have c15 := S.c15; have hsz := S.size; have hB := S.below)
    | (go_at_call 8; apply Calls.mono; (focus (with_reducible exact A2.out _ (HF.out (by simp)).2)); rintro e w8 ⟨rfl, hb⟩; replace S := S.next hb; clear hb; clear c00 c01 c02 c03 c04 c05 c10 c11 c12 c13 c14 c15 hsz hB; have c00 := S.c00; have c01 := S.c01; have c02 := S.c02; have c03 := S.c03; have c04 := S.c04; have c05 := S.c05; have c10 := S.c10; have c11 := S.c11; have c12 := S.c12; have c13 := S.c13; have c14 := S.c14; have c15 := S.c15; have hsz := S.size; have hB := S.below))
  all_goals
    go_ret
    exact ⟨by first | rfl | (simp; done), by go_grown⟩
theorem law (w : World) (k i u : Int) (f : Nat) (s : ByteArray) (b : Bool) (k' i' u' : Int) (f' : Nat) (s' : ByteArray) (b' : Bool) (hi : W64 i) (hu : WU u) (hi' : W64 i') (hu' : WU u') (hk : W64 k) (hk' : W64 k') : Calls Try.prog 3 #[V k i u f s b, V k' i' u' f' s' b'] w (Fine w) := by
  cases D1 : decide (1 ≤ k ∧ k ≤ 10)
  · refine law_no1 w k i u f s b k' i' u' f' s' b' hi hu hi' hu' hk hk' (fun n m h => ?_) D1
    have := h.1; unfold oi at this; rw [if_neg (by simpa using D1)] at this; cases this
  · cases D2 : decide (1 ≤ k' ∧ k' ≤ 10)
    · refine law_no2 w k i u f s b k' i' u' f' s' b' hi hu hi' hu' hk hk' (fun n m h => ?_) D1 D2
      have := h.2.1; unfold oi at this; rw [if_neg (by simpa using D2)] at this; cases this
    · obtain ⟨n, hn⟩ : ∃ n, oi k i u = some n := ⟨_, by unfold oi; rw [if_pos (by simpa using D1)]⟩
      obtain ⟨m, hm⟩ : ∃ m, oi k' i' u' = some m := ⟨_, by unfold oi; rw [if_pos (by simpa using D2)]⟩
      by_cases h0 : m = 0
      · subst h0
        refine law_no3 w k i u f s b k' i' u' f' s' b' hi hu hi' hu' hk hk' (fun n' m' h => ?_) D1 D2 hm
        have := h.2.1; rw [hm] at this; cases this; exact h.2.2 rfl
      · exact law_yes w k i u f s b k' i' u' f' s' b' hi hu hi' hu' hk hk' n m ⟨hn, hm, h0⟩
end Go.Proofs.Ytidmaimeanakeaa.Num
