/- The law of the negatives: every kind. -/
import Derived.Test.YtaabfmmfneajoaaNegI
import Derived.Test.YtaabfmmfneajoaaFitB
import Derived.Test.YtaabfmmfneajoaaFitC
import Derived.Test.YtaabfmmfneajoaaFitD
set_option linter.unusedSimpArgs false
set_option linter.unusedVariables false
namespace Go.Proofs.Ytaabfmmfneajoaa.Num
open Go.RowKit

theorem order_self (d : Ieee.Datum) : d.order d = some .eq ↔ d.isNaN = false := by
  cases d <;> simp [Ieee.Datum.order, Ieee.Datum.isNaN]
theorem isNaN_read (f : Ieee.Format) (w : Nat) : (f.read w).isNaN = decide (f.binade ≤ w % f.signWeight ∧ f.infRung < w % f.signWeight) := by
  unfold Ieee.Format.read
  dsimp only
  split
  · rename_i h
    simp [Ieee.Datum.isNaN]; omega
  · split
    · simp [Ieee.Datum.isNaN]; omega
    · split
      · simp [Ieee.Datum.isNaN]; omega
      · simp [Ieee.Datum.isNaN]; omega
theorem order_neg (f : Nat) (h : feq f f = true) : FloatKind.f64.format.order (Op.negFloat .f64 f) (Op.negFloat .f64 f) = some Ordering.eq := by
  have h1 : Ieee.double.order f f = some .eq := by simpa [feq] using h
  show Ieee.double.order (Op.negFloat .f64 f) (Op.negFloat .f64 f) = some Ordering.eq
  unfold Ieee.Format.order at *
  rw [order_self, isNaN_read] at *
  have e : Op.negFloat .f64 f % Ieee.double.signWeight = f % Ieee.double.signWeight := by
    show (f ^^^ 2 ^ 63) % 2 ^ 63 = f % 2 ^ 63
    rw [Nat.xor_mod_two_pow]; simp
  rw [e]; exact h1

theorem zz2 (w : World) (k i u : Int) (f : Nat) (s : ByteArray) (b : Bool) : Calls Try.prog 5 #[V k i u f s b] w (Ans w fun _ => True) := by
  go_enter Try.func5, Try.ntmps5
  go_wp2
  all_goals
    go_ret
    exact ⟨_, rfl, trivial, by go_grown⟩
def Fine (w : World) (e : Ending) (w' : World) : Prop := e = .returned (.bool true) ∧ Below w.heap.size w w'
theorem feq00 : feq 0 0 = true := by kernel_rfl
structure St (w w1 : World) (k i u : Int) (f : Nat) (s : ByteArray) (b : Bool) : Prop where
  below : Below w.heap.size w w1
  size : w.heap.size < w1.heap.size
  c0 : w1.cell? ⟨w.heap.size, 0, none⟩ = some (.int .i64 k)
  c1 : w1.cell? ⟨w.heap.size, 1, none⟩ = some (.int .i64 i)
  c2 : w1.cell? ⟨w.heap.size, 2, none⟩ = some (.int .u64 u)
  c3 : w1.cell? ⟨w.heap.size, 3, none⟩ = some (.float .f64 f)
  c4 : w1.cell? ⟨w.heap.size, 4, none⟩ = some (.string s)
  c5 : w1.cell? ⟨w.heap.size, 5, none⟩ = some (.bool b)
theorem St.first (w : World) (k i u : Int) (f : Nat) (s : ByteArray) (b : Bool) : St w (w.alloc (.cells #[.int .i64 k, .int .i64 i, .int .u64 u, .float .f64 f, .string s, .bool b] 25)) k i u f s b where
  below := by go_grown
  size := by simp [World.size_alloc]
  c0 := by simp [go_sem]
  c1 := by simp [go_sem]
  c2 := by simp [go_sem]
  c3 := by simp [go_sem]
  c4 := by simp [go_sem]
  c5 := by simp [go_sem]
theorem St.next {w w1 w2 : World} {k i u : Int} {f : Nat} {s : ByteArray} {b : Bool} (h : St w w1 k i u f s b) (hb : Below w1.heap.size w1 w2) : St w w2 k i u f s b where
  below := h.below.trans (hb.mono (Nat.le_of_lt h.size))
  size := Nat.lt_of_lt_of_le h.size hb.size
  c0 := (hb.cell (p := ⟨w.heap.size, 0, none⟩) h.size).trans h.c0
  c1 := (hb.cell (p := ⟨w.heap.size, 1, none⟩) h.size).trans h.c1
  c2 := (hb.cell (p := ⟨w.heap.size, 2, none⟩) h.size).trans h.c2
  c3 := (hb.cell (p := ⟨w.heap.size, 3, none⟩) h.size).trans h.c3
  c4 := (hb.cell (p := ⟨w.heap.size, 4, none⟩) h.size).trans h.c4
  c5 := (hb.cell (p := ⟨w.heap.size, 5, none⟩) h.size).trans h.c5

set_option maxHeartbeats 2000000 in
theorem law_1 (w : World) (i u : Int) (f : Nat) (s : ByteArray) (b : Bool) (h0 : -9223372036854775808 ≤ i) (h1 : i ≤ 9223372036854775807) (g0 : 0 ≤ u) (g1 : u ≤ 18446744073709551615) : Calls Try.prog 3 #[V 1 i u f s b] w (Fine w) := by
  go_enter Try.func3, Try.ntmps3
  go_wp2_with (first
    | (go_at_call 5; refine (zz2 _ _ i u f s b).mono ?_; rintro e w1 ⟨r, rfl, hr, hb⟩; have S := (St.first w 1 i u f s b).next hb; clear hb; have c0 := S.c0; have c1 := S.c1; have c2 := S.c2; have c3 := S.c3; have c4 := S.c4; have c5 := S.c5; have hsz := S.size; have hB := S.below; cases r)
    | (go_at_call 6; refine (fits_1 _ i u f s b h0 h1 g0 g1).mono ?_; rintro e w2 ⟨r, rfl, hr2, hb⟩; replace S := S.next hb; clear hb c0 c1 c2 c3 c4 c5 hsz hB; have c0 := S.c0; have c1 := S.c1; have c2 := S.c2; have c3 := S.c3; have c4 := S.c4; have c5 := S.c5; have hsz := S.size; have hB := S.below; cases r)
    | (go_at_call 7; refine (neg_1 _ i u f s b h0 h1).mono ?_; rintro e w3 ⟨rfl, hb⟩; replace S := S.next hb; clear hb c0 c1 c2 c3 c4 c5 hsz hB; have c0 := S.c0; have c1 := S.c1; have c2 := S.c2; have c3 := S.c3; have c4 := S.c4; have c5 := S.c5; have hsz := S.size; have hB := S.below))
  all_goals
    go_ret
    refine ⟨?_, ?_⟩
    · first | rfl | (simp [feq00]; done) | (rw [order_neg f (hr2 (by simp)).1]; rfl) | go_goals
    · go_grown
set_option maxHeartbeats 2000000 in
theorem law_12 (w : World) (i u : Int) (f : Nat) (s : ByteArray) (b : Bool) (h0 : -9223372036854775808 ≤ i) (h1 : i ≤ 9223372036854775807) (g0 : 0 ≤ u) (g1 : u ≤ 18446744073709551615) : Calls Try.prog 3 #[V 12 i u f s b] w (Fine w) := by
  go_enter Try.func3, Try.ntmps3
  go_wp2_with (first
    | (go_at_call 5; refine (zz2 _ _ i u f s b).mono ?_; rintro e w1 ⟨r, rfl, hr, hb⟩; have S := (St.first w 12 i u f s b).next hb; clear hb; have c0 := S.c0; have c1 := S.c1; have c2 := S.c2; have c3 := S.c3; have c4 := S.c4; have c5 := S.c5; have hsz := S.size; have hB := S.below; cases r)
    | (go_at_call 6; refine (fits_12 _ i u f s b h0 h1 g0 g1).mono ?_; rintro e w2 ⟨r, rfl, hr2, hb⟩; replace S := S.next hb; clear hb c0 c1 c2 c3 c4 c5 hsz hB; have c0 := S.c0; have c1 := S.c1; have c2 := S.c2; have c3 := S.c3; have c4 := S.c4; have c5 := S.c5; have hsz := S.size; have hB := S.below; cases r)
    | (go_at_call 7; refine (neg_12 _ i u f s b).mono ?_; rintro e w3 ⟨rfl, hb⟩; replace S := S.next hb; clear hb c0 c1 c2 c3 c4 c5 hsz hB; have c0 := S.c0; have c1 := S.c1; have c2 := S.c2; have c3 := S.c3; have c4 := S.c4; have c5 := S.c5; have hsz := S.size; have hB := S.below))
  all_goals
    go_ret
    refine ⟨?_, ?_⟩
    · first | rfl | (simp [feq00]; done) | (rw [order_neg f (hr2 (by simp)).1]; rfl) | go_goals
    · go_grown
set_option maxHeartbeats 2000000 in
theorem law_13 (w : World) (i u : Int) (f : Nat) (s : ByteArray) (b : Bool) (h0 : -9223372036854775808 ≤ i) (h1 : i ≤ 9223372036854775807) (g0 : 0 ≤ u) (g1 : u ≤ 18446744073709551615) : Calls Try.prog 3 #[V 13 i u f s b] w (Fine w) := by
  go_enter Try.func3, Try.ntmps3
  go_wp2_with (first
    | (go_at_call 5; refine (zz2 _ _ i u f s b).mono ?_; rintro e w1 ⟨r, rfl, hr, hb⟩; have S := (St.first w 13 i u f s b).next hb; clear hb; have c0 := S.c0; have c1 := S.c1; have c2 := S.c2; have c3 := S.c3; have c4 := S.c4; have c5 := S.c5; have hsz := S.size; have hB := S.below; cases r)
    | (go_at_call 6; refine (fits_13 _ i u f s b h0 h1 g0 g1).mono ?_; rintro e w2 ⟨r, rfl, hr2, hb⟩; replace S := S.next hb; clear hb c0 c1 c2 c3 c4 c5 hsz hB; have c0 := S.c0; have c1 := S.c1; have c2 := S.c2; have c3 := S.c3; have c4 := S.c4; have c5 := S.c5; have hsz := S.size; have hB := S.below; cases r)
    | (go_at_call 7; refine (neg_13 _ i u f s b).mono ?_; rintro e w3 ⟨rfl, hb⟩; replace S := S.next hb; clear hb c0 c1 c2 c3 c4 c5 hsz hB; have c0 := S.c0; have c1 := S.c1; have c2 := S.c2; have c3 := S.c3; have c4 := S.c4; have c5 := S.c5; have hsz := S.size; have hB := S.below))
  all_goals
    go_ret
    refine ⟨?_, ?_⟩
    · first | rfl | (simp [feq00]; done) | (rw [order_neg f (hr2 (by simp)).1]; rfl) | go_goals
    · go_grown
set_option maxHeartbeats 2000000 in
theorem law_14 (w : World) (i u : Int) (f : Nat) (s : ByteArray) (b : Bool) (h0 : -9223372036854775808 ≤ i) (h1 : i ≤ 9223372036854775807) (g0 : 0 ≤ u) (g1 : u ≤ 18446744073709551615) : Calls Try.prog 3 #[V 14 i u f s b] w (Fine w) := by
  go_enter Try.func3, Try.ntmps3
  go_wp2_with (first
    | (go_at_call 5; refine (zz2 _ _ i u f s b).mono ?_; rintro e w1 ⟨r, rfl, hr, hb⟩; have S := (St.first w 14 i u f s b).next hb; clear hb; have c0 := S.c0; have c1 := S.c1; have c2 := S.c2; have c3 := S.c3; have c4 := S.c4; have c5 := S.c5; have hsz := S.size; have hB := S.below; cases r)
    | (go_at_call 6; refine (fits_14 _ i u f s b h0 h1 g0 g1).mono ?_; rintro e w2 ⟨r, rfl, hr2, hb⟩; replace S := S.next hb; clear hb c0 c1 c2 c3 c4 c5 hsz hB; have c0 := S.c0; have c1 := S.c1; have c2 := S.c2; have c3 := S.c3; have c4 := S.c4; have c5 := S.c5; have hsz := S.size; have hB := S.below; cases r)
    | (go_at_call 7; refine (neg_14 _ i u f s b).mono ?_; rintro e w3 ⟨rfl, hb⟩; replace S := S.next hb; clear hb c0 c1 c2 c3 c4 c5 hsz hB; have c0 := S.c0; have c1 := S.c1; have c2 := S.c2; have c3 := S.c3; have c4 := S.c4; have c5 := S.c5; have hsz := S.size; have hB := S.below))
  all_goals
    go_ret
    refine ⟨?_, ?_⟩
    · first | rfl | (simp [feq00]; done) | (rw [order_neg f (hr2 (by simp)).1]; rfl) | go_goals
    · go_grown
set_option maxHeartbeats 2000000 in
theorem law_0 (w : World) (i u : Int) (f : Nat) (s : ByteArray) (b : Bool) (h0 : -9223372036854775808 ≤ i) (h1 : i ≤ 9223372036854775807) (g0 : 0 ≤ u) (g1 : u ≤ 18446744073709551615) : Calls Try.prog 3 #[V 0 i u f s b] w (Fine w) := by
  go_enter Try.func3, Try.ntmps3
  go_wp2_with (first
    | (go_at_call 5; refine (zz2 _ _ i u f s b).mono ?_; rintro e w1 ⟨r, rfl, hr, hb⟩; have S := (St.first w 0 i u f s b).next hb; clear hb; have c0 := S.c0; have c1 := S.c1; have c2 := S.c2; have c3 := S.c3; have c4 := S.c4; have c5 := S.c5; have hsz := S.size; have hB := S.below; cases r)
    | (go_at_call 6; refine (fits_0 _ i u f s b h0 h1 g0 g1).mono ?_; rintro e w2 ⟨r, rfl, hr2, hb⟩; replace S := S.next hb; clear hb c0 c1 c2 c3 c4 c5 hsz hB; have c0 := S.c0; have c1 := S.c1; have c2 := S.c2; have c3 := S.c3; have c4 := S.c4; have c5 := S.c5; have hsz := S.size; have hB := S.below; cases r)
    | (go_at_call 7; refine (neg_0 _ i u f s b).mono ?_; rintro e w3 ⟨rfl, hb⟩; replace S := S.next hb; clear hb c0 c1 c2 c3 c4 c5 hsz hB; have c0 := S.c0; have c1 := S.c1; have c2 := S.c2; have c3 := S.c3; have c4 := S.c4; have c5 := S.c5; have hsz := S.size; have hB := S.below))
  all_goals
    go_ret
    refine ⟨?_, ?_⟩
    · first | rfl | (simp [feq00]; done) | (rw [order_neg f (hr2 (by simp)).1]; rfl) | go_goals
    · go_grown
set_option maxHeartbeats 2000000 in
theorem law_2 (w : World) (i u : Int) (f : Nat) (s : ByteArray) (b : Bool) (h0 : -9223372036854775808 ≤ i) (h1 : i ≤ 9223372036854775807) (g0 : 0 ≤ u) (g1 : u ≤ 18446744073709551615) : Calls Try.prog 3 #[V 2 i u f s b] w (Fine w) := by
  go_enter Try.func3, Try.ntmps3
  go_wp2_with (first
    | (go_at_call 5; refine (zz2 _ _ i u f s b).mono ?_; rintro e w1 ⟨r, rfl, hr, hb⟩; have S := (St.first w 2 i u f s b).next hb; clear hb; have c0 := S.c0; have c1 := S.c1; have c2 := S.c2; have c3 := S.c3; have c4 := S.c4; have c5 := S.c5; have hsz := S.size; have hB := S.below; cases r)
    | (go_at_call 6; refine (fits_2 _ i u f s b h0 h1 g0 g1).mono ?_; rintro e w2 ⟨r, rfl, hr2, hb⟩; replace S := S.next hb; clear hb c0 c1 c2 c3 c4 c5 hsz hB; have c0 := S.c0; have c1 := S.c1; have c2 := S.c2; have c3 := S.c3; have c4 := S.c4; have c5 := S.c5; have hsz := S.size; have hB := S.below; cases r))
  all_goals
    go_ret
    refine ⟨?_, ?_⟩
    · first | rfl | (simp [feq00]; done) | (rw [order_neg f (hr2 (by simp)).1]; rfl) | go_goals
    · go_grown
set_option maxHeartbeats 2000000 in
theorem law_3 (w : World) (i u : Int) (f : Nat) (s : ByteArray) (b : Bool) (h0 : -9223372036854775808 ≤ i) (h1 : i ≤ 9223372036854775807) (g0 : 0 ≤ u) (g1 : u ≤ 18446744073709551615) : Calls Try.prog 3 #[V 3 i u f s b] w (Fine w) := by
  go_enter Try.func3, Try.ntmps3
  go_wp2_with (first
    | (go_at_call 5; refine (zz2 _ _ i u f s b).mono ?_; rintro e w1 ⟨r, rfl, hr, hb⟩; have S := (St.first w 3 i u f s b).next hb; clear hb; have c0 := S.c0; have c1 := S.c1; have c2 := S.c2; have c3 := S.c3; have c4 := S.c4; have c5 := S.c5; have hsz := S.size; have hB := S.below; cases r)
    | (go_at_call 6; refine (fits_3 _ i u f s b h0 h1 g0 g1).mono ?_; rintro e w2 ⟨r, rfl, hr2, hb⟩; replace S := S.next hb; clear hb c0 c1 c2 c3 c4 c5 hsz hB; have c0 := S.c0; have c1 := S.c1; have c2 := S.c2; have c3 := S.c3; have c4 := S.c4; have c5 := S.c5; have hsz := S.size; have hB := S.below; cases r))
  all_goals
    go_ret
    refine ⟨?_, ?_⟩
    · first | rfl | (simp [feq00]; done) | (rw [order_neg f (hr2 (by simp)).1]; rfl) | go_goals
    · go_grown
set_option maxHeartbeats 2000000 in
theorem law_4 (w : World) (i u : Int) (f : Nat) (s : ByteArray) (b : Bool) (h0 : -9223372036854775808 ≤ i) (h1 : i ≤ 9223372036854775807) (g0 : 0 ≤ u) (g1 : u ≤ 18446744073709551615) : Calls Try.prog 3 #[V 4 i u f s b] w (Fine w) := by
  go_enter Try.func3, Try.ntmps3
  go_wp2_with (first
    | (go_at_call 5; refine (zz2 _ _ i u f s b).mono ?_; rintro e w1 ⟨r, rfl, hr, hb⟩; have S := (St.first w 4 i u f s b).next hb; clear hb; have c0 := S.c0; have c1 := S.c1; have c2 := S.c2; have c3 := S.c3; have c4 := S.c4; have c5 := S.c5; have hsz := S.size; have hB := S.below; cases r)
    | (go_at_call 6; refine (fits_4 _ i u f s b h0 h1 g0 g1).mono ?_; rintro e w2 ⟨r, rfl, hr2, hb⟩; replace S := S.next hb; clear hb c0 c1 c2 c3 c4 c5 hsz hB; have c0 := S.c0; have c1 := S.c1; have c2 := S.c2; have c3 := S.c3; have c4 := S.c4; have c5 := S.c5; have hsz := S.size; have hB := S.below; cases r))
  all_goals
    go_ret
    refine ⟨?_, ?_⟩
    · first | rfl | (simp [feq00]; done) | (rw [order_neg f (hr2 (by simp)).1]; rfl) | go_goals
    · go_grown
set_option maxHeartbeats 2000000 in
theorem law_5 (w : World) (i u : Int) (f : Nat) (s : ByteArray) (b : Bool) (h0 : -9223372036854775808 ≤ i) (h1 : i ≤ 9223372036854775807) (g0 : 0 ≤ u) (g1 : u ≤ 18446744073709551615) : Calls Try.prog 3 #[V 5 i u f s b] w (Fine w) := by
  go_enter Try.func3, Try.ntmps3
  go_wp2_with (first
    | (go_at_call 5; refine (zz2 _ _ i u f s b).mono ?_; rintro e w1 ⟨r, rfl, hr, hb⟩; have S := (St.first w 5 i u f s b).next hb; clear hb; have c0 := S.c0; have c1 := S.c1; have c2 := S.c2; have c3 := S.c3; have c4 := S.c4; have c5 := S.c5; have hsz := S.size; have hB := S.below; cases r)
    | (go_at_call 6; refine (fits_5 _ i u f s b h0 h1 g0 g1).mono ?_; rintro e w2 ⟨r, rfl, hr2, hb⟩; replace S := S.next hb; clear hb c0 c1 c2 c3 c4 c5 hsz hB; have c0 := S.c0; have c1 := S.c1; have c2 := S.c2; have c3 := S.c3; have c4 := S.c4; have c5 := S.c5; have hsz := S.size; have hB := S.below; cases r))
  all_goals
    go_ret
    refine ⟨?_, ?_⟩
    · first | rfl | (simp [feq00]; done) | (rw [order_neg f (hr2 (by simp)).1]; rfl) | go_goals
    · go_grown
set_option maxHeartbeats 2000000 in
theorem law_6 (w : World) (i u : Int) (f : Nat) (s : ByteArray) (b : Bool) (h0 : -9223372036854775808 ≤ i) (h1 : i ≤ 9223372036854775807) (g0 : 0 ≤ u) (g1 : u ≤ 18446744073709551615) : Calls Try.prog 3 #[V 6 i u f s b] w (Fine w) := by
  go_enter Try.func3, Try.ntmps3
  go_wp2_with (first
    | (go_at_call 5; refine (zz2 _ _ i u f s b).mono ?_; rintro e w1 ⟨r, rfl, hr, hb⟩; have S := (St.first w 6 i u f s b).next hb; clear hb; have c0 := S.c0; have c1 := S.c1; have c2 := S.c2; have c3 := S.c3; have c4 := S.c4; have c5 := S.c5; have hsz := S.size; have hB := S.below; cases r)
    | (go_at_call 6; refine (fits_6 _ i u f s b h0 h1 g0 g1).mono ?_; rintro e w2 ⟨r, rfl, hr2, hb⟩; replace S := S.next hb; clear hb c0 c1 c2 c3 c4 c5 hsz hB; have c0 := S.c0; have c1 := S.c1; have c2 := S.c2; have c3 := S.c3; have c4 := S.c4; have c5 := S.c5; have hsz := S.size; have hB := S.below; cases r))
  all_goals
    go_ret
    refine ⟨?_, ?_⟩
    · first | rfl | (simp [feq00]; done) | (rw [order_neg f (hr2 (by simp)).1]; rfl) | go_goals
    · go_grown
set_option maxHeartbeats 2000000 in
theorem law_7 (w : World) (i u : Int) (f : Nat) (s : ByteArray) (b : Bool) (h0 : -9223372036854775808 ≤ i) (h1 : i ≤ 9223372036854775807) (g0 : 0 ≤ u) (g1 : u ≤ 18446744073709551615) : Calls Try.prog 3 #[V 7 i u f s b] w (Fine w) := by
  go_enter Try.func3, Try.ntmps3
  go_wp2_with (first
    | (go_at_call 5; refine (zz2 _ _ i u f s b).mono ?_; rintro e w1 ⟨r, rfl, hr, hb⟩; have S := (St.first w 7 i u f s b).next hb; clear hb; have c0 := S.c0; have c1 := S.c1; have c2 := S.c2; have c3 := S.c3; have c4 := S.c4; have c5 := S.c5; have hsz := S.size; have hB := S.below; cases r)
    | (go_at_call 6; refine (fits_7 _ i u f s b h0 h1 g0 g1).mono ?_; rintro e w2 ⟨r, rfl, hr2, hb⟩; replace S := S.next hb; clear hb c0 c1 c2 c3 c4 c5 hsz hB; have c0 := S.c0; have c1 := S.c1; have c2 := S.c2; have c3 := S.c3; have c4 := S.c4; have c5 := S.c5; have hsz := S.size; have hB := S.below; cases r))
  all_goals
    go_ret
    refine ⟨?_, ?_⟩
    · first | rfl | (simp [feq00]; done) | (rw [order_neg f (hr2 (by simp)).1]; rfl) | go_goals
    · go_grown
set_option maxHeartbeats 2000000 in
theorem law_8 (w : World) (i u : Int) (f : Nat) (s : ByteArray) (b : Bool) (h0 : -9223372036854775808 ≤ i) (h1 : i ≤ 9223372036854775807) (g0 : 0 ≤ u) (g1 : u ≤ 18446744073709551615) : Calls Try.prog 3 #[V 8 i u f s b] w (Fine w) := by
  go_enter Try.func3, Try.ntmps3
  go_wp2_with (first
    | (go_at_call 5; refine (zz2 _ _ i u f s b).mono ?_; rintro e w1 ⟨r, rfl, hr, hb⟩; have S := (St.first w 8 i u f s b).next hb; clear hb; have c0 := S.c0; have c1 := S.c1; have c2 := S.c2; have c3 := S.c3; have c4 := S.c4; have c5 := S.c5; have hsz := S.size; have hB := S.below; cases r)
    | (go_at_call 6; refine (fits_8 _ i u f s b h0 h1 g0 g1).mono ?_; rintro e w2 ⟨r, rfl, hr2, hb⟩; replace S := S.next hb; clear hb c0 c1 c2 c3 c4 c5 hsz hB; have c0 := S.c0; have c1 := S.c1; have c2 := S.c2; have c3 := S.c3; have c4 := S.c4; have c5 := S.c5; have hsz := S.size; have hB := S.below; cases r))
  all_goals
    go_ret
    refine ⟨?_, ?_⟩
    · first | rfl | (simp [feq00]; done) | (rw [order_neg f (hr2 (by simp)).1]; rfl) | go_goals
    · go_grown
set_option maxHeartbeats 2000000 in
theorem law_9 (w : World) (i u : Int) (f : Nat) (s : ByteArray) (b : Bool) (h0 : -9223372036854775808 ≤ i) (h1 : i ≤ 9223372036854775807) (g0 : 0 ≤ u) (g1 : u ≤ 18446744073709551615) : Calls Try.prog 3 #[V 9 i u f s b] w (Fine w) := by
  go_enter Try.func3, Try.ntmps3
  go_wp2_with (first
    | (go_at_call 5; refine (zz2 _ _ i u f s b).mono ?_; rintro e w1 ⟨r, rfl, hr, hb⟩; have S := (St.first w 9 i u f s b).next hb; clear hb; have c0 := S.c0; have c1 := S.c1; have c2 := S.c2; have c3 := S.c3; have c4 := S.c4; have c5 := S.c5; have hsz := S.size; have hB := S.below; cases r)
    | (go_at_call 6; refine (fits_9 _ i u f s b h0 h1 g0 g1).mono ?_; rintro e w2 ⟨r, rfl, hr2, hb⟩; replace S := S.next hb; clear hb c0 c1 c2 c3 c4 c5 hsz hB; have c0 := S.c0; have c1 := S.c1; have c2 := S.c2; have c3 := S.c3; have c4 := S.c4; have c5 := S.c5; have hsz := S.size; have hB := S.below; cases r))
  all_goals
    go_ret
    refine ⟨?_, ?_⟩
    · first | rfl | (simp [feq00]; done) | (rw [order_neg f (hr2 (by simp)).1]; rfl) | go_goals
    · go_grown
set_option maxHeartbeats 2000000 in
theorem law_10 (w : World) (i u : Int) (f : Nat) (s : ByteArray) (b : Bool) (h0 : -9223372036854775808 ≤ i) (h1 : i ≤ 9223372036854775807) (g0 : 0 ≤ u) (g1 : u ≤ 18446744073709551615) : Calls Try.prog 3 #[V 10 i u f s b] w (Fine w) := by
  go_enter Try.func3, Try.ntmps3
  go_wp2_with (first
    | (go_at_call 5; refine (zz2 _ _ i u f s b).mono ?_; rintro e w1 ⟨r, rfl, hr, hb⟩; have S := (St.first w 10 i u f s b).next hb; clear hb; have c0 := S.c0; have c1 := S.c1; have c2 := S.c2; have c3 := S.c3; have c4 := S.c4; have c5 := S.c5; have hsz := S.size; have hB := S.below; cases r)
    | (go_at_call 6; refine (fits_10 _ i u f s b h0 h1 g0 g1).mono ?_; rintro e w2 ⟨r, rfl, hr2, hb⟩; replace S := S.next hb; clear hb c0 c1 c2 c3 c4 c5 hsz hB; have c0 := S.c0; have c1 := S.c1; have c2 := S.c2; have c3 := S.c3; have c4 := S.c4; have c5 := S.c5; have hsz := S.size; have hB := S.below; cases r))
  all_goals
    go_ret
    refine ⟨?_, ?_⟩
    · first | rfl | (simp [feq00]; done) | (rw [order_neg f (hr2 (by simp)).1]; rfl) | go_goals
    · go_grown
set_option maxHeartbeats 2000000 in
theorem law_11 (w : World) (i u : Int) (f : Nat) (s : ByteArray) (b : Bool) (h0 : -9223372036854775808 ≤ i) (h1 : i ≤ 9223372036854775807) (g0 : 0 ≤ u) (g1 : u ≤ 18446744073709551615) : Calls Try.prog 3 #[V 11 i u f s b] w (Fine w) := by
  go_enter Try.func3, Try.ntmps3
  go_wp2_with (first
    | (go_at_call 5; refine (zz2 _ _ i u f s b).mono ?_; rintro e w1 ⟨r, rfl, hr, hb⟩; have S := (St.first w 11 i u f s b).next hb; clear hb; have c0 := S.c0; have c1 := S.c1; have c2 := S.c2; have c3 := S.c3; have c4 := S.c4; have c5 := S.c5; have hsz := S.size; have hB := S.below; cases r)
    | (go_at_call 6; refine (fits_11 _ i u f s b h0 h1 g0 g1).mono ?_; rintro e w2 ⟨r, rfl, hr2, hb⟩; replace S := S.next hb; clear hb c0 c1 c2 c3 c4 c5 hsz hB; have c0 := S.c0; have c1 := S.c1; have c2 := S.c2; have c3 := S.c3; have c4 := S.c4; have c5 := S.c5; have hsz := S.size; have hB := S.below; cases r))
  all_goals
    go_ret
    refine ⟨?_, ?_⟩
    · first | rfl | (simp [feq00]; done) | (rw [order_neg f (hr2 (by simp)).1]; rfl) | go_goals
    · go_grown
set_option maxHeartbeats 2000000 in
theorem law_no (k : Int) (hk : k < 0 ∨ 14 < k) (hk0 : -9223372036854775808 ≤ k) (hk1 : k ≤ 9223372036854775807) (w : World) (i u : Int) (f : Nat) (s : ByteArray) (b : Bool) (h0 : -9223372036854775808 ≤ i) (h1 : i ≤ 9223372036854775807) (g0 : 0 ≤ u) (g1 : u ≤ 18446744073709551615) : Calls Try.prog 3 #[V k i u f s b] w (Fine w) := by
  go_enter Try.func3, Try.ntmps3
  go_wp2_with (first
    | (go_at_call 5; refine (zz2 _ _ i u f s b).mono ?_; rintro e w1 ⟨r, rfl, hr, hb⟩; have S := (St.first w k i u f s b).next hb; clear hb; have c0 := S.c0; have c1 := S.c1; have c2 := S.c2; have c3 := S.c3; have c4 := S.c4; have c5 := S.c5; have hsz := S.size; have hB := S.below; cases r)
    | (go_at_call 6; refine (fits_no k hk _ i u f s b h0 h1 g0 g1).mono ?_; rintro e w2 ⟨r, rfl, rfl, hb⟩; replace S := S.next hb; clear hb c0 c1 c2 c3 c4 c5 hsz hB; have c0 := S.c0; have c1 := S.c1; have c2 := S.c2; have c3 := S.c3; have c4 := S.c4; have c5 := S.c5; have hsz := S.size; have hB := S.below))
  all_goals
    go_ret
    refine ⟨?_, ?_⟩
    · first | rfl | (simp [feq00]; done) | (rw [order_neg f (hr2 (by simp)).1]; rfl) | go_goals
    · go_grown

theorem law (k : Int) (hk0 : -9223372036854775808 ≤ k) (hk1 : k ≤ 9223372036854775807) (w : World) (i u : Int) (f : Nat) (s : ByteArray) (b : Bool) (h0 : -9223372036854775808 ≤ i) (h1 : i ≤ 9223372036854775807) (g0 : 0 ≤ u) (g1 : u ≤ 18446744073709551615) : Calls Try.prog 3 #[V k i u f s b] w (Fine w) := by
  by_cases hk : k < 0 ∨ 14 < k
  · exact law_no k hk hk0 hk1 w i u f s b h0 h1 g0 g1
  · have : k = 0 ∨ k = 1 ∨ k = 2 ∨ k = 3 ∨ k = 4 ∨ k = 5 ∨ k = 6 ∨ k = 7 ∨ k = 8 ∨ k = 9 ∨ k = 10 ∨ k = 11 ∨ k = 12 ∨ k = 13 ∨ k = 14 := by omega
    rcases this with rfl | rfl | rfl | rfl | rfl | rfl | rfl | rfl | rfl | rfl | rfl | rfl | rfl | rfl | rfl
    · exact law_0 w i u f s b h0 h1 g0 g1
    · exact law_1 w i u f s b h0 h1 g0 g1
    · exact law_2 w i u f s b h0 h1 g0 g1
    · exact law_3 w i u f s b h0 h1 g0 g1
    · exact law_4 w i u f s b h0 h1 g0 g1
    · exact law_5 w i u f s b h0 h1 g0 g1
    · exact law_6 w i u f s b h0 h1 g0 g1
    · exact law_7 w i u f s b h0 h1 g0 g1
    · exact law_8 w i u f s b h0 h1 g0 g1
    · exact law_9 w i u f s b h0 h1 g0 g1
    · exact law_10 w i u f s b h0 h1 g0 g1
    · exact law_11 w i u f s b h0 h1 g0 g1
    · exact law_12 w i u f s b h0 h1 g0 g1
    · exact law_13 w i u f s b h0 h1 g0 g1
    · exact law_14 w i u f s b h0 h1 g0 g1
end Go.Proofs.Ytaabfmmfneajoaa.Num
