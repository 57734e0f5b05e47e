/- The law of the conversions: the frame; the float32s. -/
import Derived.Test.YtaabfmmfneajoaaCv2
import Derived.Test.YtaabfmmfneajoaaFitB
import Derived.Test.YtaabfmmfneajoaaFitC
import Derived.Laws.Cover2
set_option linter.unusedSimpArgs false
set_option linter.unusedVariables false
namespace Go.Proofs.Ytaabfmmfneajoaa.Num
open Go.RowKit

theorem zz2 (w : World) (k i u : Int) (f : Nat) (s : ByteArray) (b : Bool) : Calls Try.prog 5 #[V k i u f s b] w (Ans w fun _ => True) := by
  go_enter Try.func5, Try.ntmps5
  go_wp2
  all_goals
    go_ret
    exact ⟨_, rfl, trivial, by go_grown⟩
def Fine (w : World) (e : Ending) (w' : World) : Prop := e = .returned (.bool true) ∧ Below w.heap.size w w'
theorem feq00 : feq 0 0 = true := by kernel_rfl
structure St (w w1 : World) (k i u : Int) (f : Nat) (s : ByteArray) (b : Bool) : Prop where
  below : Below w.heap.size w w1
  size : w.heap.size < w1.heap.size
  c0 : w1.cell? ⟨w.heap.size, 0, none⟩ = some (.int .i64 k)
  c1 : w1.cell? ⟨w.heap.size, 1, none⟩ = some (.int .i64 i)
  c2 : w1.cell? ⟨w.heap.size, 2, none⟩ = some (.int .u64 u)
  c3 : w1.cell? ⟨w.heap.size, 3, none⟩ = some (.float .f64 f)
  c4 : w1.cell? ⟨w.heap.size, 4, none⟩ = some (.string s)
  c5 : w1.cell? ⟨w.heap.size, 5, none⟩ = some (.bool b)
theorem St.first (w : World) (k i u : Int) (f : Nat) (s : ByteArray) (b : Bool) : St w (w.alloc (.cells #[.int .i64 k, .int .i64 i, .int .u64 u, .float .f64 f, .string s, .bool b] 25)) k i u f s b where
  below := by go_grown
  size := by simp [World.size_alloc]
  c0 := by simp [go_sem]
  c1 := by simp [go_sem]
  c2 := by simp [go_sem]
  c3 := by simp [go_sem]
  c4 := by simp [go_sem]
  c5 := by simp [go_sem]
theorem St.next {w w1 w2 : World} {k i u : Int} {f : Nat} {s : ByteArray} {b : Bool} (h : St w w1 k i u f s b) (hb : Below w1.heap.size w1 w2) : St w w2 k i u f s b where
  below := h.below.trans (hb.mono (Nat.le_of_lt h.size))
  size := Nat.lt_of_lt_of_le h.size hb.size
  c0 := (hb.cell (p := ⟨w.heap.size, 0, none⟩) h.size).trans h.c0
  c1 := (hb.cell (p := ⟨w.heap.size, 1, none⟩) h.size).trans h.c1
  c2 := (hb.cell (p := ⟨w.heap.size, 2, none⟩) h.size).trans h.c2
  c3 := (hb.cell (p := ⟨w.heap.size, 3, none⟩) h.size).trans h.c3
  c4 := (hb.cell (p := ⟨w.heap.size, 4, none⟩) h.size).trans h.c4
  c5 := (hb.cell (p := ⟨w.heap.size, 5, none⟩) h.size).trans h.c5
theorem St.drewN {w w1 : World} {k i u : Int} {f : Nat} {s : ByteArray} {b : Bool} (h : St w w1 k i u f s b) (n : Nat) : St w (w1.drewN n) k i u f s b where
  below := below_drewN h.below n
  size := h.size
  c0 := h.c0
  c1 := h.c1
  c2 := h.c2
  c3 := h.c3
  c4 := h.c4
  c5 := h.c5
theorem St.drew {w w1 : World} {k i u : Int} {f : Nat} {s : ByteArray} {b : Bool} (h : St w w1 k i u f s b) : St w w1.drew k i u f s b := h.drewN 1
noncomputable def cutI (f : Nat) (w : World) : Int := match floatToIntVal .f64 f .i64 with
  | some r => r
  | none => IntKind.i64.wrap ((Question.floatToInt .f64 f .i64).cut (w.tape w.drawn (.floatToInt .f64 f .i64)))
noncomputable def cutN (f : Nat) : Nat := if (floatToIntVal .f64 f .i64).isSome then 0 else 1
theorem run_cut (f : Nat) (w : World) : (convert 23 3 (.float .f64 f)).run Try.prog w = .ok (.int .i64 (cutI f w)) (w.drewN (cutN f)) := by
  unfold cutI cutN floatToIntVal
  have hq : (Question.floatToInt .f64 f .i64).forced = false := rfl
  cases h : (FloatKind.f64.decode f).toInt .zero with
  | none => simp [convert, run_underlying Try.underlying23, run_underlying Try.underlying3, Conv.floatToInt, h, World.drewN, hq]
  | some n =>
    by_cases hn : IntKind.i64.min ≤ n ∧ n ≤ IntKind.i64.max
    · simp only [if_pos hn, Option.isSome_some, if_true]
      have h2 : n ≤ 9223372036854775807 := hn.2
      simp [convert, run_underlying Try.underlying23, run_underlying Try.underlying3, Conv.floatToInt, h, World.drewN, hn.1, h2]
    · simp only [if_neg hn, Option.isSome_none, Bool.false_eq_true, if_false]
      have h2 : ¬ (IntKind.i64.min ≤ n ∧ n ≤ 9223372036854775807) := hn
      simp [convert, run_underlying Try.underlying23, run_underlying Try.underlying3, Conv.floatToInt, h, World.drewN, h2, hq]

theorem fits_12_nan (w : World) (i u : Int) (f : Nat) (s : ByteArray) (b : Bool) (h0 : -9223372036854775808 ≤ i) (h1 : i ≤ 9223372036854775807) (g0 : 0 ≤ u) (g1 : u ≤ 18446744073709551615) (on : feq f f = false) :
    Calls Try.prog 6 #[V 12 i u f s b] w (Ans w fun r => r = false) :=
  (fits_12 w i u f s b h0 h1 g0 g1).mono fun e w' ⟨r, he, hr, hb⟩ => ⟨r, he, by cases r; rfl; (have := (hr rfl).1; rw [on] at this; cases this), hb⟩
set_option maxHeartbeats 2000000 in
set_option maxRecDepth 100000 in
theorem fits_11_nan (w : World) (i u : Int) (f : Nat) (s : ByteArray) (b : Bool) (h0 : -9223372036854775808 ≤ i) (h1 : i ≤ 9223372036854775807) (g0 : 0 ≤ u) (g1 : u ≤ 18446744073709551615) (on : feq f f = false) :
    Calls Try.prog 6 #[V 11 i u f s b] w (Ans w fun r => r = false) := by
  have o : (FloatKind.f64.format.order f f == some Ordering.eq) = false := on
  clear on
  go_enter Try.func6, Try.ntmps6
  go_wp2
  all_goals
    go_ret
    exact ⟨_, rfl, rfl, by first | exact below_drewN (by go_grown) _ | go_grown⟩
set_option maxHeartbeats 2000000 in
set_option maxRecDepth 100000 in
theorem fits_11s (w : World) (i u : Int) (f : Nat) (s : ByteArray) (b : Bool) (r q : Nat) (hr : ∀ w, nar f w = r) (hr0 : narN f = 0) (hq : ∀ w, wid r w = q) (hq0 : widN r = 0) :
    Calls Try.prog 6 #[V 11 i u f s b] w (Ans w fun x => x = true → FloatKind.f64.format.order q f = some .eq) := by
  have hz := dz
  by_cases ho : FloatKind.f64.format.order q f = some .eq
  · have H := Lib.hid ho
    go_enter Try.func6, Try.ntmps6
    go_wp2
    all_goals
      go_ret
      exact ⟨_, rfl, fun _ => H.out, by first | exact below_drewN (by go_grown) _ | go_grown⟩
  · have o : (FloatKind.f64.format.order q f == some Ordering.eq) = false := by simp [ho]
    clear ho
    go_enter Try.func6, Try.ntmps6
    go_wp2
    all_goals
      go_ret
      exact ⟨_, rfl, fun h => by simp at h, by first | exact below_drewN (by go_grown) _ | go_grown⟩
end Go.Proofs.Ytaabfmmfneajoaa.Num
