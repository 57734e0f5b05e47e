/- The walks of MakeRange, Range and Span: for two ints of an amount of at most 2^60, at most 10000 apart or the last one less, the result is a slice of the call's own with the integers from the first to the last one. -/
import Derived.Test.YtlphfinmdacolaaRows
import Derived.WalkKit
import Derived.Deep.OwnRows
import Derived.Laws.OwnMore
import Derived.OwnWalk
import Derived.Outline
import Derived.WalkSpells
import Derived.WalkSmall
import Derived.Handy
import Derived.Lib.Hide
set_option linter.unusedSimpArgs false
set_option linter.unusedVariables false
namespace Go.Proofs.Ytlphfinmdacolaa.Rg
open Go.RowKit

/-- the integers from a on, n of them -/
def run (a : Int) : Nat → List Int
  | 0 => []
  | n + 1 => run a n ++ [a + n]

theorem run_len (a : Int) (n : Nat) : (run a n).length = n := by
  induction n with
  | zero => rfl
  | succ n ih => simp [run, ih]

theorem run_get (a : Int) (n i : Nat) (h : i < n) : (run a n)[i]? = some (a + i) := by
  induction n with
  | zero => omega
  | succ n ih =>
    rw [run]
    by_cases e : i < n
    · rw [List.getElem?_append_left (by rw [run_len]; exact e)]; exact ih e
    · have : i = n := by omega
      subst this
      rw [List.getElem?_append_right (by rw [run_len]; omega), run_len]; simp

/-- the value is a slice of the call's own (from block B on) with these ints -/
def Own (w : World) (B : Nat) (v : Value) (l : List Int) : Prop := w.ownsRow B 3 1 v l.length (l.map (Value.int .i64))

theorem info3 : (Try.prog.info? 3).map (fun i => (i.zero, i.size, i.bytes)) = some (some (.int .i64 0), 1, 8) := by kernel_rfl

theorem own_of_row {w : World} {b n B : Nat} {a : Int} (h : w.rowIs b 3 n (fun j => .int .i64 (a + j))) (hB : B ≤ b) (hn : n ≤ maxLen) : Own w B (.slice (some ⟨b, 0, none⟩) n n) (run a n) := by
  obtain ⟨c, hb, hs, hc⟩ := h
  have hl := run_len a n
  refine ⟨by simp, .inr ⟨b, n, c, by rw [hl], hB, hb, by omega, hn, by omega, ?_⟩⟩
  apply List.ext_getElem?
  intro i
  rw [Nat.mul_one, hl, List.getElem?_take, List.getElem?_map]
  by_cases hi : i < n
  · rw [if_pos hi, run_get a n i hi, Array.getElem?_toList, hc i hi]; rfl
  · rw [if_neg hi, List.getElem?_eq_none (by rw [hl]; omega)]; rfl

def Res (B : Nat) (w : World) (l : List Int) (e : Ending) (w' : World) : Prop := ∃ v, e = .returned v ∧ Own w' B v l ∧ Below B w w'

set_option maxHeartbeats 400000 in
theorem makeRange_none (a b : Int) (w : World) (h : b - a + 1 ≤ 0) (ha : -1152921504606846976 ≤ a) (ha' : a ≤ 1152921504606846976) (hb' : -1152921504606846976 ≤ b) (hb : b ≤ 1152921504606846976) :
    Calls Try.prog 16 #[.int .i64 a, .int .i64 b] w (Res w.heap.size w []) := by
  go_enter Try.func16, Try.ntmps16
  go_wp2
  go_ret
  refine ⟨_, rfl, ?_, (Below.refl _ _).alloc (Nat.le_refl _) _⟩
  exact World.ownsRow_lit w _ 0 (Nat.le_refl _) (by decide) rfl

set_option maxHeartbeats 400000 in
theorem makeRange_some (a b : Int) (n : Nat) (w : World) (hn : (n : Int) = b - a + 1) (h : 0 < n) (hm : n ≤ 10001) (ha : -1152921504606846976 ≤ a) (ha' : a ≤ 1152921504606846976) (hb' : -1152921504606846976 ≤ b) (hb : b ≤ 1152921504606846976) :
    Calls Try.prog 16 #[.int .i64 a, .int .i64 b] w (Res w.heap.size w (run a n)) := by
  have hmk := fun (c : Int) (hc : c = n) => by
    have := run_make_row' (P := Try.prog) 22 3 (.int .i64 0) 8 Try.underlying22 info3 rfl .i64 .i64 n (by omega) (by omega)
    rw [← hc] at this
    exact this
  have hmk' := hmk (b - a + 1) hn.symm
  clear hmk
  have HN := Lib.hid hn
  clear hn
  have h0 : 0 < b - a + 1 := by have := HN.out; omega
  go_enter Try.func16, Try.ntmps16
  go_wp2
  go_loopw [19] (fun i wr => ∃ k : Nat, k ≤ n ∧ i = .int .i64 k ∧ wr.rowIs w.heap.size 3 n (fun j => if j < k then .int .i64 (a + j) else .int .i64 0) ∧ Below w.heap.size w wr)
    (fun i _ => n - (intOf i).toNat)
  case atStart => exact ⟨0, Nat.zero_le _, rfl, (World.rowIs_made _ _ _ _).congr (fun i hi => by simp), (Below.refl _ _).alloc (Nat.le_refl _) _⟩
  case round =>
    obtain ⟨k, hk, rfl, hrow, hbel⟩ := hrel
    by_cases hlt : k < n
    · have hc := hrow.cell hlt
      have hf := hrow.frozen k
      have H := Lib.hid hrow
      clear hrow
      go_wp2
      go_roundw
      case rel =>
        refine ⟨k + 1, by omega, by go_num, (H.out.set k _).congr (fun i hi => ?_), hbel.setCell (Nat.le_refl _) _⟩
        by_cases e : i = k
        · subst e; simp
        · have : (i < k + 1) = (i < k) := by simp; omega
          simp [e, this]
      case measure => simp [intOf]; omega
    · have : k = n := by omega
      subst this
      have H := Lib.hid hrow
      clear hrow
      go_wp2
      go_ret
      refine ⟨_, rfl, ?_, hbel⟩
      exact own_of_row (H.out.congr (fun i hi => by rw [if_pos hi])) (Nat.le_refl _) (by unfold maxLen; omega)

theorem makeRange_any (a b : Int) (w : World) (hd : b - a ≤ 10000) (ha : -1152921504606846976 ≤ a) (ha' : a ≤ 1152921504606846976) (hb' : -1152921504606846976 ≤ b) (hb : b ≤ 1152921504606846976) :
    Calls Try.prog 16 #[.int .i64 a, .int .i64 b] w (Res w.heap.size w (run a (b - a + 1).toNat)) := by
  by_cases h : b - a + 1 ≤ 0
  · have e : (b - a + 1).toNat = 0 := by omega
    rw [e]
    exact makeRange_none a b w h ha ha' hb' hb
  · exact makeRange_some a b _ w (by omega) (by omega) (by omega) ha ha' hb' hb

theorem range_any (a b : Int) (w : World) (hd : b - a ≤ 10000) (ha : -1152921504606846976 ≤ a) (ha' : a ≤ 1152921504606846976) (hb' : -1152921504606846976 ≤ b) (hb : b ≤ 1152921504606846976) :
    Calls Try.prog 8 #[.int .i64 a, .int .i64 b] w (Res w.heap.size w (run a (b - a + 1).toNat)) := by
  go_enter Try.func8, Try.ntmps8
  go_wp2_with (go_at_call 16; refine (makeRange_any a b _ hd ha ha' hb' hb).mono ?_; rintro e w' ⟨v, rfl, hv, hb⟩)
  go_ret
  exact ⟨v, rfl, hv, hb⟩

set_option maxHeartbeats 400000 in
theorem span_any (a b : Int) (w : World) (hd : b - a ≤ 10000) (ha : -1152921504606846976 ≤ a) (ha' : a ≤ 1152921504606846976) (hb' : -1152921504606846976 ≤ b) (hb : b ≤ 1152921504606846976) :
    Calls Try.prog 9 #[.int .i64 a, .int .i64 b] w (Res w.heap.size w (run a (b - a + 1).toNat)) := by
  obtain ⟨i0, hi, hz0, hz1, hz2⟩ := info_parts info3
  go_enter Try.func9, Try.ntmps9
  go_wp2
  go_loopw [5, 6] (fun v i wr => ∃ k : Nat, k ≤ (b - a + 1).toNat ∧ i = .int .i64 (a + k) ∧ Own wr w.heap.size v (run a k) ∧ Below w.heap.size w wr)
    (fun _ i _ => (b + 1 - intOf i).toNat)
  case atStart => exact ⟨0, Nat.zero_le _, by simp, World.ownsRow_nil _ _ _ _, Below.refl _ _⟩
  case round =>
    obtain ⟨k, hk, rfl, hown, hbel⟩ := hrel
    have HO := Lib.hid hown
    clear hown
    have hz := hbel.size
    by_cases hlt : a + k ≤ b
    · have hl := run_len a k
      go_wp2_with (at_builtin; refine wpList_append_own _ rfl _ _ 22 rfl w.heap.size 3 i0 (.int .i64 0) 1 8 Try.underlying22 hi hz0 hz1 hz2 rfl (by decide) _ _ _ rfl (HO.out.alloc _) ⟨wr.heap.size, 0, none⟩ 1 1 [.int .i64 (a + k)] rfl rfl (cell_one_new _ _ _) (fun x hx => by simp at hx; subst hx; rfl) (by unfold maxLen; omega) (by omega) (by simp; omega) ?_; intro v' w1 hown' hgrow _)
      go_roundw
      case rel =>
        refine ⟨k + 1, by omega, by go_num, ?_, (hbel.alloc hz _).grown hgrow (by simp; omega) (fun q hq => (HO.out.lt q hq).1)⟩
        unfold Own
        rw [run, List.map_append, List.length_append]
        exact hown'
      case measure => simp [intOf]; omega
    · have hke : k = (b - a + 1).toNat := by omega
      subst hke
      go_wp2
      go_ret
      exact ⟨_, rfl, HO.out, hbel⟩

/-- what is read of an own slice -/
def Rd (w : World) (A : Option Addr) (a : Int) (n : Nat) : Prop :=
  0 < n → ∃ g, A = some ⟨g, 0, none⟩ ∧ g < w.heap.size ∧ ∀ j, j < n → w.cell? ⟨g, j, none⟩ = some (.int .i64 (a + j))

theorem Own.at_ {w : World} {B : Nat} {v : Value} {a : Int} {n : Nat} (h : Own w B v (run a n)) :
    ∃ A c, v = .slice A n c ∧ Rd w A a n := by
  have hl := run_len a n
  obtain ⟨h1, h2⟩ := h
  rcases h2 with ⟨hv, h0⟩ | ⟨g, cap, cur, hv, hB, hh, hnc, hcm, hcs, ht⟩
  · rw [hl] at h0
    subst h0
    exact ⟨none, 0, hv, fun h => absurd h (by omega)⟩
  · rw [hl] at hv hnc ht
    refine ⟨some ⟨g, 0, none⟩, cap, hv, fun _ => ⟨g, rfl, ?_, fun j hj => ?_⟩⟩
    · rcases Nat.lt_or_ge g w.heap.size with hlt | hge
      · exact hlt
      · rw [Array.getElem?_eq_none hge] at hh; cases hh
    · have e : cur.toList[j]? = some (.int .i64 (a + j)) := by
        have := congrArg (fun l => l[j]?) ht
        simp only [List.getElem?_take, Nat.mul_one, if_pos hj, List.getElem?_map, run_get a n j hj] at this
        exact this
      simp only [World.cell?, hh]
      simpa [← Array.getElem?_toList] using e

theorem Rd.below {w w' : World} {A : Option Addr} {a : Int} {n : Nat} (h : Rd w A a n) (hb : Below w.heap.size w w') : Rd w' A a n := by
  intro hn
  obtain ⟨g, hA, hg, hc⟩ := h hn
  exact ⟨g, hA, Nat.lt_of_lt_of_le hg hb.size, fun j hj => (hb.cell (p := ⟨g, j, none⟩) hg).trans (hc j hj)⟩

/-- a result: a slice whose cells are the integers from a on -/
def Got (w : World) (a : Int) (n : Nat) (e : Ending) (w' : World) : Prop := ∃ A c, e = .returned (.slice A n c) ∧ Rd w' A a n ∧ Below w.heap.size w w'

theorem Res.got {w : World} {a : Int} {n : Nat} {e : Ending} {w' : World} (h : Res w.heap.size w (run a n) e w') : Got w a n e w' := by
  obtain ⟨v, rfl, hv, hb⟩ := h
  obtain ⟨A, c, rfl, hr⟩ := hv.at_
  exact ⟨A, c, rfl, hr, hb⟩

set_option maxHeartbeats 400000 in
theorem law_out (a b : Int) (w : World) (h : a < -1152921504606846976 ∨ 1152921504606846976 < a ∨ b < -1152921504606846976 ∨ 1152921504606846976 < b) :
    Calls Try.prog 3 #[.int .i64 a, .int .i64 b] w fun e w' => e = .returned (.bool true) ∧ Below w.heap.size w w' := by
  by_cases h1 : a < -1152921504606846976
  · go_enter Try.func3, Try.ntmps3
    go_wp2
    go_ret
    exact ⟨rfl, Below.refl _ _⟩
  by_cases h2 : 1152921504606846976 < a
  · go_enter Try.func3, Try.ntmps3
    go_wp2
    go_ret
    exact ⟨rfl, Below.refl _ _⟩
  by_cases h3 : b < -1152921504606846976
  · go_enter Try.func3, Try.ntmps3
    go_wp2
    go_ret
    exact ⟨rfl, Below.refl _ _⟩
  have h4 : 1152921504606846976 < b := by omega
  clear h
  go_enter Try.func3, Try.ntmps3
  go_wp2
  go_ret
  exact ⟨rfl, Below.refl _ _⟩

set_option maxHeartbeats 400000 in
theorem law_far (a b : Int) (w : World) (h1 : -1152921504606846976 ≤ a) (h2 : a ≤ 1152921504606846976) (h3 : -1152921504606846976 ≤ b) (h4 : b ≤ 1152921504606846976) (h : 10000 < b - a) :
    Calls Try.prog 3 #[.int .i64 a, .int .i64 b] w fun e w' => e = .returned (.bool true) ∧ Below w.heap.size w w' := by
  go_enter Try.func3, Try.ntmps3
  go_wp2
  go_ret
  exact ⟨rfl, Below.refl _ _⟩

set_option maxHeartbeats 400000 in
theorem law_in (a b : Int) (w : World) (h1 : -1152921504606846976 ≤ a) (h2 : a ≤ 1152921504606846976) (h3 : -1152921504606846976 ≤ b) (h4 : b ≤ 1152921504606846976) (h : b - a ≤ 10000) :
    Calls Try.prog 3 #[.int .i64 a, .int .i64 b] w fun e w' => e = .returned (.bool true) ∧ Below w.heap.size w w' := by
  obtain ⟨n, hn⟩ : ∃ n : Nat, n = (b - a + 1).toNat := ⟨_, rfl⟩
  have hnb : n ≤ 10001 := by omega
  have R1 := fun W => (range_any a b W h h1 h2 h3 h4).mono fun _ _ => Res.got
  have S1 := fun W => (span_any a b W h h1 h2 h3 h4).mono fun _ _ => Res.got
  rw [← hn] at R1 S1
  have R := Lib.hid R1
  have S := Lib.hid S1
  clear R1 S1
  clear hn
  go_enter Try.func3, Try.ntmps3
  go_wp2_with (first
    | (go_at_call 8; refine (R.out _).mono ?_; rintro e w1 ⟨A, c, rfl, hA1, hb1⟩; have HA := Lib.hid hA1; have HB := Lib.hid hb1; clear hA1 hb1)
    | (go_at_call 9; refine (S.out _).mono ?_; rintro e w2 ⟨A2, c2, rfl, hA2, hb2⟩; have HA2 := Lib.hid hA2; have HB2 := Lib.hid hb2; clear hA2 hb2))
  have HA' := Lib.hid (HA.out.below HB2.out)
  go_loop [42] (fun i => ∃ k : Nat, k ≤ n ∧ i = .int .i64 k) (fun i => n - (intOf i).toNat)
  case atStart => exact ⟨0, Nat.zero_le _, rfl⟩
  case round =>
    obtain ⟨k, hk, rfl⟩ := hrel
    by_cases hlt : k < n
    · obtain ⟨g, rfl, _, hc1⟩ := HA'.out (by omega)
      obtain ⟨g2, rfl, _, hc2⟩ := HA2.out (by omega)
      have c1 := hc1 k hlt
      have c2 := hc2 k hlt
      clear hc1 hc2
      go_wp2
      go_round
      case rel => exact ⟨k + 1, by omega, by go_num⟩
      case measure => simp [intOf]; omega
    · go_wp2
      go_ret
      exact ⟨rfl, HB.out.trans (HB2.out.mono HB.out.size)⟩

theorem law_any (a b : Int) (w : World) (ha : (Lit.int .i64 a).wf = true) (hb : (Lit.int .i64 b).wf = true) :
    Calls Try.prog 3 #[.int .i64 a, .int .i64 b] w fun e w' => e = .returned (.bool true) ∧ Below w.heap.size w w' := by
  by_cases h : a < -1152921504606846976 ∨ 1152921504606846976 < a ∨ b < -1152921504606846976 ∨ 1152921504606846976 < b
  · exact law_out a b w h
  · by_cases h' : 10000 < b - a
    · exact law_far a b w (by omega) (by omega) (by omega) (by omega) h'
    · exact law_in a b w (by omega) (by omega) (by omega) (by omega) (by omega)
end Go.Proofs.Ytlphfinmdacolaa.Rg
