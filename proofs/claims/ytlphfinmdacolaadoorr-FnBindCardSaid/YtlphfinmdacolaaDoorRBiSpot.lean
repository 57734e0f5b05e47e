/- The walk of spec.Spot: the line and the column of a place. -/
import Derived.Test.YtlphfinmdacolaaDoorRRows
import Derived.Test.YtlphfinmdacolaaDoorRShelfB
import Derived.WalkKit
import Derived.WalkSpells
import Derived.WalkLawsBesides
import Derived.Outline
import Derived.Handy
import Derived.Lib.Hide
import Derived.Lib.OthersKept
set_option linter.unusedSimpArgs false
set_option linter.unusedVariables false
namespace Go.Proofs.YtlphfinmdacolaaDoorR.Bi
open Go.RowKit

def spotGo (s : ByteArray) (fr : Int) : Nat → Nat → Int → Int → Int → Int × Int
  | 0, _, _, line, col => (line, col)
  | fuel + 1, pos, i, line, col => if pos < s.size then (if i = fr then (line, col) else if (Utf8.decode s pos).1 = 10 then spotGo s fr fuel (pos + (Utf8.decode s pos).2) (i + 1) (line + 1) 0 else spotGo s fr fuel (pos + (Utf8.decode s pos).2) (i + 1) line (col + 1)) else (line, col)
theorem spot_end (s : ByteArray) (fr : Int) (fuel pos : Nat) (i line col : Int) (h : ¬ pos < s.size) : spotGo s fr fuel pos i line col = (line, col) := by
  cases fuel <;> simp [spotGo, h]
theorem width_pos (s : ByteArray) (pos : Nat) (h : pos < s.size) : 1 ≤ (Utf8.decode s pos).2 := by
  by_cases ha : (s[pos]'h).toNat < 128
  · rw [decode_ascii s pos h ha]
    exact Nat.le_refl _
  · exact (decode_high s pos h (by omega)).2
theorem width_le (s : ByteArray) (pos : Nat) : (Utf8.decode s pos).2 ≤ 4 := by
  simp only [Utf8.decode]
  repeat' split
  all_goals simp
def Spot (x : Int × Int) (w : World) (e : Ending) (w' : World) : Prop := e = .returned (.tuple #[.int .i64 x.1, .int .i64 x.2]) ∧ Below w.heap.size w w'

set_option maxHeartbeats 800000 in
theorem spot_any (s : ByteArray) (fr : Int) (w : World) (hs : s.size ≤ 65536) :
    Calls Tryd.prog 10 #[.string s, .int .i64 fr] w (Spot (spotGo s fr s.size 0 0 1 0) w) := by
  obtain ⟨ANS, hA⟩ : ∃ A, spotGo s fr s.size 0 0 1 0 = A := ⟨_, rfl⟩
  rw [hA]
  have HA := Lib.hid hA
  clear hA
  go_enter Tryd.func10, Tryd.ntmps10
  go_wp2_with (fail)
  go_loopw [4, 5, 6] (fun a b c wr => ∃ (pos fuel : Nat) (line col i : Int), a = .int .i64 line ∧ b = .int .i64 col ∧ c = .int .i64 i ∧ 1 ≤ line ∧ line ≤ pos + 1 ∧ 0 ≤ col ∧ col ≤ pos ∧ 0 ≤ i ∧ i ≤ pos ∧ pos ≤ s.size + 4 ∧ wr.heap[w.heap.size]? = some (.stringIter s pos) ∧ Below w.heap.size w wr ∧ spotGo s fr fuel pos i line col = ANS ∧ s.size ≤ pos + fuel) (fun _ _ _ wr => s.size - wr.iterPos w.heap.size)
  case atStart =>
    refine ⟨0, s.size, 1, 0, 0, rfl, rfl, rfl, by omega, by omega, by omega, by omega, by omega, by omega, by omega, ?_, (Below.refl _ w).alloc (Nat.le_refl _) _, HA.out, by omega⟩
    have := World.iter_heap w s 0
    simpa using this
  case round =>
    obtain ⟨pos, fuel, line, col, i, rfl, rfl, rfl, l1, l2, c1, c2, i1, i2, hps, hit, hbw, hR, hfu⟩ := hrel
    have HR := Lib.hid hR
    clear hR
    by_cases hp : pos < s.size
    · have hnx : ∀ ty, (Instr.next (.pointer (some ⟨w.heap.size, 0, none⟩)) true ty).run Tryd.prog wr = _ := fun ty => Lib.run_next_any_at wr w.heap.size s pos ty hit hp
      have hwd := width_pos s pos hp
      have hd1 := decode_le s pos
      have hw4 := width_le s pos
      have hit2 := Lib.iterAt_heap wr w.heap.size s pos (pos + (Utf8.decode s pos).2) hit
      have hbw2 := Lib.below_iterAt hbw (k := w.heap.size) (by omega) s (pos + (Utf8.decode s pos).2)
      obtain ⟨f, rfl⟩ : ∃ f, fuel = f + 1 := ⟨fuel - 1, by omega⟩
      by_cases hi : i = fr
      · have hi1 : (i == fr) = true := by simpa using hi
        have HI := Lib.hid hi
        clear hi
        go_wp2_with (fail)
        go_ret2
        have := HR.out
        rw [spotGo, if_pos hp, if_pos HI.out] at this
        subst this
        exact ⟨rfl, hbw2⟩
      · have hi1 : (i == fr) = false := by simpa using hi
        have HI := Lib.hid hi
        clear hi
        by_cases h10 : (Utf8.decode s pos).1 = 10
        · have hc : ((((Utf8.decode s pos).1 : Nat) : Int) == 10) = true := by rw [h10]; rfl
          have HC := Lib.hid h10
          clear h10
          go_wp2_with (fail)
          go_roundw
          case rel =>
            refine ⟨pos + (Utf8.decode s pos).2, f, _, _, _, rfl, rfl, rfl, by omega, by omega, by omega, by omega, by omega, by omega, by omega, hit2, hbw2, ?_, by omega⟩
            have := HR.out
            rw [spotGo, if_pos hp, if_neg HI.out, if_pos HC.out] at this
            exact this
          case measure =>
            simp only [World.iterPos, hit2, hit]
            omega
        · have hc : ((((Utf8.decode s pos).1 : Nat) : Int) == 10) = false := by
            simp only [beq_eq_false_iff_ne, ne_eq]; omega
          have HC := Lib.hid h10
          clear h10
          go_wp2_with (fail)
          go_roundw
          case rel =>
            refine ⟨pos + (Utf8.decode s pos).2, f, _, _, _, rfl, rfl, rfl, by omega, by omega, by omega, by omega, by omega, by omega, by omega, hit2, hbw2, ?_, by omega⟩
            have := HR.out
            rw [spotGo, if_pos hp, if_neg HI.out, if_neg HC.out] at this
            exact this
          case measure =>
            simp only [World.iterPos, hit2, hit]
            omega
    · have hnx : ∀ ty, (Instr.next (.pointer (some ⟨w.heap.size, 0, none⟩)) true ty).run Tryd.prog wr = _ := fun ty => Lib.run_next_end_at wr w.heap.size s pos ty hit hp
      go_wp2_with (fail)
      go_ret2
      have := HR.out
      rw [spot_end s fr fuel pos i line col hp] at this
      subst this
      exact ⟨rfl, hbw⟩
end Go.Proofs.YtlphfinmdacolaaDoorR.Bi
