/- The walk of spec.Row: a line of a text. -/
import Derived.Test.YtlphfinmdacolaaDoorRRows
import Derived.Test.YtlphfinmdacolaaDoorRShelf
import Derived.WalkKit
import Derived.WalkSpells
import Derived.WalkLawsBesides
import Derived.Outline
import Derived.Handy
import Derived.Lib.Hide
set_option linter.unusedSimpArgs false
set_option linter.unusedVariables false
namespace Go.Proofs.YtlphfinmdacolaaDoorR.Sn
open Go.RowKit
def rowGo (line : Int) : List UInt8 → Int → List UInt8 → Option (List UInt8)
  | [], a, s => if a = line then some s else none
  | c :: r, a, s => if c = 10 then (if a = line then some s else rowGo line r (a + 1) []) else rowGo line r a (s ++ [c])
def Text (ANS : Option (List UInt8)) (w : World) (e : Ending) (w' : World) : Prop := (∃ t : ByteArray, e = .returned (.tuple #[.string t, .bool ANS.isSome]) ∧ t.data.toList = ANS.getD []) ∧ Below w.heap.size w w'
theorem drop_at (s : ByteArray) (k : Nat) (h : k < s.size) : s.data.toList.drop k = s[k] :: s.data.toList.drop (k + 1) := by
  rw [List.drop_eq_getElem_cons (by simpa using h)]; rfl
theorem drop_end (s : ByteArray) (k : Nat) (h : s.size ≤ k) : s.data.toList.drop k = [] := List.drop_eq_nil_of_le (by simpa using h)
theorem toNat_ten (c : UInt8) : ((c.toNat : Int) == 10) = decide (c = 10) := by
  rw [Bool.eq_iff_iff]; simp
  constructor
  · intro h; apply UInt8.toNat_inj.1; simpa using (by omega : c.toNat = 10)
  · rintro rfl; rfl
theorem append_at (s t : ByteArray) (k : Nat) (h : k < s.size) : (t ++ s.extract k (k + 1)).data.toList = t.data.toList ++ [s[k]] := by
  have h' : k < s.data.size := h
  rw [ByteArray.data_append, Array.toList_append, ByteArray.data_extract, Array.toList_extract]
  congr 1
  rw [List.extract_eq_take_drop]
  rw [List.drop_eq_getElem_cons (by simpa using h')]
  simp; rfl
set_option maxHeartbeats 400000 in
theorem row_any (s : ByteArray) (line : Int) (w : World) (hs : s.size ≤ 65536) (ANS : Option (List UInt8)) (hA : rowGo line s.data.toList 1 [] = ANS) :
    Calls Tryd.prog 6 #[.string s, .int .i64 line] w (Text ANS w) := by
  have HA := Lib.hid hA
  clear hA
  go_enter Tryd.func6, Tryd.ntmps6
  go_wp2
  go_loop [6, 7, 8] (fun a t i => ∃ (k : Nat) (at_ : Int) (tt : ByteArray), k ≤ s.size ∧ i = .int .i64 k ∧ a = .int .i64 at_ ∧ t = .string tt ∧ 1 ≤ at_ ∧ at_ ≤ k + 1 ∧ tt.size ≤ k ∧ rowGo line (s.data.toList.drop k) at_ tt.data.toList = ANS) (fun _ _ i => s.size - (intOf i).toNat)
  case atStart => exact ⟨0, 1, _, Nat.zero_le _, rfl, rfl, rfl, by omega, by omega, by simp [ByteArray.size], HA.out⟩
  case round =>
    obtain ⟨k, a, tt, hk, rfl, rfl, rfl, h1, h2, h3, hR⟩ := hrel
    have HR := Lib.hid hR
    clear hR
    by_cases hlt : k < s.size
    · have HD := Lib.hid (drop_at s k hlt)
      have HT := Lib.hid (append_at s tt k hlt)
      by_cases hc : s[k] = 10
      · have hc1 : ((s[k].toNat : Int) == 10) = true := by rw [toNat_ten]; simpa using hc
        have HC := Lib.hid hc
        clear hc
        by_cases ha : a = line
        · subst ha
          go_wp2
          go_ret2
          refine ⟨⟨tt, ?_, ?_⟩, by go_grown⟩
          · have := HR.out; rw [HD.out, rowGo, if_pos HC.out, if_pos rfl] at this; subst this; rfl
          · have := HR.out; rw [HD.out, rowGo, if_pos HC.out, if_pos rfl] at this; subst this; rfl
        · have ha1 : (a == line) = false := by simpa using ha
          have HN := Lib.hid ha
          clear ha
          go_wp2
          go_round
          case rel => exact ⟨k + 1, a + 1, _, by omega, by go_num, rfl, rfl, by omega, by omega, by simp [ByteArray.size], by have := HR.out; rw [HD.out, rowGo, if_pos HC.out, if_neg HN.out] at this; exact this⟩
          case measure => simp [intOf]; omega
      · have hc1 : ((s[k].toNat : Int) == 10) = false := by rw [toNat_ten]; simpa using hc
        have HC := Lib.hid hc
        clear hc
        go_wp2
        go_round
        case rel => exact ⟨k + 1, a, _, by omega, by go_num, rfl, rfl, by omega, by omega, by (simp [ByteArray.size_append, ByteArray.size_extract]; omega), by have := HR.out; rw [HD.out, rowGo, if_neg HC.out] at this; rw [HT.out]; exact this⟩
        case measure => simp [intOf]; omega
    · have HE := Lib.hid (drop_end s k (by omega))
      by_cases ha : a = line
      · subst ha
        go_wp2
        go_ret2
        refine ⟨⟨tt, ?_, ?_⟩, by go_grown⟩
        · have := HR.out; rw [HE.out, rowGo, if_pos rfl] at this; subst this; rfl
        · have := HR.out; rw [HE.out, rowGo, if_pos rfl] at this; subst this; rfl
      · have ha1 : (a == line) = false := by simpa using ha
        have HN := Lib.hid ha
        clear ha
        go_wp2
        go_ret2
        refine ⟨⟨⟨#[]⟩, ?_, ?_⟩, by go_grown⟩
        · have := HR.out; rw [HE.out, rowGo, if_neg HN.out] at this; subst this; rfl
        · have := HR.out; rw [HE.out, rowGo, if_neg HN.out] at this; subst this; rfl
end Go.Proofs.YtlphfinmdacolaaDoorR.Sn
