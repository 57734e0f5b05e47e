/- FnSnippet: the plain laws of a line; impl.Snippet and the law, walked. -/
import Derived.Test.YtlphfinmdacolaaDoorRSnRow
set_option linter.unusedSimpArgs false
set_option linter.unusedVariables false
namespace Go.Proofs.YtlphfinmdacolaaDoorR.Sn
open Go.RowKit Go.Lib
theorem row_none (line i : Int) (l acc : List UInt8) (hi : i ≠ line) (h : indexByte l 10 < 0) : rowGo line l i acc = none := by
  induction l generalizing acc with
  | nil => simp [rowGo, hi]
  | cons b l ih =>
    unfold indexByte at h
    split at h
    · omega
    · rename_i hb
      have hb' : b ≠ 10 := by simpa using hb
      rw [rowGo, if_neg hb']
      apply ih
      have := indexByte_ge l 10
      split at h <;> simp_all
      omega
theorem row_next (line i : Int) (l acc : List UInt8) (hi : i ≠ line) (p : Nat) (h : indexByte l 10 = p) : rowGo line l i acc = rowGo line (l.drop (p + 1)) (i + 1) [] := by
  induction l generalizing acc p with
  | nil => simp [indexByte] at h
  | cons b l ih =>
    unfold indexByte at h
    split at h
    · rename_i hb
      have hb' : b = 10 := by simpa using hb
      obtain rfl : p = 0 := by omega
      rw [rowGo, if_pos hb', if_neg hi]; simp
    · rename_i hb
      have hb' : b ≠ 10 := by simpa using hb
      split at h
      · omega
      · rename_i h1
        have := indexByte_ge l 10
        have h1' : indexByte l 10 ≠ -1 := by simpa using h1
        rw [rowGo, if_neg hb', ih (acc ++ [b]) (p - 1) (by omega)]
        rw [show p - 1 + 1 = p by omega, List.drop_succ_cons]
theorem row_last (line : Int) (l acc : List UInt8) (h : indexByte l 10 < 0) : rowGo line l line acc = some (acc ++ l) := by
  induction l generalizing acc with
  | nil => simp [rowGo]
  | cons b l ih =>
    unfold indexByte at h
    split at h
    · omega
    · rename_i hb
      have hb' : b ≠ 10 := by simpa using hb
      rw [rowGo, if_neg hb', ih]
      · simp
      · have := indexByte_ge l 10
        split at h <;> simp_all
        omega
theorem row_found (line : Int) (l acc : List UInt8) (p : Nat) (h : indexByte l 10 = p) : rowGo line l line acc = some (acc ++ l.take p) := by
  induction l generalizing acc p with
  | nil => simp [indexByte] at h
  | cons b l ih =>
    unfold indexByte at h
    split at h
    · rename_i hb
      have hb' : b = 10 := by simpa using hb
      obtain rfl : p = 0 := by omega
      rw [rowGo, if_pos hb', if_pos rfl]; simp
    · rename_i hb
      have hb' : b ≠ 10 := by simpa using hb
      split at h
      · omega
      · rename_i h1
        have := indexByte_ge l 10
        have h1' : indexByte l 10 ≠ -1 := by simpa using h1
        rw [rowGo, if_neg hb', ih (acc ++ [b]) (p - 1) (by omega)]
        obtain ⟨q, rfl⟩ : ∃ q, p = q + 1 := ⟨p - 1, by omega⟩
        simp
theorem index_lt (l : List UInt8) (c : UInt8) : indexByte l c < l.length ∨ indexByte l c = -1 := by
  induction l with
  | nil => right; rfl
  | cons b l ih =>
    unfold indexByte
    split
    · left; simp
    · split
      · right; rfl
      · rename_i h
        have h' : indexByte l c ≠ -1 := by simpa using h
        left; simp; omega
theorem extract_drop (s : ByteArray) (k : Nat) : (s.extract k s.size).data.toList = s.data.toList.drop k := by
  rw [ByteArray.data_extract, Array.toList_extract, List.extract_eq_take_drop]
  apply List.take_of_length_le
  rw [List.length_drop]
  exact Nat.le_refl _
theorem idx_at (s : ByteArray) (k : Nat) (X : Int) (hX : indexByte (s.data.toList.drop k) 10 = X) (w : World) :
    Calls Tryd.prog 15 #[.string (s.extract k s.size), .int .u8 10] w fun e w' => e = .returned (.int .i64 X) ∧ w = w' := by
  refine (Tryd.strings_IndexByte (s.extract k s.size) 10 w).mono fun e w' ⟨he, hw⟩ => ⟨?_, hw.symm⟩
  rw [he, extract_drop]
  subst hX; rfl
theorem cut_at (s : ByteArray) (k p : Nat) : (s.extract k (k + p)).data.toList = (s.data.toList.drop k).take p := by
  rw [ByteArray.data_extract, Array.toList_extract, List.extract_eq_take_drop]
  congr 1; omega
set_option maxHeartbeats 800000 in
theorem snip_any (s : ByteArray) (line : Int) (w : World) (hs : s.size ≤ 65536) (h0 : 1 ≤ line) (h1 : line ≤ 9223372036854775807) (hne : s.toList.isEmpty = false) (ANS : Option (List UInt8)) (hA : rowGo line s.data.toList 1 [] = ANS) :
    Calls Tryd.prog 13 #[.agg #[.string s], .int .i64 line] w (Text ANS w) := by
  have HA := Lib.hid hA
  clear hA
  go_enter Tryd.func13, Tryd.ntmps13
  go_wp2_with (fail)
  go_loop [6, 7] (fun st i => ∃ (k a : Nat), k ≤ s.size ∧ st = .int .i64 k ∧ i = .int .i64 a ∧ 1 ≤ a ∧ (a : Int) ≤ line ∧ rowGo line (s.data.toList.drop k) a [] = ANS) (fun _ i => (line - RowKit.intOf i).toNat)
  case atStart => exact ⟨0, 1, Nat.zero_le _, rfl, rfl, by omega, by omega, HA.out⟩
  case round =>
    obtain ⟨k, a, hk, rfl, rfl, ha, hal, hR⟩ := hrel
    have HR := Lib.hid hR
    clear hR
    have X : ∃ X : Int, indexByte (s.data.toList.drop k) 10 = X := ⟨_, rfl⟩
    obtain ⟨X, hX⟩ := X
    have g1 : -1 ≤ X := by rw [← hX]; exact indexByte_ge _ _
    have g2 : X < s.size - k ∨ X = -1 := by
      have := index_lt (s.data.toList.drop k) 10
      rw [hX] at this; simp [List.length_drop] at this
      have e : s.data.size = s.size := rfl
      omega
    have HX := Lib.hid hX
    clear hX
    by_cases hlt : (a : Int) < line
    · by_cases hx : X < 0
      · go_wp2_with (go_at_call 15; refine (idx_at s k X HX.out _).mono ?_; rintro e w' ⟨rfl, rfl⟩)
        go_ret2
        have hn := row_none line a (s.data.toList.drop k) [] (by omega) (by rw [HX.out]; omega)
        have : ANS = none := by rw [← HR.out, hn]
        subst this
        exact ⟨⟨⟨#[]⟩, rfl, rfl⟩, by go_grown⟩
      · obtain ⟨p, rfl⟩ : ∃ p : Nat, X = p := ⟨X.toNat, by omega⟩
        have hn := Lib.hid (row_next line a (s.data.toList.drop k) [] (by omega) p HX.out)
        clear hx
        have g3 : p + k < s.size := by omega
        have g4 : ¬ ((p : Int) < 0) := by omega
        clear g1 g2
        go_wp2_with (go_at_call 15; refine (idx_at s k p HX.out _).mono ?_; rintro e w' ⟨rfl, rfl⟩)
        go_round
        case rel => exact ⟨k + (p + 1), a + 1, by omega, by go_num, by go_num, by omega, by omega, by have := HR.out; rw [hn.out, List.drop_drop] at this; exact_mod_cast this⟩
        case measure => simp [RowKit.intOf]; omega
    · obtain rfl : line = a := by omega
      by_cases hx : X < 0
      · have hxe : X = -1 := by omega
        subst hxe
        have hn := Lib.hid (row_last a (s.data.toList.drop k) [] (by rw [HX.out]; omega))
        clear g1 g2 hx
        go_wp2_with (go_at_call 15; refine (idx_at s k (-1) HX.out _).mono ?_; rintro e w' ⟨rfl, rfl⟩)
        go_ret2
        have := HR.out
        rw [hn.out] at this
        subst this
        exact ⟨⟨_, rfl, by rw [extract_drop]; rfl⟩, by go_grown⟩
      · obtain ⟨p, rfl⟩ : ∃ p : Nat, X = p := ⟨X.toNat, by omega⟩
        have hn := Lib.hid (row_found a (s.data.toList.drop k) [] p HX.out)
        have g3 : p + k < s.size := by omega
        have g4 : ¬ ((p : Int) < 0) := by omega
        clear g1 g2 hx
        go_wp2_with (go_at_call 15; refine (idx_at s k p HX.out _).mono ?_; rintro e w' ⟨rfl, rfl⟩)
        go_ret2
        have := HR.out
        rw [hn.out] at this
        subst this
        exact ⟨⟨_, rfl, by rw [cut_at]; rfl⟩, by go_grown⟩
theorem src_any (s : ByteArray) (w : World) : Calls Tryd.prog 12 #[.string s] w (fun e w' => e = .returned (.agg #[.string s]) ∧ Below w.heap.size w w') := by
  go_enter Tryd.func12, Tryd.ntmps12
  go_wp2
  go_returns
  exact ⟨rfl, by go_grown⟩
theorem isnip_any (s : ByteArray) (line : Int) (w : World) (hs : s.size ≤ 65536) (h0 : 1 ≤ line) (h1 : line ≤ 9223372036854775807) (hne : s.toList.isEmpty = false) (ANS : Option (List UInt8)) (hA : rowGo line s.data.toList 1 [] = ANS) :
    Calls Tryd.prog 7 #[.string s, .int .i64 line] w (Text ANS w) := by
  have H := Lib.hid (fun w => snip_any s line w hs h0 h1 hne ANS hA)
  have Q := Lib.hid hne
  clear hne hA
  go_enter Tryd.func7, Tryd.ntmps7
  go_wp2_with (first | (go_at_call 12; refine (src_any s _).mono ?_; rintro e w2 ⟨rfl, hb2⟩) | (go_at_call 13; refine (H.out _).mono ?_; rintro e w1 ⟨⟨t, rfl, ht⟩, hb⟩; have HT := Lib.hid ht; clear ht))
  go_ret2
  exact ⟨⟨t, rfl, HT.out⟩, by exact hb2.trans (hb.mono hb2.size)⟩
def Fine (w : World) (e : Ending) (w' : World) : Prop := e = .returned (.bool true) ∧ Below w.heap.size w w'
theorem same_text (s t : ByteArray) (h : s.data.toList = t.data.toList) : s = t := by
  cases s; cases t
  simp only [ByteArray.mk.injEq]
  exact Array.toList_inj.1 h
set_option maxHeartbeats 800000 in
theorem law_any (s : ByteArray) (line : Int) (w : World) (l0 : -9223372036854775808 ≤ line) (h1 : line ≤ 9223372036854775807)
    (HV : Calls Tryd.prog 5 #[.string s] w (fun e w' => ∃ b, e = .returned (.bool b) ∧ Below w.heap.size w w')) :
    Calls Tryd.prog 3 #[.string s, .int .i64 line] w (Fine w) := by
  have V := Lib.hid HV
  clear HV
  by_cases h0 : 1 ≤ line
  · by_cases hs : s.size ≤ 65536
    · cases hne : s.toList.isEmpty
      · have E : ∃ A, rowGo line s.data.toList 1 [] = A := ⟨_, rfl⟩
        obtain ⟨ANS, hA⟩ := E
        have R := Lib.hid (fun w => row_any s line w hs ANS hA)
        have I := Lib.hid (fun w => isnip_any s line w hs h0 h1 hne ANS hA)
        clear hA
        have hz : ¬ (2147483647 < (s.size : Int)) := by omega
        have hz2 : ¬ (65536 < (s.size : Int)) := by omega
        go_enter Tryd.func3, Tryd.ntmps3
        go_wp2_with (first
          | (go_at_call 5; refine V.out.mono ?_; rintro e w1 ⟨b, rfl, hb1⟩; cases b)
          | (go_at_call 6; refine (R.out _).mono ?_; rintro e w2 ⟨⟨t, rfl, ht⟩, hb2⟩; have HT := Lib.hid ht; clear ht)
          | (go_at_call 7; refine (I.out _).mono ?_; rintro e w3 ⟨⟨t3, rfl, ht3⟩, hb3⟩; obtain rfl : t3 = t := same_text _ _ (ht3.trans HT.out.symm); clear ht3))
        · go_ret
          exact ⟨rfl, hb1⟩
        · go_ret
          exact ⟨by simp, hb1.trans ((hb2.trans (hb3.mono hb2.size)).mono hb1.size)⟩
      · go_enter Tryd.func3, Tryd.ntmps3
        go_wp2_with (fail)
        all_goals
          go_ret
          exact ⟨by simp, Below.refl _ _⟩
    · have hz2 : 65536 < (s.size : Int) := by omega
      go_enter Tryd.func3, Tryd.ntmps3
      go_wp2_with (fail)
      all_goals
        go_ret
        exact ⟨by simp, Below.refl _ _⟩
  · have hz2 : line < 1 := by omega
    clear h0
    go_enter Tryd.func3, Tryd.ntmps3
    go_wp2_with (fail)
    all_goals
      go_ret
      exact ⟨by simp, Below.refl _ _⟩
end Go.Proofs.YtlphfinmdacolaaDoorR.Sn
