/- FnBind: impl.Bind and the law, walked. -/
import Derived.Test.YtlphfinmdacolaaDoorRBiBind
import Derived.Deep.QuietTactic
import Derived.BigQuiet
set_option linter.unusedSimpArgs false
set_option linter.unusedVariables false
namespace Go.Proofs.YtlphfinmdacolaaDoorR.Bi
open Go.RowKit
def Tells (x : Int × Int) (w : World) (e : Ending) (w' : World) : Prop := (∃ t : ByteArray, e = .returned (.tuple #[.int .i64 x.1, .int .i64 x.2, .string t])) ∧ Below w.heap.size w w'
set_option maxHeartbeats 800000 in
theorem ibind_any (s : ByteArray) (fr : Int) (w : World) (hs : s.size ≤ 65536) :
    Calls Tryd.prog 9 #[.string s, .int .i64 fr] w (Tells (spotGo s fr s.size 0 0 1 0) w) := by
  obtain ⟨ANS, hA⟩ : ∃ A, spotGo s fr s.size 0 0 1 0 = A := ⟨_, rfl⟩
  have BA := Lib.hid (fun w b B hB hE => bind_any s fr w b B hB hE hs)
  rw [hA] at *
  go_enter Tryd.func9, Tryd.ntmps9
  have E0 : Err (w.alloc (.cells #[.int .i64 fr, .int .i64 0, .int .i64 0, .int .i64 0, .string ⟨#[]⟩, .string ⟨#[]⟩, .nilIface] 47)) w.heap.size fr 0 0 ⟨#[]⟩ := heap_alloc_new w _
  have H0 := Lib.hid E0
  clear E0
  go_wp2_with (first
    | (go_at_call 12; refine (src_any s _).mono ?_; rintro e w1 ⟨rfl, hb1⟩; have H1 := Lib.hid (And.intro (by exact H0.out.below hb1 H0.out.lt : Err w1 w.heap.size fr 0 0 ⟨#[]⟩) hb1); clear hb1)
    | (go_at_call 14; refine (BA.out _ _ w.heap.size (Nat.le_refl _) H1.out.1).mono ?_; rintro e w2 ⟨rfl, ⟨sn, E2⟩, hb2⟩; have c2 := E2.c2; have c3 := E2.c3; have c5 := E2.c5; have H2 := Lib.hid hb2; clear E2 hb2))
  go_quiet (fail)
  go_wp2
  go_ret3
  exact ⟨⟨sn, rfl⟩, below_drewN (((Below.refl _ _).alloc (Nat.le_refl _) _).trans ((H1.out.2.mono (by simp)).trans H2.out)) _⟩
def Fine (w : World) (e : Ending) (w' : World) : Prop := e = .returned (.bool true) ∧ Below w.heap.size w w'
theorem rc_any (s : ByteArray) (w : World) (hs : s.size ≤ 65536) : Calls Tryd.prog 8 #[.string s] w (fun e w' => ∃ n : Int, e = .returned (.int .i64 n) ∧ Below w.heap.size w w') :=
  (Tryd.utf8_RuneCountInString s w (by omega)).mono fun e w' ⟨he, pos, hw⟩ => ⟨_, he, by rw [hw]; exact (Below.refl _ _).alloc (Nat.le_refl _) _⟩
set_option maxHeartbeats 800000 in
theorem law_any (s : ByteArray) (fr : Int) (w : World) (l0 : -9223372036854775808 ≤ fr) (h1 : fr ≤ 9223372036854775807)
    (HV : Calls Tryd.prog 5 #[.string s] w (fun e w' => ∃ b, e = .returned (.bool b) ∧ Below w.heap.size w w')) :
    Calls Tryd.prog 4 #[.string s, .int .i64 fr] w (Fine w) := by
  have V := Lib.hid HV
  clear HV
  by_cases hs : s.size ≤ 65536
  · obtain ⟨ANS, hA⟩ : ∃ A, spotGo s fr s.size 0 0 1 0 = A := ⟨_, rfl⟩
    have I := Lib.hid (fun w => ibind_any s fr w hs)
    have S := Lib.hid (fun w => spot_any s fr w hs)
    rw [hA] at *
    clear hA
    have hz : ¬ (2147483647 < (s.size : Int)) := by omega
    have hz2 : ¬ (65536 < (s.size : Int)) := by omega
    go_enter Tryd.func4, Tryd.ntmps4
    go_wp2_with (first
      | (go_at_call 5; refine V.out.mono ?_; rintro e w1 ⟨b, rfl, hb1⟩; cases b)
      | (go_at_call 8; refine (rc_any s _ hs).mono ?_; rintro e w2 ⟨n, rfl, hb2⟩)
      | (go_at_call 9; refine (I.out _).mono ?_; rintro e w3 ⟨⟨t, rfl⟩, hb3⟩)
      | (go_at_call 10; refine (S.out _).mono ?_; rintro e w4 ⟨rfl, hb4⟩))
    all_goals
      go_ret
      refine ⟨by simp, ?_⟩
      first
        | exact hb1
        | exact hb1.trans (hb2.mono hb1.size)
        | exact hb1.trans ((hb2.trans ((hb3.trans (hb4.mono hb3.size)).mono hb2.size)).mono hb1.size)
  · have hz2 : 65536 < (s.size : Int) := by omega
    go_enter Tryd.func4, Tryd.ntmps4
    go_wp2_with (fail)
    all_goals
      go_ret
      exact ⟨by simp, Below.refl _ _⟩
end Go.Proofs.YtlphfinmdacolaaDoorR.Bi
