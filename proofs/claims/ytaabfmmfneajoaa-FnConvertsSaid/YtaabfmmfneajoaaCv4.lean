/- The law of the conversions, kind by kind. (Printed by gen6.py.) -/
import Derived.Test.YtaabfmmfneajoaaCv3
set_option linter.unusedSimpArgs false
set_option linter.unusedVariables false
namespace Go.Proofs.Ytaabfmmfneajoaa.Num
open Go.RowKit
set_option maxHeartbeats 2000000 in
theorem cv_0 (w : World) (i u : Int) (f : Nat) (s : ByteArray) (b : Bool) (h0 : -9223372036854775808 ≤ i) (h1 : i ≤ 9223372036854775807) (g0 : 0 ≤ u) (g1 : u ≤ 18446744073709551615)  : Calls Try.prog 4 #[V 0 i u f s b] w (Fine w) := by
  have F := Lib.hid (fun w => fits_0 w i u f s b h0 h1 g0 g1)
  go_enter Try.func4, Try.ntmps4
  go_wp2_with (first
    | (go_at_call 5; refine (zz2 _ _ i u f s b).mono ?_; rintro e w1 ⟨r, rfl, hr, hb⟩; have S := (St.first w 0 i u f s b).next hb; clear hb; have c0 := S.c0; have c1 := S.c1; have c2 := S.c2; have c3 := S.c3; have c4 := S.c4; have c5 := S.c5; have hsz := S.size; have hB := S.below; cases r)
    | (go_at_call 6; refine (F.out _).mono ?_; rintro e w2 ⟨r, rfl, hr2, hb⟩; replace S := (by first | exact S.next hb | exact S.drew.next hb | exact (S.drewN _).next hb); clear hb c0 c1 c2 c3 c4 c5 hsz hB; have c0 := S.c0; have c1 := S.c1; have c2 := S.c2; have c3 := S.c3; have c4 := S.c4; have c5 := S.c5; have hsz := S.size; have hB := S.below; have HR := Lib.hid hr2; clear hr2; cases r)
    | (go_at_call 8; refine (toint_0 _ i u f s b).mono ?_; rintro e w2 ⟨rfl, hb⟩; replace S := (by first | exact S.next hb | exact S.drew.next hb | exact (S.drewN _).next hb); clear hb c0 c1 c2 c3 c4 c5 hsz hB; have c0 := S.c0; have c1 := S.c1; have c2 := S.c2; have c3 := S.c3; have c4 := S.c4; have c5 := S.c5; have hsz := S.size; have hB := S.below)
    | (go_at_call 9; refine (toint64_0 _ i u f s b).mono ?_; rintro e w2 ⟨rfl, hb⟩; replace S := (by first | exact S.next hb | exact S.drew.next hb | exact (S.drewN _).next hb); clear hb c0 c1 c2 c3 c4 c5 hsz hB; have c0 := S.c0; have c1 := S.c1; have c2 := S.c2; have c3 := S.c3; have c4 := S.c4; have c5 := S.c5; have hsz := S.size; have hB := S.below)
    | (go_at_call 10; refine (tofl_0 _ i u f s b).mono ?_; rintro e w2 ⟨rfl, hb⟩; replace S := (by first | exact S.next hb | exact S.drew.next hb | exact (S.drewN _).next hb); clear hb c0 c1 c2 c3 c4 c5 hsz hB; have c0 := S.c0; have c1 := S.c1; have c2 := S.c2; have c3 := S.c3; have c4 := S.c4; have c5 := S.c5; have hsz := S.size; have hB := S.below)
    | (go_at_call 11; refine (tobool_0 _ i u f s b).mono ?_; rintro e w2 ⟨rfl, hb⟩; replace S := (by first | exact S.next hb | exact S.drew.next hb | exact (S.drewN _).next hb); clear hb c0 c1 c2 c3 c4 c5 hsz hB; have c0 := S.c0; have c1 := S.c1; have c2 := S.c2; have c3 := S.c3; have c4 := S.c4; have c5 := S.c5; have hsz := S.size; have hB := S.below))
  all_goals
    go_ret
    refine ⟨?_, by first | go_grown | exact below_drewN (by go_grown) _⟩
    first | rfl | (simp; done) | (simp; done) | go_goals
set_option maxHeartbeats 2000000 in
theorem cv_1 (w : World) (i u : Int) (f : Nat) (s : ByteArray) (b : Bool) (h0 : -9223372036854775808 ≤ i) (h1 : i ≤ 9223372036854775807) (g0 : 0 ≤ u) (g1 : u ≤ 18446744073709551615)  : Calls Try.prog 4 #[V 1 i u f s b] w (Fine w) := by
  have hcut := run_cut (floatOfInt .f64 i)
  have HO := Lib.hid (int_order i)
  have F := Lib.hid (fun w => fits_1 w i u f s b h0 h1 g0 g1)
  go_enter Try.func4, Try.ntmps4
  go_wp2_with (first
    | (go_at_call 5; refine (zz2 _ _ i u f s b).mono ?_; rintro e w1 ⟨r, rfl, hr, hb⟩; have S := (St.first w 1 i u f s b).next hb; clear hb; have c0 := S.c0; have c1 := S.c1; have c2 := S.c2; have c3 := S.c3; have c4 := S.c4; have c5 := S.c5; have hsz := S.size; have hB := S.below; cases r)
    | (go_at_call 6; refine (F.out _).mono ?_; rintro e w2 ⟨r, rfl, hr2, hb⟩; replace S := (by first | exact S.next hb | exact S.drew.next hb | exact (S.drewN _).next hb); clear hb c0 c1 c2 c3 c4 c5 hsz hB; have c0 := S.c0; have c1 := S.c1; have c2 := S.c2; have c3 := S.c3; have c4 := S.c4; have c5 := S.c5; have hsz := S.size; have hB := S.below; have HR := Lib.hid hr2; clear hr2; cases r)
    | (go_at_call 8; refine (toint_1 _ i u f s b ⟨h0, h1⟩).mono ?_; rintro e w2 ⟨rfl, hb⟩; replace S := (by first | exact S.next hb | exact S.drew.next hb | exact (S.drewN _).next hb); clear hb c0 c1 c2 c3 c4 c5 hsz hB; have c0 := S.c0; have c1 := S.c1; have c2 := S.c2; have c3 := S.c3; have c4 := S.c4; have c5 := S.c5; have hsz := S.size; have hB := S.below)
    | (go_at_call 9; refine (toint64_1 _ i u f s b ⟨h0, h1⟩).mono ?_; rintro e w2 ⟨rfl, hb⟩; replace S := (by first | exact S.next hb | exact S.drew.next hb | exact (S.drewN _).next hb); clear hb c0 c1 c2 c3 c4 c5 hsz hB; have c0 := S.c0; have c1 := S.c1; have c2 := S.c2; have c3 := S.c3; have c4 := S.c4; have c5 := S.c5; have hsz := S.size; have hB := S.below)
    | (go_at_call 10; refine (tofl_1 _ i u f s b ⟨h0, h1⟩).mono ?_; rintro e w2 ⟨rfl, hb⟩; replace S := (by first | exact S.next hb | exact S.drew.next hb | exact (S.drewN _).next hb); clear hb c0 c1 c2 c3 c4 c5 hsz hB; have c0 := S.c0; have c1 := S.c1; have c2 := S.c2; have c3 := S.c3; have c4 := S.c4; have c5 := S.c5; have hsz := S.size; have hB := S.below)
    | (go_at_call 11; refine (tobool_1 _ i u f s b ⟨h0, h1⟩).mono ?_; rintro e w2 ⟨rfl, hb⟩; replace S := (by first | exact S.next hb | exact S.drew.next hb | exact (S.drewN _).next hb); clear hb c0 c1 c2 c3 c4 c5 hsz hB; have c0 := S.c0; have c1 := S.c1; have c2 := S.c2; have c3 := S.c3; have c4 := S.c4; have c5 := S.c5; have hsz := S.size; have hB := S.below)
    | (go_at_call 12; refine (asf_1 _ i u f s b ⟨h0, h1⟩).mono ?_; rintro e w2 ⟨rfl, hb⟩; replace S := (by first | exact S.next hb | exact S.drew.next hb | exact (S.drewN _).next hb); clear hb c0 c1 c2 c3 c4 c5 hsz hB; have c0 := S.c0; have c1 := S.c1; have c2 := S.c2; have c3 := S.c3; have c4 := S.c4; have c5 := S.c5; have hsz := S.size; have hB := S.below)
    | (go_at_call 13; refine (whole_1 _ i u f s b ⟨h0, h1⟩).mono ?_; rintro e w2 ⟨rfl, hb⟩; replace S := (by first | exact S.next hb | exact S.drew.next hb | exact (S.drewN _).next hb); clear hb c0 c1 c2 c3 c4 c5 hsz hB; have c0 := S.c0; have c1 := S.c1; have c2 := S.c2; have c3 := S.c3; have c4 := S.c4; have c5 := S.c5; have hsz := S.size; have hB := S.below)
    | (go_at_call 14; refine (asint_1 _ i u f s b ⟨h0, h1⟩).mono ?_; rintro e w2 ⟨rfl, hb⟩; replace S := (by first | exact S.next hb | exact S.drew.next hb | exact (S.drewN _).next hb); clear hb c0 c1 c2 c3 c4 c5 hsz hB; have c0 := S.c0; have c1 := S.c1; have c2 := S.c2; have c3 := S.c3; have c4 := S.c4; have c5 := S.c5; have hsz := S.size; have hB := S.below))
  all_goals
    go_ret
    refine ⟨?_, by first | go_grown | exact below_drewN (by go_grown) _⟩
    first | rfl | (rw [show FloatKind.f64.format.order _ _ = some Ordering.eq from HO.out]; rfl) | (simp; done) | go_goals
set_option maxHeartbeats 2000000 in
theorem cv_2 (w : World) (i u : Int) (f : Nat) (s : ByteArray) (b : Bool) (h0 : -9223372036854775808 ≤ i) (h1 : i ≤ 9223372036854775807) (g0 : 0 ≤ u) (g1 : u ≤ 18446744073709551615)  : Calls Try.prog 4 #[V 2 i u f s b] w (Fine w) := by
  have hcut := run_cut (floatOfInt .f64 i)
  have HO := Lib.hid (int_order i)
  have F := Lib.hid (fun w => fits_2 w i u f s b h0 h1 g0 g1)
  go_enter Try.func4, Try.ntmps4
  go_wp2_with (first
    | (go_at_call 5; refine (zz2 _ _ i u f s b).mono ?_; rintro e w1 ⟨r, rfl, hr, hb⟩; have S := (St.first w 2 i u f s b).next hb; clear hb; have c0 := S.c0; have c1 := S.c1; have c2 := S.c2; have c3 := S.c3; have c4 := S.c4; have c5 := S.c5; have hsz := S.size; have hB := S.below; cases r)
    | (go_at_call 6; refine (F.out _).mono ?_; rintro e w2 ⟨r, rfl, hr2, hb⟩; replace S := (by first | exact S.next hb | exact S.drew.next hb | exact (S.drewN _).next hb); clear hb c0 c1 c2 c3 c4 c5 hsz hB; have c0 := S.c0; have c1 := S.c1; have c2 := S.c2; have c3 := S.c3; have c4 := S.c4; have c5 := S.c5; have hsz := S.size; have hB := S.below; have HR := Lib.hid hr2; clear hr2; cases r)
    | (go_at_call 8; refine (toint_2 _ i u f s b (HR.out (by simp)).2).mono ?_; rintro e w2 ⟨rfl, hb⟩; replace S := (by first | exact S.next hb | exact S.drew.next hb | exact (S.drewN _).next hb); clear hb c0 c1 c2 c3 c4 c5 hsz hB; have c0 := S.c0; have c1 := S.c1; have c2 := S.c2; have c3 := S.c3; have c4 := S.c4; have c5 := S.c5; have hsz := S.size; have hB := S.below)
    | (go_at_call 9; refine (toint64_2 _ i u f s b (HR.out (by simp)).2).mono ?_; rintro e w2 ⟨rfl, hb⟩; replace S := (by first | exact S.next hb | exact S.drew.next hb | exact (S.drewN _).next hb); clear hb c0 c1 c2 c3 c4 c5 hsz hB; have c0 := S.c0; have c1 := S.c1; have c2 := S.c2; have c3 := S.c3; have c4 := S.c4; have c5 := S.c5; have hsz := S.size; have hB := S.below)
    | (go_at_call 10; refine (tofl_2 _ i u f s b (HR.out (by simp)).2).mono ?_; rintro e w2 ⟨rfl, hb⟩; replace S := (by first | exact S.next hb | exact S.drew.next hb | exact (S.drewN _).next hb); clear hb c0 c1 c2 c3 c4 c5 hsz hB; have c0 := S.c0; have c1 := S.c1; have c2 := S.c2; have c3 := S.c3; have c4 := S.c4; have c5 := S.c5; have hsz := S.size; have hB := S.below)
    | (go_at_call 11; refine (tobool_2 _ i u f s b (HR.out (by simp)).2).mono ?_; rintro e w2 ⟨rfl, hb⟩; replace S := (by first | exact S.next hb | exact S.drew.next hb | exact (S.drewN _).next hb); clear hb c0 c1 c2 c3 c4 c5 hsz hB; have c0 := S.c0; have c1 := S.c1; have c2 := S.c2; have c3 := S.c3; have c4 := S.c4; have c5 := S.c5; have hsz := S.size; have hB := S.below)
    | (go_at_call 12; refine (asf_2 _ i u f s b (HR.out (by simp)).2).mono ?_; rintro e w2 ⟨rfl, hb⟩; replace S := (by first | exact S.next hb | exact S.drew.next hb | exact (S.drewN _).next hb); clear hb c0 c1 c2 c3 c4 c5 hsz hB; have c0 := S.c0; have c1 := S.c1; have c2 := S.c2; have c3 := S.c3; have c4 := S.c4; have c5 := S.c5; have hsz := S.size; have hB := S.below)
    | (go_at_call 13; refine (whole_2 _ i u f s b (HR.out (by simp)).2).mono ?_; rintro e w2 ⟨rfl, hb⟩; replace S := (by first | exact S.next hb | exact S.drew.next hb | exact (S.drewN _).next hb); clear hb c0 c1 c2 c3 c4 c5 hsz hB; have c0 := S.c0; have c1 := S.c1; have c2 := S.c2; have c3 := S.c3; have c4 := S.c4; have c5 := S.c5; have hsz := S.size; have hB := S.below)
    | (go_at_call 14; refine (asint_2 _ i u f s b (HR.out (by simp)).2).mono ?_; rintro e w2 ⟨rfl, hb⟩; replace S := (by first | exact S.next hb | exact S.drew.next hb | exact (S.drewN _).next hb); clear hb c0 c1 c2 c3 c4 c5 hsz hB; have c0 := S.c0; have c1 := S.c1; have c2 := S.c2; have c3 := S.c3; have c4 := S.c4; have c5 := S.c5; have hsz := S.size; have hB := S.below))
  all_goals
    go_ret
    refine ⟨?_, by first | go_grown | exact below_drewN (by go_grown) _⟩
    first | rfl | (rw [show FloatKind.f64.format.order _ _ = some Ordering.eq from HO.out]; rfl) | (simp; done) | go_goals
set_option maxHeartbeats 2000000 in
theorem cv_3 (w : World) (i u : Int) (f : Nat) (s : ByteArray) (b : Bool) (h0 : -9223372036854775808 ≤ i) (h1 : i ≤ 9223372036854775807) (g0 : 0 ≤ u) (g1 : u ≤ 18446744073709551615)  : Calls Try.prog 4 #[V 3 i u f s b] w (Fine w) := by
  have hcut := run_cut (floatOfInt .f64 i)
  have HO := Lib.hid (int_order i)
  have F := Lib.hid (fun w => fits_3 w i u f s b h0 h1 g0 g1)
  go_enter Try.func4, Try.ntmps4
  go_wp2_with (first
    | (go_at_call 5; refine (zz2 _ _ i u f s b).mono ?_; rintro e w1 ⟨r, rfl, hr, hb⟩; have S := (St.first w 3 i u f s b).next hb; clear hb; have c0 := S.c0; have c1 := S.c1; have c2 := S.c2; have c3 := S.c3; have c4 := S.c4; have c5 := S.c5; have hsz := S.size; have hB := S.below; cases r)
    | (go_at_call 6; refine (F.out _).mono ?_; rintro e w2 ⟨r, rfl, hr2, hb⟩; replace S := (by first | exact S.next hb | exact S.drew.next hb | exact (S.drewN _).next hb); clear hb c0 c1 c2 c3 c4 c5 hsz hB; have c0 := S.c0; have c1 := S.c1; have c2 := S.c2; have c3 := S.c3; have c4 := S.c4; have c5 := S.c5; have hsz := S.size; have hB := S.below; have HR := Lib.hid hr2; clear hr2; cases r)
    | (go_at_call 8; refine (toint_3 _ i u f s b (HR.out (by simp)).2).mono ?_; rintro e w2 ⟨rfl, hb⟩; replace S := (by first | exact S.next hb | exact S.drew.next hb | exact (S.drewN _).next hb); clear hb c0 c1 c2 c3 c4 c5 hsz hB; have c0 := S.c0; have c1 := S.c1; have c2 := S.c2; have c3 := S.c3; have c4 := S.c4; have c5 := S.c5; have hsz := S.size; have hB := S.below)
    | (go_at_call 9; refine (toint64_3 _ i u f s b (HR.out (by simp)).2).mono ?_; rintro e w2 ⟨rfl, hb⟩; replace S := (by first | exact S.next hb | exact S.drew.next hb | exact (S.drewN _).next hb); clear hb c0 c1 c2 c3 c4 c5 hsz hB; have c0 := S.c0; have c1 := S.c1; have c2 := S.c2; have c3 := S.c3; have c4 := S.c4; have c5 := S.c5; have hsz := S.size; have hB := S.below)
    | (go_at_call 10; refine (tofl_3 _ i u f s b (HR.out (by simp)).2).mono ?_; rintro e w2 ⟨rfl, hb⟩; replace S := (by first | exact S.next hb | exact S.drew.next hb | exact (S.drewN _).next hb); clear hb c0 c1 c2 c3 c4 c5 hsz hB; have c0 := S.c0; have c1 := S.c1; have c2 := S.c2; have c3 := S.c3; have c4 := S.c4; have c5 := S.c5; have hsz := S.size; have hB := S.below)
    | (go_at_call 11; refine (tobool_3 _ i u f s b (HR.out (by simp)).2).mono ?_; rintro e w2 ⟨rfl, hb⟩; replace S := (by first | exact S.next hb | exact S.drew.next hb | exact (S.drewN _).next hb); clear hb c0 c1 c2 c3 c4 c5 hsz hB; have c0 := S.c0; have c1 := S.c1; have c2 := S.c2; have c3 := S.c3; have c4 := S.c4; have c5 := S.c5; have hsz := S.size; have hB := S.below)
    | (go_at_call 12; refine (asf_3 _ i u f s b (HR.out (by simp)).2).mono ?_; rintro e w2 ⟨rfl, hb⟩; replace S := (by first | exact S.next hb | exact S.drew.next hb | exact (S.drewN _).next hb); clear hb c0 c1 c2 c3 c4 c5 hsz hB; have c0 := S.c0; have c1 := S.c1; have c2 := S.c2; have c3 := S.c3; have c4 := S.c4; have c5 := S.c5; have hsz := S.size; have hB := S.below)
    | (go_at_call 13; refine (whole_3 _ i u f s b (HR.out (by simp)).2).mono ?_; rintro e w2 ⟨rfl, hb⟩; replace S := (by first | exact S.next hb | exact S.drew.next hb | exact (S.drewN _).next hb); clear hb c0 c1 c2 c3 c4 c5 hsz hB; have c0 := S.c0; have c1 := S.c1; have c2 := S.c2; have c3 := S.c3; have c4 := S.c4; have c5 := S.c5; have hsz := S.size; have hB := S.below)
    | (go_at_call 14; refine (asint_3 _ i u f s b (HR.out (by simp)).2).mono ?_; rintro e w2 ⟨rfl, hb⟩; replace S := (by first | exact S.next hb | exact S.drew.next hb | exact (S.drewN _).next hb); clear hb c0 c1 c2 c3 c4 c5 hsz hB; have c0 := S.c0; have c1 := S.c1; have c2 := S.c2; have c3 := S.c3; have c4 := S.c4; have c5 := S.c5; have hsz := S.size; have hB := S.below))
  all_goals
    go_ret
    refine ⟨?_, by first | go_grown | exact below_drewN (by go_grown) _⟩
    first | rfl | (rw [show FloatKind.f64.format.order _ _ = some Ordering.eq from HO.out]; rfl) | (simp; done) | go_goals
set_option maxHeartbeats 2000000 in
theorem cv_4 (w : World) (i u : Int) (f : Nat) (s : ByteArray) (b : Bool) (h0 : -9223372036854775808 ≤ i) (h1 : i ≤ 9223372036854775807) (g0 : 0 ≤ u) (g1 : u ≤ 18446744073709551615)  : Calls Try.prog 4 #[V 4 i u f s b] w (Fine w) := by
  have hcut := run_cut (floatOfInt .f64 i)
  have HO := Lib.hid (int_order i)
  have F := Lib.hid (fun w => fits_4 w i u f s b h0 h1 g0 g1)
  go_enter Try.func4, Try.ntmps4
  go_wp2_with (first
    | (go_at_call 5; refine (zz2 _ _ i u f s b).mono ?_; rintro e w1 ⟨r, rfl, hr, hb⟩; have S := (St.first w 4 i u f s b).next hb; clear hb; have c0 := S.c0; have c1 := S.c1; have c2 := S.c2; have c3 := S.c3; have c4 := S.c4; have c5 := S.c5; have hsz := S.size; have hB := S.below; cases r)
    | (go_at_call 6; refine (F.out _).mono ?_; rintro e w2 ⟨r, rfl, hr2, hb⟩; replace S := (by first | exact S.next hb | exact S.drew.next hb | exact (S.drewN _).next hb); clear hb c0 c1 c2 c3 c4 c5 hsz hB; have c0 := S.c0; have c1 := S.c1; have c2 := S.c2; have c3 := S.c3; have c4 := S.c4; have c5 := S.c5; have hsz := S.size; have hB := S.below; have HR := Lib.hid hr2; clear hr2; cases r)
    | (go_at_call 8; refine (toint_4 _ i u f s b (HR.out (by simp)).2).mono ?_; rintro e w2 ⟨rfl, hb⟩; replace S := (by first | exact S.next hb | exact S.drew.next hb | exact (S.drewN _).next hb); clear hb c0 c1 c2 c3 c4 c5 hsz hB; have c0 := S.c0; have c1 := S.c1; have c2 := S.c2; have c3 := S.c3; have c4 := S.c4; have c5 := S.c5; have hsz := S.size; have hB := S.below)
    | (go_at_call 9; refine (toint64_4 _ i u f s b (HR.out (by simp)).2).mono ?_; rintro e w2 ⟨rfl, hb⟩; replace S := (by first | exact S.next hb | exact S.drew.next hb | exact (S.drewN _).next hb); clear hb c0 c1 c2 c3 c4 c5 hsz hB; have c0 := S.c0; have c1 := S.c1; have c2 := S.c2; have c3 := S.c3; have c4 := S.c4; have c5 := S.c5; have hsz := S.size; have hB := S.below)
    | (go_at_call 10; refine (tofl_4 _ i u f s b (HR.out (by simp)).2).mono ?_; rintro e w2 ⟨rfl, hb⟩; replace S := (by first | exact S.next hb | exact S.drew.next hb | exact (S.drewN _).next hb); clear hb c0 c1 c2 c3 c4 c5 hsz hB; have c0 := S.c0; have c1 := S.c1; have c2 := S.c2; have c3 := S.c3; have c4 := S.c4; have c5 := S.c5; have hsz := S.size; have hB := S.below)
    | (go_at_call 11; refine (tobool_4 _ i u f s b (HR.out (by simp)).2).mono ?_; rintro e w2 ⟨rfl, hb⟩; replace S := (by first | exact S.next hb | exact S.drew.next hb | exact (S.drewN _).next hb); clear hb c0 c1 c2 c3 c4 c5 hsz hB; have c0 := S.c0; have c1 := S.c1; have c2 := S.c2; have c3 := S.c3; have c4 := S.c4; have c5 := S.c5; have hsz := S.size; have hB := S.below)
    | (go_at_call 12; refine (asf_4 _ i u f s b (HR.out (by simp)).2).mono ?_; rintro e w2 ⟨rfl, hb⟩; replace S := (by first | exact S.next hb | exact S.drew.next hb | exact (S.drewN _).next hb); clear hb c0 c1 c2 c3 c4 c5 hsz hB; have c0 := S.c0; have c1 := S.c1; have c2 := S.c2; have c3 := S.c3; have c4 := S.c4; have c5 := S.c5; have hsz := S.size; have hB := S.below)
    | (go_at_call 13; refine (whole_4 _ i u f s b (HR.out (by simp)).2).mono ?_; rintro e w2 ⟨rfl, hb⟩; replace S := (by first | exact S.next hb | exact S.drew.next hb | exact (S.drewN _).next hb); clear hb c0 c1 c2 c3 c4 c5 hsz hB; have c0 := S.c0; have c1 := S.c1; have c2 := S.c2; have c3 := S.c3; have c4 := S.c4; have c5 := S.c5; have hsz := S.size; have hB := S.below)
    | (go_at_call 14; refine (asint_4 _ i u f s b (HR.out (by simp)).2).mono ?_; rintro e w2 ⟨rfl, hb⟩; replace S := (by first | exact S.next hb | exact S.drew.next hb | exact (S.drewN _).next hb); clear hb c0 c1 c2 c3 c4 c5 hsz hB; have c0 := S.c0; have c1 := S.c1; have c2 := S.c2; have c3 := S.c3; have c4 := S.c4; have c5 := S.c5; have hsz := S.size; have hB := S.below))
  all_goals
    go_ret
    refine ⟨?_, by first | go_grown | exact below_drewN (by go_grown) _⟩
    first | rfl | (rw [show FloatKind.f64.format.order _ _ = some Ordering.eq from HO.out]; rfl) | (simp; done) | go_goals
set_option maxHeartbeats 2000000 in
theorem cv_5 (w : World) (i u : Int) (f : Nat) (s : ByteArray) (b : Bool) (h0 : -9223372036854775808 ≤ i) (h1 : i ≤ 9223372036854775807) (g0 : 0 ≤ u) (g1 : u ≤ 18446744073709551615)  : Calls Try.prog 4 #[V 5 i u f s b] w (Fine w) := by
  have hcut := run_cut (floatOfInt .f64 i)
  have HO := Lib.hid (int_order i)
  have F := Lib.hid (fun w => fits_5 w i u f s b h0 h1 g0 g1)
  go_enter Try.func4, Try.ntmps4
  go_wp2_with (first
    | (go_at_call 5; refine (zz2 _ _ i u f s b).mono ?_; rintro e w1 ⟨r, rfl, hr, hb⟩; have S := (St.first w 5 i u f s b).next hb; clear hb; have c0 := S.c0; have c1 := S.c1; have c2 := S.c2; have c3 := S.c3; have c4 := S.c4; have c5 := S.c5; have hsz := S.size; have hB := S.below; cases r)
    | (go_at_call 6; refine (F.out _).mono ?_; rintro e w2 ⟨r, rfl, hr2, hb⟩; replace S := (by first | exact S.next hb | exact S.drew.next hb | exact (S.drewN _).next hb); clear hb c0 c1 c2 c3 c4 c5 hsz hB; have c0 := S.c0; have c1 := S.c1; have c2 := S.c2; have c3 := S.c3; have c4 := S.c4; have c5 := S.c5; have hsz := S.size; have hB := S.below; have HR := Lib.hid hr2; clear hr2; cases r)
    | (go_at_call 8; refine (toint_5 _ i u f s b ⟨h0, h1⟩).mono ?_; rintro e w2 ⟨rfl, hb⟩; replace S := (by first | exact S.next hb | exact S.drew.next hb | exact (S.drewN _).next hb); clear hb c0 c1 c2 c3 c4 c5 hsz hB; have c0 := S.c0; have c1 := S.c1; have c2 := S.c2; have c3 := S.c3; have c4 := S.c4; have c5 := S.c5; have hsz := S.size; have hB := S.below)
    | (go_at_call 9; refine (toint64_5 _ i u f s b ⟨h0, h1⟩).mono ?_; rintro e w2 ⟨rfl, hb⟩; replace S := (by first | exact S.next hb | exact S.drew.next hb | exact (S.drewN _).next hb); clear hb c0 c1 c2 c3 c4 c5 hsz hB; have c0 := S.c0; have c1 := S.c1; have c2 := S.c2; have c3 := S.c3; have c4 := S.c4; have c5 := S.c5; have hsz := S.size; have hB := S.below)
    | (go_at_call 10; refine (tofl_5 _ i u f s b ⟨h0, h1⟩).mono ?_; rintro e w2 ⟨rfl, hb⟩; replace S := (by first | exact S.next hb | exact S.drew.next hb | exact (S.drewN _).next hb); clear hb c0 c1 c2 c3 c4 c5 hsz hB; have c0 := S.c0; have c1 := S.c1; have c2 := S.c2; have c3 := S.c3; have c4 := S.c4; have c5 := S.c5; have hsz := S.size; have hB := S.below)
    | (go_at_call 11; refine (tobool_5 _ i u f s b ⟨h0, h1⟩).mono ?_; rintro e w2 ⟨rfl, hb⟩; replace S := (by first | exact S.next hb | exact S.drew.next hb | exact (S.drewN _).next hb); clear hb c0 c1 c2 c3 c4 c5 hsz hB; have c0 := S.c0; have c1 := S.c1; have c2 := S.c2; have c3 := S.c3; have c4 := S.c4; have c5 := S.c5; have hsz := S.size; have hB := S.below)
    | (go_at_call 12; refine (asf_5 _ i u f s b ⟨h0, h1⟩).mono ?_; rintro e w2 ⟨rfl, hb⟩; replace S := (by first | exact S.next hb | exact S.drew.next hb | exact (S.drewN _).next hb); clear hb c0 c1 c2 c3 c4 c5 hsz hB; have c0 := S.c0; have c1 := S.c1; have c2 := S.c2; have c3 := S.c3; have c4 := S.c4; have c5 := S.c5; have hsz := S.size; have hB := S.below)
    | (go_at_call 13; refine (whole_5 _ i u f s b ⟨h0, h1⟩).mono ?_; rintro e w2 ⟨rfl, hb⟩; replace S := (by first | exact S.next hb | exact S.drew.next hb | exact (S.drewN _).next hb); clear hb c0 c1 c2 c3 c4 c5 hsz hB; have c0 := S.c0; have c1 := S.c1; have c2 := S.c2; have c3 := S.c3; have c4 := S.c4; have c5 := S.c5; have hsz := S.size; have hB := S.below)
    | (go_at_call 14; refine (asint_5 _ i u f s b ⟨h0, h1⟩).mono ?_; rintro e w2 ⟨rfl, hb⟩; replace S := (by first | exact S.next hb | exact S.drew.next hb | exact (S.drewN _).next hb); clear hb c0 c1 c2 c3 c4 c5 hsz hB; have c0 := S.c0; have c1 := S.c1; have c2 := S.c2; have c3 := S.c3; have c4 := S.c4; have c5 := S.c5; have hsz := S.size; have hB := S.below))
  all_goals
    go_ret
    refine ⟨?_, by first | go_grown | exact below_drewN (by go_grown) _⟩
    first | rfl | (rw [show FloatKind.f64.format.order _ _ = some Ordering.eq from HO.out]; rfl) | (simp; done) | go_goals
set_option maxHeartbeats 2000000 in
theorem cv_6 (w : World) (i u : Int) (f : Nat) (s : ByteArray) (b : Bool) (h0 : -9223372036854775808 ≤ i) (h1 : i ≤ 9223372036854775807) (g0 : 0 ≤ u) (g1 : u ≤ 18446744073709551615)  : Calls Try.prog 4 #[V 6 i u f s b] w (Fine w) := by
  have hcut := run_cut (floatOfInt .f64 u)
  have HO := Lib.hid (int_order u)
  have F := Lib.hid (fun w => fits_6 w i u f s b h0 h1 g0 g1)
  go_enter Try.func4, Try.ntmps4
  go_wp2_with (first
    | (go_at_call 5; refine (zz2 _ _ i u f s b).mono ?_; rintro e w1 ⟨r, rfl, hr, hb⟩; have S := (St.first w 6 i u f s b).next hb; clear hb; have c0 := S.c0; have c1 := S.c1; have c2 := S.c2; have c3 := S.c3; have c4 := S.c4; have c5 := S.c5; have hsz := S.size; have hB := S.below; cases r)
    | (go_at_call 6; refine (F.out _).mono ?_; rintro e w2 ⟨r, rfl, hr2, hb⟩; replace S := (by first | exact S.next hb | exact S.drew.next hb | exact (S.drewN _).next hb); clear hb c0 c1 c2 c3 c4 c5 hsz hB; have c0 := S.c0; have c1 := S.c1; have c2 := S.c2; have c3 := S.c3; have c4 := S.c4; have c5 := S.c5; have hsz := S.size; have hB := S.below; have HR := Lib.hid hr2; clear hr2; cases r)
    | (go_at_call 8; refine (toint_6 _ i u f s b ⟨g0, (HR.out (by simp)).2⟩).mono ?_; rintro e w2 ⟨rfl, hb⟩; replace S := (by first | exact S.next hb | exact S.drew.next hb | exact (S.drewN _).next hb); clear hb c0 c1 c2 c3 c4 c5 hsz hB; have c0 := S.c0; have c1 := S.c1; have c2 := S.c2; have c3 := S.c3; have c4 := S.c4; have c5 := S.c5; have hsz := S.size; have hB := S.below)
    | (go_at_call 9; refine (toint64_6 _ i u f s b ⟨g0, (HR.out (by simp)).2⟩).mono ?_; rintro e w2 ⟨rfl, hb⟩; replace S := (by first | exact S.next hb | exact S.drew.next hb | exact (S.drewN _).next hb); clear hb c0 c1 c2 c3 c4 c5 hsz hB; have c0 := S.c0; have c1 := S.c1; have c2 := S.c2; have c3 := S.c3; have c4 := S.c4; have c5 := S.c5; have hsz := S.size; have hB := S.below)
    | (go_at_call 10; refine (tofl_6 _ i u f s b ⟨g0, (HR.out (by simp)).2⟩).mono ?_; rintro e w2 ⟨rfl, hb⟩; replace S := (by first | exact S.next hb | exact S.drew.next hb | exact (S.drewN _).next hb); clear hb c0 c1 c2 c3 c4 c5 hsz hB; have c0 := S.c0; have c1 := S.c1; have c2 := S.c2; have c3 := S.c3; have c4 := S.c4; have c5 := S.c5; have hsz := S.size; have hB := S.below)
    | (go_at_call 11; refine (tobool_6 _ i u f s b ⟨g0, (HR.out (by simp)).2⟩).mono ?_; rintro e w2 ⟨rfl, hb⟩; replace S := (by first | exact S.next hb | exact S.drew.next hb | exact (S.drewN _).next hb); clear hb c0 c1 c2 c3 c4 c5 hsz hB; have c0 := S.c0; have c1 := S.c1; have c2 := S.c2; have c3 := S.c3; have c4 := S.c4; have c5 := S.c5; have hsz := S.size; have hB := S.below)
    | (go_at_call 12; refine (asf_6 _ i u f s b ⟨g0, (HR.out (by simp)).2⟩).mono ?_; rintro e w2 ⟨rfl, hb⟩; replace S := (by first | exact S.next hb | exact S.drew.next hb | exact (S.drewN _).next hb); clear hb c0 c1 c2 c3 c4 c5 hsz hB; have c0 := S.c0; have c1 := S.c1; have c2 := S.c2; have c3 := S.c3; have c4 := S.c4; have c5 := S.c5; have hsz := S.size; have hB := S.below)
    | (go_at_call 13; refine (whole_6 _ i u f s b ⟨g0, (HR.out (by simp)).2⟩).mono ?_; rintro e w2 ⟨rfl, hb⟩; replace S := (by first | exact S.next hb | exact S.drew.next hb | exact (S.drewN _).next hb); clear hb c0 c1 c2 c3 c4 c5 hsz hB; have c0 := S.c0; have c1 := S.c1; have c2 := S.c2; have c3 := S.c3; have c4 := S.c4; have c5 := S.c5; have hsz := S.size; have hB := S.below)
    | (go_at_call 14; refine (asint_6 _ i u f s b ⟨g0, (HR.out (by simp)).2⟩).mono ?_; rintro e w2 ⟨rfl, hb⟩; replace S := (by first | exact S.next hb | exact S.drew.next hb | exact (S.drewN _).next hb); clear hb c0 c1 c2 c3 c4 c5 hsz hB; have c0 := S.c0; have c1 := S.c1; have c2 := S.c2; have c3 := S.c3; have c4 := S.c4; have c5 := S.c5; have hsz := S.size; have hB := S.below))
  all_goals
    go_ret
    refine ⟨?_, by first | go_grown | exact below_drewN (by go_grown) _⟩
    first | rfl | (rw [show FloatKind.f64.format.order _ _ = some Ordering.eq from HO.out]; rfl) | (simp; done) | go_goals
set_option maxHeartbeats 2000000 in
theorem cv_7 (w : World) (i u : Int) (f : Nat) (s : ByteArray) (b : Bool) (h0 : -9223372036854775808 ≤ i) (h1 : i ≤ 9223372036854775807) (g0 : 0 ≤ u) (g1 : u ≤ 18446744073709551615)  : Calls Try.prog 4 #[V 7 i u f s b] w (Fine w) := by
  have hcut := run_cut (floatOfInt .f64 u)
  have HO := Lib.hid (int_order u)
  have F := Lib.hid (fun w => fits_7 w i u f s b h0 h1 g0 g1)
  go_enter Try.func4, Try.ntmps4
  go_wp2_with (first
    | (go_at_call 5; refine (zz2 _ _ i u f s b).mono ?_; rintro e w1 ⟨r, rfl, hr, hb⟩; have S := (St.first w 7 i u f s b).next hb; clear hb; have c0 := S.c0; have c1 := S.c1; have c2 := S.c2; have c3 := S.c3; have c4 := S.c4; have c5 := S.c5; have hsz := S.size; have hB := S.below; cases r)
    | (go_at_call 6; refine (F.out _).mono ?_; rintro e w2 ⟨r, rfl, hr2, hb⟩; replace S := (by first | exact S.next hb | exact S.drew.next hb | exact (S.drewN _).next hb); clear hb c0 c1 c2 c3 c4 c5 hsz hB; have c0 := S.c0; have c1 := S.c1; have c2 := S.c2; have c3 := S.c3; have c4 := S.c4; have c5 := S.c5; have hsz := S.size; have hB := S.below; have HR := Lib.hid hr2; clear hr2; cases r)
    | (go_at_call 8; refine (toint_7 _ i u f s b ⟨g0, (HR.out (by simp)).2⟩).mono ?_; rintro e w2 ⟨rfl, hb⟩; replace S := (by first | exact S.next hb | exact S.drew.next hb | exact (S.drewN _).next hb); clear hb c0 c1 c2 c3 c4 c5 hsz hB; have c0 := S.c0; have c1 := S.c1; have c2 := S.c2; have c3 := S.c3; have c4 := S.c4; have c5 := S.c5; have hsz := S.size; have hB := S.below)
    | (go_at_call 9; refine (toint64_7 _ i u f s b ⟨g0, (HR.out (by simp)).2⟩).mono ?_; rintro e w2 ⟨rfl, hb⟩; replace S := (by first | exact S.next hb | exact S.drew.next hb | exact (S.drewN _).next hb); clear hb c0 c1 c2 c3 c4 c5 hsz hB; have c0 := S.c0; have c1 := S.c1; have c2 := S.c2; have c3 := S.c3; have c4 := S.c4; have c5 := S.c5; have hsz := S.size; have hB := S.below)
    | (go_at_call 10; refine (tofl_7 _ i u f s b ⟨g0, (HR.out (by simp)).2⟩).mono ?_; rintro e w2 ⟨rfl, hb⟩; replace S := (by first | exact S.next hb | exact S.drew.next hb | exact (S.drewN _).next hb); clear hb c0 c1 c2 c3 c4 c5 hsz hB; have c0 := S.c0; have c1 := S.c1; have c2 := S.c2; have c3 := S.c3; have c4 := S.c4; have c5 := S.c5; have hsz := S.size; have hB := S.below)
    | (go_at_call 11; refine (tobool_7 _ i u f s b ⟨g0, (HR.out (by simp)).2⟩).mono ?_; rintro e w2 ⟨rfl, hb⟩; replace S := (by first | exact S.next hb | exact S.drew.next hb | exact (S.drewN _).next hb); clear hb c0 c1 c2 c3 c4 c5 hsz hB; have c0 := S.c0; have c1 := S.c1; have c2 := S.c2; have c3 := S.c3; have c4 := S.c4; have c5 := S.c5; have hsz := S.size; have hB := S.below)
    | (go_at_call 12; refine (asf_7 _ i u f s b ⟨g0, (HR.out (by simp)).2⟩).mono ?_; rintro e w2 ⟨rfl, hb⟩; replace S := (by first | exact S.next hb | exact S.drew.next hb | exact (S.drewN _).next hb); clear hb c0 c1 c2 c3 c4 c5 hsz hB; have c0 := S.c0; have c1 := S.c1; have c2 := S.c2; have c3 := S.c3; have c4 := S.c4; have c5 := S.c5; have hsz := S.size; have hB := S.below)
    | (go_at_call 13; refine (whole_7 _ i u f s b ⟨g0, (HR.out (by simp)).2⟩).mono ?_; rintro e w2 ⟨rfl, hb⟩; replace S := (by first | exact S.next hb | exact S.drew.next hb | exact (S.drewN _).next hb); clear hb c0 c1 c2 c3 c4 c5 hsz hB; have c0 := S.c0; have c1 := S.c1; have c2 := S.c2; have c3 := S.c3; have c4 := S.c4; have c5 := S.c5; have hsz := S.size; have hB := S.below)
    | (go_at_call 14; refine (asint_7 _ i u f s b ⟨g0, (HR.out (by simp)).2⟩).mono ?_; rintro e w2 ⟨rfl, hb⟩; replace S := (by first | exact S.next hb | exact S.drew.next hb | exact (S.drewN _).next hb); clear hb c0 c1 c2 c3 c4 c5 hsz hB; have c0 := S.c0; have c1 := S.c1; have c2 := S.c2; have c3 := S.c3; have c4 := S.c4; have c5 := S.c5; have hsz := S.size; have hB := S.below))
  all_goals
    go_ret
    refine ⟨?_, by first | go_grown | exact below_drewN (by go_grown) _⟩
    first | rfl | (rw [show FloatKind.f64.format.order _ _ = some Ordering.eq from HO.out]; rfl) | (simp; done) | go_goals
set_option maxHeartbeats 2000000 in
theorem cv_8 (w : World) (i u : Int) (f : Nat) (s : ByteArray) (b : Bool) (h0 : -9223372036854775808 ≤ i) (h1 : i ≤ 9223372036854775807) (g0 : 0 ≤ u) (g1 : u ≤ 18446744073709551615)  : Calls Try.prog 4 #[V 8 i u f s b] w (Fine w) := by
  have hcut := run_cut (floatOfInt .f64 u)
  have HO := Lib.hid (int_order u)
  have F := Lib.hid (fun w => fits_8 w i u f s b h0 h1 g0 g1)
  go_enter Try.func4, Try.ntmps4
  go_wp2_with (first
    | (go_at_call 5; refine (zz2 _ _ i u f s b).mono ?_; rintro e w1 ⟨r, rfl, hr, hb⟩; have S := (St.first w 8 i u f s b).next hb; clear hb; have c0 := S.c0; have c1 := S.c1; have c2 := S.c2; have c3 := S.c3; have c4 := S.c4; have c5 := S.c5; have hsz := S.size; have hB := S.below; cases r)
    | (go_at_call 6; refine (F.out _).mono ?_; rintro e w2 ⟨r, rfl, hr2, hb⟩; replace S := (by first | exact S.next hb | exact S.drew.next hb | exact (S.drewN _).next hb); clear hb c0 c1 c2 c3 c4 c5 hsz hB; have c0 := S.c0; have c1 := S.c1; have c2 := S.c2; have c3 := S.c3; have c4 := S.c4; have c5 := S.c5; have hsz := S.size; have hB := S.below; have HR := Lib.hid hr2; clear hr2; cases r)
    | (go_at_call 8; refine (toint_8 _ i u f s b ⟨g0, (HR.out (by simp)).2⟩).mono ?_; rintro e w2 ⟨rfl, hb⟩; replace S := (by first | exact S.next hb | exact S.drew.next hb | exact (S.drewN _).next hb); clear hb c0 c1 c2 c3 c4 c5 hsz hB; have c0 := S.c0; have c1 := S.c1; have c2 := S.c2; have c3 := S.c3; have c4 := S.c4; have c5 := S.c5; have hsz := S.size; have hB := S.below)
    | (go_at_call 9; refine (toint64_8 _ i u f s b ⟨g0, (HR.out (by simp)).2⟩).mono ?_; rintro e w2 ⟨rfl, hb⟩; replace S := (by first | exact S.next hb | exact S.drew.next hb | exact (S.drewN _).next hb); clear hb c0 c1 c2 c3 c4 c5 hsz hB; have c0 := S.c0; have c1 := S.c1; have c2 := S.c2; have c3 := S.c3; have c4 := S.c4; have c5 := S.c5; have hsz := S.size; have hB := S.below)
    | (go_at_call 10; refine (tofl_8 _ i u f s b ⟨g0, (HR.out (by simp)).2⟩).mono ?_; rintro e w2 ⟨rfl, hb⟩; replace S := (by first | exact S.next hb | exact S.drew.next hb | exact (S.drewN _).next hb); clear hb c0 c1 c2 c3 c4 c5 hsz hB; have c0 := S.c0; have c1 := S.c1; have c2 := S.c2; have c3 := S.c3; have c4 := S.c4; have c5 := S.c5; have hsz := S.size; have hB := S.below)
    | (go_at_call 11; refine (tobool_8 _ i u f s b ⟨g0, (HR.out (by simp)).2⟩).mono ?_; rintro e w2 ⟨rfl, hb⟩; replace S := (by first | exact S.next hb | exact S.drew.next hb | exact (S.drewN _).next hb); clear hb c0 c1 c2 c3 c4 c5 hsz hB; have c0 := S.c0; have c1 := S.c1; have c2 := S.c2; have c3 := S.c3; have c4 := S.c4; have c5 := S.c5; have hsz := S.size; have hB := S.below)
    | (go_at_call 12; refine (asf_8 _ i u f s b ⟨g0, (HR.out (by simp)).2⟩).mono ?_; rintro e w2 ⟨rfl, hb⟩; replace S := (by first | exact S.next hb | exact S.drew.next hb | exact (S.drewN _).next hb); clear hb c0 c1 c2 c3 c4 c5 hsz hB; have c0 := S.c0; have c1 := S.c1; have c2 := S.c2; have c3 := S.c3; have c4 := S.c4; have c5 := S.c5; have hsz := S.size; have hB := S.below)
    | (go_at_call 13; refine (whole_8 _ i u f s b ⟨g0, (HR.out (by simp)).2⟩).mono ?_; rintro e w2 ⟨rfl, hb⟩; replace S := (by first | exact S.next hb | exact S.drew.next hb | exact (S.drewN _).next hb); clear hb c0 c1 c2 c3 c4 c5 hsz hB; have c0 := S.c0; have c1 := S.c1; have c2 := S.c2; have c3 := S.c3; have c4 := S.c4; have c5 := S.c5; have hsz := S.size; have hB := S.below)
    | (go_at_call 14; refine (asint_8 _ i u f s b ⟨g0, (HR.out (by simp)).2⟩).mono ?_; rintro e w2 ⟨rfl, hb⟩; replace S := (by first | exact S.next hb | exact S.drew.next hb | exact (S.drewN _).next hb); clear hb c0 c1 c2 c3 c4 c5 hsz hB; have c0 := S.c0; have c1 := S.c1; have c2 := S.c2; have c3 := S.c3; have c4 := S.c4; have c5 := S.c5; have hsz := S.size; have hB := S.below))
  all_goals
    go_ret
    refine ⟨?_, by first | go_grown | exact below_drewN (by go_grown) _⟩
    first | rfl | (rw [show FloatKind.f64.format.order _ _ = some Ordering.eq from HO.out]; rfl) | (simp; done) | go_goals
set_option maxHeartbeats 2000000 in
theorem cv_9 (w : World) (i u : Int) (f : Nat) (s : ByteArray) (b : Bool) (h0 : -9223372036854775808 ≤ i) (h1 : i ≤ 9223372036854775807) (g0 : 0 ≤ u) (g1 : u ≤ 18446744073709551615)  : Calls Try.prog 4 #[V 9 i u f s b] w (Fine w) := by
  have hcut := run_cut (floatOfInt .f64 u)
  have HO := Lib.hid (int_order u)
  have F := Lib.hid (fun w => fits_9 w i u f s b h0 h1 g0 g1)
  go_enter Try.func4, Try.ntmps4
  go_wp2_with (first
    | (go_at_call 5; refine (zz2 _ _ i u f s b).mono ?_; rintro e w1 ⟨r, rfl, hr, hb⟩; have S := (St.first w 9 i u f s b).next hb; clear hb; have c0 := S.c0; have c1 := S.c1; have c2 := S.c2; have c3 := S.c3; have c4 := S.c4; have c5 := S.c5; have hsz := S.size; have hB := S.below; cases r)
    | (go_at_call 6; refine (F.out _).mono ?_; rintro e w2 ⟨r, rfl, hr2, hb⟩; replace S := (by first | exact S.next hb | exact S.drew.next hb | exact (S.drewN _).next hb); clear hb c0 c1 c2 c3 c4 c5 hsz hB; have c0 := S.c0; have c1 := S.c1; have c2 := S.c2; have c3 := S.c3; have c4 := S.c4; have c5 := S.c5; have hsz := S.size; have hB := S.below; have HR := Lib.hid hr2; clear hr2; cases r)
    | (go_at_call 8; refine (toint_9 _ i u f s b ⟨g0, (HR.out (by simp)).2⟩).mono ?_; rintro e w2 ⟨rfl, hb⟩; replace S := (by first | exact S.next hb | exact S.drew.next hb | exact (S.drewN _).next hb); clear hb c0 c1 c2 c3 c4 c5 hsz hB; have c0 := S.c0; have c1 := S.c1; have c2 := S.c2; have c3 := S.c3; have c4 := S.c4; have c5 := S.c5; have hsz := S.size; have hB := S.below)
    | (go_at_call 9; refine (toint64_9 _ i u f s b ⟨g0, (HR.out (by simp)).2⟩).mono ?_; rintro e w2 ⟨rfl, hb⟩; replace S := (by first | exact S.next hb | exact S.drew.next hb | exact (S.drewN _).next hb); clear hb c0 c1 c2 c3 c4 c5 hsz hB; have c0 := S.c0; have c1 := S.c1; have c2 := S.c2; have c3 := S.c3; have c4 := S.c4; have c5 := S.c5; have hsz := S.size; have hB := S.below)
    | (go_at_call 10; refine (tofl_9 _ i u f s b ⟨g0, (HR.out (by simp)).2⟩).mono ?_; rintro e w2 ⟨rfl, hb⟩; replace S := (by first | exact S.next hb | exact S.drew.next hb | exact (S.drewN _).next hb); clear hb c0 c1 c2 c3 c4 c5 hsz hB; have c0 := S.c0; have c1 := S.c1; have c2 := S.c2; have c3 := S.c3; have c4 := S.c4; have c5 := S.c5; have hsz := S.size; have hB := S.below)
    | (go_at_call 11; refine (tobool_9 _ i u f s b ⟨g0, (HR.out (by simp)).2⟩).mono ?_; rintro e w2 ⟨rfl, hb⟩; replace S := (by first | exact S.next hb | exact S.drew.next hb | exact (S.drewN _).next hb); clear hb c0 c1 c2 c3 c4 c5 hsz hB; have c0 := S.c0; have c1 := S.c1; have c2 := S.c2; have c3 := S.c3; have c4 := S.c4; have c5 := S.c5; have hsz := S.size; have hB := S.below)
    | (go_at_call 12; refine (asf_9 _ i u f s b ⟨g0, (HR.out (by simp)).2⟩).mono ?_; rintro e w2 ⟨rfl, hb⟩; replace S := (by first | exact S.next hb | exact S.drew.next hb | exact (S.drewN _).next hb); clear hb c0 c1 c2 c3 c4 c5 hsz hB; have c0 := S.c0; have c1 := S.c1; have c2 := S.c2; have c3 := S.c3; have c4 := S.c4; have c5 := S.c5; have hsz := S.size; have hB := S.below)
    | (go_at_call 13; refine (whole_9 _ i u f s b ⟨g0, (HR.out (by simp)).2⟩).mono ?_; rintro e w2 ⟨rfl, hb⟩; replace S := (by first | exact S.next hb | exact S.drew.next hb | exact (S.drewN _).next hb); clear hb c0 c1 c2 c3 c4 c5 hsz hB; have c0 := S.c0; have c1 := S.c1; have c2 := S.c2; have c3 := S.c3; have c4 := S.c4; have c5 := S.c5; have hsz := S.size; have hB := S.below)
    | (go_at_call 14; refine (asint_9 _ i u f s b ⟨g0, (HR.out (by simp)).2⟩).mono ?_; rintro e w2 ⟨rfl, hb⟩; replace S := (by first | exact S.next hb | exact S.drew.next hb | exact (S.drewN _).next hb); clear hb c0 c1 c2 c3 c4 c5 hsz hB; have c0 := S.c0; have c1 := S.c1; have c2 := S.c2; have c3 := S.c3; have c4 := S.c4; have c5 := S.c5; have hsz := S.size; have hB := S.below))
  all_goals
    go_ret
    refine ⟨?_, by first | go_grown | exact below_drewN (by go_grown) _⟩
    first | rfl | (rw [show FloatKind.f64.format.order _ _ = some Ordering.eq from HO.out]; rfl) | (simp; done) | go_goals
set_option maxHeartbeats 2000000 in
theorem cv_10 (w : World) (i u : Int) (f : Nat) (s : ByteArray) (b : Bool) (h0 : -9223372036854775808 ≤ i) (h1 : i ≤ 9223372036854775807) (g0 : 0 ≤ u) (g1 : u ≤ 18446744073709551615)  : Calls Try.prog 4 #[V 10 i u f s b] w (Fine w) := by
  have hcut := run_cut (floatOfInt .f64 u)
  have HO := Lib.hid (int_order u)
  have F := Lib.hid (fun w => fits_10 w i u f s b h0 h1 g0 g1)
  go_enter Try.func4, Try.ntmps4
  go_wp2_with (first
    | (go_at_call 5; refine (zz2 _ _ i u f s b).mono ?_; rintro e w1 ⟨r, rfl, hr, hb⟩; have S := (St.first w 10 i u f s b).next hb; clear hb; have c0 := S.c0; have c1 := S.c1; have c2 := S.c2; have c3 := S.c3; have c4 := S.c4; have c5 := S.c5; have hsz := S.size; have hB := S.below; cases r)
    | (go_at_call 6; refine (F.out _).mono ?_; rintro e w2 ⟨r, rfl, hr2, hb⟩; replace S := (by first | exact S.next hb | exact S.drew.next hb | exact (S.drewN _).next hb); clear hb c0 c1 c2 c3 c4 c5 hsz hB; have c0 := S.c0; have c1 := S.c1; have c2 := S.c2; have c3 := S.c3; have c4 := S.c4; have c5 := S.c5; have hsz := S.size; have hB := S.below; have HR := Lib.hid hr2; clear hr2; cases r)
    | (go_at_call 8; refine (toint_10 _ i u f s b ⟨g0, (HR.out (by simp)).2⟩).mono ?_; rintro e w2 ⟨rfl, hb⟩; replace S := (by first | exact S.next hb | exact S.drew.next hb | exact (S.drewN _).next hb); clear hb c0 c1 c2 c3 c4 c5 hsz hB; have c0 := S.c0; have c1 := S.c1; have c2 := S.c2; have c3 := S.c3; have c4 := S.c4; have c5 := S.c5; have hsz := S.size; have hB := S.below)
    | (go_at_call 9; refine (toint64_10 _ i u f s b ⟨g0, (HR.out (by simp)).2⟩).mono ?_; rintro e w2 ⟨rfl, hb⟩; replace S := (by first | exact S.next hb | exact S.drew.next hb | exact (S.drewN _).next hb); clear hb c0 c1 c2 c3 c4 c5 hsz hB; have c0 := S.c0; have c1 := S.c1; have c2 := S.c2; have c3 := S.c3; have c4 := S.c4; have c5 := S.c5; have hsz := S.size; have hB := S.below)
    | (go_at_call 10; refine (tofl_10 _ i u f s b ⟨g0, (HR.out (by simp)).2⟩).mono ?_; rintro e w2 ⟨rfl, hb⟩; replace S := (by first | exact S.next hb | exact S.drew.next hb | exact (S.drewN _).next hb); clear hb c0 c1 c2 c3 c4 c5 hsz hB; have c0 := S.c0; have c1 := S.c1; have c2 := S.c2; have c3 := S.c3; have c4 := S.c4; have c5 := S.c5; have hsz := S.size; have hB := S.below)
    | (go_at_call 11; refine (tobool_10 _ i u f s b ⟨g0, (HR.out (by simp)).2⟩).mono ?_; rintro e w2 ⟨rfl, hb⟩; replace S := (by first | exact S.next hb | exact S.drew.next hb | exact (S.drewN _).next hb); clear hb c0 c1 c2 c3 c4 c5 hsz hB; have c0 := S.c0; have c1 := S.c1; have c2 := S.c2; have c3 := S.c3; have c4 := S.c4; have c5 := S.c5; have hsz := S.size; have hB := S.below)
    | (go_at_call 12; refine (asf_10 _ i u f s b ⟨g0, (HR.out (by simp)).2⟩).mono ?_; rintro e w2 ⟨rfl, hb⟩; replace S := (by first | exact S.next hb | exact S.drew.next hb | exact (S.drewN _).next hb); clear hb c0 c1 c2 c3 c4 c5 hsz hB; have c0 := S.c0; have c1 := S.c1; have c2 := S.c2; have c3 := S.c3; have c4 := S.c4; have c5 := S.c5; have hsz := S.size; have hB := S.below)
    | (go_at_call 13; refine (whole_10 _ i u f s b ⟨g0, (HR.out (by simp)).2⟩).mono ?_; rintro e w2 ⟨rfl, hb⟩; replace S := (by first | exact S.next hb | exact S.drew.next hb | exact (S.drewN _).next hb); clear hb c0 c1 c2 c3 c4 c5 hsz hB; have c0 := S.c0; have c1 := S.c1; have c2 := S.c2; have c3 := S.c3; have c4 := S.c4; have c5 := S.c5; have hsz := S.size; have hB := S.below)
    | (go_at_call 14; refine (asint_10 _ i u f s b ⟨g0, (HR.out (by simp)).2⟩).mono ?_; rintro e w2 ⟨rfl, hb⟩; replace S := (by first | exact S.next hb | exact S.drew.next hb | exact (S.drewN _).next hb); clear hb c0 c1 c2 c3 c4 c5 hsz hB; have c0 := S.c0; have c1 := S.c1; have c2 := S.c2; have c3 := S.c3; have c4 := S.c4; have c5 := S.c5; have hsz := S.size; have hB := S.below))
  all_goals
    go_ret
    refine ⟨?_, by first | go_grown | exact below_drewN (by go_grown) _⟩
    first | rfl | (rw [show FloatKind.f64.format.order _ _ = some Ordering.eq from HO.out]; rfl) | (simp; done) | go_goals
set_option maxHeartbeats 2000000 in
theorem cv_11 (w : World) (i u : Int) (f : Nat) (s : ByteArray) (b : Bool) (h0 : -9223372036854775808 ≤ i) (h1 : i ≤ 9223372036854775807) (g0 : 0 ≤ u) (g1 : u ≤ 18446744073709551615) (r q : Nat) (n : Int) (hr : ∀ w, nar f w = r) (hr0 : narN f = 0) (hq : ∀ w, wid r w = q) (hq0 : widN r = 0) (hn : floatToIntVal .f64 f .i64 = some n) (hi : FloatKind.f64.format.order q f = some .eq → floatToIntVal .f32 r .i64 = some n) (o1 : FloatKind.f64.format.order f 4845873199050653696 = some .lt) (o2 : FloatKind.f64.format.order f 14069245235905429504 = some .gt) : Calls Try.prog 4 #[V 11 i u f s b] w (Fine w) := by
  have hcut := run_cutF f 0 n hn
  have HN := Lib.hid (show _ ∧ _ from ⟨hr, hr0⟩)
  have HQ := Lib.hid (show _ ∧ _ from ⟨hq, hq0⟩)
  have HI := Lib.hid hi
  clear hn hr hr0 hq hq0 hi
  have F := Lib.hid (fun w => fits_11s w i u f s b r q HN.out.1 HN.out.2 HQ.out.1 HQ.out.2)
  go_enter Try.func4, Try.ntmps4
  go_wp2_with (first
    | (go_at_call 5; refine (zz2 _ _ i u f s b).mono ?_; rintro e w1 ⟨r, rfl, hr, hb⟩; have S := (St.first w 11 i u f s b).next hb; clear hb; have c0 := S.c0; have c1 := S.c1; have c2 := S.c2; have c3 := S.c3; have c4 := S.c4; have c5 := S.c5; have hsz := S.size; have hB := S.below; cases r)
    | (go_at_call 6; refine (F.out _).mono ?_; rintro e w2 ⟨r, rfl, hr2, hb⟩; replace S := (by first | exact S.next hb | exact S.drew.next hb | exact (S.drewN _).next hb); clear hb c0 c1 c2 c3 c4 c5 hsz hB; have c0 := S.c0; have c1 := S.c1; have c2 := S.c2; have c3 := S.c3; have c4 := S.c4; have c5 := S.c5; have hsz := S.size; have hB := S.below; have HR := Lib.hid hr2; clear hr2; cases r)
    | (go_at_call 8; refine (toint_11 _ i u f s b r n HN.out.1 HN.out.2 (HI.out (HR.out (by simp)))).mono ?_; rintro e w2 ⟨rfl, hb⟩; replace S := (by first | exact S.next hb | exact S.drew.next hb | exact (S.drewN _).next hb); clear hb c0 c1 c2 c3 c4 c5 hsz hB; have c0 := S.c0; have c1 := S.c1; have c2 := S.c2; have c3 := S.c3; have c4 := S.c4; have c5 := S.c5; have hsz := S.size; have hB := S.below)
    | (go_at_call 9; refine (toint64_11 _ i u f s b r n HN.out.1 HN.out.2 (HI.out (HR.out (by simp)))).mono ?_; rintro e w2 ⟨rfl, hb⟩; replace S := (by first | exact S.next hb | exact S.drew.next hb | exact (S.drewN _).next hb); clear hb c0 c1 c2 c3 c4 c5 hsz hB; have c0 := S.c0; have c1 := S.c1; have c2 := S.c2; have c3 := S.c3; have c4 := S.c4; have c5 := S.c5; have hsz := S.size; have hB := S.below)
    | (go_at_call 10; refine (tofl_11 _ i u f s b r q HN.out.1 HN.out.2 HQ.out.1 HQ.out.2).mono ?_; rintro e w2 ⟨rfl, hb⟩; replace S := (by first | exact S.next hb | exact S.drew.next hb | exact (S.drewN _).next hb); clear hb c0 c1 c2 c3 c4 c5 hsz hB; have c0 := S.c0; have c1 := S.c1; have c2 := S.c2; have c3 := S.c3; have c4 := S.c4; have c5 := S.c5; have hsz := S.size; have hB := S.below)
    | (go_at_call 11; refine (tobool_11 _ i u f s b r HN.out.1 HN.out.2).mono ?_; rintro e w2 ⟨rfl, hb⟩; replace S := (by first | exact S.next hb | exact S.drew.next hb | exact (S.drewN _).next hb); clear hb c0 c1 c2 c3 c4 c5 hsz hB; have c0 := S.c0; have c1 := S.c1; have c2 := S.c2; have c3 := S.c3; have c4 := S.c4; have c5 := S.c5; have hsz := S.size; have hB := S.below)
    | (go_at_call 12; refine (asf_11 _ i u f s b).mono ?_; rintro e w2 ⟨rfl, hb⟩; replace S := (by first | exact S.next hb | exact S.drew.next hb | exact (S.drewN _).next hb); clear hb c0 c1 c2 c3 c4 c5 hsz hB; have c0 := S.c0; have c1 := S.c1; have c2 := S.c2; have c3 := S.c3; have c4 := S.c4; have c5 := S.c5; have hsz := S.size; have hB := S.below)
    | (go_at_call 13; refine (whole_11 _ i u f s b).mono ?_; rintro e w2 ⟨rfl, hb⟩; replace S := (by first | exact S.next hb | exact S.drew.next hb | exact (S.drewN _).next hb); clear hb c0 c1 c2 c3 c4 c5 hsz hB; have c0 := S.c0; have c1 := S.c1; have c2 := S.c2; have c3 := S.c3; have c4 := S.c4; have c5 := S.c5; have hsz := S.size; have hB := S.below))
  all_goals
    go_ret
    refine ⟨?_, by first | go_grown | exact below_drewN (by go_grown) _⟩
    first | rfl | (rw [show FloatKind.f64.format.order q f = some Ordering.eq from HR.out (by simp)]; rfl) | (simp; done) | go_goals
set_option maxHeartbeats 2000000 in
theorem cv_11_out0 (w : World) (i u : Int) (f : Nat) (s : ByteArray) (b : Bool) (h0 : -9223372036854775808 ≤ i) (h1 : i ≤ 9223372036854775807) (g0 : 0 ≤ u) (g1 : u ≤ 18446744073709551615) (o2 : FloatKind.f64.format.order f 14069245235905429504 = some .lt) : Calls Try.prog 4 #[V 11 i u f s b] w (Fine w) := by
  have F := Lib.hid (fun w => fits_11 w i u f s b h0 h1 g0 g1)
  go_enter Try.func4, Try.ntmps4
  go_wp2_with (first
    | (go_at_call 5; refine (zz2 _ _ i u f s b).mono ?_; rintro e w1 ⟨r, rfl, hr, hb⟩; have S := (St.first w 11 i u f s b).next hb; clear hb; have c0 := S.c0; have c1 := S.c1; have c2 := S.c2; have c3 := S.c3; have c4 := S.c4; have c5 := S.c5; have hsz := S.size; have hB := S.below; cases r)
    | (go_at_call 6; refine (F.out _).mono ?_; rintro e w2 ⟨r, rfl, hr2, hb⟩; replace S := (by first | exact S.next hb | exact S.drew.next hb | exact (S.drewN _).next hb); clear hb c0 c1 c2 c3 c4 c5 hsz hB; have c0 := S.c0; have c1 := S.c1; have c2 := S.c2; have c3 := S.c3; have c4 := S.c4; have c5 := S.c5; have hsz := S.size; have hB := S.below; have HR := Lib.hid hr2; clear hr2; cases r)
)
  all_goals
    go_ret
    refine ⟨?_, by first | go_grown | exact below_drewN (by go_grown) _⟩
    first | rfl | (simp; done) | (simp; done) | go_goals
set_option maxHeartbeats 2000000 in
theorem cv_11_out1 (w : World) (i u : Int) (f : Nat) (s : ByteArray) (b : Bool) (h0 : -9223372036854775808 ≤ i) (h1 : i ≤ 9223372036854775807) (g0 : 0 ≤ u) (g1 : u ≤ 18446744073709551615) (o2 : FloatKind.f64.format.order f 14069245235905429504 = some .eq) : Calls Try.prog 4 #[V 11 i u f s b] w (Fine w) := by
  have F := Lib.hid (fun w => fits_11 w i u f s b h0 h1 g0 g1)
  go_enter Try.func4, Try.ntmps4
  go_wp2_with (first
    | (go_at_call 5; refine (zz2 _ _ i u f s b).mono ?_; rintro e w1 ⟨r, rfl, hr, hb⟩; have S := (St.first w 11 i u f s b).next hb; clear hb; have c0 := S.c0; have c1 := S.c1; have c2 := S.c2; have c3 := S.c3; have c4 := S.c4; have c5 := S.c5; have hsz := S.size; have hB := S.below; cases r)
    | (go_at_call 6; refine (F.out _).mono ?_; rintro e w2 ⟨r, rfl, hr2, hb⟩; replace S := (by first | exact S.next hb | exact S.drew.next hb | exact (S.drewN _).next hb); clear hb c0 c1 c2 c3 c4 c5 hsz hB; have c0 := S.c0; have c1 := S.c1; have c2 := S.c2; have c3 := S.c3; have c4 := S.c4; have c5 := S.c5; have hsz := S.size; have hB := S.below; have HR := Lib.hid hr2; clear hr2; cases r)
)
  all_goals
    go_ret
    refine ⟨?_, by first | go_grown | exact below_drewN (by go_grown) _⟩
    first | rfl | (simp; done) | (simp; done) | go_goals
set_option maxHeartbeats 2000000 in
theorem cv_11_out2 (w : World) (i u : Int) (f : Nat) (s : ByteArray) (b : Bool) (h0 : -9223372036854775808 ≤ i) (h1 : i ≤ 9223372036854775807) (g0 : 0 ≤ u) (g1 : u ≤ 18446744073709551615) (o2 : FloatKind.f64.format.order f 14069245235905429504 = some .gt) (o1 : FloatKind.f64.format.order f 4845873199050653696 = some .gt) : Calls Try.prog 4 #[V 11 i u f s b] w (Fine w) := by
  have F := Lib.hid (fun w => fits_11 w i u f s b h0 h1 g0 g1)
  go_enter Try.func4, Try.ntmps4
  go_wp2_with (first
    | (go_at_call 5; refine (zz2 _ _ i u f s b).mono ?_; rintro e w1 ⟨r, rfl, hr, hb⟩; have S := (St.first w 11 i u f s b).next hb; clear hb; have c0 := S.c0; have c1 := S.c1; have c2 := S.c2; have c3 := S.c3; have c4 := S.c4; have c5 := S.c5; have hsz := S.size; have hB := S.below; cases r)
    | (go_at_call 6; refine (F.out _).mono ?_; rintro e w2 ⟨r, rfl, hr2, hb⟩; replace S := (by first | exact S.next hb | exact S.drew.next hb | exact (S.drewN _).next hb); clear hb c0 c1 c2 c3 c4 c5 hsz hB; have c0 := S.c0; have c1 := S.c1; have c2 := S.c2; have c3 := S.c3; have c4 := S.c4; have c5 := S.c5; have hsz := S.size; have hB := S.below; have HR := Lib.hid hr2; clear hr2; cases r)
)
  all_goals
    go_ret
    refine ⟨?_, by first | go_grown | exact below_drewN (by go_grown) _⟩
    first | rfl | (simp; done) | (simp; done) | go_goals
set_option maxHeartbeats 2000000 in
theorem cv_11_out3 (w : World) (i u : Int) (f : Nat) (s : ByteArray) (b : Bool) (h0 : -9223372036854775808 ≤ i) (h1 : i ≤ 9223372036854775807) (g0 : 0 ≤ u) (g1 : u ≤ 18446744073709551615) (o2 : FloatKind.f64.format.order f 14069245235905429504 = some .gt) (o1 : FloatKind.f64.format.order f 4845873199050653696 = some .eq) : Calls Try.prog 4 #[V 11 i u f s b] w (Fine w) := by
  have F := Lib.hid (fun w => fits_11 w i u f s b h0 h1 g0 g1)
  go_enter Try.func4, Try.ntmps4
  go_wp2_with (first
    | (go_at_call 5; refine (zz2 _ _ i u f s b).mono ?_; rintro e w1 ⟨r, rfl, hr, hb⟩; have S := (St.first w 11 i u f s b).next hb; clear hb; have c0 := S.c0; have c1 := S.c1; have c2 := S.c2; have c3 := S.c3; have c4 := S.c4; have c5 := S.c5; have hsz := S.size; have hB := S.below; cases r)
    | (go_at_call 6; refine (F.out _).mono ?_; rintro e w2 ⟨r, rfl, hr2, hb⟩; replace S := (by first | exact S.next hb | exact S.drew.next hb | exact (S.drewN _).next hb); clear hb c0 c1 c2 c3 c4 c5 hsz hB; have c0 := S.c0; have c1 := S.c1; have c2 := S.c2; have c3 := S.c3; have c4 := S.c4; have c5 := S.c5; have hsz := S.size; have hB := S.below; have HR := Lib.hid hr2; clear hr2; cases r)
)
  all_goals
    go_ret
    refine ⟨?_, by first | go_grown | exact below_drewN (by go_grown) _⟩
    first | rfl | (simp; done) | (simp; done) | go_goals
set_option maxHeartbeats 2000000 in
theorem cv_11_nan (w : World) (i u : Int) (f : Nat) (s : ByteArray) (b : Bool) (h0 : -9223372036854775808 ≤ i) (h1 : i ≤ 9223372036854775807) (g0 : 0 ≤ u) (g1 : u ≤ 18446744073709551615) (on : feq f f = false) : Calls Try.prog 4 #[V 11 i u f s b] w (Fine w) := by
  have F := Lib.hid (fun w => fits_11_nan w i u f s b h0 h1 g0 g1 on)
  clear on
  go_enter Try.func4, Try.ntmps4
  go_wp2_with (first
    | (go_at_call 5; refine (zz2 _ _ i u f s b).mono ?_; rintro e w1 ⟨r, rfl, hr, hb⟩; have S := (St.first w 11 i u f s b).next hb; clear hb; have c0 := S.c0; have c1 := S.c1; have c2 := S.c2; have c3 := S.c3; have c4 := S.c4; have c5 := S.c5; have hsz := S.size; have hB := S.below; cases r)
    | (go_at_call 6; refine (F.out _).mono ?_; rintro e w2 ⟨r, rfl, rfl, hb⟩; replace S := (by first | exact S.next hb | exact S.drew.next hb | exact (S.drewN _).next hb); clear hb c0 c1 c2 c3 c4 c5 hsz hB; have c0 := S.c0; have c1 := S.c1; have c2 := S.c2; have c3 := S.c3; have c4 := S.c4; have c5 := S.c5; have hsz := S.size; have hB := S.below)
)
  all_goals
    go_ret
    refine ⟨?_, by first | go_grown | exact below_drewN (by go_grown) _⟩
    first | rfl | (simp; done) | (simp; done) | go_goals
set_option maxHeartbeats 2000000 in
theorem cv_12 (w : World) (i u : Int) (f : Nat) (s : ByteArray) (b : Bool) (h0 : -9223372036854775808 ≤ i) (h1 : i ≤ 9223372036854775807) (g0 : 0 ≤ u) (g1 : u ≤ 18446744073709551615) (n : Int) (hn : floatToIntVal .f64 f .i64 = some n) (oo : FloatKind.f64.format.order f f = some .eq) (o1 : FloatKind.f64.format.order f 4845873199050653696 = some .lt) (o2 : FloatKind.f64.format.order f 14069245235905429504 = some .gt) : Calls Try.prog 4 #[V 12 i u f s b] w (Fine w) := by
  have HO := Lib.hid oo
  have hcut := run_cutF f 0 n hn
  have HN := Lib.hid hn
  clear hn oo
  have F := Lib.hid (fun w => fits_12 w i u f s b h0 h1 g0 g1)
  go_enter Try.func4, Try.ntmps4
  go_wp2_with (first
    | (go_at_call 5; refine (zz2 _ _ i u f s b).mono ?_; rintro e w1 ⟨r, rfl, hr, hb⟩; have S := (St.first w 12 i u f s b).next hb; clear hb; have c0 := S.c0; have c1 := S.c1; have c2 := S.c2; have c3 := S.c3; have c4 := S.c4; have c5 := S.c5; have hsz := S.size; have hB := S.below; cases r)
    | (go_at_call 6; refine (F.out _).mono ?_; rintro e w2 ⟨r, rfl, hr2, hb⟩; replace S := (by first | exact S.next hb | exact S.drew.next hb | exact (S.drewN _).next hb); clear hb c0 c1 c2 c3 c4 c5 hsz hB; have c0 := S.c0; have c1 := S.c1; have c2 := S.c2; have c3 := S.c3; have c4 := S.c4; have c5 := S.c5; have hsz := S.size; have hB := S.below; have HR := Lib.hid hr2; clear hr2; cases r)
    | (go_at_call 8; refine (toint_12 _ i u f s b n HN.out).mono ?_; rintro e w2 ⟨rfl, hb⟩; replace S := (by first | exact S.next hb | exact S.drew.next hb | exact (S.drewN _).next hb); clear hb c0 c1 c2 c3 c4 c5 hsz hB; have c0 := S.c0; have c1 := S.c1; have c2 := S.c2; have c3 := S.c3; have c4 := S.c4; have c5 := S.c5; have hsz := S.size; have hB := S.below)
    | (go_at_call 9; refine (toint64_12 _ i u f s b n HN.out).mono ?_; rintro e w2 ⟨rfl, hb⟩; replace S := (by first | exact S.next hb | exact S.drew.next hb | exact (S.drewN _).next hb); clear hb c0 c1 c2 c3 c4 c5 hsz hB; have c0 := S.c0; have c1 := S.c1; have c2 := S.c2; have c3 := S.c3; have c4 := S.c4; have c5 := S.c5; have hsz := S.size; have hB := S.below)
    | (go_at_call 10; refine (tofl_12 _ i u f s b).mono ?_; rintro e w2 ⟨rfl, hb⟩; replace S := (by first | exact S.next hb | exact S.drew.next hb | exact (S.drewN _).next hb); clear hb c0 c1 c2 c3 c4 c5 hsz hB; have c0 := S.c0; have c1 := S.c1; have c2 := S.c2; have c3 := S.c3; have c4 := S.c4; have c5 := S.c5; have hsz := S.size; have hB := S.below)
    | (go_at_call 11; refine (tobool_12 _ i u f s b).mono ?_; rintro e w2 ⟨rfl, hb⟩; replace S := (by first | exact S.next hb | exact S.drew.next hb | exact (S.drewN _).next hb); clear hb c0 c1 c2 c3 c4 c5 hsz hB; have c0 := S.c0; have c1 := S.c1; have c2 := S.c2; have c3 := S.c3; have c4 := S.c4; have c5 := S.c5; have hsz := S.size; have hB := S.below)
    | (go_at_call 12; refine (asf_12 _ i u f s b).mono ?_; rintro e w2 ⟨rfl, hb⟩; replace S := (by first | exact S.next hb | exact S.drew.next hb | exact (S.drewN _).next hb); clear hb c0 c1 c2 c3 c4 c5 hsz hB; have c0 := S.c0; have c1 := S.c1; have c2 := S.c2; have c3 := S.c3; have c4 := S.c4; have c5 := S.c5; have hsz := S.size; have hB := S.below)
    | (go_at_call 13; refine (whole_12 _ i u f s b).mono ?_; rintro e w2 ⟨rfl, hb⟩; replace S := (by first | exact S.next hb | exact S.drew.next hb | exact (S.drewN _).next hb); clear hb c0 c1 c2 c3 c4 c5 hsz hB; have c0 := S.c0; have c1 := S.c1; have c2 := S.c2; have c3 := S.c3; have c4 := S.c4; have c5 := S.c5; have hsz := S.size; have hB := S.below))
  all_goals
    go_ret
    refine ⟨?_, by first | go_grown | exact below_drewN (by go_grown) _⟩
    first | rfl | (rw [show FloatKind.f64.format.order _ _ = some Ordering.eq from HO.out]; rfl) | (simp; done) | go_goals
set_option maxHeartbeats 2000000 in
theorem cv_12_out0 (w : World) (i u : Int) (f : Nat) (s : ByteArray) (b : Bool) (h0 : -9223372036854775808 ≤ i) (h1 : i ≤ 9223372036854775807) (g0 : 0 ≤ u) (g1 : u ≤ 18446744073709551615) (o2 : FloatKind.f64.format.order f 14069245235905429504 = some .lt) : Calls Try.prog 4 #[V 12 i u f s b] w (Fine w) := by
  have F := Lib.hid (fun w => fits_12 w i u f s b h0 h1 g0 g1)
  go_enter Try.func4, Try.ntmps4
  go_wp2_with (first
    | (go_at_call 5; refine (zz2 _ _ i u f s b).mono ?_; rintro e w1 ⟨r, rfl, hr, hb⟩; have S := (St.first w 12 i u f s b).next hb; clear hb; have c0 := S.c0; have c1 := S.c1; have c2 := S.c2; have c3 := S.c3; have c4 := S.c4; have c5 := S.c5; have hsz := S.size; have hB := S.below; cases r)
    | (go_at_call 6; refine (F.out _).mono ?_; rintro e w2 ⟨r, rfl, hr2, hb⟩; replace S := (by first | exact S.next hb | exact S.drew.next hb | exact (S.drewN _).next hb); clear hb c0 c1 c2 c3 c4 c5 hsz hB; have c0 := S.c0; have c1 := S.c1; have c2 := S.c2; have c3 := S.c3; have c4 := S.c4; have c5 := S.c5; have hsz := S.size; have hB := S.below; have HR := Lib.hid hr2; clear hr2; cases r)
)
  all_goals
    go_ret
    refine ⟨?_, by first | go_grown | exact below_drewN (by go_grown) _⟩
    first | rfl | (simp; done) | (simp; done) | go_goals
set_option maxHeartbeats 2000000 in
theorem cv_12_out1 (w : World) (i u : Int) (f : Nat) (s : ByteArray) (b : Bool) (h0 : -9223372036854775808 ≤ i) (h1 : i ≤ 9223372036854775807) (g0 : 0 ≤ u) (g1 : u ≤ 18446744073709551615) (o2 : FloatKind.f64.format.order f 14069245235905429504 = some .eq) : Calls Try.prog 4 #[V 12 i u f s b] w (Fine w) := by
  have F := Lib.hid (fun w => fits_12 w i u f s b h0 h1 g0 g1)
  go_enter Try.func4, Try.ntmps4
  go_wp2_with (first
    | (go_at_call 5; refine (zz2 _ _ i u f s b).mono ?_; rintro e w1 ⟨r, rfl, hr, hb⟩; have S := (St.first w 12 i u f s b).next hb; clear hb; have c0 := S.c0; have c1 := S.c1; have c2 := S.c2; have c3 := S.c3; have c4 := S.c4; have c5 := S.c5; have hsz := S.size; have hB := S.below; cases r)
    | (go_at_call 6; refine (F.out _).mono ?_; rintro e w2 ⟨r, rfl, hr2, hb⟩; replace S := (by first | exact S.next hb | exact S.drew.next hb | exact (S.drewN _).next hb); clear hb c0 c1 c2 c3 c4 c5 hsz hB; have c0 := S.c0; have c1 := S.c1; have c2 := S.c2; have c3 := S.c3; have c4 := S.c4; have c5 := S.c5; have hsz := S.size; have hB := S.below; have HR := Lib.hid hr2; clear hr2; cases r)
)
  all_goals
    go_ret
    refine ⟨?_, by first | go_grown | exact below_drewN (by go_grown) _⟩
    first | rfl | (simp; done) | (simp; done) | go_goals
set_option maxHeartbeats 2000000 in
theorem cv_12_out2 (w : World) (i u : Int) (f : Nat) (s : ByteArray) (b : Bool) (h0 : -9223372036854775808 ≤ i) (h1 : i ≤ 9223372036854775807) (g0 : 0 ≤ u) (g1 : u ≤ 18446744073709551615) (o2 : FloatKind.f64.format.order f 14069245235905429504 = some .gt) (o1 : FloatKind.f64.format.order f 4845873199050653696 = some .gt) : Calls Try.prog 4 #[V 12 i u f s b] w (Fine w) := by
  have F := Lib.hid (fun w => fits_12 w i u f s b h0 h1 g0 g1)
  go_enter Try.func4, Try.ntmps4
  go_wp2_with (first
    | (go_at_call 5; refine (zz2 _ _ i u f s b).mono ?_; rintro e w1 ⟨r, rfl, hr, hb⟩; have S := (St.first w 12 i u f s b).next hb; clear hb; have c0 := S.c0; have c1 := S.c1; have c2 := S.c2; have c3 := S.c3; have c4 := S.c4; have c5 := S.c5; have hsz := S.size; have hB := S.below; cases r)
    | (go_at_call 6; refine (F.out _).mono ?_; rintro e w2 ⟨r, rfl, hr2, hb⟩; replace S := (by first | exact S.next hb | exact S.drew.next hb | exact (S.drewN _).next hb); clear hb c0 c1 c2 c3 c4 c5 hsz hB; have c0 := S.c0; have c1 := S.c1; have c2 := S.c2; have c3 := S.c3; have c4 := S.c4; have c5 := S.c5; have hsz := S.size; have hB := S.below; have HR := Lib.hid hr2; clear hr2; cases r)
)
  all_goals
    go_ret
    refine ⟨?_, by first | go_grown | exact below_drewN (by go_grown) _⟩
    first | rfl | (simp; done) | (simp; done) | go_goals
set_option maxHeartbeats 2000000 in
theorem cv_12_out3 (w : World) (i u : Int) (f : Nat) (s : ByteArray) (b : Bool) (h0 : -9223372036854775808 ≤ i) (h1 : i ≤ 9223372036854775807) (g0 : 0 ≤ u) (g1 : u ≤ 18446744073709551615) (o2 : FloatKind.f64.format.order f 14069245235905429504 = some .gt) (o1 : FloatKind.f64.format.order f 4845873199050653696 = some .eq) : Calls Try.prog 4 #[V 12 i u f s b] w (Fine w) := by
  have F := Lib.hid (fun w => fits_12 w i u f s b h0 h1 g0 g1)
  go_enter Try.func4, Try.ntmps4
  go_wp2_with (first
    | (go_at_call 5; refine (zz2 _ _ i u f s b).mono ?_; rintro e w1 ⟨r, rfl, hr, hb⟩; have S := (St.first w 12 i u f s b).next hb; clear hb; have c0 := S.c0; have c1 := S.c1; have c2 := S.c2; have c3 := S.c3; have c4 := S.c4; have c5 := S.c5; have hsz := S.size; have hB := S.below; cases r)
    | (go_at_call 6; refine (F.out _).mono ?_; rintro e w2 ⟨r, rfl, hr2, hb⟩; replace S := (by first | exact S.next hb | exact S.drew.next hb | exact (S.drewN _).next hb); clear hb c0 c1 c2 c3 c4 c5 hsz hB; have c0 := S.c0; have c1 := S.c1; have c2 := S.c2; have c3 := S.c3; have c4 := S.c4; have c5 := S.c5; have hsz := S.size; have hB := S.below; have HR := Lib.hid hr2; clear hr2; cases r)
)
  all_goals
    go_ret
    refine ⟨?_, by first | go_grown | exact below_drewN (by go_grown) _⟩
    first | rfl | (simp; done) | (simp; done) | go_goals
set_option maxHeartbeats 2000000 in
theorem cv_12_nan (w : World) (i u : Int) (f : Nat) (s : ByteArray) (b : Bool) (h0 : -9223372036854775808 ≤ i) (h1 : i ≤ 9223372036854775807) (g0 : 0 ≤ u) (g1 : u ≤ 18446744073709551615) (on : feq f f = false) : Calls Try.prog 4 #[V 12 i u f s b] w (Fine w) := by
  have F := Lib.hid (fun w => fits_12_nan w i u f s b h0 h1 g0 g1 on)
  clear on
  go_enter Try.func4, Try.ntmps4
  go_wp2_with (first
    | (go_at_call 5; refine (zz2 _ _ i u f s b).mono ?_; rintro e w1 ⟨r, rfl, hr, hb⟩; have S := (St.first w 12 i u f s b).next hb; clear hb; have c0 := S.c0; have c1 := S.c1; have c2 := S.c2; have c3 := S.c3; have c4 := S.c4; have c5 := S.c5; have hsz := S.size; have hB := S.below; cases r)
    | (go_at_call 6; refine (F.out _).mono ?_; rintro e w2 ⟨r, rfl, rfl, hb⟩; replace S := (by first | exact S.next hb | exact S.drew.next hb | exact (S.drewN _).next hb); clear hb c0 c1 c2 c3 c4 c5 hsz hB; have c0 := S.c0; have c1 := S.c1; have c2 := S.c2; have c3 := S.c3; have c4 := S.c4; have c5 := S.c5; have hsz := S.size; have hB := S.below)
)
  all_goals
    go_ret
    refine ⟨?_, by first | go_grown | exact below_drewN (by go_grown) _⟩
    first | rfl | (simp; done) | (simp; done) | go_goals
set_option maxHeartbeats 2000000 in
theorem cv_13 (w : World) (i u : Int) (f : Nat) (s : ByteArray) (b : Bool) (h0 : -9223372036854775808 ≤ i) (h1 : i ≤ 9223372036854775807) (g0 : 0 ≤ u) (g1 : u ≤ 18446744073709551615)  : Calls Try.prog 4 #[V 13 i u f s b] w (Fine w) := by
  have F := Lib.hid (fun w => fits_13 w i u f s b h0 h1 g0 g1)
  go_enter Try.func4, Try.ntmps4
  go_wp2_with (first
    | (go_at_call 5; refine (zz2 _ _ i u f s b).mono ?_; rintro e w1 ⟨r, rfl, hr, hb⟩; have S := (St.first w 13 i u f s b).next hb; clear hb; have c0 := S.c0; have c1 := S.c1; have c2 := S.c2; have c3 := S.c3; have c4 := S.c4; have c5 := S.c5; have hsz := S.size; have hB := S.below; cases r)
    | (go_at_call 6; refine (F.out _).mono ?_; rintro e w2 ⟨r, rfl, hr2, hb⟩; replace S := (by first | exact S.next hb | exact S.drew.next hb | exact (S.drewN _).next hb); clear hb c0 c1 c2 c3 c4 c5 hsz hB; have c0 := S.c0; have c1 := S.c1; have c2 := S.c2; have c3 := S.c3; have c4 := S.c4; have c5 := S.c5; have hsz := S.size; have hB := S.below; have HR := Lib.hid hr2; clear hr2; cases r)
)
  all_goals
    go_ret
    refine ⟨?_, by first | go_grown | exact below_drewN (by go_grown) _⟩
    first | rfl | (simp; done) | (simp; done) | go_goals
set_option maxHeartbeats 2000000 in
theorem cv_14 (w : World) (i u : Int) (f : Nat) (s : ByteArray) (b : Bool) (h0 : -9223372036854775808 ≤ i) (h1 : i ≤ 9223372036854775807) (g0 : 0 ≤ u) (g1 : u ≤ 18446744073709551615)  : Calls Try.prog 4 #[V 14 i u f s b] w (Fine w) := by
  have F := Lib.hid (fun w => fits_14 w i u f s b h0 h1 g0 g1)
  go_enter Try.func4, Try.ntmps4
  go_wp2_with (first
    | (go_at_call 5; refine (zz2 _ _ i u f s b).mono ?_; rintro e w1 ⟨r, rfl, hr, hb⟩; have S := (St.first w 14 i u f s b).next hb; clear hb; have c0 := S.c0; have c1 := S.c1; have c2 := S.c2; have c3 := S.c3; have c4 := S.c4; have c5 := S.c5; have hsz := S.size; have hB := S.below; cases r)
    | (go_at_call 6; refine (F.out _).mono ?_; rintro e w2 ⟨r, rfl, hr2, hb⟩; replace S := (by first | exact S.next hb | exact S.drew.next hb | exact (S.drewN _).next hb); clear hb c0 c1 c2 c3 c4 c5 hsz hB; have c0 := S.c0; have c1 := S.c1; have c2 := S.c2; have c3 := S.c3; have c4 := S.c4; have c5 := S.c5; have hsz := S.size; have hB := S.below; have HR := Lib.hid hr2; clear hr2; cases r)
    | (go_at_call 8; refine (toint_14 _ i u f s b).mono ?_; rintro e w2 ⟨rfl, hb⟩; replace S := (by first | exact S.next hb | exact S.drew.next hb | exact (S.drewN _).next hb); clear hb c0 c1 c2 c3 c4 c5 hsz hB; have c0 := S.c0; have c1 := S.c1; have c2 := S.c2; have c3 := S.c3; have c4 := S.c4; have c5 := S.c5; have hsz := S.size; have hB := S.below)
    | (go_at_call 9; refine (toint64_14 _ i u f s b).mono ?_; rintro e w2 ⟨rfl, hb⟩; replace S := (by first | exact S.next hb | exact S.drew.next hb | exact (S.drewN _).next hb); clear hb c0 c1 c2 c3 c4 c5 hsz hB; have c0 := S.c0; have c1 := S.c1; have c2 := S.c2; have c3 := S.c3; have c4 := S.c4; have c5 := S.c5; have hsz := S.size; have hB := S.below)
    | (go_at_call 10; refine (tofl_14 _ i u f s b).mono ?_; rintro e w2 ⟨rfl, hb⟩; replace S := (by first | exact S.next hb | exact S.drew.next hb | exact (S.drewN _).next hb); clear hb c0 c1 c2 c3 c4 c5 hsz hB; have c0 := S.c0; have c1 := S.c1; have c2 := S.c2; have c3 := S.c3; have c4 := S.c4; have c5 := S.c5; have hsz := S.size; have hB := S.below)
    | (go_at_call 11; refine (tobool_14 _ i u f s b).mono ?_; rintro e w2 ⟨rfl, hb⟩; replace S := (by first | exact S.next hb | exact S.drew.next hb | exact (S.drewN _).next hb); clear hb c0 c1 c2 c3 c4 c5 hsz hB; have c0 := S.c0; have c1 := S.c1; have c2 := S.c2; have c3 := S.c3; have c4 := S.c4; have c5 := S.c5; have hsz := S.size; have hB := S.below))
  all_goals
    go_ret
    refine ⟨?_, by first | go_grown | exact below_drewN (by go_grown) _⟩
    first | rfl | (simp; done) | (simp; done) | go_goals
set_option maxHeartbeats 2000000 in
theorem cv_no (k : Int) (hk : k < 0 ∨ 14 < k) (hk0 : -9223372036854775808 ≤ k) (hk1 : k ≤ 9223372036854775807) (w : World) (i u : Int) (f : Nat) (s : ByteArray) (b : Bool) (h0 : -9223372036854775808 ≤ i) (h1 : i ≤ 9223372036854775807) (g0 : 0 ≤ u) (g1 : u ≤ 18446744073709551615)  : Calls Try.prog 4 #[V k i u f s b] w (Fine w) := by
  have F := Lib.hid (fun w => fits_no k hk w i u f s b h0 h1 g0 g1)
  go_enter Try.func4, Try.ntmps4
  go_wp2_with (first
    | (go_at_call 5; refine (zz2 _ _ i u f s b).mono ?_; rintro e w1 ⟨r, rfl, hr, hb⟩; have S := (St.first w k i u f s b).next hb; clear hb; have c0 := S.c0; have c1 := S.c1; have c2 := S.c2; have c3 := S.c3; have c4 := S.c4; have c5 := S.c5; have hsz := S.size; have hB := S.below; cases r)
    | (go_at_call 6; refine (F.out _).mono ?_; rintro e w2 ⟨r, rfl, rfl, hb⟩; replace S := (by first | exact S.next hb | exact S.drew.next hb | exact (S.drewN _).next hb); clear hb c0 c1 c2 c3 c4 c5 hsz hB; have c0 := S.c0; have c1 := S.c1; have c2 := S.c2; have c3 := S.c3; have c4 := S.c4; have c5 := S.c5; have hsz := S.size; have hB := S.below)
)
  all_goals
    go_ret
    refine ⟨?_, by first | go_grown | exact below_drewN (by go_grown) _⟩
    first | rfl | (simp; done) | (simp; done) | go_goals
end Go.Proofs.Ytaabfmmfneajoaa.Num
