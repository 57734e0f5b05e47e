-- PRINTED BY print.sh 35421559b90ae4d0a3588c463048766b98c2df88dd9212a6774a882060cdf62d: not written by this session
import Derived.Test.YtlphfinmdacolaaPFnLevelsx0
import Derived.Test.YtlphfinmdacolaaPFnLevelsx1
import Derived.Test.YtlphfinmdacolaaPFnLevelsx2
namespace Go.Proofs.Ytlphfinmdacolaa.PFnLevels
open Go.RowKit Go.Proofs.YtlphfinmdacolaaW.PrintWords Go.Proofs.YtlphfinmdacolaaW.PrintLast Go.Proofs.YtlphfinmdacolaaW.PrintMore
attribute [local go_sem] max2_int min2_int max_two min_two max_three min_three max_four min_four   -- for this text's walks alone
set_option linter.unusedVariables false
set_option linter.unusedSimpArgs false

/-! ### laws_FnLevels: function 4 -/
mutual
def laws_FnLevels.j0 : Nat → ByteArray → ByteArray → Bool → Option (Bool)
  | 0, _, _, _ => none
  | k + 1, x0, x1, x24 => if x24 = true then (some true) else ((impl_Binary.f x0).bind fun bt106 => ((impl_Binary.f x1).bind fun bt109 => ((spec_Level.f k x0).bind fun t112 => ((spec_Level.f k x1).bind fun t113 => ((impl_Binary.f (⟨#[43]⟩ : ByteArray)).bind fun bt114 => (if (bt106.2.2 != (decide (t112 ≥ 0))) = true then (laws_FnLevels.j1 k bt106.1 bt106.2.1 bt106.2.2 bt109.1 bt109.2.2 t112 t113 true) else (if (bt109.2.2 != (decide (t113 ≥ 0))) = true then (laws_FnLevels.j1 k bt106.1 bt106.2.1 bt106.2.2 bt109.1 bt109.2.2 t112 t113 true) else (laws_FnLevels.j1 k bt106.1 bt106.2.1 bt106.2.2 bt109.1 bt109.2.2 t112 t113 (!bt114.2.2)))))))))
def laws_FnLevels.j1 : Nat → Int → Int → Bool → Int → Bool → Int → Int → Bool → Option (Bool)
  | 0, _, _, _, _, _, _, _, _ => none
  | k + 1, x5, x6, x7, x8, x10, x11, x12, x59 => if x59 = true then (some false) else (if x7 = true then (laws_FnLevels.j2 k x5 x6 x8 x11 x12 (!x10)) else (laws_FnLevels.j2 k x5 x6 x8 x11 x12 true))
def laws_FnLevels.j2 : Nat → Int → Int → Int → Int → Int → Bool → Option (Bool)
  | 0, _, _, _, _, _, _ => none
  | k + 1, x5, x6, x8, x11, x12, x65 => if x65 = true then (some true) else ((spec_Level.f k (⟨#[94]⟩ : ByteArray)).bind fun t117 => (if x11 = t117 then (if ((decide (x5 < x8)) == (decide (x11 < x12))) = true then (if ((x5 == x8) == (x11 == x12)) = true then (some (x6 == 2)) else (some false)) else (some false)) else (if ((decide (x5 < x8)) == (decide (x11 < x12))) = true then (if ((x5 == x8) == (x11 == x12)) = true then (some (x6 == 1)) else (some false)) else (some false))))
end
def laws_FnLevels.f (k : Nat) (a0 : ByteArray) (a1 : ByteArray) : Option (Bool) := if (a0.size : Int) > 2147483647 then (laws_FnLevels.j0 k a0 a1 true) else (laws_FnLevels.j0 k a0 a1 (decide ((a1.size : Int) > 2147483647)))
theorem laws_FnLevels.mono_l : ∀ k, (∀ y0 y1 y2, LeO (laws_FnLevels.j0 k y0 y1 y2) (laws_FnLevels.j0 (k + 1) y0 y1 y2)) ∧ (∀ y0 y1 y2 y3 y4 y5 y6 y7, LeO (laws_FnLevels.j1 k y0 y1 y2 y3 y4 y5 y6 y7) (laws_FnLevels.j1 (k + 1) y0 y1 y2 y3 y4 y5 y6 y7)) ∧ (∀ y0 y1 y2 y3 y4 y5, LeO (laws_FnLevels.j2 k y0 y1 y2 y3 y4 y5) (laws_FnLevels.j2 (k + 1) y0 y1 y2 y3 y4 y5))
  | 0 => ⟨fun _ _ _ r h => by simp [laws_FnLevels.j0] at h, fun _ _ _ _ _ _ _ _ r h => by simp [laws_FnLevels.j1] at h, fun _ _ _ _ _ _ r h => by simp [laws_FnLevels.j2] at h⟩
  | k + 1 => by
    obtain ⟨ih0, ih1, ih2⟩ := laws_FnLevels.mono_l k
    refine ⟨?_, ?_, ?_⟩
    · intro y0 y1 y2
      unfold laws_FnLevels.j0
      repeat' first
      | (with_reducible exact ih0 _ _ _)
      | (with_reducible exact ih1 _ _ _ _ _ _ _ _)
      | (with_reducible exact ih2 _ _ _ _ _ _)
      | (with_reducible exact spec_Level.mono _ _)
      | (with_reducible exact LeO.refl _)
      | (with_reducible exact LeO.none _)
      | (with_reducible refine LeO.ite ?_ ?_)
      | (with_reducible refine LeO.bind ?_ (fun _ => ?_))
      | exact ih0 _ _ _
      | exact ih1 _ _ _ _ _ _ _ _
      | exact ih2 _ _ _ _ _ _
      | exact spec_Level.mono _ _
      | exact LeO.none _
      | refine LeO.ite ?_ ?_
      | refine LeO.bind ?_ (fun _ => ?_)
    · intro y0 y1 y2 y3 y4 y5 y6 y7
      unfold laws_FnLevels.j1
      repeat' first
      | (with_reducible exact ih0 _ _ _)
      | (with_reducible exact ih1 _ _ _ _ _ _ _ _)
      | (with_reducible exact ih2 _ _ _ _ _ _)
      | (with_reducible exact spec_Level.mono _ _)
      | (with_reducible exact LeO.refl _)
      | (with_reducible exact LeO.none _)
      | (with_reducible refine LeO.ite ?_ ?_)
      | (with_reducible refine LeO.bind ?_ (fun _ => ?_))
      | exact ih0 _ _ _
      | exact ih1 _ _ _ _ _ _ _ _
      | exact ih2 _ _ _ _ _ _
      | exact spec_Level.mono _ _
      | exact LeO.none _
      | refine LeO.ite ?_ ?_
      | refine LeO.bind ?_ (fun _ => ?_)
    · intro y0 y1 y2 y3 y4 y5
      unfold laws_FnLevels.j2
      repeat' first
      | (with_reducible exact ih0 _ _ _)
      | (with_reducible exact ih1 _ _ _ _ _ _ _ _)
      | (with_reducible exact ih2 _ _ _ _ _ _)
      | (with_reducible exact spec_Level.mono _ _)
      | (with_reducible exact LeO.refl _)
      | (with_reducible exact LeO.none _)
      | (with_reducible refine LeO.ite ?_ ?_)
      | (with_reducible refine LeO.bind ?_ (fun _ => ?_))
      | exact ih0 _ _ _
      | exact ih1 _ _ _ _ _ _ _ _
      | exact ih2 _ _ _ _ _ _
      | exact spec_Level.mono _ _
      | exact LeO.none _
      | refine LeO.ite ?_ ?_
      | refine LeO.bind ?_ (fun _ => ?_)
theorem laws_FnLevels.mono : ∀ a0 a1 k, LeO (laws_FnLevels.f k a0 a1) (laws_FnLevels.f (k + 1) a0 a1) := by
  intro a0 a1 k
  obtain ⟨ih0, ih1, ih2⟩ := laws_FnLevels.mono_l k
  unfold laws_FnLevels.f
  repeat' first
      | (with_reducible exact ih0 _ _ _)
      | (with_reducible exact ih1 _ _ _ _ _ _ _ _)
      | (with_reducible exact ih2 _ _ _ _ _ _)
      | (with_reducible exact spec_Level.mono _ _)
      | (with_reducible exact LeO.refl _)
      | (with_reducible exact LeO.none _)
      | (with_reducible refine LeO.ite ?_ ?_)
      | (with_reducible refine LeO.bind ?_ (fun _ => ?_))
      | exact ih0 _ _ _
      | exact ih1 _ _ _ _ _ _ _ _
      | exact ih2 _ _ _ _ _ _
      | exact spec_Level.mono _ _
      | exact LeO.none _
      | refine LeO.ite ?_ ?_
      | refine LeO.bind ?_ (fun _ => ?_)
set_option maxHeartbeats 8000000 in
set_option maxRecDepth 100000 in
theorem laws_FnLevels.calls (k : Nat) (a0 : ByteArray) (a1 : ByteArray) (r : Bool) (w : World) (h : laws_FnLevels.f k a0 a1 = some r) :
    Calls Try.prog 4 #[.string a0, .string a1] w fun e w' => e = .returned (.bool r) ∧ Below w.heap.size w w' := by
  have HB := Aside0.mk (Below.refl w.heap.size w)
  have H : (if (a0.size : Int) > 2147483647 then (laws_FnLevels.j0 k a0 a1 true) else (laws_FnLevels.j0 k a0 a1 (decide ((a1.size : Int) > 2147483647)))) = some r := h
  clear h
  have HC3 := Aside0.mk H
  clear H
  go_enter Try.func4, Try.ntmps4
  go_upto_region 1 with (fail)
  go_cut [24] (fun v24 wc => ∃ (kq : Nat) (x24_2 : Bool), v24 = .bool x24_2 ∧ Aside0 (laws_FnLevels.j0 kq a0 a1 x24_2 = some r) ∧ Aside0 (kq ≤ k) ∧ Aside0 (Below w.heap.size w wc))
  case first =>
    have H := HC3.out
    clear HC3
    by_cases c4 : (a0.size : Int) > 2147483647
    · rw [if_pos c4] at H
      have c4b0 : decide (2147483647 < (a0.size : Int)) = true := decide_eq_true c4
      have c4b1 : decide (2147483647 < a0.size) = true := decide_eq_true (by omega)
      clear c4
      (first | rw [c4b0] | (simp only [i64_w, i32_w]; rw [c4b0]) | skip)
      have H' := Aside0.mk H
      clear H
      go_wp2
      go_meet
      case rel => exact ⟨_, (true), (by first | rfl | (simp; done) | (simp [*]; done)), H', ⟨by first | omega | exact Nat.le_refl _⟩, ⟨by repeat (first | (with_reducible first | exact HB.out | apply below_alloc | apply pw_below_drewN | apply below_drew1) | exact HB.out)⟩⟩
    · rw [if_neg c4] at H
      have c4b0 : decide (2147483647 < (a0.size : Int)) = false := decide_eq_false c4
      have c4b1 : decide (2147483647 < a0.size) = false := decide_eq_false (by omega)
      clear c4
      (first | rw [c4b0] | (simp only [i64_w, i32_w]; rw [c4b0]) | skip)
      have H' := Aside0.mk H
      clear H
      go_wp2
      go_meet
      case rel => exact ⟨_, (decide ((a1.size : Int) > 2147483647)), (by first | rfl | (simp; done) | (simp [*]; done)), H', ⟨by first | omega | exact Nat.le_refl _⟩, ⟨by repeat (first | (with_reducible first | exact HB.out | apply below_alloc | apply pw_below_drewN | apply below_drew1) | exact HB.out)⟩⟩
  case rest =>
    clear HC3
    try clear p2
    try clear c4
    try clear c4b0
    try clear c4b1
    obtain ⟨kq, x24_2, rfl, HA, HJ2, HB⟩ := hcut
    cases kq with
    | zero => exact absurd HA.out (by simp [laws_FnLevels.j0])
    | succ kj2 =>
      have H := HA.out
      clear HA
      simp only [laws_FnLevels.j0] at H
      by_cases c5 : x24_2 = true
      · subst c5
        have H1 : (some true) = some r := by rw [if_pos rfl] at H; exact H
        clear H
        have H := H1
        clear H1
        obtain rfl := Option.some.inj H
        go_wp2
        go_ret
        exact ⟨by first | rfl | (simp [errW_none, errW_some] <;> rfl) | (simp [*, errW_none, errW_some] <;> rfl), by repeat (first | (with_reducible first | exact HB.out | apply below_alloc | apply pw_below_drewN | apply below_drew1) | exact HB.out)⟩
      · replace c5 := Bool.eq_false_iff.mpr c5
        subst c5
        have H1 : ((impl_Binary.f a0).bind fun bt106 => ((impl_Binary.f a1).bind fun bt109 => ((spec_Level.f kj2 a0).bind fun t112 => ((spec_Level.f kj2 a1).bind fun t113 => ((impl_Binary.f (⟨#[43]⟩ : ByteArray)).bind fun bt114 => (if (bt106.2.2 != (decide (t112 ≥ 0))) = true then (laws_FnLevels.j1 kj2 bt106.1 bt106.2.1 bt106.2.2 bt109.1 bt109.2.2 t112 t113 true) else (if (bt109.2.2 != (decide (t113 ≥ 0))) = true then (laws_FnLevels.j1 kj2 bt106.1 bt106.2.1 bt106.2.2 bt109.1 bt109.2.2 t112 t113 true) else (laws_FnLevels.j1 kj2 bt106.1 bt106.2.1 bt106.2.2 bt109.1 bt109.2.2 t112 t113 (!bt114.2.2))))))))) = some r := by rw [if_neg (show ¬ (false = true) by decide)] at H; exact H
        clear H
        have H := H1
        clear H1
        replace H := Option.bind_eq_some_iff.mp H
        obtain ⟨⟨t106, t107, t108⟩, A60, H⟩ := H
        replace H : ((impl_Binary.f a1).bind fun bt109 => ((spec_Level.f kj2 a0).bind fun t112 => ((spec_Level.f kj2 a1).bind fun t113 => ((impl_Binary.f (⟨#[43]⟩ : ByteArray)).bind fun bt114 => (if (t108 != (decide (t112 ≥ 0))) = true then (laws_FnLevels.j1 kj2 t106 t107 t108 bt109.1 bt109.2.2 t112 t113 true) else (if (bt109.2.2 != (decide (t113 ≥ 0))) = true then (laws_FnLevels.j1 kj2 t106 t107 t108 bt109.1 bt109.2.2 t112 t113 true) else (laws_FnLevels.j1 kj2 t106 t107 t108 bt109.1 bt109.2.2 t112 t113 (!bt114.2.2)))))))) = some r := H
        have A6 := Aside0.mk A60
        clear A60
        replace H := Option.bind_eq_some_iff.mp H
        obtain ⟨⟨t109, t110, t111⟩, A70, H⟩ := H
        replace H : ((spec_Level.f kj2 a0).bind fun t112 => ((spec_Level.f kj2 a1).bind fun t113 => ((impl_Binary.f (⟨#[43]⟩ : ByteArray)).bind fun bt114 => (if (t108 != (decide (t112 ≥ 0))) = true then (laws_FnLevels.j1 kj2 t106 t107 t108 t109 t111 t112 t113 true) else (if (t111 != (decide (t113 ≥ 0))) = true then (laws_FnLevels.j1 kj2 t106 t107 t108 t109 t111 t112 t113 true) else (laws_FnLevels.j1 kj2 t106 t107 t108 t109 t111 t112 t113 (!bt114.2.2))))))) = some r := H
        have A7 := Aside0.mk A70
        clear A70
        replace H := Option.bind_eq_some_iff.mp H
        obtain ⟨t112, A80, H⟩ := H
        replace H : ((spec_Level.f kj2 a1).bind fun t113 => ((impl_Binary.f (⟨#[43]⟩ : ByteArray)).bind fun bt114 => (if (t108 != (decide (t112 ≥ 0))) = true then (laws_FnLevels.j1 kj2 t106 t107 t108 t109 t111 t112 t113 true) else (if (t111 != (decide (t113 ≥ 0))) = true then (laws_FnLevels.j1 kj2 t106 t107 t108 t109 t111 t112 t113 true) else (laws_FnLevels.j1 kj2 t106 t107 t108 t109 t111 t112 t113 (!bt114.2.2)))))) = some r := H
        have A8 := Aside0.mk A80
        clear A80
        replace H := Option.bind_eq_some_iff.mp H
        obtain ⟨t113, A90, H⟩ := H
        replace H : ((impl_Binary.f (⟨#[43]⟩ : ByteArray)).bind fun bt114 => (if (t108 != (decide (t112 ≥ 0))) = true then (laws_FnLevels.j1 kj2 t106 t107 t108 t109 t111 t112 t113 true) else (if (t111 != (decide (t113 ≥ 0))) = true then (laws_FnLevels.j1 kj2 t106 t107 t108 t109 t111 t112 t113 true) else (laws_FnLevels.j1 kj2 t106 t107 t108 t109 t111 t112 t113 (!bt114.2.2))))) = some r := H
        have A9 := Aside0.mk A90
        clear A90
        replace H := Option.bind_eq_some_iff.mp H
        obtain ⟨⟨t114, t115, t116⟩, A100, H⟩ := H
        replace H : (if (t108 != (decide (t112 ≥ 0))) = true then (laws_FnLevels.j1 kj2 t106 t107 t108 t109 t111 t112 t113 true) else (if (t111 != (decide (t113 ≥ 0))) = true then (laws_FnLevels.j1 kj2 t106 t107 t108 t109 t111 t112 t113 true) else (laws_FnLevels.j1 kj2 t106 t107 t108 t109 t111 t112 t113 (!t116)))) = some r := H
        have A10 := Aside0.mk A100
        clear A100
        have HC11 := Aside0.mk H
        clear H
        go_upto_region 7 with (first | ((with_reducible refine gate_callee (f := 10) rfl ?_); refine goesL_ (some 27) rfl rfl Try.func10 (by kernel_rfl) rfl #[.string a0] rfl (by (try simp only [List.map_toArray, List.map_cons, List.map_nil]); first | done | rfl | (simp only [List.length_drop, List.length_take]; rfl)) ?_; (with_reducible refine (impl_Binary.calls a0 t106 t107 t108 _ A6.out).mono ?_); rintro e w12 ⟨rfl, hb⟩; refine ⟨_, rfl, ?_⟩; have n0_ := Aside0.mk (below_step (by repeat (first | (with_reducible first | exact HB.out | apply below_alloc | apply pw_below_drewN | apply below_drew1) | exact HB.out)) hb); clear HB; have HB := n0_; clear n0_; (try clear hb); (try clear hb2); (try clear hk); (try clear hi)) | ((with_reducible refine gate_callee (f := 10) rfl ?_); refine goesL_ (some 33) rfl rfl Try.func10 (by kernel_rfl) rfl #[.string a1] rfl (by (try simp only [List.map_toArray, List.map_cons, List.map_nil]); first | done | rfl | (simp only [List.length_drop, List.length_take]; rfl)) ?_; (with_reducible refine (impl_Binary.calls a1 t109 t110 t111 _ A7.out).mono ?_); rintro e w13 ⟨rfl, hb⟩; refine ⟨_, rfl, ?_⟩; have n0_ := Aside0.mk (below_step (by repeat (first | (with_reducible first | exact HB.out | apply below_alloc | apply pw_below_drewN | apply below_drew1) | exact HB.out)) hb); clear HB; have HB := n0_; clear n0_; (try clear hb); (try clear hb2); (try clear hk); (try clear hi)) | ((with_reducible refine gate_callee (f := 11) rfl ?_); refine goesL_ (some 38) rfl rfl Try.func11 (by kernel_rfl) rfl #[.string a0] rfl (by (try simp only [List.map_toArray, List.map_cons, List.map_nil]); first | done | rfl | (simp only [List.length_drop, List.length_take]; rfl)) ?_; (with_reducible refine (spec_Level.calls kj2 a0 t112 _ A8.out).mono ?_); rintro e w' ⟨rfl, ⟨nd, rfl⟩⟩; refine ⟨_, rfl, ?_⟩) | ((with_reducible refine gate_callee (f := 11) rfl ?_); refine goesL_ (some 40) rfl rfl Try.func11 (by kernel_rfl) rfl #[.string a1] rfl (by (try simp only [List.map_toArray, List.map_cons, List.map_nil]); first | done | rfl | (simp only [List.length_drop, List.length_take]; rfl)) ?_; (with_reducible refine (spec_Level.calls kj2 a1 t113 _ A9.out).mono ?_); rintro e w' ⟨rfl, ⟨nd, rfl⟩⟩; refine ⟨_, rfl, ?_⟩) | ((with_reducible refine gate_callee (f := 10) rfl ?_); refine goesL_ (some 42) rfl rfl Try.func10 (by kernel_rfl) rfl #[.string (⟨#[43]⟩ : ByteArray)] rfl (by (try simp only [List.map_toArray, List.map_cons, List.map_nil]); first | done | rfl | (simp only [List.length_drop, List.length_take]; rfl)) ?_; (with_reducible refine (impl_Binary.calls (⟨#[43]⟩ : ByteArray) t114 t115 t116 _ A10.out).mono ?_); rintro e w14 ⟨rfl, hb⟩; refine ⟨_, rfl, ?_⟩; have n0_ := Aside0.mk (below_step (by repeat (first | (with_reducible first | exact HB.out | apply below_alloc | apply pw_below_drewN | apply below_drew1) | exact HB.out)) hb); clear HB; have HB := n0_; clear n0_; (try clear hb); (try clear hb2); (try clear hk); (try clear hi)))
        (try simp only [Act.put, List.setIfInBounds_toArray, List.set_cons_zero, List.set_cons_succ])
        go_cut [59] (fun v59 wc => ∃ (kq : Nat) (x59_10 : Bool), v59 = .bool x59_10 ∧ Aside0 (laws_FnLevels.j1 kq t106 t107 t108 t109 t111 t112 t113 x59_10 = some r) ∧ Aside0 (kq ≤ kj2) ∧ Aside0 (Below w.heap.size w wc))
        case first =>
          have H := HC11.out
          clear HC11
          by_cases c15 : (t108 != (decide (t112 ≥ 0))) = true
          · rw [if_pos c15] at H
            have c15b0 : (t108 != (decide (t112 ≥ 0))) = true := c15
            (try (have c15b1 : decide (t108 = (decide (t112 ≥ 0))) = false := by simpa using c15))
            (try (have c15b2 : (t108 == (decide (t112 ≥ 0))) = false := by simpa using c15))
            (try (have c15b3 : ¬ (t108 = (decide (t112 ≥ 0))) := by simpa using c15))
            clear c15
            (first | rw [c15b0] | (simp only [i64_w, i32_w]; rw [c15b0]) | skip)
            have H' := Aside0.mk H
            clear H
            go_wp2
            go_meet
            case rel => exact ⟨_, (true), (by first | rfl | (simp; done) | (simp [*]; done)), H', ⟨by have := HJ2.out; first | omega | exact Nat.le_refl _⟩, ⟨by repeat (first | (with_reducible first | exact HB.out | apply below_alloc | apply pw_below_drewN | apply below_drew1) | exact HB.out)⟩⟩
          · rw [if_neg c15] at H
            have c15b0 : (t108 != (decide (t112 ≥ 0))) = false := by simpa using c15
            (try (have c15b1 : decide (t108 = (decide (t112 ≥ 0))) = true := by simpa using c15))
            (try (have c15b2 : (t108 == (decide (t112 ≥ 0))) = true := by simpa using c15))
            clear c15
            (first | rw [c15b0] | (simp only [i64_w, i32_w]; rw [c15b0]) | skip)
            by_cases c16 : (t111 != (decide (t113 ≥ 0))) = true
            · rw [if_pos c16] at H
              have c16b0 : (t111 != (decide (t113 ≥ 0))) = true := c16
              (try (have c16b1 : decide (t111 = (decide (t113 ≥ 0))) = false := by simpa using c16))
              (try (have c16b2 : (t111 == (decide (t113 ≥ 0))) = false := by simpa using c16))
              (try (have c16b3 : ¬ (t111 = (decide (t113 ≥ 0))) := by simpa using c16))
              clear c16
              have H' := Aside0.mk H
              clear H
              go_wp2
              go_meet
              case rel => exact ⟨_, (true), (by first | rfl | (simp; done) | (simp [*]; done)), H', ⟨by have := HJ2.out; first | omega | exact Nat.le_refl _⟩, ⟨by repeat (first | (with_reducible first | exact HB.out | apply below_alloc | apply pw_below_drewN | apply below_drew1) | exact HB.out)⟩⟩
            · rw [if_neg c16] at H
              have c16b0 : (t111 != (decide (t113 ≥ 0))) = false := by simpa using c16
              (try (have c16b1 : decide (t111 = (decide (t113 ≥ 0))) = true := by simpa using c16))
              (try (have c16b2 : (t111 == (decide (t113 ≥ 0))) = true := by simpa using c16))
              clear c16
              have H' := Aside0.mk H
              clear H
              go_wp2
              go_meet
              case rel => exact ⟨_, (!t116), (by first | rfl | (simp; done) | (simp [*]; done)), H', ⟨by have := HJ2.out; first | omega | exact Nat.le_refl _⟩, ⟨by repeat (first | (with_reducible first | exact HB.out | apply below_alloc | apply pw_below_drewN | apply below_drew1) | exact HB.out)⟩⟩
        case rest =>
          clear HC11
          try clear c1
          try clear p2
          try clear c4
          try clear c4b0
          try clear c4b1
          try clear c5
          try clear c10
          try clear c11
          try clear c15
          try clear c15b0
          try clear c15b1
          try clear c15b2
          try clear c16
          try clear c16b0
          try clear c16b1
          try clear c16b2
          try clear p2
          obtain ⟨kq, x59_10, rfl, HA, HJ10, HB⟩ := hcut
          cases kq with
          | zero => exact absurd HA.out (by simp [laws_FnLevels.j1])
          | succ kj10 =>
            have H := HA.out
            clear HA
            simp only [laws_FnLevels.j1] at H
            by_cases c17 : x59_10 = true
            · subst c17
              have H1 : (some false) = some r := by rw [if_pos rfl] at H; exact H
              clear H
              have H := H1
              clear H1
              obtain rfl := Option.some.inj H
              go_wp2
              go_ret
              exact ⟨by first | rfl | (simp [errW_none, errW_some] <;> rfl) | (simp [*, errW_none, errW_some] <;> rfl), by repeat (first | (with_reducible first | exact HB.out | apply below_alloc | apply pw_below_drewN | apply below_drew1) | exact HB.out)⟩
            · replace c17 := Bool.eq_false_iff.mpr c17
              subst c17
              have H1 : (if t108 = true then (laws_FnLevels.j2 kj10 t106 t107 t109 t112 t113 (!t111)) else (laws_FnLevels.j2 kj10 t106 t107 t109 t112 t113 true)) = some r := by rw [if_neg (show ¬ (false = true) by decide)] at H; exact H
              clear H
              have H := H1
              clear H1
              have HC18 := Aside0.mk H
              clear H
              go_upto_region 9 with (fail)
              go_cut [65] (fun v65 wc => ∃ (kq : Nat) (x65_17 : Bool), v65 = .bool x65_17 ∧ Aside0 (laws_FnLevels.j2 kq t106 t107 t109 t112 t113 x65_17 = some r) ∧ Aside0 (kq ≤ kj10) ∧ Aside0 (Below w.heap.size w wc))
              case first =>
                have H := HC18.out
                clear HC18
                by_cases c19 : t108 = true
                · subst c19
                  have H1 : (laws_FnLevels.j2 kj10 t106 t107 t109 t112 t113 (!t111)) = some r := by rw [if_pos rfl] at H; exact H
                  clear H
                  have H := H1
                  clear H1
                  have H' := Aside0.mk H
                  clear H
                  go_wp2
                  go_meet
                  case rel => exact ⟨_, (!t111), (by first | rfl | (simp; done) | (simp [*]; done)), H', ⟨by have := HJ2.out; have := HJ10.out; first | omega | exact Nat.le_refl _⟩, ⟨by repeat (first | (with_reducible first | exact HB.out | apply below_alloc | apply pw_below_drewN | apply below_drew1) | exact HB.out)⟩⟩
                · replace c19 := Bool.eq_false_iff.mpr c19
                  subst c19
                  have H1 : (laws_FnLevels.j2 kj10 t106 t107 t109 t112 t113 true) = some r := by rw [if_neg (show ¬ (false = true) by decide)] at H; exact H
                  clear H
                  have H := H1
                  clear H1
                  have H' := Aside0.mk H
                  clear H
                  go_wp2
                  go_meet
                  case rel => exact ⟨_, (true), (by first | rfl | (simp; done) | (simp [*]; done)), H', ⟨by have := HJ2.out; have := HJ10.out; first | omega | exact Nat.le_refl _⟩, ⟨by repeat (first | (with_reducible first | exact HB.out | apply below_alloc | apply pw_below_drewN | apply below_drew1) | exact HB.out)⟩⟩
              case rest =>
                clear HC18
                try clear c1
                try clear p2
                try clear c4
                try clear c4b0
                try clear c4b1
                try clear c5
                try clear c10
                try clear c11
                try clear c15
                try clear c15b0
                try clear c15b1
                try clear c15b2
                try clear c16
                try clear c16b0
                try clear c16b1
                try clear c16b2
                try clear c17
                try clear c19
                try clear p2
                obtain ⟨kq, x65_17, rfl, HA, HJ17, HB⟩ := hcut
                cases kq with
                | zero => exact absurd HA.out (by simp [laws_FnLevels.j2])
                | succ kj17 =>
                  have H := HA.out
                  clear HA
                  simp only [laws_FnLevels.j2] at H
                  by_cases c20 : x65_17 = true
                  · subst c20
                    have H1 : (some true) = some r := by rw [if_pos rfl] at H; exact H
                    clear H
                    have H := H1
                    clear H1
                    obtain rfl := Option.some.inj H
                    go_wp2
                    go_ret
                    exact ⟨by first | rfl | (simp [errW_none, errW_some] <;> rfl) | (simp [*, errW_none, errW_some] <;> rfl), by repeat (first | (with_reducible first | exact HB.out | apply below_alloc | apply pw_below_drewN | apply below_drew1) | exact HB.out)⟩
                  · replace c20 := Bool.eq_false_iff.mpr c20
                    subst c20
                    have H1 : ((spec_Level.f kj17 (⟨#[94]⟩ : ByteArray)).bind fun t117 => (if t112 = t117 then (if ((decide (t106 < t109)) == (decide (t112 < t113))) = true then (if ((t106 == t109) == (t112 == t113)) = true then (some (t107 == 2)) else (some false)) else (some false)) else (if ((decide (t106 < t109)) == (decide (t112 < t113))) = true then (if ((t106 == t109) == (t112 == t113)) = true then (some (t107 == 1)) else (some false)) else (some false)))) = some r := by rw [if_neg (show ¬ (false = true) by decide)] at H; exact H
                    clear H
                    have H := H1
                    clear H1
                    replace H := Option.bind_eq_some_iff.mp H
                    obtain ⟨t117, A210, H⟩ := H
                    replace H : (if t112 = t117 then (if ((decide (t106 < t109)) == (decide (t112 < t113))) = true then (if ((t106 == t109) == (t112 == t113)) = true then (some (t107 == 2)) else (some false)) else (some false)) else (if ((decide (t106 < t109)) == (decide (t112 < t113))) = true then (if ((t106 == t109) == (t112 == t113)) = true then (some (t107 == 1)) else (some false)) else (some false))) = some r := H
                    have A21 := Aside0.mk A210
                    clear A210
                    by_cases c22 : t112 = t117
                    · rw [if_pos c22] at H
                      have c22b0 : (t112 == t117) = true := beq_iff_eq.mpr c22
                      have c22b1 : (t112 != t117) = false := bne_eq_false_iff_eq.mpr c22
                      clear c22
                      by_cases c23 : ((decide (t106 < t109)) == (decide (t112 < t113))) = true
                      · rw [if_pos c23] at H
                        have c23b0 : ((decide (t106 < t109)) == (decide (t112 < t113))) = true := c23
                        (try (have c23b1 : decide ((decide (t106 < t109)) = (decide (t112 < t113))) = true := by simpa using c23))
                        (try (have c23b2 : ((decide (t106 < t109)) == (decide (t112 < t113))) = true := by simpa using c23))
                        clear c23
                        by_cases c24 : ((t106 == t109) == (t112 == t113)) = true
                        · rw [if_pos c24] at H
                          have c24b0 : ((t106 == t109) == (t112 == t113)) = true := c24
                          (try (have c24b1 : decide ((t106 == t109) = (t112 == t113)) = true := by simpa using c24))
                          (try (have c24b2 : ((t106 == t109) == (t112 == t113)) = true := by simpa using c24))
                          clear c24
                          obtain rfl := Option.some.inj H
                          go_wp2_with (first | ((with_reducible refine gate_callee (f := 11) rfl ?_); refine goesL_ (some 67) rfl rfl Try.func11 (by kernel_rfl) rfl #[.string (⟨#[94]⟩ : ByteArray)] rfl (by (try simp only [List.map_toArray, List.map_cons, List.map_nil]); first | done | rfl | (simp only [List.length_drop, List.length_take]; rfl)) ?_; (with_reducible refine (spec_Level.calls kj17 (⟨#[94]⟩ : ByteArray) t117 _ A21.out).mono ?_); rintro e w' ⟨rfl, ⟨nd, rfl⟩⟩; refine ⟨_, rfl, ?_⟩))
                          go_ret
                          exact ⟨by first | rfl | (simp [errW_none, errW_some] <;> rfl) | (simp [*, errW_none, errW_some] <;> rfl), by repeat (first | (with_reducible first | exact HB.out | apply below_alloc | apply pw_below_drewN | apply below_drew1) | exact HB.out)⟩
                        · rw [if_neg c24] at H
                          have c24b0 : ((t106 == t109) == (t112 == t113)) = false := by simpa using c24
                          (try (have c24b1 : decide ((t106 == t109) = (t112 == t113)) = false := by simpa using c24))
                          (try (have c24b2 : ((t106 == t109) == (t112 == t113)) = false := by simpa using c24))
                          (try (have c24b3 : ¬ ((t106 == t109) = (t112 == t113)) := by simpa using c24))
                          clear c24
                          obtain rfl := Option.some.inj H
                          go_wp2_with (first | ((with_reducible refine gate_callee (f := 11) rfl ?_); refine goesL_ (some 67) rfl rfl Try.func11 (by kernel_rfl) rfl #[.string (⟨#[94]⟩ : ByteArray)] rfl (by (try simp only [List.map_toArray, List.map_cons, List.map_nil]); first | done | rfl | (simp only [List.length_drop, List.length_take]; rfl)) ?_; (with_reducible refine (spec_Level.calls kj17 (⟨#[94]⟩ : ByteArray) t117 _ A21.out).mono ?_); rintro e w' ⟨rfl, ⟨nd, rfl⟩⟩; refine ⟨_, rfl, ?_⟩))
                          go_ret
                          exact ⟨by first | rfl | (simp [errW_none, errW_some] <;> rfl) | (simp [*, errW_none, errW_some] <;> rfl), by repeat (first | (with_reducible first | exact HB.out | apply below_alloc | apply pw_below_drewN | apply below_drew1) | exact HB.out)⟩
                      · rw [if_neg c23] at H
                        have c23b0 : ((decide (t106 < t109)) == (decide (t112 < t113))) = false := by simpa using c23
                        (try (have c23b1 : decide ((decide (t106 < t109)) = (decide (t112 < t113))) = false := by simpa using c23))
                        (try (have c23b2 : ((decide (t106 < t109)) == (decide (t112 < t113))) = false := by simpa using c23))
                        (try (have c23b3 : ¬ ((decide (t106 < t109)) = (decide (t112 < t113))) := by simpa using c23))
                        clear c23
                        obtain rfl := Option.some.inj H
                        go_wp2_with (first | ((with_reducible refine gate_callee (f := 11) rfl ?_); refine goesL_ (some 67) rfl rfl Try.func11 (by kernel_rfl) rfl #[.string (⟨#[94]⟩ : ByteArray)] rfl (by (try simp only [List.map_toArray, List.map_cons, List.map_nil]); first | done | rfl | (simp only [List.length_drop, List.length_take]; rfl)) ?_; (with_reducible refine (spec_Level.calls kj17 (⟨#[94]⟩ : ByteArray) t117 _ A21.out).mono ?_); rintro e w' ⟨rfl, ⟨nd, rfl⟩⟩; refine ⟨_, rfl, ?_⟩))
                        go_ret
                        exact ⟨by first | rfl | (simp [errW_none, errW_some] <;> rfl) | (simp [*, errW_none, errW_some] <;> rfl), by repeat (first | (with_reducible first | exact HB.out | apply below_alloc | apply pw_below_drewN | apply below_drew1) | exact HB.out)⟩
                    · rw [if_neg c22] at H
                      have c22b0 : (t112 == t117) = false := beq_eq_false_iff_ne.mpr c22
                      have c22b1 : (t112 != t117) = true := bne_iff_ne.mpr c22
                      by_cases c25 : ((decide (t106 < t109)) == (decide (t112 < t113))) = true
                      · rw [if_pos c25] at H
                        have c25b0 : ((decide (t106 < t109)) == (decide (t112 < t113))) = true := c25
                        (try (have c25b1 : decide ((decide (t106 < t109)) = (decide (t112 < t113))) = true := by simpa using c25))
                        (try (have c25b2 : ((decide (t106 < t109)) == (decide (t112 < t113))) = true := by simpa using c25))
                        clear c25
                        by_cases c26 : ((t106 == t109) == (t112 == t113)) = true
                        · rw [if_pos c26] at H
                          have c26b0 : ((t106 == t109) == (t112 == t113)) = true := c26
                          (try (have c26b1 : decide ((t106 == t109) = (t112 == t113)) = true := by simpa using c26))
                          (try (have c26b2 : ((t106 == t109) == (t112 == t113)) = true := by simpa using c26))
                          clear c26
                          obtain rfl := Option.some.inj H
                          go_wp2_with (first | ((with_reducible refine gate_callee (f := 11) rfl ?_); refine goesL_ (some 67) rfl rfl Try.func11 (by kernel_rfl) rfl #[.string (⟨#[94]⟩ : ByteArray)] rfl (by (try simp only [List.map_toArray, List.map_cons, List.map_nil]); first | done | rfl | (simp only [List.length_drop, List.length_take]; rfl)) ?_; (with_reducible refine (spec_Level.calls kj17 (⟨#[94]⟩ : ByteArray) t117 _ A21.out).mono ?_); rintro e w' ⟨rfl, ⟨nd, rfl⟩⟩; refine ⟨_, rfl, ?_⟩))
                          go_ret
                          exact ⟨by first | rfl | (simp [errW_none, errW_some] <;> rfl) | (simp [*, errW_none, errW_some] <;> rfl), by repeat (first | (with_reducible first | exact HB.out | apply below_alloc | apply pw_below_drewN | apply below_drew1) | exact HB.out)⟩
                        · rw [if_neg c26] at H
                          have c26b0 : ((t106 == t109) == (t112 == t113)) = false := by simpa using c26
                          (try (have c26b1 : decide ((t106 == t109) = (t112 == t113)) = false := by simpa using c26))
                          (try (have c26b2 : ((t106 == t109) == (t112 == t113)) = false := by simpa using c26))
                          (try (have c26b3 : ¬ ((t106 == t109) = (t112 == t113)) := by simpa using c26))
                          clear c26
                          obtain rfl := Option.some.inj H
                          go_wp2_with (first | ((with_reducible refine gate_callee (f := 11) rfl ?_); refine goesL_ (some 67) rfl rfl Try.func11 (by kernel_rfl) rfl #[.string (⟨#[94]⟩ : ByteArray)] rfl (by (try simp only [List.map_toArray, List.map_cons, List.map_nil]); first | done | rfl | (simp only [List.length_drop, List.length_take]; rfl)) ?_; (with_reducible refine (spec_Level.calls kj17 (⟨#[94]⟩ : ByteArray) t117 _ A21.out).mono ?_); rintro e w' ⟨rfl, ⟨nd, rfl⟩⟩; refine ⟨_, rfl, ?_⟩))
                          go_ret
                          exact ⟨by first | rfl | (simp [errW_none, errW_some] <;> rfl) | (simp [*, errW_none, errW_some] <;> rfl), by repeat (first | (with_reducible first | exact HB.out | apply below_alloc | apply pw_below_drewN | apply below_drew1) | exact HB.out)⟩
                      · rw [if_neg c25] at H
                        have c25b0 : ((decide (t106 < t109)) == (decide (t112 < t113))) = false := by simpa using c25
                        (try (have c25b1 : decide ((decide (t106 < t109)) = (decide (t112 < t113))) = false := by simpa using c25))
                        (try (have c25b2 : ((decide (t106 < t109)) == (decide (t112 < t113))) = false := by simpa using c25))
                        (try (have c25b3 : ¬ ((decide (t106 < t109)) = (decide (t112 < t113))) := by simpa using c25))
                        clear c25
                        obtain rfl := Option.some.inj H
                        go_wp2_with (first | ((with_reducible refine gate_callee (f := 11) rfl ?_); refine goesL_ (some 67) rfl rfl Try.func11 (by kernel_rfl) rfl #[.string (⟨#[94]⟩ : ByteArray)] rfl (by (try simp only [List.map_toArray, List.map_cons, List.map_nil]); first | done | rfl | (simp only [List.length_drop, List.length_take]; rfl)) ?_; (with_reducible refine (spec_Level.calls kj17 (⟨#[94]⟩ : ByteArray) t117 _ A21.out).mono ?_); rintro e w' ⟨rfl, ⟨nd, rfl⟩⟩; refine ⟨_, rfl, ?_⟩))
                        go_ret
                        exact ⟨by first | rfl | (simp [errW_none, errW_some] <;> rfl) | (simp [*, errW_none, errW_some] <;> rfl), by repeat (first | (with_reducible first | exact HB.out | apply below_alloc | apply pw_below_drewN | apply below_drew1) | exact HB.out)⟩

/-- THE ONE PURE STATEMENT of laws_FnLevels: yours. -/
def laws_FnLevels.Pure : Prop := ∀ (a0 : ByteArray) (a1 : ByteArray), a0.size ≤ 140737488351232 → a1.size ≤ 140737488351232 → ∃ k, laws_FnLevels.f k a0 a1 = some true
theorem laws_FnLevels.walk (P : laws_FnLevels.Pure) (a0 : ByteArray) (a1 : ByteArray) (w : World) (w0 : a0.size ≤ 140737488351232) (w1 : a1.size ≤ 140737488351232) :
    Calls Try.prog 4 #[.string a0, .string a1] w fun e w' => e = .returned (.bool true) ∧ Below w.heap.size w w' := by
  obtain ⟨k, h⟩ := P a0 a1 w0 w1
  refine (laws_FnLevels.calls k a0 a1 true w h).mono ?_
  rintro e w' ⟨rfl, hd⟩
  exact ⟨rfl, hd⟩

end Go.Proofs.Ytlphfinmdacolaa.PFnLevels
