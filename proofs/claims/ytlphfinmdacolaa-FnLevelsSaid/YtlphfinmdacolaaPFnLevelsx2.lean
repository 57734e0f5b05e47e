-- PRINTED BY print.sh 35421559b90ae4d0a3588c463048766b98c2df88dd9212a6774a882060cdf62d: not written by this session
import Derived.Test.YtlphfinmdacolaaPFnLevelsx0
namespace Go.Proofs.Ytlphfinmdacolaa.PFnLevels
open Go.RowKit Go.Proofs.YtlphfinmdacolaaW.PrintWords Go.Proofs.YtlphfinmdacolaaW.PrintLast Go.Proofs.YtlphfinmdacolaaW.PrintMore
attribute [local go_sem] max2_int min2_int max_two min_two max_three min_three max_four min_four   -- for this text's walks alone
set_option linter.unusedVariables false
set_option linter.unusedSimpArgs false

/-! ### spec_Level: function 11 -/
mutual
def spec_Level.j0 : Nat → ByteArray → Bool → Option (Int)
  | 0, _, _ => none
  | k + 1, x3, x6 => if x6 = true then (some 1) else (if x3.toList = ([97, 110, 100] : List UInt8) then (spec_Level.j1 k x3 (x3.toList == ([97, 110, 100] : List UInt8))) else (spec_Level.j1 k x3 (x3.toList == ([38, 38] : List UInt8))))
def spec_Level.j1 : Nat → ByteArray → Bool → Option (Int)
  | 0, _, _ => none
  | k + 1, x3, x9 => if x9 = true then (some 2) else (if x3.toList = ([61, 61] : List UInt8) then (spec_Level.j2 k x3 (x3.toList == ([61, 61] : List UInt8))) else (if x3.toList = ([33, 61] : List UInt8) then (spec_Level.j2 k x3 (x3.toList == ([33, 61] : List UInt8))) else (if x3.toList = ([60] : List UInt8) then (spec_Level.j2 k x3 (x3.toList == ([60] : List UInt8))) else (if x3.toList = ([62] : List UInt8) then (spec_Level.j2 k x3 (x3.toList == ([62] : List UInt8))) else (if x3.toList = ([60, 61] : List UInt8) then (spec_Level.j2 k x3 (x3.toList == ([60, 61] : List UInt8))) else (if x3.toList = ([62, 61] : List UInt8) then (spec_Level.j2 k x3 (x3.toList == ([62, 61] : List UInt8))) else (if x3.toList = ([105, 110] : List UInt8) then (spec_Level.j2 k x3 (x3.toList == ([105, 110] : List UInt8))) else (if x3.toList = ([109, 97, 116, 99, 104, 101, 115] : List UInt8) then (spec_Level.j2 k x3 (x3.toList == ([109, 97, 116, 99, 104, 101, 115] : List UInt8))) else (if x3.toList = ([99, 111, 110, 116, 97, 105, 110, 115] : List UInt8) then (spec_Level.j2 k x3 (x3.toList == ([99, 111, 110, 116, 97, 105, 110, 115] : List UInt8))) else (if x3.toList = ([115, 116, 97, 114, 116, 115, 87, 105, 116, 104] : List UInt8) then (spec_Level.j2 k x3 (x3.toList == ([115, 116, 97, 114, 116, 115, 87, 105, 116, 104] : List UInt8))) else (spec_Level.j2 k x3 (x3.toList == ([101, 110, 100, 115, 87, 105, 116, 104] : List UInt8)))))))))))))
def spec_Level.j2 : Nat → ByteArray → Bool → Option (Int)
  | 0, _, _ => none
  | k + 1, x3, x12 => if x12 = true then (some 3) else (if x3.toList = ([46, 46] : List UInt8) then (some 4) else (if x3.toList = ([43] : List UInt8) then (spec_Level.j3 k x3 (x3.toList == ([43] : List UInt8))) else (spec_Level.j3 k x3 (x3.toList == ([45] : List UInt8)))))
def spec_Level.j3 : Nat → ByteArray → Bool → Option (Int)
  | 0, _, _ => none
  | k + 1, x3, x26 => if x26 = true then (some 5) else (if x3.toList = ([42] : List UInt8) then (spec_Level.j4 k x3 (x3.toList == ([42] : List UInt8))) else (if x3.toList = ([47] : List UInt8) then (spec_Level.j4 k x3 (x3.toList == ([47] : List UInt8))) else (spec_Level.j4 k x3 (x3.toList == ([37] : List UInt8)))))
def spec_Level.j4 : Nat → ByteArray → Bool → Option (Int)
  | 0, _, _ => none
  | k + 1, x3, x29 => if x29 = true then (some 6) else (if x3.toList = ([94] : List UInt8) then (spec_Level.j5 k x3 (x3.toList == ([94] : List UInt8))) else (spec_Level.j5 k x3 (x3.toList == ([42, 42] : List UInt8))))
def spec_Level.j5 : Nat → ByteArray → Bool → Option (Int)
  | 0, _, _ => none
  | k + 1, x3, x33 => if x33 = true then (some 7) else (if x3.toList = ([63, 63] : List UInt8) then (some 8) else (some (-1)))
end
def spec_Level.f (k : Nat) (a0 : ByteArray) : Option (Int) := if a0.toList = ([124] : List UInt8) then (some 0) else (if a0.toList = ([111, 114] : List UInt8) then (spec_Level.j0 k a0 (a0.toList == ([111, 114] : List UInt8))) else (spec_Level.j0 k a0 (a0.toList == ([124, 124] : List UInt8))))
theorem spec_Level.mono_l : ∀ k, (∀ y0 y1, LeO (spec_Level.j0 k y0 y1) (spec_Level.j0 (k + 1) y0 y1)) ∧ (∀ y0 y1, LeO (spec_Level.j1 k y0 y1) (spec_Level.j1 (k + 1) y0 y1)) ∧ (∀ y0 y1, LeO (spec_Level.j2 k y0 y1) (spec_Level.j2 (k + 1) y0 y1)) ∧ (∀ y0 y1, LeO (spec_Level.j3 k y0 y1) (spec_Level.j3 (k + 1) y0 y1)) ∧ (∀ y0 y1, LeO (spec_Level.j4 k y0 y1) (spec_Level.j4 (k + 1) y0 y1)) ∧ (∀ y0 y1, LeO (spec_Level.j5 k y0 y1) (spec_Level.j5 (k + 1) y0 y1))
  | 0 => ⟨fun _ _ r h => by simp [spec_Level.j0] at h, fun _ _ r h => by simp [spec_Level.j1] at h, fun _ _ r h => by simp [spec_Level.j2] at h, fun _ _ r h => by simp [spec_Level.j3] at h, fun _ _ r h => by simp [spec_Level.j4] at h, fun _ _ r h => by simp [spec_Level.j5] at h⟩
  | k + 1 => by
    obtain ⟨ih0, ih1, ih2, ih3, ih4, ih5⟩ := spec_Level.mono_l k
    refine ⟨?_, ?_, ?_, ?_, ?_, ?_⟩
    · intro y0 y1
      unfold spec_Level.j0
      repeat' first
      | (with_reducible exact ih0 _ _)
      | (with_reducible exact ih1 _ _)
      | (with_reducible exact ih2 _ _)
      | (with_reducible exact ih3 _ _)
      | (with_reducible exact ih4 _ _)
      | (with_reducible exact ih5 _ _)
      | (with_reducible exact LeO.refl _)
      | (with_reducible exact LeO.none _)
      | (with_reducible refine LeO.ite ?_ ?_)
      | (with_reducible refine LeO.bind ?_ (fun _ => ?_))
      | exact ih0 _ _
      | exact ih1 _ _
      | exact ih2 _ _
      | exact ih3 _ _
      | exact ih4 _ _
      | exact ih5 _ _
      | exact LeO.none _
      | refine LeO.ite ?_ ?_
      | refine LeO.bind ?_ (fun _ => ?_)
    · intro y0 y1
      unfold spec_Level.j1
      repeat' first
      | (with_reducible exact ih0 _ _)
      | (with_reducible exact ih1 _ _)
      | (with_reducible exact ih2 _ _)
      | (with_reducible exact ih3 _ _)
      | (with_reducible exact ih4 _ _)
      | (with_reducible exact ih5 _ _)
      | (with_reducible exact LeO.refl _)
      | (with_reducible exact LeO.none _)
      | (with_reducible refine LeO.ite ?_ ?_)
      | (with_reducible refine LeO.bind ?_ (fun _ => ?_))
      | exact ih0 _ _
      | exact ih1 _ _
      | exact ih2 _ _
      | exact ih3 _ _
      | exact ih4 _ _
      | exact ih5 _ _
      | exact LeO.none _
      | refine LeO.ite ?_ ?_
      | refine LeO.bind ?_ (fun _ => ?_)
    · intro y0 y1
      unfold spec_Level.j2
      repeat' first
      | (with_reducible exact ih0 _ _)
      | (with_reducible exact ih1 _ _)
      | (with_reducible exact ih2 _ _)
      | (with_reducible exact ih3 _ _)
      | (with_reducible exact ih4 _ _)
      | (with_reducible exact ih5 _ _)
      | (with_reducible exact LeO.refl _)
      | (with_reducible exact LeO.none _)
      | (with_reducible refine LeO.ite ?_ ?_)
      | (with_reducible refine LeO.bind ?_ (fun _ => ?_))
      | exact ih0 _ _
      | exact ih1 _ _
      | exact ih2 _ _
      | exact ih3 _ _
      | exact ih4 _ _
      | exact ih5 _ _
      | exact LeO.none _
      | refine LeO.ite ?_ ?_
      | refine LeO.bind ?_ (fun _ => ?_)
    · intro y0 y1
      unfold spec_Level.j3
      repeat' first
      | (with_reducible exact ih0 _ _)
      | (with_reducible exact ih1 _ _)
      | (with_reducible exact ih2 _ _)
      | (with_reducible exact ih3 _ _)
      | (with_reducible exact ih4 _ _)
      | (with_reducible exact ih5 _ _)
      | (with_reducible exact LeO.refl _)
      | (with_reducible exact LeO.none _)
      | (with_reducible refine LeO.ite ?_ ?_)
      | (with_reducible refine LeO.bind ?_ (fun _ => ?_))
      | exact ih0 _ _
      | exact ih1 _ _
      | exact ih2 _ _
      | exact ih3 _ _
      | exact ih4 _ _
      | exact ih5 _ _
      | exact LeO.none _
      | refine LeO.ite ?_ ?_
      | refine LeO.bind ?_ (fun _ => ?_)
    · intro y0 y1
      unfold spec_Level.j4
      repeat' first
      | (with_reducible exact ih0 _ _)
      | (with_reducible exact ih1 _ _)
      | (with_reducible exact ih2 _ _)
      | (with_reducible exact ih3 _ _)
      | (with_reducible exact ih4 _ _)
      | (with_reducible exact ih5 _ _)
      | (with_reducible exact LeO.refl _)
      | (with_reducible exact LeO.none _)
      | (with_reducible refine LeO.ite ?_ ?_)
      | (with_reducible refine LeO.bind ?_ (fun _ => ?_))
      | exact ih0 _ _
      | exact ih1 _ _
      | exact ih2 _ _
      | exact ih3 _ _
      | exact ih4 _ _
      | exact ih5 _ _
      | exact LeO.none _
      | refine LeO.ite ?_ ?_
      | refine LeO.bind ?_ (fun _ => ?_)
    · intro y0 y1
      unfold spec_Level.j5
      repeat' first
      | (with_reducible exact ih0 _ _)
      | (with_reducible exact ih1 _ _)
      | (with_reducible exact ih2 _ _)
      | (with_reducible exact ih3 _ _)
      | (with_reducible exact ih4 _ _)
      | (with_reducible exact ih5 _ _)
      | (with_reducible exact LeO.refl _)
      | (with_reducible exact LeO.none _)
      | (with_reducible refine LeO.ite ?_ ?_)
      | (with_reducible refine LeO.bind ?_ (fun _ => ?_))
      | exact ih0 _ _
      | exact ih1 _ _
      | exact ih2 _ _
      | exact ih3 _ _
      | exact ih4 _ _
      | exact ih5 _ _
      | exact LeO.none _
      | refine LeO.ite ?_ ?_
      | refine LeO.bind ?_ (fun _ => ?_)
theorem spec_Level.mono : ∀ a0 k, LeO (spec_Level.f k a0) (spec_Level.f (k + 1) a0) := by
  intro a0 k
  obtain ⟨ih0, ih1, ih2, ih3, ih4, ih5⟩ := spec_Level.mono_l k
  unfold spec_Level.f
  repeat' first
      | (with_reducible exact ih0 _ _)
      | (with_reducible exact ih1 _ _)
      | (with_reducible exact ih2 _ _)
      | (with_reducible exact ih3 _ _)
      | (with_reducible exact ih4 _ _)
      | (with_reducible exact ih5 _ _)
      | (with_reducible exact LeO.refl _)
      | (with_reducible exact LeO.none _)
      | (with_reducible refine LeO.ite ?_ ?_)
      | (with_reducible refine LeO.bind ?_ (fun _ => ?_))
      | exact ih0 _ _
      | exact ih1 _ _
      | exact ih2 _ _
      | exact ih3 _ _
      | exact ih4 _ _
      | exact ih5 _ _
      | exact LeO.none _
      | refine LeO.ite ?_ ?_
      | refine LeO.bind ?_ (fun _ => ?_)
set_option maxHeartbeats 8000000 in
set_option maxRecDepth 100000 in
theorem spec_Level.calls (k : Nat) (a0 : ByteArray) (r : Int) (w : World) (h : spec_Level.f k a0 = some r) :
    Calls Try.prog 11 #[.string a0] w fun e w' => e = .returned (.int .i64 r) ∧ Drawn0 w w' := by
  have H : (if a0.toList = ([124] : List UInt8) then (some 0) else (if a0.toList = ([111, 114] : List UInt8) then (spec_Level.j0 k a0 (a0.toList == ([111, 114] : List UInt8))) else (spec_Level.j0 k a0 (a0.toList == ([124, 124] : List UInt8))))) = some r := h
  clear h
  by_cases c2 : a0.toList = ([124] : List UInt8)
  · rw [if_pos c2] at H
    have c2b0 : (a0.toList == ([124] : List UInt8)) = true := beq_iff_eq.mpr c2
    have c2b1 : (a0.toList != ([124] : List UInt8)) = false := bne_eq_false_iff_eq.mpr c2
    clear c2
    obtain rfl := Option.some.inj H
    go_enter Try.func11, Try.ntmps11
    go_wp2
    go_ret
    exact ⟨by first | rfl | (simp; done) | (simp [*]; done), by repeat (first | exact Drawn0.refl _ | apply Drawn0.step)⟩
  · rw [if_neg c2] at H
    have c2b0 : (a0.toList == ([124] : List UInt8)) = false := beq_eq_false_iff_ne.mpr c2
    have c2b1 : (a0.toList != ([124] : List UInt8)) = true := bne_iff_ne.mpr c2
    have HC3 := Aside0.mk H
    clear H
    go_enter Try.func11, Try.ntmps11
    go_upto_if 6 with (fail)
    go_cut [6] (fun v6 wc => ∃ (kq : Nat) (x6_2 : Bool), v6 = .bool x6_2 ∧ Aside0 (spec_Level.j0 kq a0 x6_2 = some r) ∧ Aside0 (kq ≤ k) ∧ Drawn0 w wc)
    case first =>
      have H := HC3.out
      clear HC3
      by_cases c4 : a0.toList = ([111, 114] : List UInt8)
      · rw [if_pos c4] at H
        have c4b0 : (a0.toList == ([111, 114] : List UInt8)) = true := beq_iff_eq.mpr c4
        have c4b1 : (a0.toList != ([111, 114] : List UInt8)) = false := bne_eq_false_iff_eq.mpr c4
        clear c4
        (first | rw [c4b0] | (simp only [i64_w, i32_w]; rw [c4b0]) | skip)
        have H' := Aside0.mk H
        clear H
        go_wp2
        go_meet
        case rel => exact ⟨_, ((a0.toList == ([111, 114] : List UInt8))), (by first | rfl | (simp; done) | (simp [*]; done)), H', ⟨by first | omega | exact Nat.le_refl _⟩, by repeat (first | exact Drawn0.refl _ | apply Drawn0.step)⟩
      · rw [if_neg c4] at H
        have c4b0 : (a0.toList == ([111, 114] : List UInt8)) = false := beq_eq_false_iff_ne.mpr c4
        have c4b1 : (a0.toList != ([111, 114] : List UInt8)) = true := bne_iff_ne.mpr c4
        (first | rw [c4b0] | (simp only [i64_w, i32_w]; rw [c4b0]) | skip)
        have H' := Aside0.mk H
        clear H
        go_wp2
        go_meet
        case rel => exact ⟨_, ((a0.toList == ([124, 124] : List UInt8))), (by first | rfl | (simp; done) | (simp [*]; done)), H', ⟨by first | omega | exact Nat.le_refl _⟩, by repeat (first | exact Drawn0.refl _ | apply Drawn0.step)⟩
    case rest =>
      clear HC3
      try clear c1
      try clear c2
      try clear c2b0
      try clear c2b1
      try clear p2
      try clear c4
      try clear c4b0
      try clear c4b1
      obtain ⟨kq, x6_2, rfl, HA, HJ2, ⟨mc2, rfl⟩⟩ := hcut
      cases kq with
      | zero => exact absurd HA.out (by simp [spec_Level.j0])
      | succ kj2 =>
        have H := HA.out
        clear HA
        simp only [spec_Level.j0] at H
        by_cases c5 : x6_2 = true
        · subst c5
          have H1 : (some 1) = some r := by rw [if_pos rfl] at H; exact H
          clear H
          have H := H1
          clear H1
          obtain rfl := Option.some.inj H
          go_wp2
          go_ret
          exact ⟨by first | rfl | (simp; done) | (simp [*]; done), by repeat (first | exact Drawn0.refl _ | apply Drawn0.step)⟩
        · replace c5 := Bool.eq_false_iff.mpr c5
          subst c5
          have H1 : (if a0.toList = ([97, 110, 100] : List UInt8) then (spec_Level.j1 kj2 a0 (a0.toList == ([97, 110, 100] : List UInt8))) else (spec_Level.j1 kj2 a0 (a0.toList == ([38, 38] : List UInt8)))) = some r := by rw [if_neg (show ¬ (false = true) by decide)] at H; exact H
          clear H
          have H := H1
          clear H1
          have HC6 := Aside0.mk H
          clear H
          go_upto_if 9 with (fail)
          go_cut [9] (fun v9 wc => ∃ (kq : Nat) (x9_5 : Bool), v9 = .bool x9_5 ∧ Aside0 (spec_Level.j1 kq a0 x9_5 = some r) ∧ Aside0 (kq ≤ kj2) ∧ Drawn0 w wc)
          case first =>
            have H := HC6.out
            clear HC6
            by_cases c7 : a0.toList = ([97, 110, 100] : List UInt8)
            · rw [if_pos c7] at H
              have c7b0 : (a0.toList == ([97, 110, 100] : List UInt8)) = true := beq_iff_eq.mpr c7
              have c7b1 : (a0.toList != ([97, 110, 100] : List UInt8)) = false := bne_eq_false_iff_eq.mpr c7
              clear c7
              (first | rw [c7b0] | (simp only [i64_w, i32_w]; rw [c7b0]) | skip)
              have H' := Aside0.mk H
              clear H
              go_wp2
              go_meet
              case rel => exact ⟨_, ((a0.toList == ([97, 110, 100] : List UInt8))), (by first | rfl | (simp; done) | (simp [*]; done)), H', ⟨by have := HJ2.out; first | omega | exact Nat.le_refl _⟩, by repeat (first | exact Drawn0.refl _ | apply Drawn0.step)⟩
            · rw [if_neg c7] at H
              have c7b0 : (a0.toList == ([97, 110, 100] : List UInt8)) = false := beq_eq_false_iff_ne.mpr c7
              have c7b1 : (a0.toList != ([97, 110, 100] : List UInt8)) = true := bne_iff_ne.mpr c7
              (first | rw [c7b0] | (simp only [i64_w, i32_w]; rw [c7b0]) | skip)
              have H' := Aside0.mk H
              clear H
              go_wp2
              go_meet
              case rel => exact ⟨_, ((a0.toList == ([38, 38] : List UInt8))), (by first | rfl | (simp; done) | (simp [*]; done)), H', ⟨by have := HJ2.out; first | omega | exact Nat.le_refl _⟩, by repeat (first | exact Drawn0.refl _ | apply Drawn0.step)⟩
          case rest =>
            clear HC6
            try clear c1
            try clear c2
            try clear c2b0
            try clear c2b1
            try clear p2
            try clear c4
            try clear c4b0
            try clear c4b1
            try clear c5
            try clear c7
            try clear c7b0
            try clear c7b1
            try clear p2
            obtain ⟨kq, x9_5, rfl, HA, HJ5, ⟨mc5, rfl⟩⟩ := hcut
            cases kq with
            | zero => exact absurd HA.out (by simp [spec_Level.j1])
            | succ kj5 =>
              have H := HA.out
              clear HA
              simp only [spec_Level.j1] at H
              by_cases c8 : x9_5 = true
              · subst c8
                have H1 : (some 2) = some r := by rw [if_pos rfl] at H; exact H
                clear H
                have H := H1
                clear H1
                obtain rfl := Option.some.inj H
                go_wp2
                go_ret
                exact ⟨by first | rfl | (simp; done) | (simp [*]; done), by repeat (first | exact Drawn0.refl _ | apply Drawn0.step)⟩
              · replace c8 := Bool.eq_false_iff.mpr c8
                subst c8
                have H1 : (if a0.toList = ([61, 61] : List UInt8) then (spec_Level.j2 kj5 a0 (a0.toList == ([61, 61] : List UInt8))) else (if a0.toList = ([33, 61] : List UInt8) then (spec_Level.j2 kj5 a0 (a0.toList == ([33, 61] : List UInt8))) else (if a0.toList = ([60] : List UInt8) then (spec_Level.j2 kj5 a0 (a0.toList == ([60] : List UInt8))) else (if a0.toList = ([62] : List UInt8) then (spec_Level.j2 kj5 a0 (a0.toList == ([62] : List UInt8))) else (if a0.toList = ([60, 61] : List UInt8) then (spec_Level.j2 kj5 a0 (a0.toList == ([60, 61] : List UInt8))) else (if a0.toList = ([62, 61] : List UInt8) then (spec_Level.j2 kj5 a0 (a0.toList == ([62, 61] : List UInt8))) else (if a0.toList = ([105, 110] : List UInt8) then (spec_Level.j2 kj5 a0 (a0.toList == ([105, 110] : List UInt8))) else (if a0.toList = ([109, 97, 116, 99, 104, 101, 115] : List UInt8) then (spec_Level.j2 kj5 a0 (a0.toList == ([109, 97, 116, 99, 104, 101, 115] : List UInt8))) else (if a0.toList = ([99, 111, 110, 116, 97, 105, 110, 115] : List UInt8) then (spec_Level.j2 kj5 a0 (a0.toList == ([99, 111, 110, 116, 97, 105, 110, 115] : List UInt8))) else (if a0.toList = ([115, 116, 97, 114, 116, 115, 87, 105, 116, 104] : List UInt8) then (spec_Level.j2 kj5 a0 (a0.toList == ([115, 116, 97, 114, 116, 115, 87, 105, 116, 104] : List UInt8))) else (spec_Level.j2 kj5 a0 (a0.toList == ([101, 110, 100, 115, 87, 105, 116, 104] : List UInt8))))))))))))) = some r := by rw [if_neg (show ¬ (false = true) by decide)] at H; exact H
                clear H
                have H := H1
                clear H1
                have HC9 := Aside0.mk H
                clear H
                go_upto_if 12 with (fail)
                go_cut [12] (fun v12 wc => ∃ (kq : Nat) (x12_8 : Bool), v12 = .bool x12_8 ∧ Aside0 (spec_Level.j2 kq a0 x12_8 = some r) ∧ Aside0 (kq ≤ kj5) ∧ Drawn0 w wc)
                case first =>
                  have H := HC9.out
                  clear HC9
                  by_cases c10 : a0.toList = ([61, 61] : List UInt8)
                  · rw [if_pos c10] at H
                    have c10b0 : (a0.toList == ([61, 61] : List UInt8)) = true := beq_iff_eq.mpr c10
                    have c10b1 : (a0.toList != ([61, 61] : List UInt8)) = false := bne_eq_false_iff_eq.mpr c10
                    clear c10
                    (first | rw [c10b0] | (simp only [i64_w, i32_w]; rw [c10b0]) | skip)
                    have H' := Aside0.mk H
                    clear H
                    go_wp2
                    go_meet
                    case rel => exact ⟨_, ((a0.toList == ([61, 61] : List UInt8))), (by first | rfl | (simp; done) | (simp [*]; done)), H', ⟨by have := HJ2.out; have := HJ5.out; first | omega | exact Nat.le_refl _⟩, by repeat (first | exact Drawn0.refl _ | apply Drawn0.step)⟩
                  · rw [if_neg c10] at H
                    have c10b0 : (a0.toList == ([61, 61] : List UInt8)) = false := beq_eq_false_iff_ne.mpr c10
                    have c10b1 : (a0.toList != ([61, 61] : List UInt8)) = true := bne_iff_ne.mpr c10
                    (first | rw [c10b0] | (simp only [i64_w, i32_w]; rw [c10b0]) | skip)
                    by_cases c11 : a0.toList = ([33, 61] : List UInt8)
                    · rw [if_pos c11] at H
                      have c11b0 : (a0.toList == ([33, 61] : List UInt8)) = true := beq_iff_eq.mpr c11
                      have c11b1 : (a0.toList != ([33, 61] : List UInt8)) = false := bne_eq_false_iff_eq.mpr c11
                      clear c11
                      have H' := Aside0.mk H
                      clear H
                      go_wp2
                      go_meet
                      case rel => exact ⟨_, ((a0.toList == ([33, 61] : List UInt8))), (by first | rfl | (simp; done) | (simp [*]; done)), H', ⟨by have := HJ2.out; have := HJ5.out; first | omega | exact Nat.le_refl _⟩, by repeat (first | exact Drawn0.refl _ | apply Drawn0.step)⟩
                    · rw [if_neg c11] at H
                      have c11b0 : (a0.toList == ([33, 61] : List UInt8)) = false := beq_eq_false_iff_ne.mpr c11
                      have c11b1 : (a0.toList != ([33, 61] : List UInt8)) = true := bne_iff_ne.mpr c11
                      by_cases c12 : a0.toList = ([60] : List UInt8)
                      · rw [if_pos c12] at H
                        have c12b0 : (a0.toList == ([60] : List UInt8)) = true := beq_iff_eq.mpr c12
                        have c12b1 : (a0.toList != ([60] : List UInt8)) = false := bne_eq_false_iff_eq.mpr c12
                        clear c12
                        have H' := Aside0.mk H
                        clear H
                        go_wp2
                        go_meet
                        case rel => exact ⟨_, ((a0.toList == ([60] : List UInt8))), (by first | rfl | (simp; done) | (simp [*]; done)), H', ⟨by have := HJ2.out; have := HJ5.out; first | omega | exact Nat.le_refl _⟩, by repeat (first | exact Drawn0.refl _ | apply Drawn0.step)⟩
                      · rw [if_neg c12] at H
                        have c12b0 : (a0.toList == ([60] : List UInt8)) = false := beq_eq_false_iff_ne.mpr c12
                        have c12b1 : (a0.toList != ([60] : List UInt8)) = true := bne_iff_ne.mpr c12
                        by_cases c13 : a0.toList = ([62] : List UInt8)
                        · rw [if_pos c13] at H
                          have c13b0 : (a0.toList == ([62] : List UInt8)) = true := beq_iff_eq.mpr c13
                          have c13b1 : (a0.toList != ([62] : List UInt8)) = false := bne_eq_false_iff_eq.mpr c13
                          clear c13
                          have H' := Aside0.mk H
                          clear H
                          go_wp2
                          go_meet
                          case rel => exact ⟨_, ((a0.toList == ([62] : List UInt8))), (by first | rfl | (simp; done) | (simp [*]; done)), H', ⟨by have := HJ2.out; have := HJ5.out; first | omega | exact Nat.le_refl _⟩, by repeat (first | exact Drawn0.refl _ | apply Drawn0.step)⟩
                        · rw [if_neg c13] at H
                          have c13b0 : (a0.toList == ([62] : List UInt8)) = false := beq_eq_false_iff_ne.mpr c13
                          have c13b1 : (a0.toList != ([62] : List UInt8)) = true := bne_iff_ne.mpr c13
                          by_cases c14 : a0.toList = ([60, 61] : List UInt8)
                          · rw [if_pos c14] at H
                            have c14b0 : (a0.toList == ([60, 61] : List UInt8)) = true := beq_iff_eq.mpr c14
                            have c14b1 : (a0.toList != ([60, 61] : List UInt8)) = false := bne_eq_false_iff_eq.mpr c14
                            clear c14
                            have H' := Aside0.mk H
                            clear H
                            go_wp2
                            go_meet
                            case rel => exact ⟨_, ((a0.toList == ([60, 61] : List UInt8))), (by first | rfl | (simp; done) | (simp [*]; done)), H', ⟨by have := HJ2.out; have := HJ5.out; first | omega | exact Nat.le_refl _⟩, by repeat (first | exact Drawn0.refl _ | apply Drawn0.step)⟩
                          · rw [if_neg c14] at H
                            have c14b0 : (a0.toList == ([60, 61] : List UInt8)) = false := beq_eq_false_iff_ne.mpr c14
                            have c14b1 : (a0.toList != ([60, 61] : List UInt8)) = true := bne_iff_ne.mpr c14
                            by_cases c15 : a0.toList = ([62, 61] : List UInt8)
                            · rw [if_pos c15] at H
                              have c15b0 : (a0.toList == ([62, 61] : List UInt8)) = true := beq_iff_eq.mpr c15
                              have c15b1 : (a0.toList != ([62, 61] : List UInt8)) = false := bne_eq_false_iff_eq.mpr c15
                              clear c15
                              have H' := Aside0.mk H
                              clear H
                              go_wp2
                              go_meet
                              case rel => exact ⟨_, ((a0.toList == ([62, 61] : List UInt8))), (by first | rfl | (simp; done) | (simp [*]; done)), H', ⟨by have := HJ2.out; have := HJ5.out; first | omega | exact Nat.le_refl _⟩, by repeat (first | exact Drawn0.refl _ | apply Drawn0.step)⟩
                            · rw [if_neg c15] at H
                              have c15b0 : (a0.toList == ([62, 61] : List UInt8)) = false := beq_eq_false_iff_ne.mpr c15
                              have c15b1 : (a0.toList != ([62, 61] : List UInt8)) = true := bne_iff_ne.mpr c15
                              by_cases c16 : a0.toList = ([105, 110] : List UInt8)
                              · rw [if_pos c16] at H
                                have c16b0 : (a0.toList == ([105, 110] : List UInt8)) = true := beq_iff_eq.mpr c16
                                have c16b1 : (a0.toList != ([105, 110] : List UInt8)) = false := bne_eq_false_iff_eq.mpr c16
                                clear c16
                                have H' := Aside0.mk H
                                clear H
                                go_wp2
                                go_meet
                                case rel => exact ⟨_, ((a0.toList == ([105, 110] : List UInt8))), (by first | rfl | (simp; done) | (simp [*]; done)), H', ⟨by have := HJ2.out; have := HJ5.out; first | omega | exact Nat.le_refl _⟩, by repeat (first | exact Drawn0.refl _ | apply Drawn0.step)⟩
                              · rw [if_neg c16] at H
                                have c16b0 : (a0.toList == ([105, 110] : List UInt8)) = false := beq_eq_false_iff_ne.mpr c16
                                have c16b1 : (a0.toList != ([105, 110] : List UInt8)) = true := bne_iff_ne.mpr c16
                                by_cases c17 : a0.toList = ([109, 97, 116, 99, 104, 101, 115] : List UInt8)
                                · rw [if_pos c17] at H
                                  have c17b0 : (a0.toList == ([109, 97, 116, 99, 104, 101, 115] : List UInt8)) = true := beq_iff_eq.mpr c17
                                  have c17b1 : (a0.toList != ([109, 97, 116, 99, 104, 101, 115] : List UInt8)) = false := bne_eq_false_iff_eq.mpr c17
                                  clear c17
                                  have H' := Aside0.mk H
                                  clear H
                                  go_wp2
                                  go_meet
                                  case rel => exact ⟨_, ((a0.toList == ([109, 97, 116, 99, 104, 101, 115] : List UInt8))), (by first | rfl | (simp; done) | (simp [*]; done)), H', ⟨by have := HJ2.out; have := HJ5.out; first | omega | exact Nat.le_refl _⟩, by repeat (first | exact Drawn0.refl _ | apply Drawn0.step)⟩
                                · rw [if_neg c17] at H
                                  have c17b0 : (a0.toList == ([109, 97, 116, 99, 104, 101, 115] : List UInt8)) = false := beq_eq_false_iff_ne.mpr c17
                                  have c17b1 : (a0.toList != ([109, 97, 116, 99, 104, 101, 115] : List UInt8)) = true := bne_iff_ne.mpr c17
                                  by_cases c18 : a0.toList = ([99, 111, 110, 116, 97, 105, 110, 115] : List UInt8)
                                  · rw [if_pos c18] at H
                                    have c18b0 : (a0.toList == ([99, 111, 110, 116, 97, 105, 110, 115] : List UInt8)) = true := beq_iff_eq.mpr c18
                                    have c18b1 : (a0.toList != ([99, 111, 110, 116, 97, 105, 110, 115] : List UInt8)) = false := bne_eq_false_iff_eq.mpr c18
                                    clear c18
                                    have H' := Aside0.mk H
                                    clear H
                                    go_wp2
                                    go_meet
                                    case rel => exact ⟨_, ((a0.toList == ([99, 111, 110, 116, 97, 105, 110, 115] : List UInt8))), (by first | rfl | (simp; done) | (simp [*]; done)), H', ⟨by have := HJ2.out; have := HJ5.out; first | omega | exact Nat.le_refl _⟩, by repeat (first | exact Drawn0.refl _ | apply Drawn0.step)⟩
                                  · rw [if_neg c18] at H
                                    have c18b0 : (a0.toList == ([99, 111, 110, 116, 97, 105, 110, 115] : List UInt8)) = false := beq_eq_false_iff_ne.mpr c18
                                    have c18b1 : (a0.toList != ([99, 111, 110, 116, 97, 105, 110, 115] : List UInt8)) = true := bne_iff_ne.mpr c18
                                    by_cases c19 : a0.toList = ([115, 116, 97, 114, 116, 115, 87, 105, 116, 104] : List UInt8)
                                    · rw [if_pos c19] at H
                                      have c19b0 : (a0.toList == ([115, 116, 97, 114, 116, 115, 87, 105, 116, 104] : List UInt8)) = true := beq_iff_eq.mpr c19
                                      have c19b1 : (a0.toList != ([115, 116, 97, 114, 116, 115, 87, 105, 116, 104] : List UInt8)) = false := bne_eq_false_iff_eq.mpr c19
                                      clear c19
                                      have H' := Aside0.mk H
                                      clear H
                                      go_wp2
                                      go_meet
                                      case rel => exact ⟨_, ((a0.toList == ([115, 116, 97, 114, 116, 115, 87, 105, 116, 104] : List UInt8))), (by first | rfl | (simp; done) | (simp [*]; done)), H', ⟨by have := HJ2.out; have := HJ5.out; first | omega | exact Nat.le_refl _⟩, by repeat (first | exact Drawn0.refl _ | apply Drawn0.step)⟩
                                    · rw [if_neg c19] at H
                                      have c19b0 : (a0.toList == ([115, 116, 97, 114, 116, 115, 87, 105, 116, 104] : List UInt8)) = false := beq_eq_false_iff_ne.mpr c19
                                      have c19b1 : (a0.toList != ([115, 116, 97, 114, 116, 115, 87, 105, 116, 104] : List UInt8)) = true := bne_iff_ne.mpr c19
                                      have H' := Aside0.mk H
                                      clear H
                                      go_wp2
                                      go_meet
                                      case rel => exact ⟨_, ((a0.toList == ([101, 110, 100, 115, 87, 105, 116, 104] : List UInt8))), (by first | rfl | (simp; done) | (simp [*]; done)), H', ⟨by have := HJ2.out; have := HJ5.out; first | omega | exact Nat.le_refl _⟩, by repeat (first | exact Drawn0.refl _ | apply Drawn0.step)⟩
                case rest =>
                  clear HC9
                  try clear c1
                  try clear c2
                  try clear c2b0
                  try clear c2b1
                  try clear p2
                  try clear c4
                  try clear c4b0
                  try clear c4b1
                  try clear c5
                  try clear c7
                  try clear c7b0
                  try clear c7b1
                  try clear c8
                  try clear c10
                  try clear c10b0
                  try clear c10b1
                  try clear c11
                  try clear c11b0
                  try clear c11b1
                  try clear c12
                  try clear c12b0
                  try clear c12b1
                  try clear c13
                  try clear c13b0
                  try clear c13b1
                  try clear c14
                  try clear c14b0
                  try clear c14b1
                  try clear c15
                  try clear c15b0
                  try clear c15b1
                  try clear c16
                  try clear c16b0
                  try clear c16b1
                  try clear c17
                  try clear c17b0
                  try clear c17b1
                  try clear c18
                  try clear c18b0
                  try clear c18b1
                  try clear c19
                  try clear c19b0
                  try clear c19b1
                  try clear p2
                  obtain ⟨kq, x12_8, rfl, HA, HJ8, ⟨mc8, rfl⟩⟩ := hcut
                  cases kq with
                  | zero => exact absurd HA.out (by simp [spec_Level.j2])
                  | succ kj8 =>
                    have H := HA.out
                    clear HA
                    simp only [spec_Level.j2] at H
                    by_cases c20 : x12_8 = true
                    · subst c20
                      have H1 : (some 3) = some r := by rw [if_pos rfl] at H; exact H
                      clear H
                      have H := H1
                      clear H1
                      obtain rfl := Option.some.inj H
                      go_wp2
                      go_ret
                      exact ⟨by first | rfl | (simp; done) | (simp [*]; done), by repeat (first | exact Drawn0.refl _ | apply Drawn0.step)⟩
                    · replace c20 := Bool.eq_false_iff.mpr c20
                      subst c20
                      have H1 : (if a0.toList = ([46, 46] : List UInt8) then (some 4) else (if a0.toList = ([43] : List UInt8) then (spec_Level.j3 kj8 a0 (a0.toList == ([43] : List UInt8))) else (spec_Level.j3 kj8 a0 (a0.toList == ([45] : List UInt8))))) = some r := by rw [if_neg (show ¬ (false = true) by decide)] at H; exact H
                      clear H
                      have H := H1
                      clear H1
                      by_cases c21 : a0.toList = ([46, 46] : List UInt8)
                      · rw [if_pos c21] at H
                        have c21b0 : (a0.toList == ([46, 46] : List UInt8)) = true := beq_iff_eq.mpr c21
                        have c21b1 : (a0.toList != ([46, 46] : List UInt8)) = false := bne_eq_false_iff_eq.mpr c21
                        clear c21
                        obtain rfl := Option.some.inj H
                        go_wp2
                        go_ret
                        exact ⟨by first | rfl | (simp; done) | (simp [*]; done), by repeat (first | exact Drawn0.refl _ | apply Drawn0.step)⟩
                      · rw [if_neg c21] at H
                        have c21b0 : (a0.toList == ([46, 46] : List UInt8)) = false := beq_eq_false_iff_ne.mpr c21
                        have c21b1 : (a0.toList != ([46, 46] : List UInt8)) = true := bne_iff_ne.mpr c21
                        have HC22 := Aside0.mk H
                        clear H
                        go_upto_if 26 with (fail)
                        go_cut [26] (fun v26 wc => ∃ (kq : Nat) (x26_21 : Bool), v26 = .bool x26_21 ∧ Aside0 (spec_Level.j3 kq a0 x26_21 = some r) ∧ Aside0 (kq ≤ kj8) ∧ Drawn0 w wc)
                        case first =>
                          have H := HC22.out
                          clear HC22
                          by_cases c23 : a0.toList = ([43] : List UInt8)
                          · rw [if_pos c23] at H
                            have c23b0 : (a0.toList == ([43] : List UInt8)) = true := beq_iff_eq.mpr c23
                            have c23b1 : (a0.toList != ([43] : List UInt8)) = false := bne_eq_false_iff_eq.mpr c23
                            clear c23
                            (first | rw [c23b0] | (simp only [i64_w, i32_w]; rw [c23b0]) | skip)
                            have H' := Aside0.mk H
                            clear H
                            go_wp2
                            go_meet
                            case rel => exact ⟨_, ((a0.toList == ([43] : List UInt8))), (by first | rfl | (simp; done) | (simp [*]; done)), H', ⟨by have := HJ2.out; have := HJ5.out; have := HJ8.out; first | omega | exact Nat.le_refl _⟩, by repeat (first | exact Drawn0.refl _ | apply Drawn0.step)⟩
                          · rw [if_neg c23] at H
                            have c23b0 : (a0.toList == ([43] : List UInt8)) = false := beq_eq_false_iff_ne.mpr c23
                            have c23b1 : (a0.toList != ([43] : List UInt8)) = true := bne_iff_ne.mpr c23
                            (first | rw [c23b0] | (simp only [i64_w, i32_w]; rw [c23b0]) | skip)
                            have H' := Aside0.mk H
                            clear H
                            go_wp2
                            go_meet
                            case rel => exact ⟨_, ((a0.toList == ([45] : List UInt8))), (by first | rfl | (simp; done) | (simp [*]; done)), H', ⟨by have := HJ2.out; have := HJ5.out; have := HJ8.out; first | omega | exact Nat.le_refl _⟩, by repeat (first | exact Drawn0.refl _ | apply Drawn0.step)⟩
                        case rest =>
                          clear HC22
                          try clear c1
                          try clear c2
                          try clear c2b0
                          try clear c2b1
                          try clear p2
                          try clear c4
                          try clear c4b0
                          try clear c4b1
                          try clear c5
                          try clear c7
                          try clear c7b0
                          try clear c7b1
                          try clear c8
                          try clear c10
                          try clear c10b0
                          try clear c10b1
                          try clear c11
                          try clear c11b0
                          try clear c11b1
                          try clear c12
                          try clear c12b0
                          try clear c12b1
                          try clear c13
                          try clear c13b0
                          try clear c13b1
                          try clear c14
                          try clear c14b0
                          try clear c14b1
                          try clear c15
                          try clear c15b0
                          try clear c15b1
                          try clear c16
                          try clear c16b0
                          try clear c16b1
                          try clear c17
                          try clear c17b0
                          try clear c17b1
                          try clear c18
                          try clear c18b0
                          try clear c18b1
                          try clear c19
                          try clear c19b0
                          try clear c19b1
                          try clear c20
                          try clear c21
                          try clear c21b0
                          try clear c21b1
                          try clear c23
                          try clear c23b0
                          try clear c23b1
                          try clear p2
                          obtain ⟨kq, x26_21, rfl, HA, HJ21, ⟨mc21, rfl⟩⟩ := hcut
                          cases kq with
                          | zero => exact absurd HA.out (by simp [spec_Level.j3])
                          | succ kj21 =>
                            have H := HA.out
                            clear HA
                            simp only [spec_Level.j3] at H
                            by_cases c24 : x26_21 = true
                            · subst c24
                              have H1 : (some 5) = some r := by rw [if_pos rfl] at H; exact H
                              clear H
                              have H := H1
                              clear H1
                              obtain rfl := Option.some.inj H
                              go_wp2
                              go_ret
                              exact ⟨by first | rfl | (simp; done) | (simp [*]; done), by repeat (first | exact Drawn0.refl _ | apply Drawn0.step)⟩
                            · replace c24 := Bool.eq_false_iff.mpr c24
                              subst c24
                              have H1 : (if a0.toList = ([42] : List UInt8) then (spec_Level.j4 kj21 a0 (a0.toList == ([42] : List UInt8))) else (if a0.toList = ([47] : List UInt8) then (spec_Level.j4 kj21 a0 (a0.toList == ([47] : List UInt8))) else (spec_Level.j4 kj21 a0 (a0.toList == ([37] : List UInt8))))) = some r := by rw [if_neg (show ¬ (false = true) by decide)] at H; exact H
                              clear H
                              have H := H1
                              clear H1
                              have HC25 := Aside0.mk H
                              clear H
                              go_upto_if 29 with (fail)
                              go_cut [29] (fun v29 wc => ∃ (kq : Nat) (x29_24 : Bool), v29 = .bool x29_24 ∧ Aside0 (spec_Level.j4 kq a0 x29_24 = some r) ∧ Aside0 (kq ≤ kj21) ∧ Drawn0 w wc)
                              case first =>
                                have H := HC25.out
                                clear HC25
                                by_cases c26 : a0.toList = ([42] : List UInt8)
                                · rw [if_pos c26] at H
                                  have c26b0 : (a0.toList == ([42] : List UInt8)) = true := beq_iff_eq.mpr c26
                                  have c26b1 : (a0.toList != ([42] : List UInt8)) = false := bne_eq_false_iff_eq.mpr c26
                                  clear c26
                                  (first | rw [c26b0] | (simp only [i64_w, i32_w]; rw [c26b0]) | skip)
                                  have H' := Aside0.mk H
                                  clear H
                                  go_wp2
                                  go_meet
                                  case rel => exact ⟨_, ((a0.toList == ([42] : List UInt8))), (by first | rfl | (simp; done) | (simp [*]; done)), H', ⟨by have := HJ2.out; have := HJ5.out; have := HJ8.out; have := HJ21.out; first | omega | exact Nat.le_refl _⟩, by repeat (first | exact Drawn0.refl _ | apply Drawn0.step)⟩
                                · rw [if_neg c26] at H
                                  have c26b0 : (a0.toList == ([42] : List UInt8)) = false := beq_eq_false_iff_ne.mpr c26
                                  have c26b1 : (a0.toList != ([42] : List UInt8)) = true := bne_iff_ne.mpr c26
                                  (first | rw [c26b0] | (simp only [i64_w, i32_w]; rw [c26b0]) | skip)
                                  by_cases c27 : a0.toList = ([47] : List UInt8)
                                  · rw [if_pos c27] at H
                                    have c27b0 : (a0.toList == ([47] : List UInt8)) = true := beq_iff_eq.mpr c27
                                    have c27b1 : (a0.toList != ([47] : List UInt8)) = false := bne_eq_false_iff_eq.mpr c27
                                    clear c27
                                    have H' := Aside0.mk H
                                    clear H
                                    go_wp2
                                    go_meet
                                    case rel => exact ⟨_, ((a0.toList == ([47] : List UInt8))), (by first | rfl | (simp; done) | (simp [*]; done)), H', ⟨by have := HJ2.out; have := HJ5.out; have := HJ8.out; have := HJ21.out; first | omega | exact Nat.le_refl _⟩, by repeat (first | exact Drawn0.refl _ | apply Drawn0.step)⟩
                                  · rw [if_neg c27] at H
                                    have c27b0 : (a0.toList == ([47] : List UInt8)) = false := beq_eq_false_iff_ne.mpr c27
                                    have c27b1 : (a0.toList != ([47] : List UInt8)) = true := bne_iff_ne.mpr c27
                                    have H' := Aside0.mk H
                                    clear H
                                    go_wp2
                                    go_meet
                                    case rel => exact ⟨_, ((a0.toList == ([37] : List UInt8))), (by first | rfl | (simp; done) | (simp [*]; done)), H', ⟨by have := HJ2.out; have := HJ5.out; have := HJ8.out; have := HJ21.out; first | omega | exact Nat.le_refl _⟩, by repeat (first | exact Drawn0.refl _ | apply Drawn0.step)⟩
                              case rest =>
                                clear HC25
                                try clear c1
                                try clear c2
                                try clear c2b0
                                try clear c2b1
                                try clear p2
                                try clear c4
                                try clear c4b0
                                try clear c4b1
                                try clear c5
                                try clear c7
                                try clear c7b0
                                try clear c7b1
                                try clear c8
                                try clear c10
                                try clear c10b0
                                try clear c10b1
                                try clear c11
                                try clear c11b0
                                try clear c11b1
                                try clear c12
                                try clear c12b0
                                try clear c12b1
                                try clear c13
                                try clear c13b0
                                try clear c13b1
                                try clear c14
                                try clear c14b0
                                try clear c14b1
                                try clear c15
                                try clear c15b0
                                try clear c15b1
                                try clear c16
                                try clear c16b0
                                try clear c16b1
                                try clear c17
                                try clear c17b0
                                try clear c17b1
                                try clear c18
                                try clear c18b0
                                try clear c18b1
                                try clear c19
                                try clear c19b0
                                try clear c19b1
                                try clear c20
                                try clear c21
                                try clear c21b0
                                try clear c21b1
                                try clear c23
                                try clear c23b0
                                try clear c23b1
                                try clear c24
                                try clear c26
                                try clear c26b0
                                try clear c26b1
                                try clear c27
                                try clear c27b0
                                try clear c27b1
                                try clear p2
                                obtain ⟨kq, x29_24, rfl, HA, HJ24, ⟨mc24, rfl⟩⟩ := hcut
                                cases kq with
                                | zero => exact absurd HA.out (by simp [spec_Level.j4])
                                | succ kj24 =>
                                  have H := HA.out
                                  clear HA
                                  simp only [spec_Level.j4] at H
                                  by_cases c28 : x29_24 = true
                                  · subst c28
                                    have H1 : (some 6) = some r := by rw [if_pos rfl] at H; exact H
                                    clear H
                                    have H := H1
                                    clear H1
                                    obtain rfl := Option.some.inj H
                                    go_wp2
                                    go_ret
                                    exact ⟨by first | rfl | (simp; done) | (simp [*]; done), by repeat (first | exact Drawn0.refl _ | apply Drawn0.step)⟩
                                  · replace c28 := Bool.eq_false_iff.mpr c28
                                    subst c28
                                    have H1 : (if a0.toList = ([94] : List UInt8) then (spec_Level.j5 kj24 a0 (a0.toList == ([94] : List UInt8))) else (spec_Level.j5 kj24 a0 (a0.toList == ([42, 42] : List UInt8)))) = some r := by rw [if_neg (show ¬ (false = true) by decide)] at H; exact H
                                    clear H
                                    have H := H1
                                    clear H1
                                    have HC29 := Aside0.mk H
                                    clear H
                                    go_upto_if 33 with (fail)
                                    go_cut [33] (fun v33 wc => ∃ (kq : Nat) (x33_28 : Bool), v33 = .bool x33_28 ∧ Aside0 (spec_Level.j5 kq a0 x33_28 = some r) ∧ Aside0 (kq ≤ kj24) ∧ Drawn0 w wc)
                                    case first =>
                                      have H := HC29.out
                                      clear HC29
                                      by_cases c30 : a0.toList = ([94] : List UInt8)
                                      · rw [if_pos c30] at H
                                        have c30b0 : (a0.toList == ([94] : List UInt8)) = true := beq_iff_eq.mpr c30
                                        have c30b1 : (a0.toList != ([94] : List UInt8)) = false := bne_eq_false_iff_eq.mpr c30
                                        clear c30
                                        (first | rw [c30b0] | (simp only [i64_w, i32_w]; rw [c30b0]) | skip)
                                        have H' := Aside0.mk H
                                        clear H
                                        go_wp2
                                        go_meet
                                        case rel => exact ⟨_, ((a0.toList == ([94] : List UInt8))), (by first | rfl | (simp; done) | (simp [*]; done)), H', ⟨by have := HJ2.out; have := HJ5.out; have := HJ8.out; have := HJ21.out; have := HJ24.out; first | omega | exact Nat.le_refl _⟩, by repeat (first | exact Drawn0.refl _ | apply Drawn0.step)⟩
                                      · rw [if_neg c30] at H
                                        have c30b0 : (a0.toList == ([94] : List UInt8)) = false := beq_eq_false_iff_ne.mpr c30
                                        have c30b1 : (a0.toList != ([94] : List UInt8)) = true := bne_iff_ne.mpr c30
                                        (first | rw [c30b0] | (simp only [i64_w, i32_w]; rw [c30b0]) | skip)
                                        have H' := Aside0.mk H
                                        clear H
                                        go_wp2
                                        go_meet
                                        case rel => exact ⟨_, ((a0.toList == ([42, 42] : List UInt8))), (by first | rfl | (simp; done) | (simp [*]; done)), H', ⟨by have := HJ2.out; have := HJ5.out; have := HJ8.out; have := HJ21.out; have := HJ24.out; first | omega | exact Nat.le_refl _⟩, by repeat (first | exact Drawn0.refl _ | apply Drawn0.step)⟩
                                    case rest =>
                                      clear HC29
                                      try clear c1
                                      try clear c2
                                      try clear c2b0
                                      try clear c2b1
                                      try clear p2
                                      try clear c3
                                      try clear c4
                                      try clear c4b0
                                      try clear c4b1
                                      try clear c5
                                      try clear c7
                                      try clear c7b0
                                      try clear c7b1
                                      try clear c8
                                      try clear c10
                                      try clear c10b0
                                      try clear c10b1
                                      try clear c11
                                      try clear c11b0
                                      try clear c11b1
                                      try clear c12
                                      try clear c12b0
                                      try clear c12b1
                                      try clear c13
                                      try clear c13b0
                                      try clear c13b1
                                      try clear c14
                                      try clear c14b0
                                      try clear c14b1
                                      try clear c15
                                      try clear c15b0
                                      try clear c15b1
                                      try clear c16
                                      try clear c16b0
                                      try clear c16b1
                                      try clear c17
                                      try clear c17b0
                                      try clear c17b1
                                      try clear c18
                                      try clear c18b0
                                      try clear c18b1
                                      try clear c19
                                      try clear c19b0
                                      try clear c19b1
                                      try clear c20
                                      try clear c21
                                      try clear c21b0
                                      try clear c21b1
                                      try clear c23
                                      try clear c23b0
                                      try clear c23b1
                                      try clear c24
                                      try clear c26
                                      try clear c26b0
                                      try clear c26b1
                                      try clear c27
                                      try clear c27b0
                                      try clear c27b1
                                      try clear c28
                                      try clear c30
                                      try clear c30b0
                                      try clear c30b1
                                      try clear p2
                                      obtain ⟨kq, x33_28, rfl, HA, HJ28, ⟨mc28, rfl⟩⟩ := hcut
                                      cases kq with
                                      | zero => exact absurd HA.out (by simp [spec_Level.j5])
                                      | succ kj28 =>
                                        have H := HA.out
                                        clear HA
                                        simp only [spec_Level.j5] at H
                                        by_cases c31 : x33_28 = true
                                        · subst c31
                                          have H1 : (some 7) = some r := by rw [if_pos rfl] at H; exact H
                                          clear H
                                          have H := H1
                                          clear H1
                                          obtain rfl := Option.some.inj H
                                          go_wp2
                                          go_ret
                                          exact ⟨by first | rfl | (simp; done) | (simp [*]; done), by repeat (first | exact Drawn0.refl _ | apply Drawn0.step)⟩
                                        · replace c31 := Bool.eq_false_iff.mpr c31
                                          subst c31
                                          have H1 : (if a0.toList = ([63, 63] : List UInt8) then (some 8) else (some (-1))) = some r := by rw [if_neg (show ¬ (false = true) by decide)] at H; exact H
                                          clear H
                                          have H := H1
                                          clear H1
                                          by_cases c32 : a0.toList = ([63, 63] : List UInt8)
                                          · rw [if_pos c32] at H
                                            have c32b0 : (a0.toList == ([63, 63] : List UInt8)) = true := beq_iff_eq.mpr c32
                                            have c32b1 : (a0.toList != ([63, 63] : List UInt8)) = false := bne_eq_false_iff_eq.mpr c32
                                            clear c32
                                            obtain rfl := Option.some.inj H
                                            go_wp2
                                            go_ret
                                            exact ⟨by first | rfl | (simp; done) | (simp [*]; done), by repeat (first | exact Drawn0.refl _ | apply Drawn0.step)⟩
                                          · rw [if_neg c32] at H
                                            have c32b0 : (a0.toList == ([63, 63] : List UInt8)) = false := beq_eq_false_iff_ne.mpr c32
                                            have c32b1 : (a0.toList != ([63, 63] : List UInt8)) = true := bne_iff_ne.mpr c32
                                            obtain rfl := Option.some.inj H
                                            go_wp2
                                            go_ret
                                            exact ⟨by first | rfl | (simp; done) | (simp [*]; done), by repeat (first | exact Drawn0.refl _ | apply Drawn0.step)⟩

end Go.Proofs.Ytlphfinmdacolaa.PFnLevels
