/- What the program does, function by function, and what trees mean: part 42. -/
import Derived.Test.YtafhhdimjkgihaaM39
import Derived.Test.YtafhhdimjkgihaaM41
import Derived.Test.YtafhhdimjkgihaaM10
import Derived.Test.YtafhhdimjkgihaaM12
import Derived.Test.YtafhhdimjkgihaaM15
set_option linter.unusedSimpArgs false
set_option linter.unusedVariables false
namespace Go.Proofs.Ytafhhdimjkgihaa.Mn
section
attribute [local go_sem ↓] Go.wp_at_zero Go.wp_at_succ
open Go.RowKit
theorem below_of_ext {B : Nat} {w w1 w' : World} (h : Ext (fun _ => False) B w w1) (g : Below B w1 w') : Below B w w' :=
 Below.trans ⟨h.os, h.tape, h.output, h.size, fun b hb => h.block b hb id⟩ g
structure Kf (w0 : World) (l0 l1 : List Value) (w : World) : Prop where
 b : Below w0.heap.size w0 w
 c0 : Lb w w0.heap.size l0 25
 c1 : Lb w (w0.heap.size + 1) l1 25
theorem Kf.below {w0 : World} {l0 l1 : List Value} {w w1 : World} (h : Kf w0 l0 l1 w) (e : Below w.heap.size w w1) : Kf w0 l0 l1 w1 := ⟨h.b.trans (e.mono h.b.size), h.c0.below e h.c0.lt, h.c1.below e h.c1.lt⟩
theorem Kf.alloc {w0 : World} {l0 l1 : List Value} {w : World} (h : Kf w0 l0 l1 w) (o : Obj) : Kf w0 l0 l1 (w.alloc o) := h.below ((Below.refl _ _).alloc (Nat.le_refl _) o)
def Asks (keep : Bool) (t1 t2 : Tr) (names : List (Nm × Vl)) : Prop :=
 names.length ≤ 100 → (∀ p ∈ names, RightV p.2) → if keep then ∀ v, (D t1).val { names := names, item := none } = some v → (D t2).val { names := names, item := none } = some v else (D t1).val { names := names, item := none } = (D t2).val { names := names, item := none }
def Yes (w : World) (e : Ending) (w' : World) : Prop := e = .returned (.bool true) ∧ Below w.heap.size w w'
set_option maxHeartbeats 6400000 in
set_option maxRecDepth 100000 in
theorem means_any (t1 t2 : Tr) (h1 : fine t1) (h2 : fine t2) (k : Nat → Prop) (names : List (Nm × Vl)) (an : Option Addr) (cn : Nat) (ncs : List Value) (f1 : Nat) (a1 : Option Addr) (c1 : Nat) (a1' : Option Addr) (c1' : Nat) (p1 q1 : Int) (f2 : Nat) (a2 : Option Addr) (c2 : Nat) (a2' : Option Addr) (c2' : Nat) (p2 q2 : Int) (w : World)
 (hn : names.length ≤ most) (hk : ∀ b, k b → b < w.heap.size) (hr : Row w k an ncs) (hs : IsRn w k names ncs) (ht1 : IsT w k t1 (tcells t1 f1 a1 c1 a1' c1' p1 q1)) (ht2 : IsT w k t2 (tcells t2 f2 a2 c2 a2' c2' p2 q2)) (hm : Asks false t1 t2 names) :
 Calls Try.prog 20 #[ta t1 f1 a1 c1 a1' c1' p1 q1, ta t2 f2 a2 c2 a2' c2' p2 q2, .slice an names.length cn] w (Yes w) := by
 have HF1 := Lib.hid h1; have HF2 := Lib.hid h2; have HK := Lib.hid hk; have HR := Lib.hid hr; have HS := Lib.hid hs; have HT1 := Lib.hid ht1; have HT2 := Lib.hid ht2; have HM := Lib.hid hm; have HNL := Lib.hid hn;clear h1 h2 hk hr hs ht1 ht2 hm hn;go_enter Try.func20, Try.ntmps20
 go_wp2_with fail
 go_at_call 30;apply Calls.mono
 ·refine right_names k names an cn ncs _ HNL.out ?_ (HR.out.ext (.of ?_) (Nat.le_refl _)) (HS.out.ext (.of ?_) (Nat.le_refl _))
  ·intro b hb; have := HK.out b hb; simp; omega
  ·go_grown
  ·go_grown
 rintro e w1 ⟨b, rfl, hb1, hr1⟩;have F1 : Kf w (tcells t1 f1 a1 c1 a1' c1' p1 q1) (tcells t2 f2 a2 c2 a2' c2' p2 q2) w1 := (⟨by go_grown, (Lb.new _ _ _).alloc _, Lb.new' _ _ _ (by simp)⟩ : Kf w _ _ _).below hb1;have HF := Lib.hid F1;have r0 := F1.c0.cell; have r1 := F1.c1.cell; have z0 := F1.c0.lt; have z1 := F1.c1.lt;unfold tcells at r0 r1;clear F1 hb1;cases b with
 |false =>
  clear hr1
  go_wp2_with fail
  go_ret;exact ⟨rfl, HF.out.b⟩
 |true =>
  obtain ⟨hn100, hrv⟩ := (show names.length ≤ 100 ∧ ∀ p ∈ names, RightV p.2 from by simpa using hr1);have HN := Lib.hid (HS.out.toNs hrv);have HME := Lib.hid (HM.out hn100 hrv);clear hr1 hrv
  go_wp2_with fail
  go_at_call 31;apply Calls.mono
  ·exact eval_any t1 HF1.out k names an cn ncs _ _ _ _ _ _ _ 20000 _ (by unfold room; omega) (fun b hb => Nat.lt_of_lt_of_le (HK.out b hb) HF.out.b.size) (HR.out.ext (.of HF.out.b) (Nat.le_refl _)) (HN.out.ext (.of HF.out.b) (Nat.le_refl _)) (HT1.out.ext (.of HF.out.b) (Nat.le_refl _))
  rintro e w2 ⟨x, f3, a3, c3, a4, c4, ok1, over1, rfl, ⟨wz, hz1, hz2⟩, hV1, hr1⟩;have F2 := HF.out.below (below_of_ext hz1 hz2);have HF2' := Lib.hid F2; have HV1 := Lib.hid hV1; have HR1 := Lib.hid hr1;clear r0 r1 z0 z1 hz1 hz2 hV1 hr1;have r0 := F2.c0.cell; have r1 := F2.c1.cell; have z0 := F2.c0.lt; have z1 := F2.c1.lt;unfold tcells at r0 r1;clear F2
  go_upto_region 4 with (fail)
  refine forget (fun W => Kf w (tcells t1 f1 a1 c1 a1' c1' p1 q1) (tcells t2 f2 a2 c2 a2' c2' p2 q2) W ∧ Below w2.heap.size w2 W ∧ Lb W w2.heap.size (vcells x f3 a3 c3 a4 c4) 39) ?_ ?_
  ·exact ⟨HF2'.out.alloc _, by go_grown, Lb.new' _ _ _ rfl⟩
  rintro W ⟨hF3, hB3, hL3⟩;have HF3 := Lib.hid hF3; have HL3 := Lib.hid hL3;have HV3 := Lib.hid (HV1.out.ext (.of hB3) (Nat.le_refl _));have r7 := hL3.cell; have z7 := hL3.lt;unfold vcells at r7;clear r0 r1 z0 z1;have r0 := hF3.c0.cell; have r1 := hF3.c1.cell; have z0 := hF3.c0.lt; have z1 := hF3.c1.lt;unfold tcells at r0 r1;clear hF3 hL3 hB3
  go_wp2_with fail
  go_at_call 31;apply Calls.mono
  ·exact eval_any t2 HF2.out k names an cn ncs _ _ _ _ _ _ _ 400000 _ (by unfold room; omega) (fun b hb => Nat.lt_of_lt_of_le (HK.out b hb) HF3.out.b.size) (HR.out.ext (.of HF3.out.b) (Nat.le_refl _)) (HN.out.ext (.of HF3.out.b) (Nat.le_refl _)) (HT2.out.ext (.of HF3.out.b) (Nat.le_refl _))
  rintro e w4 ⟨y, f5, a5, c5, a6, c6, ok2, over2, rfl, ⟨wz, hz1, hz2⟩, hV2, hr2⟩;have hb4 := below_of_ext hz1 hz2;have F4 := HF3.out.below hb4;have L4 := HL3.out.below hb4 HL3.out.lt;have HV4 := Lib.hid (HV3.out.ext (.of hb4) (Nat.le_refl _));have HF4 := Lib.hid F4; have HV2 := Lib.hid hV2; have HR2 := Lib.hid hr2;clear r0 r1 z0 z1 r7 z7 hz1 hz2 hV2 hr2 hb4;have r0 := F4.c0.cell; have r1 := F4.c1.cell; have z0 := F4.c0.lt; have z1 := F4.c1.lt;unfold tcells at r0 r1;have r7 := L4.cell; have z7 := L4.lt;have HL4 := Lib.hid L4;unfold vcells at r7;clear F4 L4
  go_upto_region 5 with (fail)
  refine forget (fun W => Kf w (tcells t1 f1 a1 c1 a1' c1' p1 q1) (tcells t2 f2 a2 c2 a2' c2' p2 q2) W ∧ Below w4.heap.size w4 W ∧ Lb W w2.heap.size (vcells x f3 a3 c3 a4 c4) 39 ∧ Lb W w4.heap.size (vcells y f5 a5 c5 a6 c6) 39) ?_ ?_
  ·exact ⟨HF4.out.alloc _, by go_grown, HL4.out.alloc _, Lb.new' _ _ _ rfl⟩
  rintro W5 ⟨hF5, hB5, hL5, hL6⟩;have HF5 := Lib.hid hF5; have HB5 := Lib.hid hB5;have HX5 := Lib.hid (HV4.out.ext (.of hB5) (Nat.le_refl _)); have HY5 := Lib.hid (HV2.out.ext (.of hB5) (Nat.le_refl _));have HL5 := Lib.hid hL5; have HL6 := Lib.hid hL6;clear r0 r1 z0 z1 r7 z7;have r7 := hL5.cell; have z7 := hL5.lt; have r8 := hL6.cell; have z8 := hL6.lt;unfold vcells at r7 r8;clear hF5 hB5 hL5 hL6;cases over1 with
  |true =>
   go_wp2_with fail
   go_ret;exact ⟨rfl, HF5.out.b⟩
  |false =>
   cases over2 with
   |true =>
    go_wp2_with fail
    go_ret;exact ⟨rfl, HF5.out.b⟩
   |false =>
    have h12 := HME.out;simp only [Bool.false_eq_true, if_false] at h12;rw [show (D t1).val { names := names, item := none } = if ok1 then some x else none from by simpa using HR1.out, show (D t2).val { names := names, item := none } = if ok2 then some y else none from by simpa using HR2.out] at h12;cases ok1 with
    |false =>
     cases ok2 with
     |true => simp at h12
     |false =>
      clear h12
      go_wp2_with fail
      go_ret;exact ⟨rfl, HF5.out.b⟩
    |true =>
     cases ok2 with
     |false => simp at h12
     |true =>
      obtain rfl : x = y := (by simpa using h12);clear h12
      go_wp2_with fail
      go_at_call 32;apply Calls.mono
      ·exact Right_any x k 2000 (by omega) _ _ _ _ _ _ (fun b hb => Nat.lt_of_lt_of_le (HK.out b hb) HF5.out.b.size) HX5.out.toR
      rintro e w6 ⟨is, rfl, hb6, hr6⟩;have F6 := HF5.out.below hb6;have L6 := HL5.out.below hb6 z7;have L7 := HL6.out.below hb6 z8;have HF6 := Lib.hid F6; have HR6 := Lib.hid hr6;have HX6 := Lib.hid (HX5.out.ext (.of hb6) (Nat.le_refl _)); have HY6 := Lib.hid (HY5.out.ext (.of hb6) (Nat.le_refl _));clear r7 r8 z7 z8;have r7 := L6.cell; have z7 := L6.lt; have r8 := L7.cell; have z8 := L7.lt;unfold vcells at r7 r8;clear F6 L6 L7 hb6 hr6;cases is with
      |false =>
       go_wp2_with fail
       go_ret;exact ⟨rfl, HF6.out.b⟩
      |true =>
       go_wp2_with fail
       go_at_call 33;apply Calls.mono
       ·exact (same_ok x).calls (by simpa using HR6.out) HX6.out HY6.out
       rintro e w7 ⟨rfl, hb7⟩;have F7 := HF6.out.below hb7;have HF7 := Lib.hid F7;clear F7 hb7
       go_wp2_with fail
       go_ret;exact ⟨rfl, HF7.out.b⟩
set_option maxHeartbeats 6400000 in
set_option maxRecDepth 100000 in
theorem keeps_any (t1 t2 : Tr) (h1 : fine t1) (h2 : fine t2) (k : Nat → Prop) (names : List (Nm × Vl)) (an : Option Addr) (cn : Nat) (ncs : List Value) (f1 : Nat) (a1 : Option Addr) (c1 : Nat) (a1' : Option Addr) (c1' : Nat) (p1 q1 : Int) (f2 : Nat) (a2 : Option Addr) (c2 : Nat) (a2' : Option Addr) (c2' : Nat) (p2 q2 : Int) (w : World)
 (hn : names.length ≤ most) (hk : ∀ b, k b → b < w.heap.size) (hr : Row w k an ncs) (hs : IsRn w k names ncs) (ht1 : IsT w k t1 (tcells t1 f1 a1 c1 a1' c1' p1 q1)) (ht2 : IsT w k t2 (tcells t2 f2 a2 c2 a2' c2' p2 q2)) (hm : Asks true t1 t2 names) :
 Calls Try.prog 14 #[ta t1 f1 a1 c1 a1' c1' p1 q1, ta t2 f2 a2 c2 a2' c2' p2 q2, .slice an names.length cn] w (Yes w) := by
 have HF1 := Lib.hid h1; have HF2 := Lib.hid h2; have HK := Lib.hid hk; have HR := Lib.hid hr; have HS := Lib.hid hs; have HT1 := Lib.hid ht1; have HT2 := Lib.hid ht2; have HM := Lib.hid hm; have HNL := Lib.hid hn;clear h1 h2 hk hr hs ht1 ht2 hm hn;go_enter Try.func14, Try.ntmps14
 go_wp2_with fail
 go_at_call 30;apply Calls.mono
 ·refine right_names k names an cn ncs _ HNL.out ?_ (HR.out.ext (.of ?_) (Nat.le_refl _)) (HS.out.ext (.of ?_) (Nat.le_refl _))
  ·intro b hb; have := HK.out b hb; simp; omega
  ·go_grown
  ·go_grown
 rintro e w1 ⟨b, rfl, hb1, hr1⟩;have F1 : Kf w (tcells t1 f1 a1 c1 a1' c1' p1 q1) (tcells t2 f2 a2 c2 a2' c2' p2 q2) w1 := (⟨by go_grown, (Lb.new _ _ _).alloc _, Lb.new' _ _ _ (by simp)⟩ : Kf w _ _ _).below hb1;have HF := Lib.hid F1;have r0 := F1.c0.cell; have r1 := F1.c1.cell; have z0 := F1.c0.lt; have z1 := F1.c1.lt;unfold tcells at r0 r1;clear F1 hb1;cases b with
 |false =>
  clear hr1
  go_wp2_with fail
  go_ret;exact ⟨rfl, HF.out.b⟩
 |true =>
  obtain ⟨hn100, hrv⟩ := (show names.length ≤ 100 ∧ ∀ p ∈ names, RightV p.2 from by simpa using hr1);have HN := Lib.hid (HS.out.toNs hrv);have HME := Lib.hid (HM.out hn100 hrv);clear hr1 hrv
  go_wp2_with fail
  go_at_call 31;apply Calls.mono
  ·exact eval_any t1 HF1.out k names an cn ncs _ _ _ _ _ _ _ 20000 _ (by unfold room; omega) (fun b hb => Nat.lt_of_lt_of_le (HK.out b hb) HF.out.b.size) (HR.out.ext (.of HF.out.b) (Nat.le_refl _)) (HN.out.ext (.of HF.out.b) (Nat.le_refl _)) (HT1.out.ext (.of HF.out.b) (Nat.le_refl _))
  rintro e w2 ⟨x, f3, a3, c3, a4, c4, ok1, over1, rfl, ⟨wz, hz1, hz2⟩, hV1, hr1⟩;have F2 := HF.out.below (below_of_ext hz1 hz2);have HF2' := Lib.hid F2; have HV1 := Lib.hid hV1; have HR1 := Lib.hid hr1;clear r0 r1 z0 z1 hz1 hz2 hV1 hr1;have r0 := F2.c0.cell; have r1 := F2.c1.cell; have z0 := F2.c0.lt; have z1 := F2.c1.lt;unfold tcells at r0 r1;clear F2
  go_upto_region 4 with (fail)
  refine forget (fun W => Kf w (tcells t1 f1 a1 c1 a1' c1' p1 q1) (tcells t2 f2 a2 c2 a2' c2' p2 q2) W ∧ Below w2.heap.size w2 W ∧ Lb W w2.heap.size (vcells x f3 a3 c3 a4 c4) 39) ?_ ?_
  ·exact ⟨HF2'.out.alloc _, by go_grown, Lb.new' _ _ _ rfl⟩
  rintro W ⟨hF3, hB3, hL3⟩;have HF3 := Lib.hid hF3; have HL3 := Lib.hid hL3;have HV3 := Lib.hid (HV1.out.ext (.of hB3) (Nat.le_refl _));have r7 := hL3.cell; have z7 := hL3.lt;unfold vcells at r7;clear r0 r1 z0 z1;have r0 := hF3.c0.cell; have r1 := hF3.c1.cell; have z0 := hF3.c0.lt; have z1 := hF3.c1.lt;unfold tcells at r0 r1;clear hF3 hL3 hB3;cases over1 with
  |true =>
   go_wp2_with fail
   go_ret;exact ⟨rfl, HF3.out.b⟩
  |false =>
   cases ok1 with
   |false =>
    go_wp2_with fail
    go_ret;exact ⟨rfl, HF3.out.b⟩
   |true =>
    have hx : (D t1).val { names := names, item := none } = some x := (by simpa using HR1.out);have hy : (D t2).val { names := names, item := none } = some x := by
     have h := HME.out;simp only [if_true] at h;exact h x hx
    have HY := Lib.hid hy;clear hx hy
    go_wp2_with fail
    go_at_call 32;apply Calls.mono
    ·exact Right_any x k 2000 (by omega) _ _ _ _ _ _ (fun b hb => Nat.lt_of_lt_of_le (HK.out b hb) HF3.out.b.size) HV3.out.toR
    rintro e w6 ⟨is, rfl, hb6, hr6⟩;have F6 := HF3.out.below hb6;have L6 := HL3.out.below hb6 z7;have HF6 := Lib.hid F6; have HR6 := Lib.hid hr6; have HL6 := Lib.hid L6;have HX6 := Lib.hid (HV3.out.ext (.of hb6) (Nat.le_refl _));clear r7 z7 r0 r1 z0 z1;have r7 := L6.cell; have z7 := L6.lt;unfold vcells at r7;have r0 := F6.c0.cell; have r1 := F6.c1.cell; have z0 := F6.c0.lt; have z1 := F6.c1.lt;unfold tcells at r0 r1;clear F6 L6 hb6 hr6;cases is with
    |false =>
     go_wp2_with fail
     go_ret;exact ⟨rfl, HF6.out.b⟩
    |true =>
     go_wp2_with fail
     go_at_call 31;apply Calls.mono
     ·exact eval_any t2 HF2.out k names an cn ncs _ _ _ _ _ _ _ 400000 _ (by unfold room; omega) (fun b hb => Nat.lt_of_lt_of_le (HK.out b hb) HF6.out.b.size) (HR.out.ext (.of HF6.out.b) (Nat.le_refl _)) (HN.out.ext (.of HF6.out.b) (Nat.le_refl _)) (HT2.out.ext (.of HF6.out.b) (Nat.le_refl _))
     rintro e w4 ⟨y, f5, a5, c5, a6, c6, ok2, over2, rfl, ⟨wz, hz1, hz2⟩, hV2, hr2⟩;have hb4 := below_of_ext hz1 hz2;have F4 := HF6.out.below hb4;have L4 := HL6.out.below hb4 HL6.out.lt;have HV4 := Lib.hid (HX6.out.ext (.of hb4) (Nat.le_refl _));have HF4 := Lib.hid F4; have HV2 := Lib.hid hV2; have HR2 := Lib.hid hr2;have HL4 := Lib.hid L4;clear r0 r1 z0 z1 r7 z7 hz1 hz2 hV2 hr2 hb4 F4 L4
     go_upto_region 7 with (fail)
     refine forget (fun W => Kf w (tcells t1 f1 a1 c1 a1' c1' p1 q1) (tcells t2 f2 a2 c2 a2' c2' p2 q2) W ∧ Below w4.heap.size w4 W ∧ Lb W w2.heap.size (vcells x f3 a3 c3 a4 c4) 39 ∧ Lb W w4.heap.size (vcells y f5 a5 c5 a6 c6) 39) ?_ ?_
     ·exact ⟨HF4.out.alloc _, by go_grown, HL4.out.alloc _, Lb.new' _ _ _ rfl⟩
     rintro W5 ⟨hF5, hB5, hL5, hL6⟩;have HF5 := Lib.hid hF5;have HX5 := Lib.hid (HV4.out.ext (.of hB5) (Nat.le_refl _)); have HY5 := Lib.hid (HV2.out.ext (.of hB5) (Nat.le_refl _));have r7 := hL5.cell; have z7 := hL5.lt; have r8 := hL6.cell; have z8 := hL6.lt;unfold vcells at r7 r8;clear hF5 hB5 hL5 hL6;cases over2 with
     |true =>
      go_wp2_with fail
      go_ret;exact ⟨rfl, HF5.out.b⟩
     |false =>
      have h12 : some x = if ok2 then some y else none := HY.out.symm.trans (by simpa using HR2.out);cases ok2 with
      |false => simp at h12
      |true =>
       obtain rfl : x = y := (by simpa using h12);clear h12
       go_wp2_with fail
       go_at_call 33;apply Calls.mono
       ·exact (same_ok x).calls (by simpa using HR6.out) HX5.out HY5.out
       rintro e w7 ⟨rfl, hb7⟩;have HF7 := Lib.hid (HF5.out.below hb7);clear hb7
       go_wp2_with fail
       go_ret;exact ⟨rfl, HF7.out.b⟩
end
section
theorem chosen_limit (c : Ch) (h : c.limited = false) (x : Int) (p : Env → Option Vl) (env : Env) (l : List (Vl × Int)) : ∀ kept many, chosen { c with limit := x } p env l kept many = chosen c p env l kept many := by
 obtain ⟨n, li, lm, fl, m⟩ := c;simp only at h;subst h
 induction l with
 |nil => intro kept many; rfl
 |cons y l ih =>
  intro kept many;obtain ⟨y, i⟩ := y;simp only at ih;rw [chosen, chosen];simp only [ih];simp
theorem builtin2_limit (c : Ch) (h : c.limited = false) (x : Int) (p : Env → Option Vl) (env : Env) (v : Vl) : builtin2 { c with limit := x } p env v = builtin2 c p env v := by
 unfold builtin2;simp only [chosen_limit c h]
theorem blt_limit (c : Ch) (h : c.limited = false) (x : Int) (env : Env) (l : List Dn) : builtin { c with limit := x } env l = builtin c env l := by
 unfold builtin
 split
 ·rfl
 ·rfl
 ·simp only [builtin2_limit c h]
theorem sem_strike (t : Tr) (h : t.limited = false) (ks : List Dn) : sem (strike t) ks [] = sem t ks [] := by
 funext env
 unfold sem;have hk : (strike t).kind = t.kind := rfl;rw [hk]
 by_cases c1 : t.kind = 1
 ·rw [if_pos c1, if_pos c1]
 rw [if_neg c1, if_neg c1]
 by_cases c2 : t.kind = 2
 ·rw [if_pos c2, if_pos c2]; simp [strike, c2, named]
 rw [if_neg c2, if_neg c2]
 by_cases c3 : t.kind = 3
 ·rw [if_pos c3, if_pos c3]; simp [strike, c3]
 rw [if_neg c3, if_neg c3]
 by_cases c4 : t.kind = 4
 ·rw [if_pos c4, if_pos c4]; simp [strike, c4]
 rw [if_neg c4, if_neg c4]
 by_cases c5 : t.kind = 5
 ·rw [if_pos c5, if_pos c5]; simp [strike, c5]
 rw [if_neg c5, if_neg c5]
 by_cases c6 : t.kind = 6
 ·rw [if_pos c6, if_pos c6]; simp [strike, c6, named]
 rw [if_neg c6, if_neg c6]
 by_cases c8 : t.kind = 8 ∨ t.kind = 21
 ·rw [if_pos c8, if_pos c8]
 rw [if_neg c8, if_neg c8]
 by_cases c9 : t.kind = 9
 ·rw [if_pos c9, if_pos c9]; simp [strike, c9, named]
 rw [if_neg c9, if_neg c9]
 by_cases c10 : t.kind = 10
 ·rw [if_pos c10, if_pos c10]; simp [strike, c10, named]
 rw [if_neg c10, if_neg c10]
 by_cases c12 : t.kind = 12
 ·rw [if_pos c12, if_pos c12]; simp [strike, c12]
 rw [if_neg c12, if_neg c12]
 by_cases c15 : t.kind = 15
 ·rw [if_pos c15, if_pos c15];have e1 : (strike t).name = t.name := by simp [strike, c15, named]
  have e2 : (strike t).limited = t.limited := by simp [strike, c15]
  have e3 : (strike t).flag = t.flag := by simp [strike, c15]
  rw [e1, e2, e3];exact blt_limit { name := t.name, limited := t.limited, limit := t.limit, flag := t.flag, map := oneOf [] } h _ env ks
 rw [if_neg c15, if_neg c15]
 by_cases c17 : t.kind = 17
 ·rw [if_pos c17, if_pos c17]; simp [strike, c17, named]
 rw [if_neg c17, if_neg c17]
 by_cases c18 : t.kind = 18
 ·rw [if_pos c18, if_pos c18]
 rw [if_neg c18, if_neg c18]
 by_cases c19 : t.kind = 19
 ·rw [if_pos c19, if_pos c19]; simp [strike, c19, named]
 rw [if_neg c19, if_neg c19]
mutual
theorem nrm_D : (t : Tr) → WholeT t → D (nrm t) = D t
 |⟨a, b, c, d, e, f, g, h, ks, ms⟩, hW => by
  have hp := hW.parts;have hm : ms = [] := hp.1;subst hm;have hks := nrms_D ks hp.2.2.2.2;rw [D_eq (nrm _), D_eq ⟨a, b, c, d, e, f, g, h, ks, []⟩, nrm_kids];have hmap : (nrm ⟨a, b, c, d, e, f, g, h, ks, []⟩).map = [] := by rw [nrm_eq]; unfold strike; dsimp only; split <;> rfl
  rw [hmap];show node (nrm _) (Ds (nrms ks)) (Ds []) = node _ (Ds ks) (Ds []);rw [hks, Ds];unfold node;rw [nrm_kind];have hs : sem (nrm ⟨a, b, c, d, e, f, g, h, ks, []⟩) (Ds ks) [] = sem ⟨a, b, c, d, e, f, g, h, ks, []⟩ (Ds ks) [] := by
   rw [nrm_eq];exact (sem_strike ⟨a, b, c, d, e, f, g, h, nrms ks, nrms []⟩ hp.2.1 (Ds ks)).trans rfl
  rw [hs]
theorem nrms_D : (l : List Tr) → (∀ x ∈ l, WholeT x) → Ds (nrms l) = Ds l
 |[], _ => by rw [nrms]
 |k :: l, h => by rw [nrms, Ds, Ds, nrm_D k (h k (by simp)), nrms_D l fun x hx => h x (by simp [hx])]
end
def Struck (t : Tr) : Prop := ∃ u, WholeT u ∧ t = nrm u
theorem Struck.kids {t : Tr} (h : Struck t) : ∀ x ∈ t.kids, Struck x := by
 obtain ⟨u, hu, rfl⟩ := h;intro x hx;rw [nrm_kids, nrms_eq] at hx;obtain ⟨y, hy, rfl⟩ := List.mem_map.1 hx;exact ⟨y, hu.parts.2.2.2.2 y hy, rfl⟩
theorem Struck.map {t : Tr} (h : Struck t) : t.map = [] := by
 obtain ⟨u, hu, rfl⟩ := h;rw [nrm_eq, hu.parts.1, nrms]; unfold strike; dsimp only; split <;> rfl
mutual
theorem fine_of {W : Tr → Prop} (hm : ∀ t, W t → t.map = []) (hk : ∀ t, W t → ∀ x ∈ t.kids, W x) : (t : Tr) → W t → fine t
 |⟨a, b, c, d, e, f, g, h, ks, ms⟩, w => by
  rw [fine_eq];have := hm _ w;simp only at this;subst this;exact ⟨.inl rfl, fines_of hm hk ks (hk _ w), by rw [fines_eq]; simp⟩
theorem fines_of {W : Tr → Prop} (hm : ∀ t, W t → t.map = []) (hk : ∀ t, W t → ∀ x ∈ t.kids, W x) : (l : List Tr) → (∀ x ∈ l, W x) → fines l
 |[], _ => by rw [fines_eq]; simp
 |v :: l, w => by
  rw [fines];exact ⟨fine_of hm hk v (w v (by simp)), fines_of hm hk l fun x hx => w x (by simp [hx])⟩
end
theorem fine_whole {t : Tr} (h : WholeT t) : fine t := fine_of (W := WholeT) (fun t h => h.parts.1) (fun t h => h.parts.2.2.2.2) t h
mutual
theorem fine_T {st : Tr → Tr} (hf : ∀ t, fine t → fine (st t)) : (t : Tr) → fine t → fine (T st t)
 |⟨a, b, c, d, e, f, g, h, ks, ms⟩, w => by
  rw [T];refine hf _ ?_;rw [fine_eq] at w ⊢;exact ⟨w.1, fines_T hf ks w.2.1, w.2.2⟩
theorem fines_T {st : Tr → Tr} (hf : ∀ t, fine t → fine (st t)) : (l : List Tr) → fines l → fines (Ts st l)
 |[], _ => by rw [Ts]; trivial
 |v :: l, w => by
  rw [fines] at w;rw [Ts, fines];exact ⟨fine_T hf v w.1, fines_T hf l w.2⟩
end
theorem asks_of {k : Bool} {st : Tr → Tr} (hf : ∀ t, fine t → fine (st t)) (hst : ∀ t, Struck t → Rd k (fun _ => True) (D { t with kids := Ts st t.kids }) (D (T st t))) (names : List (Nm × Vl)) (t : Tr) (hW : WholeT t) : Asks k t (T st (nrm t)) names ∧ fine t ∧ fine (T st (nrm t)) := by
 refine ⟨fun _ _ => ?_, fine_whole hW, fine_T hf _ (fine_of (W := Struck) (fun t h => h.map) (fun t h => h.kids) _ ⟨t, hW, rfl⟩)⟩;have h := T_rel (k := k) (G := fun _ => True) (fun _ _ _ _ => trivial) st Struck (fun t h => h.kids) (fun _ _ _ _ _ _ => trivial) (fun t h => h.map) hst (nrm t) ⟨t, hW, rfl⟩;rw [nrm_D t hW] at h;have hv := h.val { names := names, item := none } ⟨fun _ _ => trivial, fun _ _ _ => trivial⟩;cases k with
 |false =>
  rcases hv with hv | ⟨hk, _⟩
  ·exact hv
  ·cases hk
 |true =>
  intro v hv1;rcases hv with hv | ⟨_, hv⟩
  ·rw [← hv]; exact hv1
  ·rw [hv] at hv1; cases hv1
end
section
theorem T_map {st : Tr → Tr} (h : ∀ t, t.map = [] → (st t).map = []) {t : Tr} (ht : Struck t) : ∀ f ∈ Ts st t.kids, f.map = [] := by
 intro f hf;rw [Ts_eq] at hf;obtain ⟨x, hx, rfl⟩ := List.mem_map.1 hf;rw [T_eq];exact h _ (ht.kids x hx).map
theorem fine_mkB {name : Nm} {ks : List Tr} (h : fines ks) : fine (mkB name ks) := by rw [fine_eq]; exact ⟨.inl rfl, h, by show fines []; rw [fines]; trivial⟩
theorem fine_kid {t x : Tr} (h : fine t) (hx : x ∈ t.kids) : fine x := by rw [fine_eq] at h; exact (fines_eq _).1 h.2.1 x hx
theorem fine_kids {t : Tr} (h : fine t) : fines t.kids := by rw [fine_eq] at h; exact h.2.1
inductive Bare : Tr → Prop
 |mk (t : Tr) (h : t.map = []) (hk : ∀ x ∈ t.kids, Bare x) : Bare t
theorem Bare.map {t : Tr} (h : Bare t) : t.map = [] := by cases h; assumption
theorem Bare.kids {t : Tr} (h : Bare t) : ∀ x ∈ t.kids, Bare x := by cases h; assumption
theorem Struck.bare {t : Tr} (h : Struck t) : Bare t := by
 obtain ⟨u, hu, rfl⟩ := h
 induction hu with
 |mk t hm hl hf h16 h23 hs hk ih =>
  refine .mk _ (Struck.map ⟨t, .mk t hm hl hf h16 h23 hs hk, rfl⟩) fun x hx => ?_;rw [nrm_kids, nrms_eq] at hx;obtain ⟨y, hy, rfl⟩ := List.mem_map.1 hx;exact ih y hy
mutual
theorem Bare_T {st : Tr → Tr} (hf : ∀ t, Bare t → Bare (st t)) : (t : Tr) → Bare t → Bare (T st t)
 |⟨a, b, c, d, e, f, g, h, ks, ms⟩, w => by
  rw [T];exact hf _ (.mk _ w.map (Bare_Ts hf ks w.kids))
theorem Bare_Ts {st : Tr → Tr} (hf : ∀ t, Bare t → Bare (st t)) : (l : List Tr) → (∀ x ∈ l, Bare x) → ∀ x ∈ Ts st l, Bare x
 |[], _ => fun x h => by rw [Ts] at h; cases h
 |v :: l, w => fun x h => by
  rw [Ts] at h;rcases List.mem_cons.1 h with h | h
  ·rw [h]; exact Bare_T hf v (w v (by simp))
  ·exact Bare_Ts hf l (fun y hy => w y (by simp [hy])) x h
end
theorem Bare.fine {t : Tr} (h : Bare t) : fine t := fine_of (W := Bare) (fun t h => h.map) (fun t h => h.kids) t h
theorem bare_mkB {name : Nm} {ks : List Tr} (h : ∀ x ∈ ks, Bare x) : Bare (mkB name ks) := .mk _ rfl h
theorem Struck.limited {t : Tr} (h : Struck t) : t.limited = false := by
 obtain ⟨u, hu, rfl⟩ := h;rw [nrm_eq]; unfold strike; dsimp only
 split
 ·exact hu.parts.2.1
 ·rfl
theorem asks_bare {k : Bool} {st : Tr → Tr} (hf : ∀ t, Bare t → Bare (st t)) (hst : ∀ t, Struck t → Rd k (fun _ => True) (D { t with kids := Ts st t.kids }) (D (T st t))) (names : List (Nm × Vl)) (t : Tr) (hW : WholeT t) : Asks k t (T st (nrm t)) names ∧ fine t ∧ fine (T st (nrm t)) := by
 refine ⟨fun _ _ => ?_, fine_whole hW, (Bare_T hf _ (Struck.bare ⟨t, hW, rfl⟩)).fine⟩;have h := T_rel (k := k) (G := fun _ => True) (fun _ _ _ _ => trivial) st Struck (fun t h => h.kids) (fun _ _ _ _ _ _ => trivial) (fun t h => h.map) hst (nrm t) ⟨t, hW, rfl⟩;rw [nrm_D t hW] at h;have hv := h.val { names := names, item := none } ⟨fun _ _ => trivial, fun _ _ _ => trivial⟩;cases k with
 |false =>
  rcases hv with hv | ⟨hk, _⟩
  ·exact hv
  ·cases hk
 |true =>
  intro v hv1;rcases hv with hv | ⟨_, hv⟩
  ·rw [← hv]; exact hv1
  ·rw [hv] at hv1; cases hv1
end
end Go.Proofs.Ytafhhdimjkgihaa.Mn
