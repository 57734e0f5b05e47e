/- What the program does, function by function, and what trees mean: part 32. -/
import Derived.Test.YtafhhdimjkgihaaM31
import Derived.Test.YtafhhdimjkgihaaM27
set_option linter.unusedSimpArgs false
set_option linter.unusedVariables false
namespace Go.Proofs.Ytafhhdimjkgihaa.Mn
open Go.RowKit
set_option maxHeartbeats 3200000 in
set_option maxRecDepth 100000 in
theorem both_eq (op : Nm) (ho : op = nm "==") (k : Nat → Prop) (wk : Nat) (left : Int) (over : Bool) (v u : Vl) (f : Nat) (a : Option Addr) (c : Nat) (a' : Option Addr) (c' : Nat) (f2 : Nat) (a2 : Option Addr) (c2 : Nat) (a2' : Option Addr) (c2' : Nat) (w : World)
 (hkw : k wk) (hk : ∀ b, k b → b < w.heap.size) (hW : Work w wk left over) (hV : IsV w k v (vcells v f a c a' c')) (hU : IsV w k u (vcells u f2 a2 c2 a2' c2')) (hl : v.text.length + u.text.length ≤ 140737488355328) :
 Calls Try.prog 76 #[.pointer (some ⟨wk, 0, none⟩), .string (str op), va v f a c a' c', va u f2 a2 c2 a2' c2'] w (Evd k wk left over (some (yes (eqv v u))) w) := by
 have zk : wk < w.heap.size := hW.lt;have zk1 : wk < w.heap.size + 1 := by omega
 have zk2 : wk < w.heap.size + 1 + 1 := by omega
 have q0 : (op == [43]) = false := by rw [ho]; decide
 have q1 : (op == [45]) = false := by rw [ho]; decide
 have q2 : (op == [42]) = false := by rw [ho]; decide
 have q3 : (op == [47]) = false := by rw [ho]; decide
 have q4 : (op == [37]) = false := by rw [ho]; decide
 have q5 : (op == [61, 61]) = true := by rw [ho]; decide
 have HW := Lib.hid hW; have HV := Lib.hid hV; have HU := Lib.hid hU; have HKW := Lib.hid hkw; have HK := Lib.hid hk; have HL := Lib.hid hl; have HO := Lib.hid ho;clear hW hV hU hkw hk hl ho;go_enter Try.func76, Try.ntmps76
 go_wp2_with fail
 go_at_call 85;apply Calls.mono
 ·refine (eq_ok v).calls HKW.out (((HW.out.alloc _).alloc _).alloc _) (HV.out.ext (.of ?_) (Nat.le_refl _)) (HU.out.ext (.of ?_) (Nat.le_refl _)) <;> go_grown
 rintro e w1 ⟨is, left1, over1, rfl, hE1, hW1, hm1, hr1⟩;have F : F3 w wk (vcells v f a c a' c') (vcells u f2 a2 c2 a2' c2') zcells 39 39 39 w1 := F3.call (w := _) ⟨.of (by go_grown), ((Lb.new _ _ _).alloc _).alloc _, (Lb.new' _ _ _ (by simp)).alloc _, Lb.new' _ _ _ (by simp)⟩ hE1 zk;have HF := Lib.hid F; have HQ := Lib.hid (And.intro hW1 (And.intro hm1 hr1));have z2 := F.size;have z1 : w.heap.size + 1 < w1.heap.size := by omega
 have z0 : w.heap.size < w1.heap.size := by omega
 have r2 := F.b2.cell; have g2 := F.b2.frozen;have r0 := F.b0.cell; have r1 := F.b1.cell;unfold zcells at r2;unfold vcells at r0 r1;clear F hE1 hW1 hm1 hr1
 go_wp2_with fail
 go_at_call 75;refine (yes_v _ _).mono ?_;rintro e w9 ⟨rfl, hb9⟩;have L9 := HF.out.b2.below hb9 (by omega);have HB9 := Lib.hid hb9;have r9 := L9.cell; have g9 := L9.frozen; have z9 := L9.lt;unfold zcells at r9;clear hb9 L9 r0 r1 r2 g2;go_wp21;refine bodyPost_ret (v := .tuple #[yv (is), .bool true]) (by simp [results, Try.results76, go_sem, r9, g9, z9]; try rfl) rfl ?_;have hB9 := HB9.out.mono (show w.heap.size ≤ w1.heap.size by omega);exact Evd.tells rfl (HF.out.ext.trans (.of hB9)) (HQ.out.1.below hB9 zk) HQ.out.2.1 zk (by go_grown) fun ho => by rw [HQ.out.2.2 ho]
set_option maxHeartbeats 3200000 in
set_option maxRecDepth 100000 in
theorem both_ne (op : Nm) (ho : op = nm "!=") (k : Nat → Prop) (wk : Nat) (left : Int) (over : Bool) (v u : Vl) (f : Nat) (a : Option Addr) (c : Nat) (a' : Option Addr) (c' : Nat) (f2 : Nat) (a2 : Option Addr) (c2 : Nat) (a2' : Option Addr) (c2' : Nat) (w : World)
 (hkw : k wk) (hk : ∀ b, k b → b < w.heap.size) (hW : Work w wk left over) (hV : IsV w k v (vcells v f a c a' c')) (hU : IsV w k u (vcells u f2 a2 c2 a2' c2')) (hl : v.text.length + u.text.length ≤ 140737488355328) :
 Calls Try.prog 76 #[.pointer (some ⟨wk, 0, none⟩), .string (str op), va v f a c a' c', va u f2 a2 c2 a2' c2'] w (Evd k wk left over (some (yes (!eqv v u))) w) := by
 have zk : wk < w.heap.size := hW.lt;have zk1 : wk < w.heap.size + 1 := by omega
 have zk2 : wk < w.heap.size + 1 + 1 := by omega
 have q0 : (op == [43]) = false := by rw [ho]; decide
 have q1 : (op == [45]) = false := by rw [ho]; decide
 have q2 : (op == [42]) = false := by rw [ho]; decide
 have q3 : (op == [47]) = false := by rw [ho]; decide
 have q4 : (op == [37]) = false := by rw [ho]; decide
 have q5 : (op == [61, 61]) = false := by rw [ho]; decide
 have q6 : (op == [33, 61]) = true := by rw [ho]; decide
 have HW := Lib.hid hW; have HV := Lib.hid hV; have HU := Lib.hid hU; have HKW := Lib.hid hkw; have HK := Lib.hid hk; have HL := Lib.hid hl; have HO := Lib.hid ho;clear hW hV hU hkw hk hl ho;go_enter Try.func76, Try.ntmps76
 go_wp2_with fail
 go_at_call 85;apply Calls.mono
 ·refine (eq_ok v).calls HKW.out (((HW.out.alloc _).alloc _).alloc _) (HV.out.ext (.of ?_) (Nat.le_refl _)) (HU.out.ext (.of ?_) (Nat.le_refl _)) <;> go_grown
 rintro e w1 ⟨is, left1, over1, rfl, hE1, hW1, hm1, hr1⟩;have F : F3 w wk (vcells v f a c a' c') (vcells u f2 a2 c2 a2' c2') zcells 39 39 39 w1 := F3.call (w := _) ⟨.of (by go_grown), ((Lb.new _ _ _).alloc _).alloc _, (Lb.new' _ _ _ (by simp)).alloc _, Lb.new' _ _ _ (by simp)⟩ hE1 zk;have HF := Lib.hid F; have HQ := Lib.hid (And.intro hW1 (And.intro hm1 hr1));have z2 := F.size;have z1 : w.heap.size + 1 < w1.heap.size := by omega
 have z0 : w.heap.size < w1.heap.size := by omega
 have r2 := F.b2.cell; have g2 := F.b2.frozen;have r0 := F.b0.cell; have r1 := F.b1.cell;unfold zcells at r2;unfold vcells at r0 r1;clear F hE1 hW1 hm1 hr1
 go_wp2_with fail
 go_at_call 75;refine (yes_v _ _).mono ?_;rintro e w9 ⟨rfl, hb9⟩;have L9 := HF.out.b2.below hb9 (by omega);have HB9 := Lib.hid hb9;have r9 := L9.cell; have g9 := L9.frozen; have z9 := L9.lt;unfold zcells at r9;clear hb9 L9 r0 r1 r2 g2;go_wp21;refine bodyPost_ret (v := .tuple #[yv (!is), .bool true]) (by simp [results, Try.results76, go_sem, r9, g9, z9]; try rfl) rfl ?_;have hB9 := HB9.out.mono (show w.heap.size ≤ w1.heap.size by omega);exact Evd.tells rfl (HF.out.ext.trans (.of hB9)) (HQ.out.1.below hB9 zk) HQ.out.2.1 zk (by go_grown) fun ho => by rw [HQ.out.2.2 ho]
set_option maxHeartbeats 3200000 in
set_option maxRecDepth 100000 in
theorem both_lt (op : Nm) (ho : op = nm "<") (k : Nat → Prop) (wk : Nat) (left : Int) (over : Bool) (v u : Vl) (f : Nat) (a : Option Addr) (c : Nat) (a' : Option Addr) (c' : Nat) (f2 : Nat) (a2 : Option Addr) (c2 : Nat) (a2' : Option Addr) (c2' : Nat) (w : World)
 (hkw : k wk) (hk : ∀ b, k b → b < w.heap.size) (hW : Work w wk left over) (hV : IsV w k v (vcells v f a c a' c')) (hU : IsV w k u (vcells u f2 a2 c2 a2' c2')) (hl : v.text.length + u.text.length ≤ 140737488355328) :
 Calls Try.prog 76 #[.pointer (some ⟨wk, 0, none⟩), .string (str op), va v f a c a' c', va u f2 a2 c2 a2' c2'] w (Evd k wk left over ((less v u).map yes) w) := by
 have zk : wk < w.heap.size := hW.lt;have zk1 : wk < w.heap.size + 1 := by omega
 have zk2 : wk < w.heap.size + 1 + 1 := by omega
 have q0 : (op == [43]) = false := by rw [ho]; decide
 have q1 : (op == [45]) = false := by rw [ho]; decide
 have q2 : (op == [42]) = false := by rw [ho]; decide
 have q3 : (op == [47]) = false := by rw [ho]; decide
 have q4 : (op == [37]) = false := by rw [ho]; decide
 have q5 : (op == [61, 61]) = false := by rw [ho]; decide
 have q6 : (op == [33, 61]) = false := by rw [ho]; decide
 have q7 : (op == [60]) = true := by rw [ho]; decide
 have HW := Lib.hid hW; have HV := Lib.hid hV; have HU := Lib.hid hU; have HKW := Lib.hid hkw; have HK := Lib.hid hk; have HL := Lib.hid hl; have HO := Lib.hid ho;clear hW hV hU hkw hk hl ho;obtain ⟨R, hR⟩ : ∃ R, less v u = R := ⟨_, rfl⟩;rw [hR];have A := Lib.hid (fun w' => less_any v u f a c a' c' f2 a2 c2 a2' c2' w' HV.out.inv.1 HU.out.inv.1);have HR := Lib.hid hR;clear hR;go_enter Try.func76, Try.ntmps76
 go_wp2_with fail
 go_at_call 86;apply Calls.mono
 ·exact A.out _
 rintro e w1 ⟨is, rfl, hr1, hb1⟩;have F : F3 w wk (vcells v f a c a' c') (vcells u f2 a2 c2 a2' c2') zcells 39 39 39 w1 := F3.calls (w := _) ⟨.of (by go_grown), ((Lb.new _ _ _).alloc _).alloc _, (Lb.new' _ _ _ (by simp)).alloc _, Lb.new' _ _ _ (by simp)⟩ hb1 zk;have HF := Lib.hid F; have HQ := Lib.hid (And.intro ((((HW.out.alloc _).alloc _).alloc _).below hb1 (by simp; omega)) hr1);have z2 := F.size;have z1 : w.heap.size + 1 < w1.heap.size := by omega
 have z0 : w.heap.size < w1.heap.size := by omega
 have r2 := F.b2.cell; have g2 := F.b2.frozen;have r0 := F.b0.cell; have r1 := F.b1.cell;unfold zcells at r2;unfold vcells at r0 r1;clear F hb1 hr1 A
 go_wp2_with fail
 go_at_call 75;refine (yes_v _ _).mono ?_;rintro e w9 ⟨rfl, hb9⟩;have L9 := HF.out.b2.below hb9 (by omega);have HB9 := Lib.hid hb9;have r9 := L9.cell; have g9 := L9.frozen; have z9 := L9.lt;unfold zcells at r9;clear hb9 L9 r0 r1 r2 g2;go_wp21;refine bodyPost_ret (v := .tuple #[yv is, .bool (less v u).isSome]) (by simp [results, Try.results76, go_sem, r9, g9, z9]; try rfl) rfl ?_;have hB9 := HB9.out.mono (show w.heap.size ≤ w1.heap.size by omega);refine Evd.end (x := yes is) (ok := (less v u).isSome) rfl (HF.out.ext.trans (.of hB9)) (HQ.out.1.below hB9 zk) mono_refl zk (by go_grown) (yesV _ _ _) fun ho => ?_;have h1 := HQ.out.2;rw [HR.out] at h1 ⊢;cases R with
 |none => rfl
 |some b => rw [h1 b rfl]; rfl
set_option maxHeartbeats 3200000 in
set_option maxRecDepth 100000 in
theorem both_gt (op : Nm) (ho : op = nm ">") (k : Nat → Prop) (wk : Nat) (left : Int) (over : Bool) (v u : Vl) (f : Nat) (a : Option Addr) (c : Nat) (a' : Option Addr) (c' : Nat) (f2 : Nat) (a2 : Option Addr) (c2 : Nat) (a2' : Option Addr) (c2' : Nat) (w : World)
 (hkw : k wk) (hk : ∀ b, k b → b < w.heap.size) (hW : Work w wk left over) (hV : IsV w k v (vcells v f a c a' c')) (hU : IsV w k u (vcells u f2 a2 c2 a2' c2')) (hl : v.text.length + u.text.length ≤ 140737488355328) :
 Calls Try.prog 76 #[.pointer (some ⟨wk, 0, none⟩), .string (str op), va v f a c a' c', va u f2 a2 c2 a2' c2'] w (Evd k wk left over ((less u v).map yes) w) := by
 have zk : wk < w.heap.size := hW.lt;have zk1 : wk < w.heap.size + 1 := by omega
 have zk2 : wk < w.heap.size + 1 + 1 := by omega
 have q0 : (op == [43]) = false := by rw [ho]; decide
 have q1 : (op == [45]) = false := by rw [ho]; decide
 have q2 : (op == [42]) = false := by rw [ho]; decide
 have q3 : (op == [47]) = false := by rw [ho]; decide
 have q4 : (op == [37]) = false := by rw [ho]; decide
 have q5 : (op == [61, 61]) = false := by rw [ho]; decide
 have q6 : (op == [33, 61]) = false := by rw [ho]; decide
 have q7 : (op == [60]) = false := by rw [ho]; decide
 have q8 : (op == [62]) = true := by rw [ho]; decide
 have HW := Lib.hid hW; have HV := Lib.hid hV; have HU := Lib.hid hU; have HKW := Lib.hid hkw; have HK := Lib.hid hk; have HL := Lib.hid hl; have HO := Lib.hid ho;clear hW hV hU hkw hk hl ho;obtain ⟨R, hR⟩ : ∃ R, less u v = R := ⟨_, rfl⟩;rw [hR];have A := Lib.hid (fun w' => less_any u v f2 a2 c2 a2' c2' f a c a' c' w' HU.out.inv.1 HV.out.inv.1);have HR := Lib.hid hR;clear hR;go_enter Try.func76, Try.ntmps76
 go_wp2_with fail
 go_at_call 86;apply Calls.mono
 ·exact A.out _
 rintro e w1 ⟨is, rfl, hr1, hb1⟩;have F : F3 w wk (vcells v f a c a' c') (vcells u f2 a2 c2 a2' c2') zcells 39 39 39 w1 := F3.calls (w := _) ⟨.of (by go_grown), ((Lb.new _ _ _).alloc _).alloc _, (Lb.new' _ _ _ (by simp)).alloc _, Lb.new' _ _ _ (by simp)⟩ hb1 zk;have HF := Lib.hid F; have HQ := Lib.hid (And.intro ((((HW.out.alloc _).alloc _).alloc _).below hb1 (by simp; omega)) hr1);have z2 := F.size;have z1 : w.heap.size + 1 < w1.heap.size := by omega
 have z0 : w.heap.size < w1.heap.size := by omega
 have r2 := F.b2.cell; have g2 := F.b2.frozen;have r0 := F.b0.cell; have r1 := F.b1.cell;unfold zcells at r2;unfold vcells at r0 r1;clear F hb1 hr1 A
 go_wp2_with fail
 go_at_call 75;refine (yes_v _ _).mono ?_;rintro e w9 ⟨rfl, hb9⟩;have L9 := HF.out.b2.below hb9 (by omega);have HB9 := Lib.hid hb9;have r9 := L9.cell; have g9 := L9.frozen; have z9 := L9.lt;unfold zcells at r9;clear hb9 L9 r0 r1 r2 g2;go_wp21;refine bodyPost_ret (v := .tuple #[yv is, .bool (less u v).isSome]) (by simp [results, Try.results76, go_sem, r9, g9, z9]; try rfl) rfl ?_;have hB9 := HB9.out.mono (show w.heap.size ≤ w1.heap.size by omega);refine Evd.end (x := yes is) (ok := (less u v).isSome) rfl (HF.out.ext.trans (.of hB9)) (HQ.out.1.below hB9 zk) mono_refl zk (by go_grown) (yesV _ _ _) fun ho => ?_;have h1 := HQ.out.2;rw [HR.out] at h1 ⊢;cases R with
 |none => rfl
 |some b => rw [h1 b rfl]; rfl
set_option maxHeartbeats 3200000 in
set_option maxRecDepth 100000 in
theorem both_le (op : Nm) (ho : op = nm "<=") (k : Nat → Prop) (wk : Nat) (left : Int) (over : Bool) (v u : Vl) (f : Nat) (a : Option Addr) (c : Nat) (a' : Option Addr) (c' : Nat) (f2 : Nat) (a2 : Option Addr) (c2 : Nat) (a2' : Option Addr) (c2' : Nat) (w : World)
 (hkw : k wk) (hk : ∀ b, k b → b < w.heap.size) (hW : Work w wk left over) (hV : IsV w k v (vcells v f a c a' c')) (hU : IsV w k u (vcells u f2 a2 c2 a2' c2')) (hl : v.text.length + u.text.length ≤ 140737488355328) :
 Calls Try.prog 76 #[.pointer (some ⟨wk, 0, none⟩), .string (str op), va v f a c a' c', va u f2 a2 c2 a2' c2'] w (Evd k wk left over ((less v u).map fun x => yes (x || eqv v u)) w) := by
 have zk : wk < w.heap.size := hW.lt;have zk1 : wk < w.heap.size + 1 := by omega
 have zk2 : wk < w.heap.size + 1 + 1 := by omega
 have q0 : (op == [43]) = false := by rw [ho]; decide
 have q1 : (op == [45]) = false := by rw [ho]; decide
 have q2 : (op == [42]) = false := by rw [ho]; decide
 have q3 : (op == [47]) = false := by rw [ho]; decide
 have q4 : (op == [37]) = false := by rw [ho]; decide
 have q5 : (op == [61, 61]) = false := by rw [ho]; decide
 have q6 : (op == [33, 61]) = false := by rw [ho]; decide
 have q7 : (op == [60]) = false := by rw [ho]; decide
 have q8 : (op == [62]) = false := by rw [ho]; decide
 have q9 : (op == [60, 61]) = true := by rw [ho]; decide
 have HW := Lib.hid hW; have HV := Lib.hid hV; have HU := Lib.hid hU; have HKW := Lib.hid hkw; have HK := Lib.hid hk; have HL := Lib.hid hl; have HO := Lib.hid ho;clear hW hV hU hkw hk hl ho;obtain ⟨R, hR⟩ : ∃ R, less v u = R := ⟨_, rfl⟩;rw [hR];have A := Lib.hid (fun w' => less_any v u f a c a' c' f2 a2 c2 a2' c2' w' HV.out.inv.1 HU.out.inv.1);have HR := Lib.hid hR;clear hR;go_enter Try.func76, Try.ntmps76
 go_wp2_with fail
 go_at_call 86;apply Calls.mono
 ·exact A.out _
 rintro e w1 ⟨is, rfl, hr1, hb1⟩;have F : F3 w wk (vcells v f a c a' c') (vcells u f2 a2 c2 a2' c2') zcells 39 39 39 w1 := F3.calls (w := _) ⟨.of (by go_grown), ((Lb.new _ _ _).alloc _).alloc _, (Lb.new' _ _ _ (by simp)).alloc _, Lb.new' _ _ _ (by simp)⟩ hb1 zk;have HF := Lib.hid F; have HQ := Lib.hid (And.intro ((((HW.out.alloc _).alloc _).alloc _).below hb1 (by simp; omega)) hr1);have z2 := F.size;have z1 : w.heap.size + 1 < w1.heap.size := by omega
 have z0 : w.heap.size < w1.heap.size := by omega
 have r2 := F.b2.cell; have g2 := F.b2.frozen;have r0 := F.b0.cell; have r1 := F.b1.cell;unfold zcells at r2;unfold vcells at r0 r1;clear F hb1 hr1 A;cases is with
 |true =>
  go_wp2_with fail
  go_at_call 75;refine (yes_v _ _).mono ?_;rintro e w9 ⟨rfl, hb9⟩;have L9 := HF.out.b2.below hb9 (by omega);have HB9 := Lib.hid hb9;have r9 := L9.cell; have g9 := L9.frozen; have z9 := L9.lt;unfold zcells at r9;clear hb9 L9 r0 r1 r2 g2;go_wp21;refine bodyPost_ret (v := .tuple #[yv true, .bool (less v u).isSome]) (by simp [results, Try.results76, go_sem, r9, g9, z9]; try rfl) rfl ?_;have hB9 := HB9.out.mono (show w.heap.size ≤ w1.heap.size by omega);refine Evd.end (x := yes true) (ok := (less v u).isSome) rfl (HF.out.ext.trans (.of hB9)) (HQ.out.1.below hB9 zk) mono_refl zk (by go_grown) (yesV _ _ _) fun ho => ?_;have h1 := HQ.out.2;rw [HR.out] at h1 ⊢;cases R with
  |none => rfl
  |some b => simp only [Option.map_some, ← h1 b rfl, Bool.true_or]; rfl
 |false =>
  go_wp2_with fail
  go_at_call 85;apply Calls.mono
  ·have e1 : Ext k w.heap.size w w1 := HF.out.ext.weak fun b hb => (by rw [hb]; exact HKW.out);exact (eq_ok v).calls HKW.out HQ.out.1 (HV.out.ext e1 (Nat.le_refl _)) (HU.out.ext e1 (Nat.le_refl _))
  rintro e w3 ⟨is3, left3, over3, rfl, hE3, hW3, hm3, hr3⟩;have F3' := HF.out.call hE3 zk;have HF3 := Lib.hid F3'; have HQ3 := Lib.hid (And.intro hW3 (And.intro hm3 hr3));clear r0 r1 r2 g2 z0 z1 z2;have z2 := F3'.size;have z1 : w.heap.size + 1 < w3.heap.size := by omega
  have z0 : w.heap.size < w3.heap.size := by omega
  have r2 := F3'.b2.cell; have g2 := F3'.b2.frozen;have r0 := F3'.b0.cell; have r1 := F3'.b1.cell;unfold zcells at r2;unfold vcells at r0 r1;clear F3' hE3 hW3 hm3 hr3
  go_wp2_with fail
  go_at_call 75;refine (yes_v _ _).mono ?_;rintro e w9 ⟨rfl, hb9⟩;have L9 := HF3.out.b2.below hb9 (by omega);have HB9 := Lib.hid hb9;have r9 := L9.cell; have g9 := L9.frozen; have z9 := L9.lt;unfold zcells at r9;clear hb9 L9 r0 r1 r2 g2;go_wp21;refine bodyPost_ret (v := .tuple #[yv is3, .bool (less v u).isSome]) (by simp [results, Try.results76, go_sem, r9, g9, z9]; try rfl) rfl ?_;have hB9 := HB9.out.mono (show w.heap.size ≤ w3.heap.size by omega);refine Evd.end (x := yes is3) (ok := (less v u).isSome) rfl (HF3.out.ext.trans (.of hB9)) (HQ3.out.1.below hB9 zk) HQ3.out.2.1 zk (by go_grown) (yesV _ _ _) fun ho => ?_;have h1 := HQ.out.2;rw [HR.out] at h1 ⊢;cases R with
  |none => rfl
  |some b => simp only [Option.map_some, ← h1 b rfl, Bool.false_or, HQ3.out.2.2 ho]; rfl
set_option maxHeartbeats 3200000 in
set_option maxRecDepth 100000 in
theorem both_ge (op : Nm) (ho : op = nm ">=") (k : Nat → Prop) (wk : Nat) (left : Int) (over : Bool) (v u : Vl) (f : Nat) (a : Option Addr) (c : Nat) (a' : Option Addr) (c' : Nat) (f2 : Nat) (a2 : Option Addr) (c2 : Nat) (a2' : Option Addr) (c2' : Nat) (w : World)
 (hkw : k wk) (hk : ∀ b, k b → b < w.heap.size) (hW : Work w wk left over) (hV : IsV w k v (vcells v f a c a' c')) (hU : IsV w k u (vcells u f2 a2 c2 a2' c2')) (hl : v.text.length + u.text.length ≤ 140737488355328) :
 Calls Try.prog 76 #[.pointer (some ⟨wk, 0, none⟩), .string (str op), va v f a c a' c', va u f2 a2 c2 a2' c2'] w (Evd k wk left over ((less u v).map fun x => yes (x || eqv v u)) w) := by
 have zk : wk < w.heap.size := hW.lt;have zk1 : wk < w.heap.size + 1 := by omega
 have zk2 : wk < w.heap.size + 1 + 1 := by omega
 have q0 : (op == [43]) = false := by rw [ho]; decide
 have q1 : (op == [45]) = false := by rw [ho]; decide
 have q2 : (op == [42]) = false := by rw [ho]; decide
 have q3 : (op == [47]) = false := by rw [ho]; decide
 have q4 : (op == [37]) = false := by rw [ho]; decide
 have q5 : (op == [61, 61]) = false := by rw [ho]; decide
 have q6 : (op == [33, 61]) = false := by rw [ho]; decide
 have q7 : (op == [60]) = false := by rw [ho]; decide
 have q8 : (op == [62]) = false := by rw [ho]; decide
 have q9 : (op == [60, 61]) = false := by rw [ho]; decide
 have q10 : (op == [62, 61]) = true := by rw [ho]; decide
 have HW := Lib.hid hW; have HV := Lib.hid hV; have HU := Lib.hid hU; have HKW := Lib.hid hkw; have HK := Lib.hid hk; have HL := Lib.hid hl; have HO := Lib.hid ho;clear hW hV hU hkw hk hl ho;obtain ⟨R, hR⟩ : ∃ R, less u v = R := ⟨_, rfl⟩;rw [hR];have A := Lib.hid (fun w' => less_any u v f2 a2 c2 a2' c2' f a c a' c' w' HU.out.inv.1 HV.out.inv.1);have HR := Lib.hid hR;clear hR;go_enter Try.func76, Try.ntmps76
 go_wp2_with fail
 go_at_call 86;apply Calls.mono
 ·exact A.out _
 rintro e w1 ⟨is, rfl, hr1, hb1⟩;have F : F3 w wk (vcells v f a c a' c') (vcells u f2 a2 c2 a2' c2') zcells 39 39 39 w1 := F3.calls (w := _) ⟨.of (by go_grown), ((Lb.new _ _ _).alloc _).alloc _, (Lb.new' _ _ _ (by simp)).alloc _, Lb.new' _ _ _ (by simp)⟩ hb1 zk;have HF := Lib.hid F; have HQ := Lib.hid (And.intro ((((HW.out.alloc _).alloc _).alloc _).below hb1 (by simp; omega)) hr1);have z2 := F.size;have z1 : w.heap.size + 1 < w1.heap.size := by omega
 have z0 : w.heap.size < w1.heap.size := by omega
 have r2 := F.b2.cell; have g2 := F.b2.frozen;have r0 := F.b0.cell; have r1 := F.b1.cell;unfold zcells at r2;unfold vcells at r0 r1;clear F hb1 hr1 A;cases is with
 |true =>
  go_wp2_with fail
  go_at_call 75;refine (yes_v _ _).mono ?_;rintro e w9 ⟨rfl, hb9⟩;have L9 := HF.out.b2.below hb9 (by omega);have HB9 := Lib.hid hb9;have r9 := L9.cell; have g9 := L9.frozen; have z9 := L9.lt;unfold zcells at r9;clear hb9 L9 r0 r1 r2 g2;go_wp21;refine bodyPost_ret (v := .tuple #[yv true, .bool (less u v).isSome]) (by simp [results, Try.results76, go_sem, r9, g9, z9]; try rfl) rfl ?_;have hB9 := HB9.out.mono (show w.heap.size ≤ w1.heap.size by omega);refine Evd.end (x := yes true) (ok := (less u v).isSome) rfl (HF.out.ext.trans (.of hB9)) (HQ.out.1.below hB9 zk) mono_refl zk (by go_grown) (yesV _ _ _) fun ho => ?_;have h1 := HQ.out.2;rw [HR.out] at h1 ⊢;cases R with
  |none => rfl
  |some b => simp only [Option.map_some, ← h1 b rfl, Bool.true_or]; rfl
 |false =>
  go_wp2_with fail
  go_at_call 85;apply Calls.mono
  ·have e1 : Ext k w.heap.size w w1 := HF.out.ext.weak fun b hb => (by rw [hb]; exact HKW.out);exact (eq_ok v).calls HKW.out HQ.out.1 (HV.out.ext e1 (Nat.le_refl _)) (HU.out.ext e1 (Nat.le_refl _))
  rintro e w3 ⟨is3, left3, over3, rfl, hE3, hW3, hm3, hr3⟩;have F3' := HF.out.call hE3 zk;have HF3 := Lib.hid F3'; have HQ3 := Lib.hid (And.intro hW3 (And.intro hm3 hr3));clear r0 r1 r2 g2 z0 z1 z2;have z2 := F3'.size;have z1 : w.heap.size + 1 < w3.heap.size := by omega
  have z0 : w.heap.size < w3.heap.size := by omega
  have r2 := F3'.b2.cell; have g2 := F3'.b2.frozen;have r0 := F3'.b0.cell; have r1 := F3'.b1.cell;unfold zcells at r2;unfold vcells at r0 r1;clear F3' hE3 hW3 hm3 hr3
  go_wp2_with fail
  go_at_call 75;refine (yes_v _ _).mono ?_;rintro e w9 ⟨rfl, hb9⟩;have L9 := HF3.out.b2.below hb9 (by omega);have HB9 := Lib.hid hb9;have r9 := L9.cell; have g9 := L9.frozen; have z9 := L9.lt;unfold zcells at r9;clear hb9 L9 r0 r1 r2 g2;go_wp21;refine bodyPost_ret (v := .tuple #[yv is3, .bool (less u v).isSome]) (by simp [results, Try.results76, go_sem, r9, g9, z9]; try rfl) rfl ?_;have hB9 := HB9.out.mono (show w.heap.size ≤ w3.heap.size by omega);refine Evd.end (x := yes is3) (ok := (less u v).isSome) rfl (HF3.out.ext.trans (.of hB9)) (HQ3.out.1.below hB9 zk) HQ3.out.2.1 zk (by go_grown) (yesV _ _ _) fun ho => ?_;have h1 := HQ.out.2;rw [HR.out] at h1 ⊢;cases R with
  |none => rfl
  |some b => simp only [Option.map_some, ← h1 b rfl, Bool.false_or, HQ3.out.2.2 ho]; rfl
set_option maxHeartbeats 3200000 in
set_option maxRecDepth 100000 in
theorem both_in (op : Nm) (ho : op = nm "in") (k : Nat → Prop) (wk : Nat) (left : Int) (over : Bool) (v u : Vl) (f : Nat) (a : Option Addr) (c : Nat) (a' : Option Addr) (c' : Nat) (f2 : Nat) (a2 : Option Addr) (c2 : Nat) (a2' : Option Addr) (c2' : Nat) (w : World)
 (hkw : k wk) (hk : ∀ b, k b → b < w.heap.size) (hW : Work w wk left over) (hV : IsV w k v (vcells v f a c a' c')) (hU : IsV w k u (vcells u f2 a2 c2 a2' c2')) (hl : v.text.length + u.text.length ≤ 140737488355328) :
 Calls Try.prog 76 #[.pointer (some ⟨wk, 0, none⟩), .string (str op), va v f a c a' c', va u f2 a2 c2 a2' c2'] w (Evd k wk left over (within v u) w) := by
 have zk : wk < w.heap.size := hW.lt;have zk1 : wk < w.heap.size + 1 := by omega
 have zk2 : wk < w.heap.size + 1 + 1 := by omega
 have q0 : (op == [43]) = false := by rw [ho]; decide
 have q1 : (op == [45]) = false := by rw [ho]; decide
 have q2 : (op == [42]) = false := by rw [ho]; decide
 have q3 : (op == [47]) = false := by rw [ho]; decide
 have q4 : (op == [37]) = false := by rw [ho]; decide
 have q5 : (op == [61, 61]) = false := by rw [ho]; decide
 have q6 : (op == [33, 61]) = false := by rw [ho]; decide
 have q7 : (op == [60]) = false := by rw [ho]; decide
 have q8 : (op == [62]) = false := by rw [ho]; decide
 have q9 : (op == [60, 61]) = false := by rw [ho]; decide
 have q10 : (op == [62, 61]) = false := by rw [ho]; decide
 have q11 : (op == [105, 110]) = true := by rw [ho]; decide
 have HW := Lib.hid hW; have HV := Lib.hid hV; have HU := Lib.hid hU; have HKW := Lib.hid hkw; have HK := Lib.hid hk; have HL := Lib.hid hl; have HO := Lib.hid ho;clear hW hV hU hkw hk hl ho;go_enter Try.func76, Try.ntmps76
 go_wp2_with fail
 go_at_call 87;apply Calls.mono
 ·have hx : ∀ b, Xr k (w.heap.size + 1 + 1) b → k b ∨ w.heap.size ≤ b := fun b h => h.imp id (by omega);refine isin_any (Xr k (w.heap.size + 1 + 1)) wk left over v u f a c a' c' f2 a2 c2 a2' c2' _ (.inl HKW.out) (((HW.out.alloc _).alloc _).alloc _) ((HV.out.other hx).ext (.of ?_) (Nat.le_refl _)) ((HU.out.other hx).ext (.of ?_) (Nat.le_refl _)) <;> go_grown
 rintro e w1 ⟨x, f8, a8, c8, a9, c9, ok, left1, over1, rfl, hE1, hW1, hm1, hV1, hr1⟩;have F : F3 w wk (vcells v f a c a' c') (vcells u f2 a2 c2 a2' c2') zcells 39 39 39 w1 := F3.call (w := _) ⟨.of (by go_grown), ((Lb.new _ _ _).alloc _).alloc _, (Lb.new' _ _ _ (by simp)).alloc _, Lb.new' _ _ _ (by simp)⟩ hE1 zk;have HF := Lib.hid F; have HQ := Lib.hid (And.intro hW1 (And.intro hm1 (And.intro hV1 hr1)));have z2 := F.size;have z1 : w.heap.size + 1 < w1.heap.size := by omega
 have z0 : w.heap.size < w1.heap.size := by omega
 have r2 := F.b2.cell; have g2 := F.b2.frozen;have r0 := F.b0.cell; have r1 := F.b1.cell;unfold zcells at r2;unfold vcells at r0 r1;clear F hE1 hW1 hm1 hr1 hV1;go_wp21;refine bodyPost_ret (v := .tuple #[va x f8 a8 c8 a9 c9, .bool ok]) (by simp [results, Try.results76, go_sem, r2, g2, z2]; try rfl) rfl ?_;exact Evd.end (x := x) (ok := ok) rfl HF.out.ext HQ.out.1 HQ.out.2.1 zk (by go_grown) (HQ.out.2.2.1.stored x f8 a8 c8 a9 c9) HQ.out.2.2.2
set_option maxHeartbeats 3200000 in
set_option maxRecDepth 100000 in
theorem both_span (op : Nm) (ho : op = nm "..") (k : Nat → Prop) (wk : Nat) (left : Int) (over : Bool) (v u : Vl) (f : Nat) (a : Option Addr) (c : Nat) (a' : Option Addr) (c' : Nat) (f2 : Nat) (a2 : Option Addr) (c2 : Nat) (a2' : Option Addr) (c2' : Nat) (w : World)
 (hkw : k wk) (hk : ∀ b, k b → b < w.heap.size) (hW : Work w wk left over) (hV : IsV w k v (vcells v f a c a' c')) (hU : IsV w k u (vcells u f2 a2 c2 a2' c2')) (hl : v.text.length + u.text.length ≤ 140737488355328) :
 Calls Try.prog 76 #[.pointer (some ⟨wk, 0, none⟩), .string (str op), va v f a c a' c', va u f2 a2 c2 a2' c2'] w (Evd k wk left over (span v u) w) := by
 have zk : wk < w.heap.size := hW.lt;have zk1 : wk < w.heap.size + 1 := by omega
 have zk2 : wk < w.heap.size + 1 + 1 := by omega
 have q0 : (op == [43]) = false := by rw [ho]; decide
 have q1 : (op == [45]) = false := by rw [ho]; decide
 have q2 : (op == [42]) = false := by rw [ho]; decide
 have q3 : (op == [47]) = false := by rw [ho]; decide
 have q4 : (op == [37]) = false := by rw [ho]; decide
 have q5 : (op == [61, 61]) = false := by rw [ho]; decide
 have q6 : (op == [33, 61]) = false := by rw [ho]; decide
 have q7 : (op == [60]) = false := by rw [ho]; decide
 have q8 : (op == [62]) = false := by rw [ho]; decide
 have q9 : (op == [60, 61]) = false := by rw [ho]; decide
 have q10 : (op == [62, 61]) = false := by rw [ho]; decide
 have q11 : (op == [105, 110]) = false := by rw [ho]; decide
 have q12 : (op == [46, 46]) = true := by rw [ho]; decide
 have HW := Lib.hid hW; have HV := Lib.hid hV; have HU := Lib.hid hU; have HKW := Lib.hid hkw; have HK := Lib.hid hk; have HL := Lib.hid hl; have HO := Lib.hid ho;clear hW hV hU hkw hk hl ho;go_enter Try.func76, Try.ntmps76
 go_wp2_with fail
 go_at_call 88;apply Calls.mono
 ·have hx : ∀ b, Xr k (w.heap.size + 1 + 1) b → k b ∨ w.heap.size ≤ b := fun b h => h.imp id (by omega);refine span_any (Xr k (w.heap.size + 1 + 1)) wk left over v u f a c a' c' f2 a2 c2 a2' c2' _ (.inl HKW.out) (fun b h => by rcases h with h | h; (have := HK.out b h; simp; omega); (simp; omega)) (((HW.out.alloc _).alloc _).alloc _) ((HV.out.other hx).ext (.of ?_) (Nat.le_refl _)) ((HU.out.other hx).ext (.of ?_) (Nat.le_refl _)) <;> go_grown
 rintro e w1 ⟨x, f8, a8, c8, a9, c9, ok, left1, over1, rfl, hE1, hW1, hm1, hV1, hr1⟩;have F : F3 w wk (vcells v f a c a' c') (vcells u f2 a2 c2 a2' c2') zcells 39 39 39 w1 := F3.call (w := _) ⟨.of (by go_grown), ((Lb.new _ _ _).alloc _).alloc _, (Lb.new' _ _ _ (by simp)).alloc _, Lb.new' _ _ _ (by simp)⟩ hE1 zk;have HF := Lib.hid F; have HQ := Lib.hid (And.intro hW1 (And.intro hm1 (And.intro hV1 hr1)));have z2 := F.size;have z1 : w.heap.size + 1 < w1.heap.size := by omega
 have z0 : w.heap.size < w1.heap.size := by omega
 have r2 := F.b2.cell; have g2 := F.b2.frozen;have r0 := F.b0.cell; have r1 := F.b1.cell;unfold zcells at r2;unfold vcells at r0 r1;clear F hE1 hW1 hm1 hr1 hV1;go_wp21;refine bodyPost_ret (v := .tuple #[va x f8 a8 c8 a9 c9, .bool ok]) (by simp [results, Try.results76, go_sem, r2, g2, z2]; try rfl) rfl ?_;exact Evd.end (x := x) (ok := ok) rfl HF.out.ext HQ.out.1 HQ.out.2.1 zk (by go_grown) (HQ.out.2.2.1.stored x f8 a8 c8 a9 c9) HQ.out.2.2.2
set_option maxHeartbeats 3200000 in
set_option maxRecDepth 100000 in
theorem both_contains (op : Nm) (ho : op = nm "contains") (k : Nat → Prop) (wk : Nat) (left : Int) (over : Bool) (v u : Vl) (f : Nat) (a : Option Addr) (c : Nat) (a' : Option Addr) (c' : Nat) (f2 : Nat) (a2 : Option Addr) (c2 : Nat) (a2' : Option Addr) (c2' : Nat) (w : World)
 (hkw : k wk) (hk : ∀ b, k b → b < w.heap.size) (hW : Work w wk left over) (hV : IsV w k v (vcells v f a c a' c')) (hU : IsV w k u (vcells u f2 a2 c2 a2' c2')) (hl : v.text.length + u.text.length ≤ 140737488355328) :
 Calls Try.prog 76 #[.pointer (some ⟨wk, 0, none⟩), .string (str op), va v f a c a' c', va u f2 a2 c2 a2' c2'] w (Evd k wk left over (if v.kind = 3 ∧ u.kind = 3 then some (yes (holds op v.text u.text)) else none) w) := by
 have zk : wk < w.heap.size := hW.lt;have zk1 : wk < w.heap.size + 1 := by omega
 have zk2 : wk < w.heap.size + 1 + 1 := by omega
 have q0 : (op == [43]) = false := by rw [ho]; decide
 have q1 : (op == [45]) = false := by rw [ho]; decide
 have q2 : (op == [42]) = false := by rw [ho]; decide
 have q3 : (op == [47]) = false := by rw [ho]; decide
 have q4 : (op == [37]) = false := by rw [ho]; decide
 have q5 : (op == [61, 61]) = false := by rw [ho]; decide
 have q6 : (op == [33, 61]) = false := by rw [ho]; decide
 have q7 : (op == [60]) = false := by rw [ho]; decide
 have q8 : (op == [62]) = false := by rw [ho]; decide
 have q9 : (op == [60, 61]) = false := by rw [ho]; decide
 have q10 : (op == [62, 61]) = false := by rw [ho]; decide
 have q11 : (op == [105, 110]) = false := by rw [ho]; decide
 have q12 : (op == [46, 46]) = false := by rw [ho]; decide
 have q13 : (op == [99, 111, 110, 116, 97, 105, 110, 115]) = true := by rw [ho]; decide
 have HW := Lib.hid hW; have HV := Lib.hid hV; have HU := Lib.hid hU; have HKW := Lib.hid hkw; have HK := Lib.hid hk; have HL := Lib.hid hl; have HO := Lib.hid ho;clear hW hV hU hkw hk hl ho
 by_cases h3 : v.kind = 3
 ·have b1 : (v.kind != 3) = false := by simpa using h3
  by_cases h4 : u.kind = 3
  ·have b2 : (u.kind != 3) = false := (by simpa using h4);rw [if_pos ⟨h3, h4⟩];have A := Lib.hid (fun w' => holds_contains op v.text u.text HO.out w' (by have := HL.out; omega) (by have := HL.out; omega));clear h3 h4;go_enter Try.func76, Try.ntmps76
   go_wp2_with fail
   go_at_call 89;apply Calls.mono
   ·exact A.out _
   rintro e w1 ⟨rfl, rfl⟩
   go_wp2_with fail
   go_at_call 75;refine (yes_v _ _).mono ?_;rintro e w9 ⟨rfl, hb9⟩;have L9 : Lb w9 (w.heap.size + 1 + 1) _ 39 := (Lb.new' _ _ _ (by simp)).below hb9 (by simp);have HB9 := Lib.hid (show Below w.heap.size w w9 from Below.trans (by go_grown) (hb9.mono (by simp; omega)));have r9 := L9.cell; have g9 := L9.frozen; have z9 := L9.lt;clear hb9 L9;go_wp21;refine bodyPost_ret (v := .tuple #[yv (holds op v.text u.text), .bool true]) (by simp [results, Try.results76, go_sem, r9, g9, z9]; try rfl) rfl ?_;have hb := HB9.out;exact Evd.tells rfl (.of hb) (HW.out.below hb zk) mono_refl zk (by go_grown) fun ho => rfl
  ·have b2 : (u.kind != 3) = true := (by simpa using h4);rw [if_neg (fun h => h4 h.2)];clear h3 h4;go_enter Try.func76, Try.ntmps76
   go_wp2_with fail
   refine bodyPost_ret (v := .tuple #[zero, .bool false]) (by simp [results, Try.results76, go_sem]; try rfl) rfl ?_;exact Evd.end (x := {}) (ok := false) rfl (Ext.refl _ _ _) HW.out mono_refl zk (by go_grown) (zeroV _ _) fun ho => rfl
 ·have b1 : (v.kind != 3) = true := by simpa using h3
  rw [if_neg (fun h => h3 h.1)];clear h3;go_enter Try.func76, Try.ntmps76
  go_wp2_with fail
  refine bodyPost_ret (v := .tuple #[zero, .bool false]) (by simp [results, Try.results76, go_sem]; try rfl) rfl ?_;exact Evd.end (x := {}) (ok := false) rfl (Ext.refl _ _ _) HW.out mono_refl zk (by go_grown) (zeroV _ _) fun ho => rfl
set_option maxHeartbeats 3200000 in
set_option maxRecDepth 100000 in
theorem both_starts (op : Nm) (ho : op = nm "startsWith") (k : Nat → Prop) (wk : Nat) (left : Int) (over : Bool) (v u : Vl) (f : Nat) (a : Option Addr) (c : Nat) (a' : Option Addr) (c' : Nat) (f2 : Nat) (a2 : Option Addr) (c2 : Nat) (a2' : Option Addr) (c2' : Nat) (w : World)
 (hkw : k wk) (hk : ∀ b, k b → b < w.heap.size) (hW : Work w wk left over) (hV : IsV w k v (vcells v f a c a' c')) (hU : IsV w k u (vcells u f2 a2 c2 a2' c2')) (hl : v.text.length + u.text.length ≤ 140737488355328) :
 Calls Try.prog 76 #[.pointer (some ⟨wk, 0, none⟩), .string (str op), va v f a c a' c', va u f2 a2 c2 a2' c2'] w (Evd k wk left over (if v.kind = 3 ∧ u.kind = 3 then some (yes (holds op v.text u.text)) else none) w) := by
 have zk : wk < w.heap.size := hW.lt;have zk1 : wk < w.heap.size + 1 := by omega
 have zk2 : wk < w.heap.size + 1 + 1 := by omega
 have q0 : (op == [43]) = false := by rw [ho]; decide
 have q1 : (op == [45]) = false := by rw [ho]; decide
 have q2 : (op == [42]) = false := by rw [ho]; decide
 have q3 : (op == [47]) = false := by rw [ho]; decide
 have q4 : (op == [37]) = false := by rw [ho]; decide
 have q5 : (op == [61, 61]) = false := by rw [ho]; decide
 have q6 : (op == [33, 61]) = false := by rw [ho]; decide
 have q7 : (op == [60]) = false := by rw [ho]; decide
 have q8 : (op == [62]) = false := by rw [ho]; decide
 have q9 : (op == [60, 61]) = false := by rw [ho]; decide
 have q10 : (op == [62, 61]) = false := by rw [ho]; decide
 have q11 : (op == [105, 110]) = false := by rw [ho]; decide
 have q12 : (op == [46, 46]) = false := by rw [ho]; decide
 have q13 : (op == [99, 111, 110, 116, 97, 105, 110, 115]) = false := by rw [ho]; decide
 have q14 : (op == [115, 116, 97, 114, 116, 115, 87, 105, 116, 104]) = true := by rw [ho]; decide
 have HW := Lib.hid hW; have HV := Lib.hid hV; have HU := Lib.hid hU; have HKW := Lib.hid hkw; have HK := Lib.hid hk; have HL := Lib.hid hl; have HO := Lib.hid ho;clear hW hV hU hkw hk hl ho
 by_cases h3 : v.kind = 3
 ·have b1 : (v.kind != 3) = false := by simpa using h3
  by_cases h4 : u.kind = 3
  ·have b2 : (u.kind != 3) = false := (by simpa using h4);rw [if_pos ⟨h3, h4⟩];have A := Lib.hid (fun w' => holds_startsWith op v.text u.text HO.out w' (by have := HL.out; omega) (by have := HL.out; omega));clear h3 h4;go_enter Try.func76, Try.ntmps76
   go_wp2_with fail
   go_at_call 89;apply Calls.mono
   ·exact A.out _
   rintro e w1 ⟨rfl, rfl⟩
   go_wp2_with fail
   go_at_call 75;refine (yes_v _ _).mono ?_;rintro e w9 ⟨rfl, hb9⟩;have L9 : Lb w9 (w.heap.size + 1 + 1) _ 39 := (Lb.new' _ _ _ (by simp)).below hb9 (by simp);have HB9 := Lib.hid (show Below w.heap.size w w9 from Below.trans (by go_grown) (hb9.mono (by simp; omega)));have r9 := L9.cell; have g9 := L9.frozen; have z9 := L9.lt;clear hb9 L9;go_wp21;refine bodyPost_ret (v := .tuple #[yv (holds op v.text u.text), .bool true]) (by simp [results, Try.results76, go_sem, r9, g9, z9]; try rfl) rfl ?_;have hb := HB9.out;exact Evd.tells rfl (.of hb) (HW.out.below hb zk) mono_refl zk (by go_grown) fun ho => rfl
  ·have b2 : (u.kind != 3) = true := (by simpa using h4);rw [if_neg (fun h => h4 h.2)];clear h3 h4;go_enter Try.func76, Try.ntmps76
   go_wp2_with fail
   refine bodyPost_ret (v := .tuple #[zero, .bool false]) (by simp [results, Try.results76, go_sem]; try rfl) rfl ?_;exact Evd.end (x := {}) (ok := false) rfl (Ext.refl _ _ _) HW.out mono_refl zk (by go_grown) (zeroV _ _) fun ho => rfl
 ·have b1 : (v.kind != 3) = true := by simpa using h3
  rw [if_neg (fun h => h3 h.1)];clear h3;go_enter Try.func76, Try.ntmps76
  go_wp2_with fail
  refine bodyPost_ret (v := .tuple #[zero, .bool false]) (by simp [results, Try.results76, go_sem]; try rfl) rfl ?_;exact Evd.end (x := {}) (ok := false) rfl (Ext.refl _ _ _) HW.out mono_refl zk (by go_grown) (zeroV _ _) fun ho => rfl
set_option maxHeartbeats 3200000 in
set_option maxRecDepth 100000 in
theorem both_ends (op : Nm) (ho : op = nm "endsWith") (k : Nat → Prop) (wk : Nat) (left : Int) (over : Bool) (v u : Vl) (f : Nat) (a : Option Addr) (c : Nat) (a' : Option Addr) (c' : Nat) (f2 : Nat) (a2 : Option Addr) (c2 : Nat) (a2' : Option Addr) (c2' : Nat) (w : World)
 (hkw : k wk) (hk : ∀ b, k b → b < w.heap.size) (hW : Work w wk left over) (hV : IsV w k v (vcells v f a c a' c')) (hU : IsV w k u (vcells u f2 a2 c2 a2' c2')) (hl : v.text.length + u.text.length ≤ 140737488355328) :
 Calls Try.prog 76 #[.pointer (some ⟨wk, 0, none⟩), .string (str op), va v f a c a' c', va u f2 a2 c2 a2' c2'] w (Evd k wk left over (if v.kind = 3 ∧ u.kind = 3 then some (yes (holds op v.text u.text)) else none) w) := by
 have zk : wk < w.heap.size := hW.lt;have zk1 : wk < w.heap.size + 1 := by omega
 have zk2 : wk < w.heap.size + 1 + 1 := by omega
 have q0 : (op == [43]) = false := by rw [ho]; decide
 have q1 : (op == [45]) = false := by rw [ho]; decide
 have q2 : (op == [42]) = false := by rw [ho]; decide
 have q3 : (op == [47]) = false := by rw [ho]; decide
 have q4 : (op == [37]) = false := by rw [ho]; decide
 have q5 : (op == [61, 61]) = false := by rw [ho]; decide
 have q6 : (op == [33, 61]) = false := by rw [ho]; decide
 have q7 : (op == [60]) = false := by rw [ho]; decide
 have q8 : (op == [62]) = false := by rw [ho]; decide
 have q9 : (op == [60, 61]) = false := by rw [ho]; decide
 have q10 : (op == [62, 61]) = false := by rw [ho]; decide
 have q11 : (op == [105, 110]) = false := by rw [ho]; decide
 have q12 : (op == [46, 46]) = false := by rw [ho]; decide
 have q13 : (op == [99, 111, 110, 116, 97, 105, 110, 115]) = false := by rw [ho]; decide
 have q14 : (op == [115, 116, 97, 114, 116, 115, 87, 105, 116, 104]) = false := by rw [ho]; decide
 have q15 : (op == [101, 110, 100, 115, 87, 105, 116, 104]) = true := by rw [ho]; decide
 have HW := Lib.hid hW; have HV := Lib.hid hV; have HU := Lib.hid hU; have HKW := Lib.hid hkw; have HK := Lib.hid hk; have HL := Lib.hid hl; have HO := Lib.hid ho;clear hW hV hU hkw hk hl ho
 by_cases h3 : v.kind = 3
 ·have b1 : (v.kind != 3) = false := by simpa using h3
  by_cases h4 : u.kind = 3
  ·have b2 : (u.kind != 3) = false := (by simpa using h4);rw [if_pos ⟨h3, h4⟩];have A := Lib.hid (fun w' => holds_endsWith op v.text u.text HO.out w' (by have := HL.out; omega) (by have := HL.out; omega));clear h3 h4;go_enter Try.func76, Try.ntmps76
   go_wp2_with fail
   go_at_call 89;apply Calls.mono
   ·exact A.out _
   rintro e w1 ⟨rfl, rfl⟩
   go_wp2_with fail
   go_at_call 75;refine (yes_v _ _).mono ?_;rintro e w9 ⟨rfl, hb9⟩;have L9 : Lb w9 (w.heap.size + 1 + 1) _ 39 := (Lb.new' _ _ _ (by simp)).below hb9 (by simp);have HB9 := Lib.hid (show Below w.heap.size w w9 from Below.trans (by go_grown) (hb9.mono (by simp; omega)));have r9 := L9.cell; have g9 := L9.frozen; have z9 := L9.lt;clear hb9 L9;go_wp21;refine bodyPost_ret (v := .tuple #[yv (holds op v.text u.text), .bool true]) (by simp [results, Try.results76, go_sem, r9, g9, z9]; try rfl) rfl ?_;have hb := HB9.out;exact Evd.tells rfl (.of hb) (HW.out.below hb zk) mono_refl zk (by go_grown) fun ho => rfl
  ·have b2 : (u.kind != 3) = true := (by simpa using h4);rw [if_neg (fun h => h4 h.2)];clear h3 h4;go_enter Try.func76, Try.ntmps76
   go_wp2_with fail
   refine bodyPost_ret (v := .tuple #[zero, .bool false]) (by simp [results, Try.results76, go_sem]; try rfl) rfl ?_;exact Evd.end (x := {}) (ok := false) rfl (Ext.refl _ _ _) HW.out mono_refl zk (by go_grown) (zeroV _ _) fun ho => rfl
 ·have b1 : (v.kind != 3) = true := by simpa using h3
  rw [if_neg (fun h => h3 h.1)];clear h3;go_enter Try.func76, Try.ntmps76
  go_wp2_with fail
  refine bodyPost_ret (v := .tuple #[zero, .bool false]) (by simp [results, Try.results76, go_sem]; try rfl) rfl ?_;exact Evd.end (x := {}) (ok := false) rfl (Ext.refl _ _ _) HW.out mono_refl zk (by go_grown) (zeroV _ _) fun ho => rfl
end Go.Proofs.Ytafhhdimjkgihaa.Mn
