/- What the program does, function by function, and what trees mean: part 33. -/
import Derived.Test.YtafhhdimjkgihaaM32
set_option linter.unusedSimpArgs false
set_option linter.unusedVariables false
namespace Go.Proofs.Ytafhhdimjkgihaa.Mn
open Go.RowKit
set_option maxHeartbeats 3200000 in
set_option maxRecDepth 100000 in
theorem both_add (op : Nm) (ho : op = nm "+") (k : Nat → Prop) (wk : Nat) (left : Int) (over : Bool) (v u : Vl) (f : Nat) (a : Option Addr) (c : Nat) (a' : Option Addr) (c' : Nat) (f2 : Nat) (a2 : Option Addr) (c2 : Nat) (a2' : Option Addr) (c2' : Nat) (w : World)
 (hkw : k wk) (hk : ∀ b, k b → b < w.heap.size) (hW : Work w wk left over) (hV : IsV w k v (vcells v f a c a' c')) (hU : IsV w k u (vcells u f2 a2 c2 a2' c2')) (hl : v.text.length + u.text.length ≤ 140737488355328) :
 Calls Try.prog 76 #[.pointer (some ⟨wk, 0, none⟩), .string (str op), va v f a c a' c', va u f2 a2 c2 a2' c2'] w (Evd k wk left over (arith op v u) w) := by
 have zk : wk < w.heap.size := hW.lt;have zk1 : wk < w.heap.size + 1 := by omega
 have zk2 : wk < w.heap.size + 1 + 1 := by omega
 have kc1 : w.cell? ⟨wk, 1, none⟩ = some (.bool over) := by simp [World.cell?, hW.1]
 have kf1 : w.frozen? ⟨wk, 1, none⟩ = false := by simp [World.frozen?, hW.1]
 have q0 : (op == [43]) = true := by rw [ho]; decide
 have HW := Lib.hid hW; have HV := Lib.hid hV; have HU := Lib.hid hU; have HKW := Lib.hid hkw; have HK := Lib.hid hk; have HL := Lib.hid hl; have HO := Lib.hid ho;clear hW hV hU hkw hk hl ho;have A := Lib.hid (fun w' => (arith_any (Xr k (w.heap.size + 1 + 1)) v u f a c a' c' f2 a2 c2 a2' c2' w' op (.inl HO.out) HV.out.inv.1 HU.out.inv.1 HV.out.inv.2.2.1 HU.out.inv.2.2.1 HL.out).mono fun _ _ h => Found.fnd h);have hvl : v.text.length ≤ 140737488355328 := by have := HL.out; omega
 have hul : u.text.length ≤ 140737488355328 := by have := HL.out; omega
 by_cases hb : 4096 < v.text.length + u.text.length
 ·have hb' : (4096 : Int) < (v.text.length : Int) + (u.text.length : Int) := by omega
  clear hb;go_enter Try.func76, Try.ntmps76
  go_wp2_with fail
  go_at_call 84;apply Calls.mono
  ·exact A.out _
  rintro e w1 ⟨x, f8, a8, c8, a9, c9, ok, rfl, hb1, hV1, hr1⟩;have L1 : Lb w1 (w.heap.size + 1 + 1) _ 39 := (Lb.new' _ _ _ (by simp)).below hb1 (by simp);have E1 : Ext (· = wk) w.heap.size w w1 := ((Ext.refl (· = wk) _ w).setCell (.inl rfl) (.bool true)).trans (.of (Below.trans (by go_grown) (hb1.mono (by simp; omega))));have W1 : Work w1 wk left true := ((((work_over HW.out).alloc _).alloc _).alloc _).below hb1 (by simp; omega);have HH := Lib.hid (And.intro E1 (And.intro W1 hV1));have r9 := L1.cell; have g9 := L1.frozen; have z9 := L1.lt;clear L1 E1 W1 hV1 hb1 hr1 A;go_wp21;refine bodyPost_ret (v := .tuple #[va x f8 a8 c8 a9 c9, .bool ok]) (by simp [results, Try.results76, go_sem, r9, g9, z9]; try rfl) rfl ?_;exact Evd.end (x := x) (ok := ok) rfl HH.out.1 HH.out.2.1 (fun h => by cases h) zk (by go_grown) (HH.out.2.2.stored x f8 a8 c8 a9 c9) fun h => by cases h
 ·have hb' : ¬ (4096 : Int) < (v.text.length : Int) + (u.text.length : Int) := by omega
  clear hb;go_enter Try.func76, Try.ntmps76
  go_wp2_with fail
  go_at_call 84;apply Calls.mono
  ·exact A.out _
  rintro e w1 ⟨x, f8, a8, c8, a9, c9, ok, rfl, hb1, hV1, hr1⟩;have L1 : Lb w1 (w.heap.size + 1 + 1) _ 39 := (Lb.new' _ _ _ (by simp)).below hb1 (by simp);have B1 : Below w.heap.size w w1 := Below.trans (by go_grown) (hb1.mono (by simp; omega));have HH := Lib.hid (And.intro B1 (And.intro hV1 hr1));have r9 := L1.cell; have g9 := L1.frozen; have z9 := L1.lt;clear L1 B1 hV1 hb1 hr1 A;go_wp21;refine bodyPost_ret (v := .tuple #[va x f8 a8 c8 a9 c9, .bool ok]) (by simp [results, Try.results76, go_sem, r9, g9, z9]; try rfl) rfl ?_;exact Evd.end (x := x) (ok := ok) rfl (.of HH.out.1) (HW.out.below HH.out.1 zk) mono_refl zk (by go_grown) (HH.out.2.1.stored x f8 a8 c8 a9 c9) fun ho => HH.out.2.2
set_option maxHeartbeats 3200000 in
set_option maxRecDepth 100000 in
theorem both_sub (op : Nm) (ho : op = nm "-") (k : Nat → Prop) (wk : Nat) (left : Int) (over : Bool) (v u : Vl) (f : Nat) (a : Option Addr) (c : Nat) (a' : Option Addr) (c' : Nat) (f2 : Nat) (a2 : Option Addr) (c2 : Nat) (a2' : Option Addr) (c2' : Nat) (w : World)
 (hkw : k wk) (hk : ∀ b, k b → b < w.heap.size) (hW : Work w wk left over) (hV : IsV w k v (vcells v f a c a' c')) (hU : IsV w k u (vcells u f2 a2 c2 a2' c2')) (hl : v.text.length + u.text.length ≤ 140737488355328) :
 Calls Try.prog 76 #[.pointer (some ⟨wk, 0, none⟩), .string (str op), va v f a c a' c', va u f2 a2 c2 a2' c2'] w (Evd k wk left over (arith op v u) w) := by
 have zk : wk < w.heap.size := hW.lt;have zk1 : wk < w.heap.size + 1 := by omega
 have zk2 : wk < w.heap.size + 1 + 1 := by omega
 have kc1 : w.cell? ⟨wk, 1, none⟩ = some (.bool over) := by simp [World.cell?, hW.1]
 have kf1 : w.frozen? ⟨wk, 1, none⟩ = false := by simp [World.frozen?, hW.1]
 have q0 : (op == [43]) = false := by rw [ho]; decide
 have q1 : (op == [45]) = true := by rw [ho]; decide
 have HW := Lib.hid hW; have HV := Lib.hid hV; have HU := Lib.hid hU; have HKW := Lib.hid hkw; have HK := Lib.hid hk; have HL := Lib.hid hl; have HO := Lib.hid ho;clear hW hV hU hkw hk hl ho;have A := Lib.hid (fun w' => (arith_any (Xr k (w.heap.size + 1 + 1)) v u f a c a' c' f2 a2 c2 a2' c2' w' op (.inr (.inl HO.out)) HV.out.inv.1 HU.out.inv.1 HV.out.inv.2.2.1 HU.out.inv.2.2.1 HL.out).mono fun _ _ h => Found.fnd h);have hvl : v.text.length ≤ 140737488355328 := by have := HL.out; omega
 have hul : u.text.length ≤ 140737488355328 := by have := HL.out; omega
 by_cases hb : 4096 < v.text.length + u.text.length
 ·have hb' : (4096 : Int) < (v.text.length : Int) + (u.text.length : Int) := by omega
  clear hb;go_enter Try.func76, Try.ntmps76
  go_wp2_with fail
  go_at_call 84;apply Calls.mono
  ·exact A.out _
  rintro e w1 ⟨x, f8, a8, c8, a9, c9, ok, rfl, hb1, hV1, hr1⟩;have L1 : Lb w1 (w.heap.size + 1 + 1) _ 39 := (Lb.new' _ _ _ (by simp)).below hb1 (by simp);have E1 : Ext (· = wk) w.heap.size w w1 := ((Ext.refl (· = wk) _ w).setCell (.inl rfl) (.bool true)).trans (.of (Below.trans (by go_grown) (hb1.mono (by simp; omega))));have W1 : Work w1 wk left true := ((((work_over HW.out).alloc _).alloc _).alloc _).below hb1 (by simp; omega);have HH := Lib.hid (And.intro E1 (And.intro W1 hV1));have r9 := L1.cell; have g9 := L1.frozen; have z9 := L1.lt;clear L1 E1 W1 hV1 hb1 hr1 A;go_wp21;refine bodyPost_ret (v := .tuple #[va x f8 a8 c8 a9 c9, .bool ok]) (by simp [results, Try.results76, go_sem, r9, g9, z9]; try rfl) rfl ?_;exact Evd.end (x := x) (ok := ok) rfl HH.out.1 HH.out.2.1 (fun h => by cases h) zk (by go_grown) (HH.out.2.2.stored x f8 a8 c8 a9 c9) fun h => by cases h
 ·have hb' : ¬ (4096 : Int) < (v.text.length : Int) + (u.text.length : Int) := by omega
  clear hb;go_enter Try.func76, Try.ntmps76
  go_wp2_with fail
  go_at_call 84;apply Calls.mono
  ·exact A.out _
  rintro e w1 ⟨x, f8, a8, c8, a9, c9, ok, rfl, hb1, hV1, hr1⟩;have L1 : Lb w1 (w.heap.size + 1 + 1) _ 39 := (Lb.new' _ _ _ (by simp)).below hb1 (by simp);have B1 : Below w.heap.size w w1 := Below.trans (by go_grown) (hb1.mono (by simp; omega));have HH := Lib.hid (And.intro B1 (And.intro hV1 hr1));have r9 := L1.cell; have g9 := L1.frozen; have z9 := L1.lt;clear L1 B1 hV1 hb1 hr1 A;go_wp21;refine bodyPost_ret (v := .tuple #[va x f8 a8 c8 a9 c9, .bool ok]) (by simp [results, Try.results76, go_sem, r9, g9, z9]; try rfl) rfl ?_;exact Evd.end (x := x) (ok := ok) rfl (.of HH.out.1) (HW.out.below HH.out.1 zk) mono_refl zk (by go_grown) (HH.out.2.1.stored x f8 a8 c8 a9 c9) fun ho => HH.out.2.2
set_option maxHeartbeats 3200000 in
set_option maxRecDepth 100000 in
theorem both_mul (op : Nm) (ho : op = nm "*") (k : Nat → Prop) (wk : Nat) (left : Int) (over : Bool) (v u : Vl) (f : Nat) (a : Option Addr) (c : Nat) (a' : Option Addr) (c' : Nat) (f2 : Nat) (a2 : Option Addr) (c2 : Nat) (a2' : Option Addr) (c2' : Nat) (w : World)
 (hkw : k wk) (hk : ∀ b, k b → b < w.heap.size) (hW : Work w wk left over) (hV : IsV w k v (vcells v f a c a' c')) (hU : IsV w k u (vcells u f2 a2 c2 a2' c2')) (hl : v.text.length + u.text.length ≤ 140737488355328) :
 Calls Try.prog 76 #[.pointer (some ⟨wk, 0, none⟩), .string (str op), va v f a c a' c', va u f2 a2 c2 a2' c2'] w (Evd k wk left over (arith op v u) w) := by
 have zk : wk < w.heap.size := hW.lt;have zk1 : wk < w.heap.size + 1 := by omega
 have zk2 : wk < w.heap.size + 1 + 1 := by omega
 have kc1 : w.cell? ⟨wk, 1, none⟩ = some (.bool over) := by simp [World.cell?, hW.1]
 have kf1 : w.frozen? ⟨wk, 1, none⟩ = false := by simp [World.frozen?, hW.1]
 have q0 : (op == [43]) = false := by rw [ho]; decide
 have q1 : (op == [45]) = false := by rw [ho]; decide
 have q2 : (op == [42]) = true := by rw [ho]; decide
 have HW := Lib.hid hW; have HV := Lib.hid hV; have HU := Lib.hid hU; have HKW := Lib.hid hkw; have HK := Lib.hid hk; have HL := Lib.hid hl; have HO := Lib.hid ho;clear hW hV hU hkw hk hl ho;have A := Lib.hid (fun w' => (arith_any (Xr k (w.heap.size + 1 + 1)) v u f a c a' c' f2 a2 c2 a2' c2' w' op (.inr (.inr (.inl HO.out))) HV.out.inv.1 HU.out.inv.1 HV.out.inv.2.2.1 HU.out.inv.2.2.1 HL.out).mono fun _ _ h => Found.fnd h);have hvl : v.text.length ≤ 140737488355328 := by have := HL.out; omega
 have hul : u.text.length ≤ 140737488355328 := by have := HL.out; omega
 by_cases hb : 4096 < v.text.length + u.text.length
 ·have hb' : (4096 : Int) < (v.text.length : Int) + (u.text.length : Int) := by omega
  clear hb;go_enter Try.func76, Try.ntmps76
  go_wp2_with fail
  go_at_call 84;apply Calls.mono
  ·exact A.out _
  rintro e w1 ⟨x, f8, a8, c8, a9, c9, ok, rfl, hb1, hV1, hr1⟩;have L1 : Lb w1 (w.heap.size + 1 + 1) _ 39 := (Lb.new' _ _ _ (by simp)).below hb1 (by simp);have E1 : Ext (· = wk) w.heap.size w w1 := ((Ext.refl (· = wk) _ w).setCell (.inl rfl) (.bool true)).trans (.of (Below.trans (by go_grown) (hb1.mono (by simp; omega))));have W1 : Work w1 wk left true := ((((work_over HW.out).alloc _).alloc _).alloc _).below hb1 (by simp; omega);have HH := Lib.hid (And.intro E1 (And.intro W1 hV1));have r9 := L1.cell; have g9 := L1.frozen; have z9 := L1.lt;clear L1 E1 W1 hV1 hb1 hr1 A;go_wp21;refine bodyPost_ret (v := .tuple #[va x f8 a8 c8 a9 c9, .bool ok]) (by simp [results, Try.results76, go_sem, r9, g9, z9]; try rfl) rfl ?_;exact Evd.end (x := x) (ok := ok) rfl HH.out.1 HH.out.2.1 (fun h => by cases h) zk (by go_grown) (HH.out.2.2.stored x f8 a8 c8 a9 c9) fun h => by cases h
 ·have hb' : ¬ (4096 : Int) < (v.text.length : Int) + (u.text.length : Int) := by omega
  clear hb;go_enter Try.func76, Try.ntmps76
  go_wp2_with fail
  go_at_call 84;apply Calls.mono
  ·exact A.out _
  rintro e w1 ⟨x, f8, a8, c8, a9, c9, ok, rfl, hb1, hV1, hr1⟩;have L1 : Lb w1 (w.heap.size + 1 + 1) _ 39 := (Lb.new' _ _ _ (by simp)).below hb1 (by simp);have B1 : Below w.heap.size w w1 := Below.trans (by go_grown) (hb1.mono (by simp; omega));have HH := Lib.hid (And.intro B1 (And.intro hV1 hr1));have r9 := L1.cell; have g9 := L1.frozen; have z9 := L1.lt;clear L1 B1 hV1 hb1 hr1 A;go_wp21;refine bodyPost_ret (v := .tuple #[va x f8 a8 c8 a9 c9, .bool ok]) (by simp [results, Try.results76, go_sem, r9, g9, z9]; try rfl) rfl ?_;exact Evd.end (x := x) (ok := ok) rfl (.of HH.out.1) (HW.out.below HH.out.1 zk) mono_refl zk (by go_grown) (HH.out.2.1.stored x f8 a8 c8 a9 c9) fun ho => HH.out.2.2
set_option maxHeartbeats 3200000 in
set_option maxRecDepth 100000 in
theorem both_quo (op : Nm) (ho : op = nm "/") (k : Nat → Prop) (wk : Nat) (left : Int) (over : Bool) (v u : Vl) (f : Nat) (a : Option Addr) (c : Nat) (a' : Option Addr) (c' : Nat) (f2 : Nat) (a2 : Option Addr) (c2 : Nat) (a2' : Option Addr) (c2' : Nat) (w : World)
 (hkw : k wk) (hk : ∀ b, k b → b < w.heap.size) (hW : Work w wk left over) (hV : IsV w k v (vcells v f a c a' c')) (hU : IsV w k u (vcells u f2 a2 c2 a2' c2')) (hl : v.text.length + u.text.length ≤ 140737488355328) :
 Calls Try.prog 76 #[.pointer (some ⟨wk, 0, none⟩), .string (str op), va v f a c a' c', va u f2 a2 c2 a2' c2'] w (Evd k wk left over (arith op v u) w) := by
 have zk : wk < w.heap.size := hW.lt;have zk1 : wk < w.heap.size + 1 := by omega
 have zk2 : wk < w.heap.size + 1 + 1 := by omega
 have kc1 : w.cell? ⟨wk, 1, none⟩ = some (.bool over) := by simp [World.cell?, hW.1]
 have kf1 : w.frozen? ⟨wk, 1, none⟩ = false := by simp [World.frozen?, hW.1]
 have q0 : (op == [43]) = false := by rw [ho]; decide
 have q1 : (op == [45]) = false := by rw [ho]; decide
 have q2 : (op == [42]) = false := by rw [ho]; decide
 have q3 : (op == [47]) = true := by rw [ho]; decide
 have HW := Lib.hid hW; have HV := Lib.hid hV; have HU := Lib.hid hU; have HKW := Lib.hid hkw; have HK := Lib.hid hk; have HL := Lib.hid hl; have HO := Lib.hid ho;clear hW hV hU hkw hk hl ho;have A := Lib.hid (fun w' => (arith_any (Xr k (w.heap.size + 1 + 1)) v u f a c a' c' f2 a2 c2 a2' c2' w' op (.inr (.inr (.inr (.inl HO.out)))) HV.out.inv.1 HU.out.inv.1 HV.out.inv.2.2.1 HU.out.inv.2.2.1 HL.out).mono fun _ _ h => Found.fnd h);have hvl : v.text.length ≤ 140737488355328 := by have := HL.out; omega
 have hul : u.text.length ≤ 140737488355328 := by have := HL.out; omega
 by_cases hb : 4096 < v.text.length + u.text.length
 ·have hb' : (4096 : Int) < (v.text.length : Int) + (u.text.length : Int) := by omega
  clear hb;go_enter Try.func76, Try.ntmps76
  go_wp2_with fail
  go_at_call 84;apply Calls.mono
  ·exact A.out _
  rintro e w1 ⟨x, f8, a8, c8, a9, c9, ok, rfl, hb1, hV1, hr1⟩;have L1 : Lb w1 (w.heap.size + 1 + 1) _ 39 := (Lb.new' _ _ _ (by simp)).below hb1 (by simp);have E1 : Ext (· = wk) w.heap.size w w1 := ((Ext.refl (· = wk) _ w).setCell (.inl rfl) (.bool true)).trans (.of (Below.trans (by go_grown) (hb1.mono (by simp; omega))));have W1 : Work w1 wk left true := ((((work_over HW.out).alloc _).alloc _).alloc _).below hb1 (by simp; omega);have HH := Lib.hid (And.intro E1 (And.intro W1 hV1));have r9 := L1.cell; have g9 := L1.frozen; have z9 := L1.lt;clear L1 E1 W1 hV1 hb1 hr1 A;go_wp21;refine bodyPost_ret (v := .tuple #[va x f8 a8 c8 a9 c9, .bool ok]) (by simp [results, Try.results76, go_sem, r9, g9, z9]; try rfl) rfl ?_;exact Evd.end (x := x) (ok := ok) rfl HH.out.1 HH.out.2.1 (fun h => by cases h) zk (by go_grown) (HH.out.2.2.stored x f8 a8 c8 a9 c9) fun h => by cases h
 ·have hb' : ¬ (4096 : Int) < (v.text.length : Int) + (u.text.length : Int) := by omega
  clear hb;go_enter Try.func76, Try.ntmps76
  go_wp2_with fail
  go_at_call 84;apply Calls.mono
  ·exact A.out _
  rintro e w1 ⟨x, f8, a8, c8, a9, c9, ok, rfl, hb1, hV1, hr1⟩;have L1 : Lb w1 (w.heap.size + 1 + 1) _ 39 := (Lb.new' _ _ _ (by simp)).below hb1 (by simp);have B1 : Below w.heap.size w w1 := Below.trans (by go_grown) (hb1.mono (by simp; omega));have HH := Lib.hid (And.intro B1 (And.intro hV1 hr1));have r9 := L1.cell; have g9 := L1.frozen; have z9 := L1.lt;clear L1 B1 hV1 hb1 hr1 A;go_wp21;refine bodyPost_ret (v := .tuple #[va x f8 a8 c8 a9 c9, .bool ok]) (by simp [results, Try.results76, go_sem, r9, g9, z9]; try rfl) rfl ?_;exact Evd.end (x := x) (ok := ok) rfl (.of HH.out.1) (HW.out.below HH.out.1 zk) mono_refl zk (by go_grown) (HH.out.2.1.stored x f8 a8 c8 a9 c9) fun ho => HH.out.2.2
set_option maxHeartbeats 3200000 in
set_option maxRecDepth 100000 in
theorem both_rem (op : Nm) (ho : op = nm "%") (k : Nat → Prop) (wk : Nat) (left : Int) (over : Bool) (v u : Vl) (f : Nat) (a : Option Addr) (c : Nat) (a' : Option Addr) (c' : Nat) (f2 : Nat) (a2 : Option Addr) (c2 : Nat) (a2' : Option Addr) (c2' : Nat) (w : World)
 (hkw : k wk) (hk : ∀ b, k b → b < w.heap.size) (hW : Work w wk left over) (hV : IsV w k v (vcells v f a c a' c')) (hU : IsV w k u (vcells u f2 a2 c2 a2' c2')) (hl : v.text.length + u.text.length ≤ 140737488355328) :
 Calls Try.prog 76 #[.pointer (some ⟨wk, 0, none⟩), .string (str op), va v f a c a' c', va u f2 a2 c2 a2' c2'] w (Evd k wk left over (arith op v u) w) := by
 have zk : wk < w.heap.size := hW.lt;have zk1 : wk < w.heap.size + 1 := by omega
 have zk2 : wk < w.heap.size + 1 + 1 := by omega
 have kc1 : w.cell? ⟨wk, 1, none⟩ = some (.bool over) := by simp [World.cell?, hW.1]
 have kf1 : w.frozen? ⟨wk, 1, none⟩ = false := by simp [World.frozen?, hW.1]
 have q0 : (op == [43]) = false := by rw [ho]; decide
 have q1 : (op == [45]) = false := by rw [ho]; decide
 have q2 : (op == [42]) = false := by rw [ho]; decide
 have q3 : (op == [47]) = false := by rw [ho]; decide
 have q4 : (op == [37]) = true := by rw [ho]; decide
 have HW := Lib.hid hW; have HV := Lib.hid hV; have HU := Lib.hid hU; have HKW := Lib.hid hkw; have HK := Lib.hid hk; have HL := Lib.hid hl; have HO := Lib.hid ho;clear hW hV hU hkw hk hl ho;have A := Lib.hid (fun w' => (arith_any (Xr k (w.heap.size + 1 + 1)) v u f a c a' c' f2 a2 c2 a2' c2' w' op (.inr (.inr (.inr (.inr HO.out)))) HV.out.inv.1 HU.out.inv.1 HV.out.inv.2.2.1 HU.out.inv.2.2.1 HL.out).mono fun _ _ h => Found.fnd h);have hvl : v.text.length ≤ 140737488355328 := by have := HL.out; omega
 have hul : u.text.length ≤ 140737488355328 := by have := HL.out; omega
 by_cases hb : 4096 < v.text.length + u.text.length
 ·have hb' : (4096 : Int) < (v.text.length : Int) + (u.text.length : Int) := by omega
  clear hb;go_enter Try.func76, Try.ntmps76
  go_wp2_with fail
  go_at_call 84;apply Calls.mono
  ·exact A.out _
  rintro e w1 ⟨x, f8, a8, c8, a9, c9, ok, rfl, hb1, hV1, hr1⟩;have L1 : Lb w1 (w.heap.size + 1 + 1) _ 39 := (Lb.new' _ _ _ (by simp)).below hb1 (by simp);have E1 : Ext (· = wk) w.heap.size w w1 := ((Ext.refl (· = wk) _ w).setCell (.inl rfl) (.bool true)).trans (.of (Below.trans (by go_grown) (hb1.mono (by simp; omega))));have W1 : Work w1 wk left true := ((((work_over HW.out).alloc _).alloc _).alloc _).below hb1 (by simp; omega);have HH := Lib.hid (And.intro E1 (And.intro W1 hV1));have r9 := L1.cell; have g9 := L1.frozen; have z9 := L1.lt;clear L1 E1 W1 hV1 hb1 hr1 A;go_wp21;refine bodyPost_ret (v := .tuple #[va x f8 a8 c8 a9 c9, .bool ok]) (by simp [results, Try.results76, go_sem, r9, g9, z9]; try rfl) rfl ?_;exact Evd.end (x := x) (ok := ok) rfl HH.out.1 HH.out.2.1 (fun h => by cases h) zk (by go_grown) (HH.out.2.2.stored x f8 a8 c8 a9 c9) fun h => by cases h
 ·have hb' : ¬ (4096 : Int) < (v.text.length : Int) + (u.text.length : Int) := by omega
  clear hb;go_enter Try.func76, Try.ntmps76
  go_wp2_with fail
  go_at_call 84;apply Calls.mono
  ·exact A.out _
  rintro e w1 ⟨x, f8, a8, c8, a9, c9, ok, rfl, hb1, hV1, hr1⟩;have L1 : Lb w1 (w.heap.size + 1 + 1) _ 39 := (Lb.new' _ _ _ (by simp)).below hb1 (by simp);have B1 : Below w.heap.size w w1 := Below.trans (by go_grown) (hb1.mono (by simp; omega));have HH := Lib.hid (And.intro B1 (And.intro hV1 hr1));have r9 := L1.cell; have g9 := L1.frozen; have z9 := L1.lt;clear L1 B1 hV1 hb1 hr1 A;go_wp21;refine bodyPost_ret (v := .tuple #[va x f8 a8 c8 a9 c9, .bool ok]) (by simp [results, Try.results76, go_sem, r9, g9, z9]; try rfl) rfl ?_;exact Evd.end (x := x) (ok := ok) rfl (.of HH.out.1) (HW.out.below HH.out.1 zk) mono_refl zk (by go_grown) (HH.out.2.1.stored x f8 a8 c8 a9 c9) fun ho => HH.out.2.2
set_option maxHeartbeats 1600000 in
set_option maxRecDepth 100000 in
theorem both_none (op : Nm) (q0 : (op == [43]) = false) (q1 : (op == [45]) = false) (q2 : (op == [42]) = false) (q3 : (op == [47]) = false) (q4 : (op == [37]) = false) (q5 : (op == [61, 61]) = false) (q6 : (op == [33, 61]) = false) (q7 : (op == [60]) = false) (q8 : (op == [62]) = false) (q9 : (op == [60, 61]) = false) (q10 : (op == [62, 61]) = false) (q11 : (op == [105, 110]) = false) (q12 : (op == [46, 46]) = false) (q13 : (op == [99, 111, 110, 116, 97, 105, 110, 115]) = false) (q14 : (op == [115, 116, 97, 114, 116, 115, 87, 105, 116, 104]) = false) (q15 : (op == [101, 110, 100, 115, 87, 105, 116, 104]) = false) (k : Nat → Prop) (wk : Nat) (left : Int) (over : Bool) (v u : Vl) (f : Nat) (a : Option Addr) (c : Nat) (a' : Option Addr) (c' : Nat) (f2 : Nat) (a2 : Option Addr) (c2 : Nat) (a2' : Option Addr) (c2' : Nat) (w : World) (hW : Work w wk left over) :
 Calls Try.prog 76 #[.pointer (some ⟨wk, 0, none⟩), .string (str op), va v f a c a' c', va u f2 a2 c2 a2' c2'] w (Evd k wk left over none w) := by
 have zk : wk < w.heap.size := hW.lt;have HW := Lib.hid hW;clear hW;go_enter Try.func76, Try.ntmps76
 go_wp2_with fail
 refine bodyPost_ret (v := .tuple #[zero, .bool false]) (by simp [results, Try.results76, go_sem]; try rfl) rfl ?_;exact Evd.end (x := {}) (ok := false) rfl (Ext.refl _ _ _) HW.out mono_refl zk (by go_grown) (zeroV _ _) fun ho => rfl
theorem both_any (op : Nm) (k : Nat → Prop) (wk : Nat) (left : Int) (over : Bool) (v u : Vl) (f : Nat) (a : Option Addr) (c : Nat) (a' : Option Addr) (c' : Nat) (f2 : Nat) (a2 : Option Addr) (c2 : Nat) (a2' : Option Addr) (c2' : Nat) (w : World)
 (hkw : k wk) (hk : ∀ b, k b → b < w.heap.size) (hW : Work w wk left over) (hV : IsV w k v (vcells v f a c a' c')) (hU : IsV w k u (vcells u f2 a2 c2 a2' c2')) (hl : v.text.length + u.text.length ≤ 140737488355328) :
 Calls Try.prog 76 #[.pointer (some ⟨wk, 0, none⟩), .string (str op), va v f a c a' c', va u f2 a2 c2 a2' c2'] w (Evd k wk left over (both op v u) w) := by
 unfold both
 by_cases h0 : op = nm "+" ∨ op = nm "-" ∨ op = nm "*" ∨ op = nm "/" ∨ op = nm "%"
 ·rw [if_pos h0];rcases h0 with h | h | h | h | h
  ·exact both_add op h k wk left over v u f a c a' c' f2 a2 c2 a2' c2' w hkw hk hW hV hU hl
  ·exact both_sub op h k wk left over v u f a c a' c' f2 a2 c2 a2' c2' w hkw hk hW hV hU hl
  ·exact both_mul op h k wk left over v u f a c a' c' f2 a2 c2 a2' c2' w hkw hk hW hV hU hl
  ·exact both_quo op h k wk left over v u f a c a' c' f2 a2 c2 a2' c2' w hkw hk hW hV hU hl
  ·exact both_rem op h k wk left over v u f a c a' c' f2 a2 c2 a2' c2' w hkw hk hW hV hU hl
 rw [if_neg h0]
 by_cases g0 : op = nm "=="
 ·rw [if_pos g0]; exact both_eq op g0 k wk left over v u f a c a' c' f2 a2 c2 a2' c2' w hkw hk hW hV hU hl
 rw [if_neg g0]
 by_cases g1 : op = nm "!="
 ·rw [if_pos g1]; exact both_ne op g1 k wk left over v u f a c a' c' f2 a2 c2 a2' c2' w hkw hk hW hV hU hl
 rw [if_neg g1]
 by_cases g2 : op = nm "<"
 ·rw [if_pos g2]; exact both_lt op g2 k wk left over v u f a c a' c' f2 a2 c2 a2' c2' w hkw hk hW hV hU hl
 rw [if_neg g2]
 by_cases g3 : op = nm ">"
 ·rw [if_pos g3]; exact both_gt op g3 k wk left over v u f a c a' c' f2 a2 c2 a2' c2' w hkw hk hW hV hU hl
 rw [if_neg g3]
 by_cases g4 : op = nm "<="
 ·rw [if_pos g4]; exact both_le op g4 k wk left over v u f a c a' c' f2 a2 c2 a2' c2' w hkw hk hW hV hU hl
 rw [if_neg g4]
 by_cases g5 : op = nm ">="
 ·rw [if_pos g5]; exact both_ge op g5 k wk left over v u f a c a' c' f2 a2 c2 a2' c2' w hkw hk hW hV hU hl
 rw [if_neg g5]
 by_cases g6 : op = nm "in"
 ·rw [if_pos g6]; exact both_in op g6 k wk left over v u f a c a' c' f2 a2 c2 a2' c2' w hkw hk hW hV hU hl
 rw [if_neg g6]
 by_cases g7 : op = nm ".."
 ·rw [if_pos g7]; exact both_span op g7 k wk left over v u f a c a' c' f2 a2 c2 a2' c2' w hkw hk hW hV hU hl
 rw [if_neg g7]
 by_cases h9 : op = nm "contains" ∨ op = nm "startsWith" ∨ op = nm "endsWith"
 ·rw [if_pos h9];rcases h9 with h | h | h
  ·exact both_contains op h k wk left over v u f a c a' c' f2 a2 c2 a2' c2' w hkw hk hW hV hU hl
  ·exact both_starts op h k wk left over v u f a c a' c' f2 a2 c2 a2' c2' w hkw hk hW hV hU hl
  ·exact both_ends op h k wk left over v u f a c a' c' f2 a2 c2 a2' c2' w hkw hk hW hV hU hl
 rw [if_neg h9];have e : ∀ s l, nm s = l → ¬ op = nm s → (op == l) = false := by rintro s l rfl h; simpa using h
 exact both_none op (e "+" _ (by decide) (fun h => h0 ((.inl h)))) (e "-" _ (by decide) (fun h => h0 ((.inr (.inl h))))) (e "*" _ (by decide) (fun h => h0 ((.inr (.inr (.inl h)))))) (e "/" _ (by decide) (fun h => h0 ((.inr (.inr (.inr (.inl h))))))) (e "%" _ (by decide) (fun h => h0 ((.inr (.inr (.inr (.inr h))))))) (e "==" _ (by decide) g0) (e "!=" _ (by decide) g1) (e "<" _ (by decide) g2) (e ">" _ (by decide) g3) (e "<=" _ (by decide) g4) (e ">=" _ (by decide) g5) (e "in" _ (by decide) g6) (e ".." _ (by decide) g7) (e "contains" _ (by decide) (fun h => h9 ((.inl h)))) (e "startsWith" _ (by decide) (fun h => h9 ((.inr (.inl h))))) (e "endsWith" _ (by decide) (fun h => h9 ((.inr (.inr h))))) k wk left over v u f a c a' c' f2 a2 c2 a2' c2' w hW
end Go.Proofs.Ytafhhdimjkgihaa.Mn
