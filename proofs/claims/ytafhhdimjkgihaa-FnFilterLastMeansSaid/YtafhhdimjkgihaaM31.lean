/- What the program does, function by function, and what trees mean: part 31. -/
import Derived.Deep.Cut
import Derived.Test.YtafhhdimjkgihaaM27
set_option linter.unusedSimpArgs false
set_option linter.unusedVariables false
namespace Go.Proofs.Ytafhhdimjkgihaa.Mn
section
open Go.RowKit
theorem ints_succ (a : Int) (q : Nat) : ints a (q + 1) = ints a q ++ [{ kind := 1, int := a + q }] := by
 unfold ints; rw [List.range_succ, List.map_append]; rfl
theorem ints_length (a : Int) (q : Nat) : (ints a q).length = q := by unfold ints; simp
structure Sr (k : Nat → Prop) (wk : Nat) (l0 l1 : List Value) (left : Int) (bo : Nat) (a0 : Int) (w : World) (q : Nat) (wr : World) : Prop where
 ex : ∃ (A : Option Addr) (cap : Nat) (cs : List Value), F3 w wk l0 l1 zcells 39 39 39 wr ∧ Work wr wk left false ∧ Lb wr bo (lcells A q cap) 39 ∧ w.heap.size + 1 + 1 < bo ∧
  wr.ownsRow (bo + 1) 39 7 (.slice A q cap) q cs ∧ IsVs wr (Xs (fun b => k b ∨ b = w.heap.size + 1 + 1 ∨ b = bo) A) (ints a0 q) cs
set_option maxHeartbeats 3200000 in
set_option maxRecDepth 100000 in
theorem span_long (k : Nat → Prop) (wk : Nat) (left : Int) (over : Bool) (v u : Vl) (f : Nat) (a : Option Addr) (c : Nat) (a' : Option Addr) (c' : Nat) (f2 : Nat) (a2 : Option Addr) (c2 : Nat) (a2' : Option Addr) (c2' : Nat) (w : World)
 (hkw : k wk) (hk : ∀ b, k b → b < w.heap.size) (hW : Work w wk left over) (h1 : v.kind = 1) (h2 : u.kind = 1) (x1 : -1099511627776 ≤ v.int) (x2 : v.int ≤ u.int) (x3 : u.int ≤ 1099511627776) (x4 : u.int - v.int ≤ 1000) :
 Calls Try.prog 88 #[.pointer (some ⟨wk, 0, none⟩), va v f a c a' c', va u f2 a2 c2 a2' c2'] w (Evd k wk left over (span v u) w) := by
 have zk : wk < w.heap.size := hW.lt;have zk1 : wk < w.heap.size + 1 := by omega
 have zk2 : wk < w.heap.size + 1 + 1 := by omega
 have HW := Lib.hid hW; have HK := Lib.hid hk;have b1 : (v.kind != 1) = false := by simpa using h1
 have b2 : (u.kind != 1) = false := by simpa using h2
 have y1 : v.int ≤ 1099511627776 := by omega
 have y2 : -1099511627776 ≤ u.int := by omega
 have E := Lib.hid (span_ok h1 h2 (by unfold far; omega) (by omega) (by unfold far; omega));clear h1 h2 hW hkw hk;go_enter Try.func88, Try.ntmps88
 go_wp2_with fail
 go_at_call 58;apply Calls.mono
 ·exact step_any wk left _ over _ (((HW.out.alloc _).alloc _).alloc _) (by omega)
 rintro e w1 ⟨left1, over1, rfl, hE1, hW1, hm1⟩;have F : F3 w wk (vcells v f a c a' c') (vcells u f2 a2 c2 a2' c2') zcells 39 39 39 w1 := F3.call (w := _) ⟨.of (by go_grown), ((Lb.new _ _ _).alloc _).alloc _, (Lb.new' _ _ _ (by simp)).alloc _, Lb.new' _ _ _ (by simp)⟩ hE1 zk;have HF := Lib.hid F; have HW1 := Lib.hid hW1;have M1 := Lib.hid (show over1 = false → over = false ∧ left1 ≤ left from fun h => by have := hm1 h; exact ⟨this.1, by omega⟩);have z2 := F.size;have z1 : w.heap.size + 1 < w1.heap.size := by omega
 have z0 : w.heap.size < w1.heap.size := by omega
 have r2 := F.b2.cell; have g2 := F.b2.frozen;have r0 := F.b0.cell; have r1 := F.b1.cell;unfold zcells at r2;unfold vcells at r0 r1;clear F hE1 hm1;cases over1 with
 |true =>
  have k1 : w1.cell? ⟨wk, 1, none⟩ = some (.bool true) := by simp [World.cell?, hW1.1]
  have f1 : w1.frozen? ⟨wk, 1, none⟩ = false := by simp [World.frozen?, hW1.1]
  have zkw : wk < w1.heap.size := by omega
  clear hW1
  go_wp2_with fail
  refine bodyPost_ret (v := .tuple #[zero, .bool false]) (by simp [results, Try.results88, go_sem, r2, g2, z2]; try rfl) rfl ?_;refine ⟨{}, 0, none, 0, none, 0, false, left1, true, rfl, ?_, ?_, fun h => (by cases h), zeroV _ _, fun h => (by cases h)⟩
  ·exact (HF.out.ext.setCell (.inl rfl) _).s7 (.inr (by omega)) {} 0 none 0 none 0
  ·exact ((((((((work_over HW1.out).set (p := ⟨w.heap.size + 1 + 1, 0, none⟩) (by show w.heap.size + 1 + 1 ≠ wk; omega) _).set (p := ⟨w.heap.size + 1 + 1, 1, none⟩) (by show w.heap.size + 1 + 1 ≠ wk; omega) _).set (p := ⟨w.heap.size + 1 + 1, 2, none⟩) (by show w.heap.size + 1 + 1 ≠ wk; omega) _).set (p := ⟨w.heap.size + 1 + 1, 3, none⟩) (by show w.heap.size + 1 + 1 ≠ wk; omega) _).set (p := ⟨w.heap.size + 1 + 1, 4, none⟩) (by show w.heap.size + 1 + 1 ≠ wk; omega) _).set (p := ⟨w.heap.size + 1 + 1, 5, none⟩) (by show w.heap.size + 1 + 1 ≠ wk; omega) _).set (p := ⟨w.heap.size + 1 + 1, 6, none⟩) (by show w.heap.size + 1 + 1 ≠ wk; omega) _)
 |false =>
  clear hW1
  go_wp2_with fail
  obtain ⟨N, hN⟩ : ∃ N : Nat, u.int = v.int + N := ⟨(u.int - v.int).toNat, by omega⟩;have HN := Lib.hid hN;have E2 := Lib.hid (show span v u = some { kind := 5, items := ints v.int (N + 1) } by rw [E.out]; congr 3; omega);have hN1 : N ≤ 1000 := by omega
  have hNu : u.int - v.int = N := by omega
  clear hN
  go_loopg [9] (N + 1) (fun g i wr => ∃ q : Nat, i = .int .i64 (v.int + q) ∧ q + g = N + 1 ∧ 0 < g ∧ Sr k wk (vcells v f a c a' c') (vcells u f2 a2 c2 a2' c2') left1 w1.heap.size v.int w q wr)
  case atStart =>
   refine ⟨0, by simp, by omega, by omega, ⟨none, 0, [], HF.out.alloc _, HW1.out.alloc _, Lb.new _ _ _, HF.out.size, World.ownsRow_nil _ _ _ _, .nil⟩⟩
  case round =>
   obtain ⟨q, rfl, hq, hg, hS⟩ := hrel;obtain ⟨A, cap, cs, hF, hWr, hL, hbo, hown, hvs⟩ := hS.ex;obtain ⟨g, rfl⟩ : ∃ g, gk = g + 1 := ⟨gk - 1, by omega⟩;clear r0 r1 r2 g2 z0 z1 z2 hS hNu;have z2 := hF.size;have z1 : w.heap.size + 1 < wr.heap.size := (by omega);have zb := hL.lt;have rb := hL.cell; have gb := hL.frozen;unfold lcells at rb;have hob := own_base hown;have iV : ∀ w' X, IsV w' X { kind := 1, int := v.int + q } (vcells { kind := 1, int := v.int + q } 0 none 0 none 0) := fun w' X => IsV.flat _ _ _ _ cn_zero .one ⟨by show (-9223372036854775808 : Int) ≤ v.int + q; omega, by show v.int + q ≤ _; omega⟩ (by simp) rfl rfl;have HH := Lib.hid (And.intro hF (And.intro hWr (And.intro hL (And.intro hown (And.intro hvs (And.intro hob iV))))));clear hF hWr hL hown hvs hob iV
   go_upto_region 15 with ((at_builtin; refine wpList_append_o el36 rfl (.tmp 73) (.tmp 76) rfl (w1.heap.size + 1) A q cap cs (by rfl) (HH.out.2.2.2.1.alloc _) _ 1 1 (vcells { kind := 1, int := v.int + q } 0 none 0 none 0) (by rfl) (by rfl) (Laid.of_lb (Lb.new' _ _ _ (by simp))) (ones_v _ _ _ _ _ _) (q + 1) rfl (by omega) (by simp; omega) ?_); intro A3 cap3 w3 hown3 hgr3 hat3; have hL3 := (HH.out.2.2.1.alloc _).grown hgr3 (by
    cases hA : A with
    |none => intro h; cases h
    |some x => have := HH.out.2.2.2.2.2.1 x hA; simp; omega); have r7 := hL3.cell; have g7 := hL3.frozen; have z7 := hL3.lt; unfold lcells at r7)
   refine forget (fun w' => Sr k wk (vcells v f a c a' c') (vcells u f2 a2 c2 a2' c2') left1 w1.heap.size v.int w (q + 1) w') ?_ ?_
   ·obtain ⟨hF, hWr, hL, hown, hvs, hob, iV⟩ := HH.out;have hne : ∀ b, b ≤ w1.heap.size → some b ≠ A.map (·.block) := by
     intro b hb;cases hA : A with
     |none => intro h; cases h
     |some x => have := hob x hA; simp; omega
    have hF3 := (hF.alloc (.cells (vcells { kind := 1, int := v.int + q } 0 none 0 none 0).toArray 39)).grown hgr3 (fun x hA => by have := hob x hA; omega);have hb : Below wr.heap.size wr (wr.alloc (.cells (vcells { kind := 1, int := v.int + q } 0 none 0 none 0).toArray 39)) := (Below.refl _ _).alloc (Nat.le_refl _) _;refine ⟨A3, cap3, _, ⟨hF3.ext.setCell (.inr (by show w.heap.size ≤ w1.heap.size; omega)) _, hF3.b0.other _ _ (by show w1.heap.size ≠ _; omega), hF3.b1.other _ _ (by show w1.heap.size ≠ _; omega), hF3.b2.other _ _ (by show w1.heap.size ≠ _; omega)⟩,
     (hWr.alloc _ |>.grown hgr3 (fun x hA => by have := hob x hA; omega)).set (by show w1.heap.size ≠ wk; omega) _, hL3.set 5 _, hbo, own_set hown3 (by show w1.heap.size < _; omega) _, ?_⟩
    rw [ints_succ];have h1 := IsVs.grown hgr3 hat3 (hvs.ext (.of hb) (Nat.le_refl _));have h2 := IsV.grown hgr3 hat3 ((iV wr (Xs (fun b => k b ∨ b = w.heap.size + 1 + 1 ∨ b = w1.heap.size) A)).ext (.of hb) (Nat.le_refl _));exact (h1.append (.one h2)).ext ((Ext.refl _ _ _).setCell (.inl (.inl (.inr (.inr rfl)))) _) (Nat.le_refl _)
   clear HH hown3 hgr3 hat3 hL3 r7 g7 z7 rb gb zb z1 z2;intro W hS;obtain ⟨A, cap, cs, hF, hWr, hL, hbo, hown, hvs⟩ := hS.ex;have HS := Lib.hid hS;have z2 := hF.size;have z1 : w.heap.size + 1 < W.heap.size := (by omega);have zb := hL.lt;have rb := hL.cell; have r1 := hF.b1.cell; have r2 := hF.b2.cell; have g2 := hF.b2.frozen;unfold lcells at rb;unfold vcells at r1;unfold zcells at r2;have HH := Lib.hid (And.intro hF (And.intro hWr (And.intro hown hvs)));clear hS hF hWr hL hown hvs
   by_cases hqN : q = N
   ·have e1 : (v.int + (q : Int) == u.int) = true := (by rw [HN.out, hqN]; simp);have HQ := Lib.hid hqN;clear hqN
    go_wp2_with fail
    refine bodyPost_ret (v := .tuple #[.agg #[.int .i64 5, .int .i64 0, .float .f64 0, .string ⟨#[]⟩, .bool false, .slice A (q + 1) cap, .slice none 0 0], .bool true]) (by simp [results, Try.results88, go_sem, r2, g2, z2]; try rfl) rfl ?_;obtain ⟨hF, hWr, hown, hvs⟩ := HH.out;refine Evd.end (x := { kind := 5, items := ints v.int (q + 1) }) (f := 0) (a := A) (c := cap) (a' := none) (c' := 0) (ok := true) (by simp [ints_length]; rfl) hF.ext hWr (fun _ => M1.out trivial) zk (by go_grown) (isV_list (n0 := w.heap.size) hown hvs (by rw [ints_length]; unfold most; omega) HK.out (fun b h => .inl h) ?_ ?_ (by omega)) fun ho => ?_
    ·refine ((((((((Ext.refl _ _ _).setCell (.inl ?_) _).setCell (.inl ?_) _).setCell (.inl ?_) _).setCell (.inl ?_) _).setCell (.inl ?_) _).setCell (.inl ?_) _).setCell (.inl ?_) _)
     all_goals exact .inl (.inr (.inl rfl))
    ·refine ((((((((Ext.refl _ _ _).setCell (.inl ?_) _).setCell (.inl ?_) _).setCell (.inl ?_) _).setCell (.inl ?_) _).setCell (.inl ?_) _).setCell (.inl ?_) _).setCell (.inl ?_) _)
     all_goals (show w.heap.size + 1 + 1 < _; omega)
    ·rw [E2.out, HQ.out]; rfl
   ·have e1 : (v.int + (q : Int) == u.int) = false := by rw [HN.out]; simp; omega
    go_wp2_with fail
    go_roundg g
    case measure => omega
    case rel => exact ⟨q + 1, by go_num, by omega, by omega, HS.out⟩
theorem span_any (k : Nat → Prop) (wk : Nat) (left : Int) (over : Bool) (v u : Vl) (f : Nat) (a : Option Addr) (c : Nat) (a' : Option Addr) (c' : Nat) (f2 : Nat) (a2 : Option Addr) (c2 : Nat) (a2' : Option Addr) (c2' : Nat) (w : World)
 (hkw : k wk) (hk : ∀ b, k b → b < w.heap.size) (hW : Work w wk left over) (hV : IsV w k v (vcells v f a c a' c')) (hU : IsV w k u (vcells u f2 a2 c2 a2' c2')) :
 Calls Try.prog 88 #[.pointer (some ⟨wk, 0, none⟩), va v f a c a' c', va u f2 a2 c2 a2' c2'] w (Evd k wk left over (span v u) w) := by
 by_cases h : v.kind ≠ 1 ∨ u.kind ≠ 1 ∨ (v.int > far ∨ u.int < -far) ∨ v.int > u.int ∨ v.int < -far ∨ u.int > far ∨ u.int - v.int > 1000
 ·exact span_short k wk left over v u f a c a' c' f2 a2 c2 a2' c2' w hW hV.inv.2.2.1 hU.inv.2.2.1 h
 ·unfold far at h;exact span_long k wk left over v u f a c a' c' f2 a2 c2 a2' c2' w hkw hk hW (by omega) (by omega) (by omega) (by omega) (by omega) (by omega)
end
section
open Go.RowKit
def hit (op a b : Nm) (i : Nat) : Bool := decide ((a.drop i).take b.length = b) &&
 (decide (op = nm "contains") || (decide (op = nm "startsWith") && decide (i = 0)) || (decide (op = nm "endsWith") && decide (i + b.length = a.length)))
theorem str_extract (t : Nm) (i n : Nat) : ((str t).extract i (i + n)).toList = (t.drop i).take n := by
 rw [ByteArray.toList_eq];simp only [ByteArray.data_extract, str, Array.toList_extract, List.extract_eq_take_drop, List.toList_toArray];rw [Nat.add_sub_cancel_left]
theorem holds_true {op a b : Nm} {i : Nat} (h : i + b.length ≤ a.length) (hh : hit op a b i = true) : holds op a b = true := by
 unfold holds;rw [List.any_eq_true];refine ⟨i, List.mem_range.2 (by omega), ?_⟩;unfold hit at hh;rw [Bool.and_assoc, hh]; simp [h]
theorem holds_false {op a b : Nm} {q : Nat} (hq : a.length < q + b.length) (hh : ∀ i, i < q → hit op a b i = false) : holds op a b = false := by
 unfold holds;rw [List.any_eq_false];intro i hi;have := hh i (by have := List.mem_range.1 hi; omega);unfold hit at this;rw [Bool.and_assoc, this]; simp
set_option maxHeartbeats 1600000 in
set_option maxRecDepth 100000 in
theorem holds_contains (op a b : Nm) (ho : op = nm "contains") (w : World) (ha : a.length ≤ 140737488355328) (hb : b.length ≤ 140737488355328) :
 Calls Try.prog 89 #[.string (str op), .string (str a), .string (str b)] w (fun e w' => e = .returned (.bool (holds op a b)) ∧ w' = w) := by
 have o0 : (op == [99, 111, 110, 116, 97, 105, 110, 115]) = true := by rw [ho]; decide
 have o1 : (op == [115, 116, 97, 114, 116, 115, 87, 105, 116, 104]) = false := by rw [ho]; decide
 have o2 : (op == [101, 110, 100, 115, 87, 105, 116, 104]) = false := by rw [ho]; decide
 obtain ⟨ANS, hA⟩ : ∃ A, holds op a b = A := ⟨_, rfl⟩;rw [hA];have HA := Lib.hid hA;have HO := Lib.hid ho;clear hA ho;go_enter Try.func89, Try.ntmps89
 go_wp2_with fail
 go_loopg [7] (a.length + 1) (fun g i wr => ∃ q : Nat, i = .int .i64 q ∧ q + g = a.length + 1 ∧ wr = w ∧ (∀ i, i < q → hit op a b i = false))
 case atStart => exact ⟨0, rfl, by omega, rfl, fun i h => by omega⟩
 case round =>
  obtain ⟨q, rfl, hq, rfl, hR⟩ := hrel;have HR := Lib.hid hR;clear hR
  by_cases hlt : q + b.length ≤ a.length
  ·have EX := Lib.hid (str_extract a q b.length)
   by_cases hm : (a.drop q).take b.length = b
   ·have m1 : (((str a).extract q (q + b.length)).toList == b) = true := (by rw [EX.out, hm]; simp);have HM := Lib.hid hm;clear hm
    go_wp2_with fail
    go_ret;have hh : hit op a b q = true := by
     unfold hit; rw [HO.out, HM.out]; simp
    exact ⟨by rw [← HA.out, holds_true hlt hh]; rfl, rfl⟩
   ·have m1 : (((str a).extract q (q + b.length)).toList == b) = false := (by rw [EX.out]; simpa using hm);have HM := Lib.hid hm;clear hm
    go_wp2_with fail
    have hh : hit op a b q = false := by
     unfold hit; rw [HO.out]; simp [HM.out]
    go_roundg (gk - 1)
    case measure => omega
    case rel =>
     refine ⟨q + 1, by go_num, by omega, rfl, fun i hi => ?_⟩
     by_cases hiq : i = q
     ·rw [hiq]; exact hh
     ·exact HR.out i (by omega)
  ·have hq2 : a.length < q + b.length := by omega
   go_wp2_with fail
   go_ret;exact ⟨by rw [← HA.out, holds_false hq2 HR.out]; rfl, rfl⟩
set_option maxHeartbeats 1600000 in
set_option maxRecDepth 100000 in
theorem holds_startsWith (op a b : Nm) (ho : op = nm "startsWith") (w : World) (ha : a.length ≤ 140737488355328) (hb : b.length ≤ 140737488355328) :
 Calls Try.prog 89 #[.string (str op), .string (str a), .string (str b)] w (fun e w' => e = .returned (.bool (holds op a b)) ∧ w' = w) := by
 have o0 : (op == [99, 111, 110, 116, 97, 105, 110, 115]) = false := by rw [ho]; decide
 have o1 : (op == [115, 116, 97, 114, 116, 115, 87, 105, 116, 104]) = true := by rw [ho]; decide
 have o2 : (op == [101, 110, 100, 115, 87, 105, 116, 104]) = false := by rw [ho]; decide
 obtain ⟨ANS, hA⟩ : ∃ A, holds op a b = A := ⟨_, rfl⟩;rw [hA];have HA := Lib.hid hA;have HO := Lib.hid ho;clear hA ho;go_enter Try.func89, Try.ntmps89
 go_wp2_with fail
 go_loopg [7] (a.length + 1) (fun g i wr => ∃ q : Nat, i = .int .i64 q ∧ q + g = a.length + 1 ∧ wr = w ∧ (∀ i, i < q → hit op a b i = false))
 case atStart => exact ⟨0, rfl, by omega, rfl, fun i h => by omega⟩
 case round =>
  obtain ⟨q, rfl, hq, rfl, hR⟩ := hrel;have HR := Lib.hid hR;clear hR
  by_cases hlt : q + b.length ≤ a.length
  ·have EX := Lib.hid (str_extract a q b.length)
   by_cases hm : (a.drop q).take b.length = b
   ·have m1 : (((str a).extract q (q + b.length)).toList == b) = true := (by rw [EX.out, hm]; simp);have HM := Lib.hid hm;clear hm
    by_cases hz : q = 0
    ·have z1 : ((q : Int) == 0) = true := (by simp [hz]);have HZ := Lib.hid hz;clear hz
     go_wp2_with fail
     go_ret;have hh : hit op a b q = true := by
      unfold hit; rw [HO.out, HM.out]; simp [HZ.out]
     exact ⟨by rw [← HA.out, holds_true hlt hh]; rfl, rfl⟩
    ·have z1 : ((q : Int) == 0) = false := (by simp; omega);have HZ := Lib.hid hz;clear hz
     go_wp2_with fail
     have hh : hit op a b q = false := by
      unfold hit; rw [HO.out]; simp [HZ.out, show ¬ nm "startsWith" = nm "contains" by decide, show ¬ nm "startsWith" = nm "endsWith" by decide]
     go_roundg (gk - 1)
     case measure => omega
     case rel =>
      refine ⟨q + 1, by go_num, by omega, rfl, fun i hi => ?_⟩
      by_cases hiq : i = q
      ·rw [hiq]; exact hh
      ·exact HR.out i (by omega)
   ·have m1 : (((str a).extract q (q + b.length)).toList == b) = false := (by rw [EX.out]; simpa using hm);have HM := Lib.hid hm;clear hm
    go_wp2_with fail
    have hh : hit op a b q = false := by
     unfold hit; rw [HO.out]; simp [HM.out]
    go_roundg (gk - 1)
    case measure => omega
    case rel =>
     refine ⟨q + 1, by go_num, by omega, rfl, fun i hi => ?_⟩
     by_cases hiq : i = q
     ·rw [hiq]; exact hh
     ·exact HR.out i (by omega)
  ·have hq2 : a.length < q + b.length := by omega
   go_wp2_with fail
   go_ret;exact ⟨by rw [← HA.out, holds_false hq2 HR.out]; rfl, rfl⟩
set_option maxHeartbeats 1600000 in
set_option maxRecDepth 100000 in
theorem holds_endsWith (op a b : Nm) (ho : op = nm "endsWith") (w : World) (ha : a.length ≤ 140737488355328) (hb : b.length ≤ 140737488355328) :
 Calls Try.prog 89 #[.string (str op), .string (str a), .string (str b)] w (fun e w' => e = .returned (.bool (holds op a b)) ∧ w' = w) := by
 have o0 : (op == [99, 111, 110, 116, 97, 105, 110, 115]) = false := by rw [ho]; decide
 have o1 : (op == [115, 116, 97, 114, 116, 115, 87, 105, 116, 104]) = false := by rw [ho]; decide
 have o2 : (op == [101, 110, 100, 115, 87, 105, 116, 104]) = true := by rw [ho]; decide
 obtain ⟨ANS, hA⟩ : ∃ A, holds op a b = A := ⟨_, rfl⟩;rw [hA];have HA := Lib.hid hA;have HO := Lib.hid ho;clear hA ho;go_enter Try.func89, Try.ntmps89
 go_wp2_with fail
 go_loopg [7] (a.length + 1) (fun g i wr => ∃ q : Nat, i = .int .i64 q ∧ q + g = a.length + 1 ∧ wr = w ∧ (∀ i, i < q → hit op a b i = false))
 case atStart => exact ⟨0, rfl, by omega, rfl, fun i h => by omega⟩
 case round =>
  obtain ⟨q, rfl, hq, rfl, hR⟩ := hrel;have HR := Lib.hid hR;clear hR
  by_cases hlt : q + b.length ≤ a.length
  ·have EX := Lib.hid (str_extract a q b.length)
   by_cases hm : (a.drop q).take b.length = b
   ·have m1 : (((str a).extract q (q + b.length)).toList == b) = true := (by rw [EX.out, hm]; simp);have HM := Lib.hid hm;clear hm
    by_cases hz : q + b.length = a.length
    ·have z1 : ((q : Int) + (b.length : Int) == (a.length : Int)) = true := (by simp; omega);have HZ := Lib.hid hz;clear hz
     go_wp2_with fail
     go_ret;have hh : hit op a b q = true := by
      unfold hit; rw [HO.out, HM.out]; simp [HZ.out]
     exact ⟨by rw [← HA.out, holds_true hlt hh]; rfl, rfl⟩
    ·have z1 : ((q : Int) + (b.length : Int) == (a.length : Int)) = false := (by simp; omega);have HZ := Lib.hid hz;clear hz
     go_wp2_with fail
     have hh : hit op a b q = false := by
      unfold hit; rw [HO.out]; simp [HZ.out, show ¬ nm "endsWith" = nm "contains" by decide, show ¬ nm "endsWith" = nm "startsWith" by decide]
     go_roundg (gk - 1)
     case measure => omega
     case rel =>
      refine ⟨q + 1, by go_num, by omega, rfl, fun i hi => ?_⟩
      by_cases hiq : i = q
      ·rw [hiq]; exact hh
      ·exact HR.out i (by omega)
   ·have m1 : (((str a).extract q (q + b.length)).toList == b) = false := (by rw [EX.out]; simpa using hm);have HM := Lib.hid hm;clear hm
    go_wp2_with fail
    have hh : hit op a b q = false := by
     unfold hit; rw [HO.out]; simp [HM.out]
    go_roundg (gk - 1)
    case measure => omega
    case rel =>
     refine ⟨q + 1, by go_num, by omega, rfl, fun i hi => ?_⟩
     by_cases hiq : i = q
     ·rw [hiq]; exact hh
     ·exact HR.out i (by omega)
  ·have hq2 : a.length < q + b.length := by omega
   go_wp2_with fail
   go_ret;exact ⟨by rw [← HA.out, holds_false hq2 HR.out]; rfl, rfl⟩
end
end Go.Proofs.Ytafhhdimjkgihaa.Mn
