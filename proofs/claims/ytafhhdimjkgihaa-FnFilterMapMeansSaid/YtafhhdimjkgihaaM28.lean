/- What the program does, function by function, and what trees mean: part 28. -/
import Derived.Test.YtafhhdimjkgihaaM27
import Derived.Test.YtafhhdimjkgihaaM21
import Derived.Test.YtafhhdimjkgihaaM07
set_option linter.unusedSimpArgs false
set_option linter.unusedVariables false
namespace Go.Proofs.Ytafhhdimjkgihaa.Mn
section
open Go.RowKit
theorem arith_sum {v u : Vl} (hv : v.kind = 1 ∨ v.kind = 2) (hu : u.kind = 1 ∨ u.kind = 2) : ∃ r, arith (nm "+") v u = some r ∧ (r.kind = 1 ∨ r.kind = 2) ∧ r.text = [] := by
 unfold arith;rw [if_neg (by rintro ⟨_, h, _⟩; omega)]
 by_cases h : v.kind = 1 ∧ u.kind = 1 ∧ nm "+" ≠ nm "/"
 ·rw [if_pos h, if_pos rfl]; exact ⟨_, rfl, .inl rfl, rfl⟩
 ·rw [if_neg h];have n1 : ∃ x, num v = some x := by unfold num; rcases hv with h | h <;> simp [h]
  have n2 : ∃ x, num u = some x := by unfold num; rcases hu with h | h <;> simp [h]
  obtain ⟨x, hx⟩ := n1; obtain ⟨y, hy⟩ := n2;rw [hx, hy];exact ⟨_, rfl, .inr rfl, rfl⟩
theorem total_cons {o x r : Vl} {l : List Vl} (hx : x.kind = 1 ∨ x.kind = 2) (h : arith (nm "+") o x = some r) : total o (x :: l) = total r l := by
 rw [total, if_neg (by omega), h]
theorem total_bad {o x : Vl} {l : List Vl} (hx : x.kind ≠ 1 ∧ x.kind ≠ 2) : total o (x :: l) = none := by
 rw [total, if_pos hx]
theorem total_nil (o : Vl) : total o [] = some o := by rw [total]
structure Tl (k : Nat → Prop) (l : List Vl) (w : World) (q : Nat) (wr : World) : Prop where
 ex : ∃ (O : Vl) (fo : Nat) (ao : Option Addr) (co : Nat) (ao' : Option Addr) (co' : Nat), Below w.heap.size w wr ∧ Lb wr w.heap.size zcells 39 ∧ Lb wr (w.heap.size + 1) (vcells O fo ao co ao' co') 39 ∧
  IsV wr (fun b => k b ∨ b = w.heap.size ∨ b = w.heap.size + 1) O (vcells O fo ao co ao' co') ∧ (O.kind = 1 ∨ O.kind = 2) ∧ O.text = [] ∧ total { kind := 1 } l = total O (l.drop q)
set_option maxHeartbeats 3200000 in
set_option maxRecDepth 100000 in
theorem total_any (k : Nat → Prop) (l : List Vl) (a : Option Addr) (c : Nat) (cs : List Value) (w : World) (hn : l.length ≤ most) (hr : Row w k a cs) (hs : IsVs w k l cs) :
 Calls Try.prog 81 #[.slice a l.length c] w (Fnd k (total { kind := 1 } l) w) := by
 have HI := Lib.hid (And.intro hr hs);clear hr hs;unfold most at hn;go_enter Try.func81, Try.ntmps81
 go_wp2_with fail
 refine forget (Tl k l w 0) ?_ ?_
 ·exact ⟨{ kind := 1 }, 0, none, 0, none, 0, by go_grown, (Lb.new _ _ _).alloc _, Lb.new' _ _ _ (by simp), IsV.flat _ _ _ _ cn_zero .one .zero (by simp) rfl rfl, .inl rfl, rfl, rfl⟩
 intro W hW
 go_loopg [10] l.length (fun g i wr => ∃ q : Nat, i = .int .i64 q ∧ q + g = l.length ∧ Tl k l w q wr)
 case atStart => exact ⟨0, rfl, by omega, hW⟩
 case round =>
  obtain ⟨q, rfl, hq, hT⟩ := hrel;obtain ⟨O, fo, ao, co, ao', co', hB, hL0, hL1, hO, hOk, hOt, hD⟩ := hT.ex;have z1 := hL1.lt;have z0 : w.heap.size < wr.heap.size := by omega
  clear hT hW
  by_cases hlt : 0 < gk
  ·obtain ⟨g, rfl⟩ : ∃ g, gk = g + 1 := ⟨gk - 1, by omega⟩;have hql : q < l.length := (by omega);obtain ⟨x, hx⟩ : ∃ x, l[q]? = some x := ⟨l[q], by simp⟩;obtain ⟨b, o, rfl⟩ := HI.out.1.some_of (HI.out.2.ne hql);obtain ⟨hkb, hbs, f3, a3, c3, a4, c4, hX, h7⟩ := IsVs.cells HI.out.1 HI.out.2 hx;have h7r := h7.ext (k := fun _ => False) (.of hB) hbs id;have d0 := h7r.c0; have d1 := h7r.c1; have d2 := h7r.c2; have d3 := h7r.c3; have d4 := h7r.c4; have d5 := h7r.c5; have d6 := h7r.c6;have hbr : b < wr.heap.size := (by omega);have r0 := hL0.cell; have g0 := hL0.frozen;have r1 := hL1.cell; have g1 := hL1.frozen;have hXw := (hX.other (k' := fun b => k b ∨ b = w.heap.size ∨ b = w.heap.size + 1) fun b h => h.imp id (by omega)).ext (.of hB) (Nat.le_refl _);have HT := Lib.hid (drop_cons _ _ _ hx);have HH := Lib.hid (And.intro hB (And.intro hL0 (And.intro hL1 (And.intro hO (And.intro hOk (And.intro hOt (And.intro hD hXw)))))))
   clear hB hL0 hL1 hO hOk hOt hD hXw hX h7 h7r hx;unfold zcells at r0;unfold vcells at r1
   by_cases hk : x.kind = 1 ∨ x.kind = 2
   ·have HK := Lib.hid hk;obtain ⟨r, hra, hrk, hrt⟩ := arith_sum HH.out.2.2.2.2.1 hk;have HA := Lib.hid (And.intro hra (And.intro hrk hrt));have A := Lib.hid (fun w' (e : Below wr.heap.size wr w') => (arith_any (fun b => k b ∨ b = w.heap.size ∨ b = w.heap.size + 1) O x fo ao co ao' co' f3 a3 c3 a4 c4 w' [43] (.inl (by decide)) HH.out.2.2.2.1.inv.1 HH.out.2.2.2.2.2.2.2.inv.1 HH.out.2.2.2.1.inv.2.2.1 HH.out.2.2.2.2.2.2.2.inv.2.2.1 (by rw [HH.out.2.2.2.2.2.1]; have := HH.out.2.2.2.2.2.2.2.inv.2.2.2.2.2.1; simp; omega)).mono fun _ _ h => Found.fnd h);have K : (x.kind != 1) = false ∨ ((x.kind != 1) = true ∧ (x.kind != 2) = false) := by
     by_cases h1 : x.kind = 1
     ·left; simpa using h1
     ·right; exact ⟨by simpa using h1, by have := hk.resolve_left h1; simpa using this⟩
    clear hk hra hrk hrt;rcases K with k1 | ⟨k1, k2⟩
    all_goals
     go_wp2_with fail
     go_at_call 84;apply Calls.mono
     ·refine A.out _ ?_
      go_grown
     rintro e w5 ⟨y, f5, a5, c5, a6, c6, ok, rfl, hb5, hV5, hr5⟩;have L0 := (HH.out.2.1.alloc _).below hb5 (by simp; omega);have L1 := (HH.out.2.2.1.alloc _).below hb5 (by simp; omega);have hok : ok = true ∧ y = r := by
      have e : arith [43] O x = arith (nm "+") O x := (by rw [show ([43] : Nm) = nm "+" by decide]);rw [e, HA.out.1] at hr5;cases ok
      ·cases hr5
      ·exact ⟨rfl, (Option.some.inj hr5).symm⟩
     obtain ⟨rfl, rfl⟩ := hok;have H5 := Lib.hid (And.intro (show Below w.heap.size w w5 from (HH.out.1.alloc HH.out.1.size _).trans (hb5.mono (by simp; omega))) (And.intro L0 (And.intro L1 hV5)));have s1 := L1.cell; have u1 := L1.frozen; have z5 := L1.lt;unfold vcells at s1;clear L0 L1 hb5 hV5 hr5 A r0 r1 g0 g1 d0 d1 d2 d3 d4 d5 d6;go_wp21
     go_roundg g
     case measure => omega
     case rel =>
      obtain ⟨hB, hL0, hL1, hV⟩ := H5.out;refine ⟨q + 1, by go_num, by omega, ⟨y, f5, a5, c5, a6, c6, ?_, hL0.s7o (by omega) y f5 a5 c5 a6 c6, Lb.s7 hL1 y f5 a5 c5 a6 c6, hV.ext ((Ext.refl _ _ _).s7 (.inl (.inr (.inr rfl))) y f5 a5 c5 a6 c6) (Nat.le_refl _), HA.out.2.1, HA.out.2.2, ?_⟩⟩
      ·go_grown
      ·rw [HH.out.2.2.2.2.2.2.1, HT.out, total_cons HK.out HA.out.1]
   ·have k1 : (x.kind != 1) = true := (by simp; omega);have k2 : (x.kind != 2) = true := (by simp; omega);have HK := Lib.hid hk;clear hk;go_wp21;refine bodyPost_ret (v := .tuple #[zero, .bool false]) (by simp [results, Try.results81, go_sem, r0, g0, z0, z1]; try rfl) rfl ?_;have hB := HH.out.1;refine Fnd.zero rfl (by go_grown) ?_;rw [HH.out.2.2.2.2.2.2.1, HT.out, total_bad (by have := HK.out; omega)]
  ·obtain rfl : gk = 0 := (by omega);obtain rfl : q = l.length := (by omega);have r0 := hL0.cell; have g0 := hL0.frozen;have r1 := hL1.cell;have HH := Lib.hid (And.intro hB (And.intro hO hD));clear hB hL0 hL1 hO hOk hOt hD;unfold zcells at r0;unfold vcells at r1;go_wp21;refine bodyPost_ret (v := .tuple #[va O fo ao co ao' co', .bool true]) (by simp [results, Try.results81, go_sem, r0, g0, z0, z1]; try rfl) rfl ?_;obtain ⟨hB, hO, hD⟩ := HH.out;refine ⟨O, fo, ao, co, ao', co', true, rfl, by go_grown, (hO.ext ((Ext.refl _ _ _).s7 (.inl (.inr (.inl rfl))) O fo ao co ao' co') (Nat.le_refl _)).other fun b h => .inl (.inl h), ?_⟩;rw [hD, List.drop_length, total_nil]; rfl
end
section
open Go.RowKit
set_option maxHeartbeats 1600000 in
set_option maxRecDepth 100000 in
theorem plain_len (t : Tr) (ho : t.name = nm "len") (k : Nat → Prop) (n wk : Nat) (an : Option Addr) (cn : Nat) (ai : Option Addr) (ni ci : Nat) (f : Nat) (a : Option Addr) (c : Nat) (a' : Option Addr) (c' : Nat) (p q : Int) (v : Vl) (f2 : Nat) (a2 : Option Addr) (c2 : Nat) (a2' : Option Addr) (c2' : Nat) (w : World)
 (hV : IsV w k v (vcells v f2 a2 c2 a2' c2')) (h : v.kind = 5 ∨ v.kind = 6) :
 Calls Try.prog 78 #[sa n wk an cn ai ni ci, ta t f a c a' c' p q, va v f2 a2 c2 a2' c2'] w (Fnd k (some { kind := 1, int := v.items.length }) w) := by
 have q0 : (t.name == [108, 101, 110]) = true := by rw [ho]; decide
 obtain ⟨_, _, _, hn, _⟩ := hV.inv;unfold most at hn;have K : (v.kind == 5) = true ∨ ((v.kind == 5) = false ∧ (v.kind == 6) = true) := by
  by_cases h5 : v.kind = 5
  ·exact .inl (eq_bool h5)
  ·exact .inr ⟨ne_of_bool h5, eq_bool (h.resolve_left h5)⟩
 clear h hV ho;rcases K with k5 | ⟨k5, k6⟩
 all_goals
  go_enter Try.func78, Try.ntmps78
  go_wp2_with fail
  refine bodyPost_ret (v := .tuple #[va { kind := 1, int := v.items.length } 0 none 0 none 0, .bool true]) (by simp [results, Try.results78, go_sem]; try rfl) rfl ?_;exact ⟨_, 0, none, 0, none, 0, true, rfl, by go_grown, IsV.flat _ _ _ _ cn_zero .one ⟨by show (-9223372036854775808 : Int) ≤ (v.items.length : Int); omega, by show (v.items.length : Int) ≤ _; omega⟩ (by simp) rfl rfl, rfl⟩
set_option maxHeartbeats 1600000 in
set_option maxRecDepth 100000 in
theorem plain_sum (t : Tr) (ho : t.name = nm "sum") (k : Nat → Prop) (n wk : Nat) (an : Option Addr) (cn : Nat) (ai : Option Addr) (ni ci : Nat) (f : Nat) (a : Option Addr) (c : Nat) (a' : Option Addr) (c' : Nat) (p q : Int) (v : Vl) (f2 : Nat) (a2 : Option Addr) (c2 : Nat) (a2' : Option Addr) (c2' : Nat) (w : World)
 (hV : IsV w k v (vcells v f2 a2 c2 a2' c2')) (h : v.kind = 5) :
 Calls Try.prog 78 #[sa n wk an cn ai ni ci, ta t f a c a' c' p q, va v f2 a2 c2 a2' c2'] w (Fnd k (total { kind := 1 } v.items) w) := by
 have q0 : (t.name == [108, 101, 110]) = false := by rw [ho]; decide
 have q1 : (t.name == [115, 117, 109]) = true := by rw [ho]; decide
 have k5 : (v.kind == 5) = true := eq_bool h;obtain ⟨_, _, _, hn, _, _, _, ⟨its, hri, hsi⟩, _⟩ := hV.inv;have hx : ∀ b, Xr k (w.heap.size + 1 + 1 + 1) b → k b ∨ w.heap.size ≤ b := fun b h => h.imp id (by omega);have A := Lib.hid (fun w' (e : Below w.heap.size w w') => total_any (Xr k (w.heap.size + 1 + 1 + 1)) v.items a2 c2 its w' hn ((hri.other hx).ext (.of e) (Nat.le_refl _)) ((IsVs.other hx hsi).ext (.of e) (Nat.le_refl _)));clear h hV ho hri hsi hx hn;go_enter Try.func78, Try.ntmps78
 go_wp2_with fail
 go_at_call 81;apply Calls.mono
 ·refine A.out _ ?_
  go_grown
 rintro e w1 ⟨x, f8, a8, c8, a9, c9, ok, rfl, hb1, hV1, hr1⟩;have L1 : Lb w1 (w.heap.size + 1 + 1 + 1) _ 39 := (Lb.new' _ _ _ (by simp)).below hb1 (by simp);have HH := Lib.hid (And.intro (show Below w.heap.size w w1 from Below.trans (by go_grown) (hb1.mono (by simp; omega))) (And.intro hV1 hr1));have r9 := L1.cell; have g9 := L1.frozen; have z9 := L1.lt;clear L1 hb1 hV1 hr1 A;go_wp21;refine bodyPost_ret (v := .tuple #[va x f8 a8 c8 a9 c9, .bool ok]) (by simp [results, Try.results78, go_sem, r9, g9, z9]; try rfl) rfl ?_;have hb := HH.out.1;exact ⟨x, f8, a8, c8, a9, c9, ok, rfl, by go_grown, HH.out.2.1.stored x f8 a8 c8 a9 c9, HH.out.2.2⟩
set_option maxHeartbeats 1600000 in
set_option maxRecDepth 100000 in
theorem plain_first (t : Tr) (ho : t.name = nm "first") (k : Nat → Prop) (n wk : Nat) (an : Option Addr) (cn : Nat) (ai : Option Addr) (ni ci : Nat) (f : Nat) (a : Option Addr) (c : Nat) (a' : Option Addr) (c' : Nat) (p q : Int) (v : Vl) (f2 : Nat) (a2 : Option Addr) (c2 : Nat) (a2' : Option Addr) (c2' : Nat) (w : World)
 (hV : IsV w k v (vcells v f2 a2 c2 a2' c2')) (h : v.kind = 5) :
 Calls Try.prog 78 #[sa n wk an cn ai ni ci, ta t f a c a' c' p q, va v f2 a2 c2 a2' c2'] w (Fnd k (some (v.items.head?.getD {})) w) := by
 have q0 : (t.name == [108, 101, 110]) = false := by rw [ho]; decide
 have q1 : (t.name == [115, 117, 109]) = false := by rw [ho]; decide
 have q2 : (t.name == [102, 105, 114, 115, 116]) = true := by rw [ho]; decide
 have k5 : (v.kind == 5) = true := eq_bool h;obtain ⟨_, _, _, hn, _, _, _, ⟨its, hri, hsi⟩, _⟩ := hV.inv;unfold most at hn
 by_cases hz : v.items.length = 0
 ·have b0 : ((v.items.length : Int) == 0) = true := by rw [hz]; rfl
  have HZ := Lib.hid (List.eq_nil_of_length_eq_zero hz);clear hz h hV ho hri hsi hn;go_enter Try.func78, Try.ntmps78
  go_wp2_with fail
  refine bodyPost_ret (v := .tuple #[zero, .bool true]) (by simp [results, Try.results78, go_sem]; try rfl) rfl ?_;exact ⟨{}, 0, none, 0, none, 0, true, rfl, by go_grown, zeroV _ _, by rw [HZ.out]; rfl⟩
 ·obtain ⟨m, hm⟩ : ∃ m, v.items.length = m + 1 := ⟨v.items.length - 1, by omega⟩;obtain ⟨y, hy⟩ : ∃ y, v.items[0]? = some y := ⟨v.items[0], by simp⟩;have HY := Lib.hid (show v.items.head?.getD {} = y by rw [List.head?_eq_getElem?, hy]; rfl);obtain ⟨b, o, rfl⟩ := hri.some_of (hsi.ne (q := 0) (by omega));obtain ⟨hkb, hbs, f5, a6, c6, a7, c7, hyV, h7⟩ := IsVs.cells hri hsi hy;rw [Nat.zero_mul, Nat.add_zero] at h7;have d1 := h7.c0; have d2 := h7.c1; have d3 := h7.c2; have d4 := h7.c3; have d5 := h7.c4; have d6 := h7.c5; have d7 := h7.c6;have b0 : ((m : Int) + 1 == 0) = false := by simp; omega
  have y1 : b < w.heap.size + 1 := by omega
  have y2 : b < w.heap.size + 1 + 1 := by omega
  have y3 : b < w.heap.size + 1 + 1 + 1 := by omega
  have HV := Lib.hid hyV;clear h7 hyV hz h hV ho hri hsi hy;go_enter Try.func78, Try.ntmps78
  go_wp2_with fail
  refine bodyPost_ret (v := .tuple #[va y f5 a6 c6 a7 c7, .bool true]) (by simp [results, Try.results78, go_sem]; try rfl) rfl ?_;exact ⟨y, f5, a6, c6, a7, c7, true, rfl, by go_grown, HV.out.ext (.of (by go_grown)) (Nat.le_refl _), by rw [HY.out]; rfl⟩
set_option maxHeartbeats 1600000 in
set_option maxRecDepth 100000 in
theorem plain_last (t : Tr) (ho : t.name = nm "last") (k : Nat → Prop) (n wk : Nat) (an : Option Addr) (cn : Nat) (ai : Option Addr) (ni ci : Nat) (f : Nat) (a : Option Addr) (c : Nat) (a' : Option Addr) (c' : Nat) (p q : Int) (v : Vl) (f2 : Nat) (a2 : Option Addr) (c2 : Nat) (a2' : Option Addr) (c2' : Nat) (w : World)
 (hV : IsV w k v (vcells v f2 a2 c2 a2' c2')) (h : v.kind = 5) :
 Calls Try.prog 78 #[sa n wk an cn ai ni ci, ta t f a c a' c' p q, va v f2 a2 c2 a2' c2'] w (Fnd k (some (v.items.getLast?.getD {})) w) := by
 have q0 : (t.name == [108, 101, 110]) = false := by rw [ho]; decide
 have q1 : (t.name == [115, 117, 109]) = false := by rw [ho]; decide
 have q2 : (t.name == [102, 105, 114, 115, 116]) = false := by rw [ho]; decide
 have q3 : (t.name == [108, 97, 115, 116]) = true := by rw [ho]; decide
 have k5 : (v.kind == 5) = true := eq_bool h;obtain ⟨_, _, _, hn, _, _, _, ⟨its, hri, hsi⟩, _⟩ := hV.inv;unfold most at hn
 by_cases hz : v.items.length = 0
 ·have b0 : ((v.items.length : Int) == 0) = true := by rw [hz]; rfl
  have HZ := Lib.hid (List.eq_nil_of_length_eq_zero hz);clear hz h hV ho hri hsi hn;go_enter Try.func78, Try.ntmps78
  go_wp2_with fail
  refine bodyPost_ret (v := .tuple #[zero, .bool true]) (by simp [results, Try.results78, go_sem]; try rfl) rfl ?_;exact ⟨{}, 0, none, 0, none, 0, true, rfl, by go_grown, zeroV _ _, by rw [HZ.out]; rfl⟩
 ·obtain ⟨m, hm⟩ : ∃ m, v.items.length = m + 1 := ⟨v.items.length - 1, by omega⟩;obtain ⟨y, hy, hy2⟩ := getLast_at v.items (by omega);rw [show v.items.length - 1 = m by omega] at hy;have HY := Lib.hid (show v.items.getLast?.getD {} = y by rw [hy2]; rfl);obtain ⟨b, o, rfl⟩ := hri.some_of (hsi.ne (q := m) (by omega));obtain ⟨hkb, hbs, f5, a6, c6, a7, c7, hyV, h7⟩ := IsVs.cells hri hsi hy;clear hy2;have d1 := h7.c0; have d2 := h7.c1; have d3 := h7.c2; have d4 := h7.c3; have d5 := h7.c4; have d6 := h7.c5; have d7 := h7.c6;have b0 : ((m : Int) + 1 == 0) = false := by simp; omega
  have y1 : b < w.heap.size + 1 := by omega
  have y2 : b < w.heap.size + 1 + 1 := by omega
  have y3 : b < w.heap.size + 1 + 1 + 1 := by omega
  have HV := Lib.hid hyV;clear h7 hyV hz h hV ho hri hsi hy;go_enter Try.func78, Try.ntmps78
  go_wp2_with fail
  refine bodyPost_ret (v := .tuple #[va y f5 a6 c6 a7 c7, .bool true]) (by simp [results, Try.results78, go_sem]; try rfl) rfl ?_;exact ⟨y, f5, a6, c6, a7, c7, true, rfl, by go_grown, HV.out.ext (.of (by go_grown)) (Nat.le_refl _), by rw [HY.out]; rfl⟩
theorem countT_cons {x : Vl} {l : List Vl} {n : Int} (h : x.kind = 4) : countT (x :: l) n = countT l (if x.bool then n + 1 else n) := by
 rw [countT, if_neg (by omega)]
theorem countT_bad {x : Vl} {l : List Vl} {n : Int} (h : x.kind ≠ 4) : countT (x :: l) n = none := by
 rw [countT, if_pos h]
theorem countT_nil (n : Int) : countT [] n = some n := by rw [countT]
set_option maxHeartbeats 1600000 in
set_option maxRecDepth 100000 in
theorem plain_count (t : Tr) (ho : t.name = nm "count") (k : Nat → Prop) (n wk : Nat) (an : Option Addr) (cn : Nat) (ai : Option Addr) (ni ci : Nat) (f : Nat) (a : Option Addr) (c : Nat) (a' : Option Addr) (c' : Nat) (p q : Int) (v : Vl) (f2 : Nat) (a2 : Option Addr) (c2 : Nat) (a2' : Option Addr) (c2' : Nat) (w : World)
 (hV : IsV w k v (vcells v f2 a2 c2 a2' c2')) (h : v.kind = 5) :
 Calls Try.prog 78 #[sa n wk an cn ai ni ci, ta t f a c a' c' p q, va v f2 a2 c2 a2' c2'] w (Fnd k ((countT v.items 0).map fun n => { kind := 1, int := n }) w) := by
 have q0 : (t.name == [108, 101, 110]) = false := by rw [ho]; decide
 have q1 : (t.name == [115, 117, 109]) = false := by rw [ho]; decide
 have q2 : (t.name == [102, 105, 114, 115, 116]) = false := by rw [ho]; decide
 have q3 : (t.name == [108, 97, 115, 116]) = false := by rw [ho]; decide
 have q4 : (t.name == [99, 111, 117, 110, 116]) = true := by rw [ho]; decide
 have k5 : (v.kind == 5) = true := eq_bool h;obtain ⟨_, _, _, hn, _, _, _, ⟨its, hri, hsi⟩, _⟩ := hV.inv;unfold most at hn;have HI := Lib.hid (And.intro hri hsi);clear h hV ho hri hsi;go_enter Try.func78, Try.ntmps78
 go_wp2_with fail
 refine forget (fun w' => Below w.heap.size w w' ∧ ∃ y0 y1 y2 y3 y4 y5 y6, Lb w' (w.heap.size + 1 + 1 + 1) [y0, y1, y2, y3, y4, y5, y6] 39) ?_ ?_
 ·exact ⟨by go_grown, _, _, _, _, _, _, _, Lb.new' _ _ _ (by simp)⟩
 rintro W ⟨hW, y0, y1, y2, y3, y4, y5, y6, hL⟩
 go_loopg [8, 92] v.items.length (fun g m i wr => ∃ q cnt : Nat, i = .int .i64 q ∧ m = .int .i64 cnt ∧ q + g = v.items.length ∧ cnt ≤ q ∧ Below w.heap.size w wr ∧ Lb wr (w.heap.size + 1 + 1 + 1) [y0, y1, y2, y3, y4, y5, y6] 39 ∧ countT v.items 0 = countT (v.items.drop q) cnt)
 case atStart => exact ⟨0, 0, rfl, rfl, by omega, Nat.le_refl _, hW, hL, rfl⟩
 case round =>
  obtain ⟨i, cnt, rfl, rfl, hq, hc, hB, hLr, hD⟩ := hrel;clear hW hL;have z3 := hLr.lt;have z0 : w.heap.size < wr.heap.size := by omega
  have r9 := hLr.cell; have g9 := hLr.frozen
  by_cases hlt : 0 < gk
  ·obtain ⟨g, rfl⟩ : ∃ g, gk = g + 1 := ⟨gk - 1, by omega⟩;have hql : i < v.items.length := (by omega);obtain ⟨x, hx⟩ : ∃ x, v.items[i]? = some x := ⟨v.items[i], by simp⟩;obtain ⟨b, o, rfl⟩ := HI.out.1.some_of (HI.out.2.ne hql);obtain ⟨hkb, hbs, f3, a3, c3, a4, c4, hX, h7⟩ := IsVs.cells HI.out.1 HI.out.2 hx;have h7r := h7.ext (k := fun _ => False) (.of hB) hbs id;have d0 := h7r.c0; have d1 := h7r.c1; have d2 := h7r.c2; have d3 := h7r.c3; have d4 := h7r.c4; have d5 := h7r.c5; have d6 := h7r.c6;have hbr : b < wr.heap.size := (by omega);have HT := Lib.hid (drop_cons _ _ _ hx);have HH := Lib.hid (And.intro hB (And.intro hLr hD));clear hB hLr hD hX h7 h7r hx
   by_cases hk : x.kind = 4
   ·have k4 : (x.kind != 4) = false := (by simpa using hk);have HK := Lib.hid hk;clear hk;cases hb : x.bool with
    |true =>
     have HBB := Lib.hid hb
     go_wp2_with fail
     go_roundg g
     case measure => omega
     case rel =>
      refine ⟨i + 1, cnt + 1, by go_num, by go_num, by omega, by omega, ?_, HH.out.2.1.alloc _, ?_⟩
      ·have hB := HH.out.1
       go_grown
      ·rw [HH.out.2.2, HT.out, countT_cons HK.out, HBB.out]; rfl
    |false =>
     have HBB := Lib.hid hb
     go_wp2_with fail
     go_roundg g
     case measure => omega
     case rel =>
      refine ⟨i + 1, cnt, by go_num, rfl, by omega, by omega, ?_, HH.out.2.1.alloc _, ?_⟩
      ·have hB := HH.out.1
       go_grown
      ·rw [HH.out.2.2, HT.out, countT_cons HK.out, HBB.out]; rfl
   ·have k4 : (x.kind != 4) = true := (by simpa using hk);have HK := Lib.hid hk;clear hk;go_wp21;refine bodyPost_ret (v := .tuple #[zero, .bool false]) (by simp [results, Try.results78, go_sem, r9, g9, z3]; try rfl) rfl ?_;have hB := HH.out.1;refine Fnd.zero rfl (by go_grown) ?_;rw [HH.out.2.2, HT.out, countT_bad HK.out]; rfl
  ·obtain rfl : gk = 0 := (by omega);obtain rfl : i = v.items.length := (by omega);have HH := Lib.hid (And.intro hB hD);clear hB hLr hD;go_wp21;refine bodyPost_ret (v := .tuple #[va { kind := 1, int := cnt } 0 none 0 none 0, .bool true]) (by simp [results, Try.results78, go_sem, r9, g9, z3]; try rfl) rfl ?_;have hB := HH.out.1;refine ⟨_, 0, none, 0, none, 0, true, rfl, by go_grown, IsV.flat _ _ _ _ cn_zero .one ⟨by show (-9223372036854775808 : Int) ≤ (cnt : Int); omega, by show (cnt : Int) ≤ _; omega⟩ (by simp) rfl rfl, ?_⟩;rw [HH.out.2, List.drop_length, countT_nil]; rfl
set_option maxHeartbeats 6400000 in
set_option maxRecDepth 100000 in
theorem plain_none (t : Tr) (k : Nat → Prop) (n wk : Nat) (an : Option Addr) (cn : Nat) (ai : Option Addr) (ni ci : Nat) (f : Nat) (a : Option Addr) (c : Nat) (a' : Option Addr) (c' : Nat) (p q : Int) (v : Vl) (f2 : Nat) (a2 : Option Addr) (c2 : Nat) (a2' : Option Addr) (c2' : Nat) (w : World)
 (h1 : ¬ (t.name = nm "len" ∧ (v.kind = 5 ∨ v.kind = 6))) (h2 : ¬ (t.name = nm "sum" ∧ v.kind = 5)) (h3 : ¬ (t.name = nm "first" ∧ v.kind = 5)) (h4 : ¬ (t.name = nm "last" ∧ v.kind = 5)) (h5 : ¬ (t.name = nm "count" ∧ v.kind = 5)) :
 Calls Try.prog 78 #[sa n wk an cn ai ni ci, ta t f a c a' c' p q, va v f2 a2 c2 a2' c2'] w (Fnd k none w) := by
 have N : (∃ s ∈ ["len", "sum", "first", "last", "count"], t.name = nm s) ∨ ((t.name == [108, 101, 110]) = false ∧ (t.name == [115, 117, 109]) = false ∧ (t.name == [102, 105, 114, 115, 116]) = false ∧ (t.name == [108, 97, 115, 116]) = false ∧ (t.name == [99, 111, 117, 110, 116]) = false) := by
  by_cases n1 : t.name = nm "len"
  ·exact .inl ⟨_, by simp, n1⟩
  by_cases n2 : t.name = nm "sum"
  ·exact .inl ⟨_, by simp, n2⟩
  by_cases n3 : t.name = nm "first"
  ·exact .inl ⟨_, by simp, n3⟩
  by_cases n4 : t.name = nm "last"
  ·exact .inl ⟨_, by simp, n4⟩
  by_cases n5 : t.name = nm "count"
  ·exact .inl ⟨_, by simp, n5⟩
  have e : ∀ s l, nm s = l → ¬ t.name = nm s → (t.name == l) = false := by rintro s l rfl h; simpa using h
  exact .inr ⟨e _ _ (by decide) n1, e _ _ (by decide) n2, e _ _ (by decide) n3, e _ _ (by decide) n4, e _ _ (by decide) n5⟩
 rcases N with ⟨s, hs, ho⟩ | ⟨q0, q1, q2, q3, q4⟩
 ·have k5 : (v.kind == 5) = false := by
   refine ne_of_bool fun h => ?_;simp only [List.mem_cons, List.not_mem_nil, or_false] at hs;rcases hs with rfl | rfl | rfl | rfl | rfl
   ·exact h1 ⟨ho, .inl h⟩
   ·exact h2 ⟨ho, h⟩
   ·exact h3 ⟨ho, h⟩
   ·exact h4 ⟨ho, h⟩
   ·exact h5 ⟨ho, h⟩
  simp only [List.mem_cons, List.not_mem_nil, or_false] at hs;rcases hs with rfl | rfl | rfl | rfl | rfl
  ·have q0 : (t.name == [108, 101, 110]) = true := (by rw [ho]; decide);have q1 : (t.name == [115, 117, 109]) = false := (by rw [ho]; decide);have q2 : (t.name == [102, 105, 114, 115, 116]) = false := (by rw [ho]; decide);have q3 : (t.name == [108, 97, 115, 116]) = false := (by rw [ho]; decide);have q4 : (t.name == [99, 111, 117, 110, 116]) = false := (by rw [ho]; decide);have k6 : (v.kind == 6) = false := ne_of_bool fun h => h1 ⟨ho, .inr h⟩;clear h1 h2 h3 h4 h5 ho;go_enter Try.func78, Try.ntmps78
   go_wp2_with fail
   refine bodyPost_ret (v := .tuple #[zero, .bool false]) (by simp [results, Try.results78, go_sem]; try rfl) rfl ?_;exact Fnd.zero rfl (by go_grown) rfl
  ·have q0 : (t.name == [108, 101, 110]) = false := (by rw [ho]; decide);have q1 : (t.name == [115, 117, 109]) = true := (by rw [ho]; decide);have q2 : (t.name == [102, 105, 114, 115, 116]) = false := (by rw [ho]; decide);have q3 : (t.name == [108, 97, 115, 116]) = false := (by rw [ho]; decide);have q4 : (t.name == [99, 111, 117, 110, 116]) = false := (by rw [ho]; decide);clear h1 h2 h3 h4 h5 ho;go_enter Try.func78, Try.ntmps78
   go_wp2_with fail
   refine bodyPost_ret (v := .tuple #[zero, .bool false]) (by simp [results, Try.results78, go_sem]; try rfl) rfl ?_;exact Fnd.zero rfl (by go_grown) rfl
  ·have q0 : (t.name == [108, 101, 110]) = false := (by rw [ho]; decide);have q1 : (t.name == [115, 117, 109]) = false := (by rw [ho]; decide);have q2 : (t.name == [102, 105, 114, 115, 116]) = true := (by rw [ho]; decide);have q3 : (t.name == [108, 97, 115, 116]) = false := (by rw [ho]; decide);have q4 : (t.name == [99, 111, 117, 110, 116]) = false := (by rw [ho]; decide);clear h1 h2 h3 h4 h5 ho;go_enter Try.func78, Try.ntmps78
   go_wp2_with fail
   refine bodyPost_ret (v := .tuple #[zero, .bool false]) (by simp [results, Try.results78, go_sem]; try rfl) rfl ?_;exact Fnd.zero rfl (by go_grown) rfl
  ·have q0 : (t.name == [108, 101, 110]) = false := (by rw [ho]; decide);have q1 : (t.name == [115, 117, 109]) = false := (by rw [ho]; decide);have q2 : (t.name == [102, 105, 114, 115, 116]) = false := (by rw [ho]; decide);have q3 : (t.name == [108, 97, 115, 116]) = true := (by rw [ho]; decide);have q4 : (t.name == [99, 111, 117, 110, 116]) = false := (by rw [ho]; decide);clear h1 h2 h3 h4 h5 ho;go_enter Try.func78, Try.ntmps78
   go_wp2_with fail
   refine bodyPost_ret (v := .tuple #[zero, .bool false]) (by simp [results, Try.results78, go_sem]; try rfl) rfl ?_;exact Fnd.zero rfl (by go_grown) rfl
  ·have q0 : (t.name == [108, 101, 110]) = false := (by rw [ho]; decide);have q1 : (t.name == [115, 117, 109]) = false := (by rw [ho]; decide);have q2 : (t.name == [102, 105, 114, 115, 116]) = false := (by rw [ho]; decide);have q3 : (t.name == [108, 97, 115, 116]) = false := (by rw [ho]; decide);have q4 : (t.name == [99, 111, 117, 110, 116]) = true := (by rw [ho]; decide);clear h1 h2 h3 h4 h5 ho;go_enter Try.func78, Try.ntmps78
   go_wp2_with fail
   refine bodyPost_ret (v := .tuple #[zero, .bool false]) (by simp [results, Try.results78, go_sem]; try rfl) rfl ?_;exact Fnd.zero rfl (by go_grown) rfl
 ·clear h1 h2 h3 h4 h5;go_enter Try.func78, Try.ntmps78
  go_wp2_with fail
  refine bodyPost_ret (v := .tuple #[zero, .bool false]) (by simp [results, Try.results78, go_sem]; try rfl) rfl ?_;exact Fnd.zero rfl (by go_grown) rfl
theorem plain_any (t : Tr) (k : Nat → Prop) (n wk : Nat) (an : Option Addr) (cn : Nat) (ai : Option Addr) (ni ci : Nat) (f : Nat) (a : Option Addr) (c : Nat) (a' : Option Addr) (c' : Nat) (p q : Int) (v : Vl) (f2 : Nat) (a2 : Option Addr) (c2 : Nat) (a2' : Option Addr) (c2' : Nat) (w : World)
 (hV : IsV w k v (vcells v f2 a2 c2 a2' c2')) :
 Calls Try.prog 78 #[sa n wk an cn ai ni ci, ta t f a c a' c' p q, va v f2 a2 c2 a2' c2'] w (Fnd k (plain t.name v) w) := by
 unfold plain
 by_cases h1 : t.name = nm "len" ∧ (v.kind = 5 ∨ v.kind = 6)
 ·rw [if_pos h1]; exact plain_len t h1.1 k n wk an cn ai ni ci f a c a' c' p q v f2 a2 c2 a2' c2' w hV h1.2
 rw [if_neg h1]
 by_cases h2 : t.name = nm "sum" ∧ v.kind = 5
 ·rw [if_pos h2]; exact plain_sum t h2.1 k n wk an cn ai ni ci f a c a' c' p q v f2 a2 c2 a2' c2' w hV h2.2
 rw [if_neg h2]
 by_cases h3 : t.name = nm "first" ∧ v.kind = 5
 ·rw [if_pos h3]; exact plain_first t h3.1 k n wk an cn ai ni ci f a c a' c' p q v f2 a2 c2 a2' c2' w hV h3.2
 rw [if_neg h3]
 by_cases h4 : t.name = nm "last" ∧ v.kind = 5
 ·rw [if_pos h4]; exact plain_last t h4.1 k n wk an cn ai ni ci f a c a' c' p q v f2 a2 c2 a2' c2' w hV h4.2
 rw [if_neg h4]
 by_cases h5 : t.name = nm "count" ∧ v.kind = 5
 ·rw [if_pos h5]; exact plain_count t h5.1 k n wk an cn ai ni ci f a c a' c' p q v f2 a2 c2 a2' c2' w hV h5.2
 rw [if_neg h5];exact plain_none t k n wk an cn ai ni ci f a c a' c' p q v f2 a2 c2 a2' c2' w h1 h2 h3 h4 h5
end
end Go.Proofs.Ytafhhdimjkgihaa.Mn
