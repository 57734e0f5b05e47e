/- What the program does, function by function, and what trees mean: part 29. -/
import Derived.Test.YtafhhdimjkgihaaM07
import Derived.Test.YtafhhdimjkgihaaM27
set_option linter.unusedSimpArgs false
set_option linter.unusedVariables false
namespace Go.Proofs.Ytafhhdimjkgihaa.Mn
open Go.RowKit
theorem IsIs.get {w : World} {k : Nat → Prop} {l : List (Vl × Int)} {cs : List Value} (h : IsIs w k l cs) : ∀ (i : Nat) (p : Vl × Int), l[i]? = some p → I64 p.2 ∧ ∃ f a c a' c', IsV w k p.1 (vcells p.1 f a c a' c') ∧ ∀ j x, (icells p.1 f a c a' c' p.2)[j]? = some x → cs[i * 15 + j]? = some x := by
 induction h with
 |nil => intro i p hp; simp at hp
 |@cons x n l f a c a' c' cs h hi hl ih =>
  intro i p hp;cases i with
  |zero =>
   simp at hp;subst hp;refine ⟨hi, f, a, c, a', c', h, fun j x hx => ?_⟩;rw [Nat.zero_mul, Nat.zero_add, List.getElem?_append_left (by exact (List.getElem?_eq_some_iff.1 hx).1)];exact hx
  |succ i =>
   obtain ⟨h0, f, a, c, a', c', h1, h2⟩ := ih i p (by simpa using hp);refine ⟨h0, f, a, c, a', c', h1, fun j x hx => ?_⟩;rw [List.getElem?_append_right (by simp [icells]; omega)];rw [show (i + 1) * 15 + j - (icells _ _ _ _ _ _ _).length = i * 15 + j by simp [icells]; omega];exact h2 j x hx
theorem IsIs.cells {w : World} {k : Nat → Prop} {b o : Nat} {l : List (Vl × Int)} {cs : List Value} (hr : Row w k (some ⟨b, o, none⟩) cs) (hs : IsIs w k l cs) {i : Nat} {p : Vl × Int} (hi : l[i]? = some p) :
 ¬ k b ∧ b < w.heap.size ∧ I64 p.2 ∧ ∃ f a c a' c', IsV w k p.1 (vcells p.1 f a c a' c') ∧ ∀ j x, (icells p.1 f a c a' c' p.2)[j]? = some x → w.cell? ⟨b, o + i * 15 + j, none⟩ = some x := by
 obtain ⟨h0, f, a, c, a', c', h1, h2⟩ := hs.get i p hi;rcases hr with rfl | ⟨b', o', he, hk, hb, hra⟩
 ·have := h2 0 _ rfl;simp at this
 ·simp only [Option.some.injEq, Addr.mk.injEq, and_true] at he;obtain ⟨rfl, rfl⟩ := he;refine ⟨hk, hb, h0, f, a, c, a', c', h1, fun j x hx => ?_⟩;have := hra _ _ (h2 j x hx);rw [← Nat.add_assoc] at this;exact this
theorem ptr_none {n : Nm} {env : Env} (h : env.item = none) : pointer n env = none := by unfold pointer; rw [h]
theorem ptr_some {n : Nm} {env : Env} {x : Vl} {i : Int} (h : env.item = some (x, i)) : pointer n env = if n = [] then some x else if n = nm "index" then some { kind := 1, int := i } else if n = nm "acc" then some {} else none := by unfold pointer; rw [h]
set_option maxHeartbeats 3200000 in
set_option maxRecDepth 100000 in
theorem pointer_any (t : Tr) (k : Nat → Prop) (wk : Nat) (env : Env) (m : Nat) (an : Option Addr) (cn : Nat) (ai : Option Addr) (ni ci : Nat) (f : Nat) (a : Option Addr) (c : Nat) (a' : Option Addr) (c' : Nat) (p q : Int) (w : World)
 (hs : IsSc w k wk env m an cn ai ni ci) (hm : m ≤ 1099511627776) :
 Calls Try.prog 65 #[sa env.names.length wk an cn ai ni ci, ta t f a c a' c' p q] w (Fnd k (pointer t.name env) w) := by
 obtain ⟨items, ncs, ics, rfl, _, _, hri, hsi, hit, _, hl⟩ := hs
 by_cases hz : items.length = 0
 ·have b0 : ((items.length : Int) == 0) = true := by rw [hz]; rfl
  have E := Lib.hid (ptr_none (n := t.name) (by rw [hit, List.eq_nil_of_length_eq_zero hz]; rfl : env.item = none));clear hz hri hsi hit;go_enter Try.func65, Try.ntmps65
  go_wp2_with fail
  refine bodyPost_ret (v := .tuple #[zero, .bool false]) (by simp [results, Try.results65, go_sem]; try rfl) rfl ?_;exact Fnd.zero rfl (by go_grown) E.out
 ·obtain ⟨n, hn⟩ : ∃ n, items.length = n + 1 := ⟨items.length - 1, by omega⟩;obtain ⟨⟨x, i⟩, hx⟩ : ∃ y, items[n]? = some y := ⟨items[n], by simp⟩;have E := Lib.hid (ptr_some (n := t.name) (by rw [hit, List.getLast?_eq_getElem?, hn]; simpa using hx : env.item = some (x, i)));obtain ⟨b, o, rfl⟩ : ∃ b o, ai = some ⟨b, o, none⟩ := hri.some_of (fun h0 => by have := hsi.length; rw [h0] at this; simp at this; omega);obtain ⟨hkb, hbs, hI, f5, a6, c6, a7, c7, hX, hc⟩ := IsIs.cells hri hsi hx;have d0 := hc 0 _ rfl; have d1 := hc 1 _ rfl; have d2 := hc 2 _ rfl; have d3 := hc 3 _ rfl; have d4 := hc 4 _ rfl; have d5 := hc 5 _ rfl; have d6 := hc 6 _ rfl; have d7 := hc 7 _ rfl;have d8 := hc 8 _ rfl; have d9 := hc 9 _ rfl; have d10 := hc 10 _ rfl; have d11 := hc 11 _ rfl; have d12 := hc 12 _ rfl; have d13 := hc 13 _ rfl; have d14 := hc 14 _ rfl;rw [Nat.add_zero] at d0;have b0 : ((n : Int) + 1 == 0) = false := by simp; omega
  have y1 : b < w.heap.size + 1 := by omega
  have y2 : b < w.heap.size + 1 + 1 := by omega
  have HX := Lib.hid (And.intro hX hI);clear hX hc hz hri hsi hit hx hI
  by_cases n1 : t.name = []
  ·have q1 : (t.name == []) = true := (by rw [n1]; rfl);have E1 := Lib.hid (E.out.trans (if_pos n1));clear n1;go_enter Try.func65, Try.ntmps65
   go_wp2_with fail
   refine bodyPost_ret (v := .tuple #[va x f5 a6 c6 a7 c7, .bool true]) (by simp [results, Try.results65, go_sem]; try rfl) rfl ?_;exact ⟨x, f5, a6, c6, a7, c7, true, rfl, by go_grown, HX.out.1.ext (.of (by go_grown)) (Nat.le_refl _), E1.out⟩
  ·have q1 : (t.name == []) = false := (by simpa using n1);have E1 := Lib.hid (E.out.trans (if_neg n1));clear n1 E
   by_cases n2 : t.name = nm "index"
   ·have q2 : (t.name == [105, 110, 100, 101, 120]) = true := (by rw [n2]; decide);have E2 := Lib.hid (E1.out.trans (if_pos n2));clear n2;go_enter Try.func65, Try.ntmps65
    go_wp2_with fail
    refine bodyPost_ret (v := .tuple #[va { kind := 1, int := i } 0 none 0 none 0, .bool true]) (by simp [results, Try.results65, go_sem]; try rfl) rfl ?_;exact ⟨_, 0, none, 0, none, 0, true, rfl, by go_grown, IsV.flat _ _ _ _ cn_zero .one HX.out.2 (by simp) rfl rfl, E2.out⟩
   ·have q2 : (t.name == [105, 110, 100, 101, 120]) = false := (by simpa [show nm "index" = [105, 110, 100, 101, 120] by decide] using n2);have E2 := Lib.hid (E1.out.trans (if_neg n2));clear n2 E1
    by_cases n3 : t.name = nm "acc"
    ·have q3 : (t.name == [97, 99, 99]) = true := (by rw [n3]; decide);have E3 := Lib.hid (E2.out.trans (if_pos n3));clear n3;go_enter Try.func65, Try.ntmps65
     go_wp2_with fail
     refine bodyPost_ret (v := .tuple #[zero, .bool true]) (by simp [results, Try.results65, go_sem]; try rfl) rfl ?_;exact ⟨{}, 0, none, 0, none, 0, true, rfl, by go_grown, zeroV _ _, E3.out⟩
    ·have q3 : (t.name == [97, 99, 99]) = false := (by simpa [show nm "acc" = [97, 99, 99] by decide] using n3);have E3 := Lib.hid (E2.out.trans (if_neg n3));clear n3 E2;go_enter Try.func65, Try.ntmps65
     go_wp2_with fail
     refine bodyPost_ret (v := .tuple #[zero, .bool false]) (by simp [results, Try.results65, go_sem]; try rfl) rfl ?_;exact Fnd.zero rfl (by go_grown) E3.out
def Bod (k : Nat → Prop) (t : Tr) (w : World) (e : Ending) (w' : World) : Prop :=
 ∃ t1 f a c a' c' p q ok, e = .returned (.tuple #[ta t1 f a c a' c' p q, .bool ok]) ∧ Below w.heap.size w w' ∧ IsT w' k t1 (tcells t1 f a c a' c' p q) ∧ (ok = true → t.kind = 16 ∧ t.kids = [t1]) ∧ (ok = false → ¬ (t.kind = 16 ∧ t.kids.length = 1))
set_option maxHeartbeats 1600000 in
set_option maxRecDepth 100000 in
theorem body_any (t : Tr) (k : Nat → Prop) (f : Nat) (a : Option Addr) (c : Nat) (a' : Option Addr) (c' : Nat) (p q : Int) (w : World) (ht : IsT w k t (tcells t f a c a' c' p q)) :
 Calls Try.prog 79 #[ta t f a c a' c' p q] w (Bod k t w) := by
 have HT := Lib.hid ht
 by_cases h16 : t.kind = 16
 ·have k1 : (t.kind != 16) = false := by simpa using h16
  have H16 := Lib.hid h16
  by_cases hl : t.kids.length = 1
  ·have hkl : ((t.kids.length : Int) == 1) = true := (by rw [hl]; rfl);obtain ⟨t1, ht1⟩ : ∃ t1, t.kids[0]? = some t1 := ⟨t.kids[0], by simp⟩;have HK := Lib.hid (show t.kids = [t1] by
    match hk : t.kids, hl, ht1 with
    |[x], _, h => simp at h; rw [h])
   obtain ⟨b, o, rfl, hkb, hbs, f1, a1, c1, b1, e1, p1, q1, hT1, h12⟩ := kid_at ht (j := 0) (t1 := t1) ht1;have hkl0 : 0 < t.kids.length := (by omega);rw [Nat.zero_mul, Nat.add_zero] at h12;have HT1 := Lib.hid hT1; have H12 := Lib.hid h12;clear ht hT1 h12 h16 hl ht1;go_enter Try.func79, Try.ntmps79
   go_wp2_with fail
   go_at_call 67;refine (kids_any _ _ _ _ _ _ _ _ _ _).mono ?_;rintro e w1 ⟨rfl, hb1⟩;have L0 : Lb w1 w.heap.size (tcells t f (some ⟨b, o, none⟩) c a' c' p q) 25 := ((Lb.new _ _ _).alloc _).below hb1 (by simp; omega);have L1 : Lb w1 (w.heap.size + 1) _ 25 := (Lb.new' _ _ _ (by simp)).below hb1 (by simp);have B1 : Below w.heap.size w w1 := Below.trans (by go_grown) (hb1.mono (by simp; omega));have HB := Lib.hid B1;have h1 := H12.out.ext (k := fun _ => False) (.of B1) hbs id;have d0 := h1.c0; have d1 := h1.c1; have d2 := h1.c2; have d3 := h1.c3; have d4 := h1.c4; have d5 := h1.c5;have d6 := h1.c6; have d7 := h1.c7; have d8 := h1.c8; have d9 := h1.c9; have d10 := h1.c10; have d11 := h1.c11;have n8 := L0.cell 8;have r1 := L1.cell; have g1 := L1.frozen; have z1 := L1.lt;have z0 : w.heap.size < w1.heap.size := (by omega);have zb : b < w1.heap.size := (by omega);simp only [tcells, List.getElem?_cons_succ, List.getElem?_cons_zero] at n8
   clear hb1 L0 L1 B1 h1
   go_wp2_with fail
   have HHB := HB.out;refine bodyPost_ret (v := .tuple #[ta t1 f1 a1 c1 b1 e1 p1 q1, .bool true]) (by simp [results, Try.results79, go_sem, r1, g1, z1]; try rfl) rfl ?_;exact ⟨t1, f1, a1, c1, b1, e1, p1, q1, true, rfl, by go_grown, HT1.out.ext (.of (by go_grown)) (Nat.le_refl _), fun _ => ⟨H16.out, HK.out⟩, fun h => by cases h⟩
  ·have hkl : ((t.kids.length : Int) == 1) = false := (by simp; omega);have HL := Lib.hid hl;clear ht h16 hl;go_enter Try.func79, Try.ntmps79
   go_wp2_with fail
   go_at_call 67;refine (kids_any _ _ _ _ _ _ _ _ _ _).mono ?_;rintro e w1 ⟨rfl, hb1⟩;have L0 : Lb w1 w.heap.size (tcells t f a c a' c' p q) 25 := ((Lb.new _ _ _).alloc _).below hb1 (by simp; omega);have L1 : Lb w1 (w.heap.size + 1) _ 25 := (Lb.new' _ _ _ (by simp)).below hb1 (by simp);have HB := Lib.hid (show Below w.heap.size w w1 from Below.trans (by go_grown) (hb1.mono (by simp; omega)));have r0 := L0.cell;have r1 := L1.cell; have g1 := L1.frozen; have z1 := L1.lt;have z0 : w.heap.size < w1.heap.size := (by omega);unfold tcells at r0;clear hb1 L0 L1;go_wp21;have HHB := HB.out;refine bodyPost_ret (v := .tuple #[ta t f a c a' c' p q, .bool false]) (by simp [results, Try.results79, go_sem, r1, g1, z1]; try rfl) rfl ?_;exact ⟨t, f, a, c, a', c', p, q, false, rfl, by go_grown, HT.out.ext (.of (by go_grown)) (Nat.le_refl _), (fun h => by cases h), fun _ h => HL.out h.2⟩
 ·have k1 : (t.kind != 16) = true := by simpa using h16
  have H16 := Lib.hid h16;clear ht h16;go_enter Try.func79, Try.ntmps79
  go_wp2_with fail
  refine bodyPost_ret (v := .tuple #[ta t f a c a' c' p q, .bool false]) (by simp [results, Try.results79, go_sem]; try rfl) rfl ?_;exact ⟨t, f, a, c, a', c', p, q, false, rfl, by go_grown, HT.out.ext (.of (by go_grown)) (Nat.le_refl _), (fun h => by cases h), fun _ h => H16.out h.1⟩
end Go.Proofs.Ytafhhdimjkgihaa.Mn
