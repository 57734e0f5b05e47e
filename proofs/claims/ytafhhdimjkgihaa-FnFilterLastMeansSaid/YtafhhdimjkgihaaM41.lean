/- What the program does, function by function, and what trees mean: part 41. -/
import Derived.Test.YtafhhdimjkgihaaM40
import Derived.Test.YtafhhdimjkgihaaM21
set_option linter.unusedSimpArgs false
set_option linter.unusedVariables false
namespace Go.Proofs.Ytafhhdimjkgihaa.Mn
section
attribute [local go_sem ↓] Go.wp_at_zero Go.wp_at_succ
open Go.RowKit
set_option maxHeartbeats 1600000 in
set_option maxRecDepth 100000 in
theorem Right_any (v : Vl) (k : Nat → Prop) (most : Int) (hm : 0 ≤ most ∧ most ≤ 1099511627776) (f : Nat) (a : Option Addr) (c : Nat) (a' : Option Addr) (c' : Nat) (w : World) (hk : ∀ b, k b → b < w.heap.size) (hv : IsR w k v (vcells v f a c a' c')) :
 Calls Try.prog 32 #[va v f a c a' c', .int .i64 most] w (fun e w' => ∃ b, e = .returned (.bool b) ∧ Below w.heap.size w w' ∧ (b = true → RightV v)) := by
 have HK := Lib.hid hk; have HV := Lib.hid hv; have HM := Lib.hid hm;clear hk hv hm;go_enter Try.func32, Try.ntmps32
 go_wp2_with fail
 go_at_call 51;apply Calls.mono
 ·refine right_ok v (fun b => k b ∨ b = w.heap.size + 1) (w.heap.size + 1) most _ _ _ _ _ _ (.inr rfl) (Lb.new' _ _ _ (by simp)) HM.out ((HV.out.other ?_).ext (.of (by go_grown)) (Nat.le_refl _));intro b hb;rcases hb with hb | hb
  ·exact .inl hb
  ·exact .inr (by omega)
 rintro e w2 ⟨b, left', rfl, hE, hL, hr⟩;have HB := Lib.hid (show Below w.heap.size w w2 from Below.trans (by go_grown) ⟨hE.os, hE.tape, hE.output, hE.size, fun b hb => hE.block b (by simp; omega) (by omega)⟩);have HR := Lib.hid hr;clear hE hL hr;go_wp21;go_ret;exact ⟨b, rfl, HB.out, fun h => (HR.out h).1⟩
inductive IsRn (w : World) (k : Nat → Prop) : List (Nm × Vl) → List Value → Prop
 |nil : IsRn w k [] []
 |cons {n v l c cs} (h : IsR w k v c) (hl : IsRn w k l cs) : IsRn w k ((n, v) :: l) (.string (str n) :: c ++ cs)
theorem IsRn.length {w : World} {k : Nat → Prop} {l : List (Nm × Vl)} {cs : List Value} (h : IsRn w k l cs) : cs.length = l.length * 8 := by
 induction h with
 |nil => rfl
 |cons h hl ih => rw [List.length_append, List.length_cons, h.length, ih, List.length_cons]; omega
theorem IsRn.ext {k : Nat → Prop} {B : Nat} {w w' : World} (e : Ext k B w w') (hB : w.heap.size ≤ B) {l : List (Nm × Vl)} {cs : List Value} (h : IsRn w k l cs) : IsRn w' k l cs := by
 induction h with
 |nil => exact .nil
 |cons h hl ih => exact .cons (h.ext e hB) ih
theorem IsRn.other {w : World} {k k' : Nat → Prop} {l : List (Nm × Vl)} {cs : List Value} (hk : ∀ b, k' b → k b ∨ w.heap.size ≤ b) (h : IsRn w k l cs) : IsRn w k' l cs := by
 induction h with
 |nil => exact .nil
 |cons h hl ih => exact .cons (h.other hk) ih
theorem IsRn.toNs {w : World} {k : Nat → Prop} {l : List (Nm × Vl)} {cs : List Value} (h : IsRn w k l cs) (hr : ∀ p ∈ l, RightV p.2) : IsNs w k l cs := by
 induction h with
 |nil => exact .nil
 |cons h hl ih => exact .cons (h.toV (hr _ (List.mem_cons_self ..))) (ih fun p hp => hr p (List.mem_cons_of_mem _ hp))
theorem IsRn.ne {w : World} {k : Nat → Prop} {l : List (Nm × Vl)} {cs : List Value} (h : IsRn w k l cs) {q : Nat} (hq : q < l.length) : cs ≠ [] := by
 intro h0;have := h.length;rw [h0] at this;simp at this; omega
theorem IsRn.get {w : World} {k : Nat → Prop} {l : List (Nm × Vl)} {cs : List Value} (h : IsRn w k l cs) : ∀ (i : Nat) (p : Nm × Vl), l[i]? = some p → ∃ c, IsR w k p.2 c ∧ ∀ j x, (Value.string (str p.1) :: c)[j]? = some x → cs[i * 8 + j]? = some x := by
 induction h with
 |nil => intro i p hp; simp at hp
 |@cons n v l c cs h hl ih =>
  intro i p hp;cases i with
  |zero =>
   simp at hp;subst hp;refine ⟨c, h, fun j x hx => ?_⟩;rw [Nat.zero_mul, Nat.zero_add, List.getElem?_append_left (by exact (List.getElem?_eq_some_iff.1 hx).1)];exact hx
  |succ i =>
   obtain ⟨c', h1, h2⟩ := ih i p (by simpa using hp);refine ⟨c', h1, fun j x hx => ?_⟩;have hl8 : (Value.string (str n) :: c).length = 8 := (by rw [List.length_cons, h.length]);rw [List.getElem?_append_right (by rw [hl8]; omega), hl8, show (i + 1) * 8 + j - 8 = i * 8 + j by omega];exact h2 j x hx
theorem IsRn.cells {w : World} {k : Nat → Prop} {b o : Nat} {l : List (Nm × Vl)} {cs : List Value} (hr : Row w k (some ⟨b, o, none⟩) cs) (hs : IsRn w k l cs) {i : Nat} {p : Nm × Vl} (hi : l[i]? = some p) :
 ¬ k b ∧ b < w.heap.size ∧ w.cell? ⟨b, o + i * 8, none⟩ = some (.string (str p.1)) ∧ ∃ f a c a' c', IsR w k p.2 (vcells p.2 f a c a' c') ∧ C7 w b (o + i * 8 + 1) p.2 f a c a' c' := by
 obtain ⟨c, h1, h2⟩ := hs.get i p hi;rcases hr with rfl | ⟨b', o', he, hk, hb, hra⟩
 ·have := h2 0 _ rfl;simp at this
 ·simp only [Option.some.injEq, Addr.mk.injEq, and_true] at he;obtain ⟨rfl, rfl⟩ := he;refine ⟨hk, hb, hra _ _ (h2 0 _ rfl), ?_⟩;obtain ⟨n, v⟩ := p;simp only at h1 h2 ⊢;cases h1 with
  |mk v f a c a' c' its hf hk' hi' hn hn' ht hm hr hs' hr' =>
   refine ⟨f, a, c, a', c', .mk v f a c a' c' its hf hk' hi' hn hn' ht hm hr hs' hr', C7.of fun j x hx => ?_⟩;have := hra _ _ (h2 (j + 1) x hx);rw [← Nat.add_assoc, show o + i * 8 + (j + 1) = o + i * 8 + 1 + j by omega] at this;exact this
set_option maxHeartbeats 1600000 in
set_option maxRecDepth 100000 in
theorem right_names (k : Nat → Prop) (names : List (Nm × Vl)) (an : Option Addr) (cn : Nat) (ncs : List Value) (w : World) (hn : names.length ≤ most) (hk : ∀ b, k b → b < w.heap.size) (hr : Row w k an ncs) (hs : IsRn w k names ncs) :
 Calls Try.prog 30 #[.slice an names.length cn] w (fun e w' => ∃ b, e = .returned (.bool b) ∧ Below w.heap.size w w' ∧ (b = true → names.length ≤ 100 ∧ ∀ p ∈ names, RightV p.2)) := by
 have HK := Lib.hid hk; have HR := Lib.hid (And.intro hr hs);unfold most at hn;clear hk hr hs;go_enter Try.func30, Try.ntmps30
 go_wp2_with fail
 go_loopg [7] names.length (fun g i wr => ∃ q : Nat, i = .int .i64 q ∧ q + g = names.length ∧ Below w.heap.size w wr ∧ ∀ p ∈ names.take q, RightV p.2)
 case atStart => exact ⟨0, rfl, by omega, Below.refl _ _, fun p hp => by simp at hp⟩
 case round =>
  obtain ⟨q, rfl, hq, hB, hP⟩ := hrel
  by_cases hlt : 0 < gk
  ·obtain ⟨g, rfl⟩ : ∃ g, gk = g + 1 := ⟨gk - 1, by omega⟩;have hql : q < names.length := (by omega);obtain ⟨p, hp⟩ : ∃ x, names[q]? = some x := ⟨names[q], by simp⟩;obtain ⟨b, o, rfl⟩ := HR.out.1.some_of (HR.out.2.ne hql);obtain ⟨hkb, hbs, hc, f, a, c, a', c', hX, h7⟩ := IsRn.cells HR.out.1 HR.out.2 hp;have h7r := h7.ext (k := fun _ => False) (.of hB) hbs id;have dk : wr.cell? ⟨b, o + q * 8, none⟩ = some (.string (str p.1)) := (hB.cell (p := ⟨b, o + q * 8, none⟩) hbs).trans hc;have d0 := h7r.c0; have d1 := h7r.c1; have d2 := h7r.c2; have d3 := h7r.c3; have d4 := h7r.c4; have d5 := h7r.c5; have d6 := h7r.c6;have hbr : b < wr.heap.size := (by have := hB.size; omega);have zi0 : (0 : Int) ≤ (q : Int) := (by omega);have zi1 : (q : Int) < (names.length : Int) := (by omega);have HX := Lib.hid (show ∀ w', Below w.heap.size w w' → IsR w' k p.2 (vcells p.2 f a c a' c') from fun w' hb => hX.ext (.of hb) (Nat.le_refl _))
   have HB := Lib.hid hB; have HP := Lib.hid hP; have HPQ := Lib.hid hp;clear hB hP hp hc hX h7 h7r
   go_wp2_with fail
   go_at_call 32;apply Calls.mono
   ·refine Right_any p.2 k 1000 (by omega) f a c a' c' _ ?_ (HX.out _ ?_)
    ·intro b hb; have h1 := HK.out b hb; have h2 := HB.out.size; simp; omega
    ·exact HB.out.alloc HB.out.size _
   rintro e w5 ⟨is, rfl, hb5, hr5⟩;have HB5 := Lib.hid (show Below w.heap.size w w5 from (HB.out.alloc HB.out.size _).trans (hb5.mono (by have := HB.out.size; simp; omega)));have HR5 := Lib.hid hr5;clear hb5 hr5;cases is with
   |true =>
    go_wp2_with fail
    go_roundg g
    case measure => omega
    case rel =>
     refine ⟨q + 1, by go_num, by omega, HB5.out, fun y hy => ?_⟩;rw [List.take_add_one, HPQ.out] at hy;rcases List.mem_append.1 hy with hy | hy
     ·exact HP.out y hy
     ·simp at hy; rw [hy]; simpa using HR5.out
   |false =>
    go_wp21;go_ret;exact ⟨false, rfl, HB5.out, fun h => by cases h⟩
  ·obtain rfl : gk = 0 := (by omega);obtain rfl : q = names.length := (by omega);have HB := Lib.hid hB; have HP := Lib.hid hP;clear hB hP;go_wp21;go_ret;refine ⟨_, rfl, HB.out, fun h => ⟨?_, fun p hp => HP.out p (by rw [List.take_length]; exact hp)⟩⟩;simp at h;omega
end
section
attribute [local go_sem ↓] Go.wp_at_zero Go.wp_at_succ
open Go.RowKit
theorem cn_same {f g : Nat} (h : cn f = cn g) : f = g ∨ (Ieee.double.read f).isNaN = true ∧ (Ieee.double.read g).isNaN = true := by
 unfold cn at h
 by_cases h1 : (Ieee.double.read f).isNaN = true
 ·by_cases h2 : (Ieee.double.read g).isNaN = true
  ·exact .inr ⟨h1, h2⟩
  ·rw [if_pos h1, if_neg h2] at h;exact absurd (by rw [← h]; decide) h2
 ·by_cases h2 : (Ieee.double.read g).isNaN = true
  ·rw [if_neg h1, if_pos h2] at h;exact absurd (by rw [h]; decide) h1
  ·rw [if_neg h1, if_neg h2] at h;exact .inl h
theorem order_self {x : Nat} (h : (Ieee.double.read x).isNaN = false) : Ieee.double.order x x = some .eq := by
 have h1 : ∀ a : Ieee.Datum, a.isNaN = false → a.order a = some .eq := by
  intro a h; cases a <;> simp [Ieee.Datum.isNaN] at h <;> simp [Ieee.Datum.order]
 exact h1 _ h
theorem kcells_ne (l : List Nm) {q : Nat} (h : q < l.length) : kcells l ≠ [] := fun h2 => by
 have h3 : (kcells l).length = 0 := by rw [h2]; rfl
 unfold kcells at h3;rw [List.length_map] at h3; omega
theorem ord_t {f g : Nat} (h : Ieee.double.order f g = some .eq) : (FloatKind.f64.format.order f g == some Ordering.eq) = true ∧ (FloatKind.f64.format.order f g != some Ordering.eq) = false := by
 have h : FloatKind.f64.format.order f g = some .eq := h;rw [h]; exact ⟨rfl, rfl⟩
theorem ord_f {f g : Nat} (h : Ieee.double.order f g = none) : (FloatKind.f64.format.order f g == some Ordering.eq) = false ∧ (FloatKind.f64.format.order f g != some Ordering.eq) = true := by
 have h : FloatKind.f64.format.order f g = none := h;rw [h]; exact ⟨rfl, rfl⟩
def Smd (w : World) (e : Ending) (w' : World) : Prop := e = .returned (.bool true) ∧ Below w.heap.size w w'
def SameOk (v : Vl) : Prop := RightV v → ∀ (k : Nat → Prop) (f : Nat) (a : Option Addr) (c : Nat) (a' : Option Addr) (c' : Nat) (f2 : Nat) (a2 : Option Addr) (c2 : Nat) (a2' : Option Addr) (c2' : Nat) (w : World), IsV w k v (vcells v f a c a' c') → IsV w k v (vcells v f2 a2 c2 a2' c2') →
 Calls Try.prog 33 #[va v f a c a' c', va v f2 a2 c2 a2' c2'] w (Smd w)
theorem SameOk.calls {v : Vl} (h : SameOk v) (hr : RightV v) {k : Nat → Prop} {f : Nat} {a : Option Addr} {c : Nat} {a' : Option Addr} {c' : Nat} {f2 : Nat} {a2 : Option Addr} {c2 : Nat} {a2' : Option Addr} {c2' : Nat} {w : World} (h1 : IsV w k v (vcells v f a c a' c')) (h2 : IsV w k v (vcells v f2 a2 c2 a2' c2')) :
 Calls Try.prog 33 #[va v f a c a' c', va v f2 a2 c2 a2' c2'] w (Smd w) := h hr k f a c a' c' f2 a2 c2 a2' c2' w h1 h2
structure Sb (w0 : World) (l0 l1 : List Value) (bx : Nat) (lx : List Value) (w : World) : Prop where
 b : Below w0.heap.size w0 w
 b0 : Lb w w0.heap.size l0 39
 b1 : Lb w (w0.heap.size + 1) l1 39
 x : Lb w bx lx 39
theorem Sb.drew {w0 : World} {l0 l1 : List Value} {bx : Nat} {lx : List Value} {w : World} (h : Sb w0 l0 l1 bx lx w) : Sb w0 l0 l1 bx lx w.drew := ⟨h.b.drew, h.b0, h.b1, h.x⟩
theorem Sb.same {k : Nat → Prop} {w0 : World} {l0 l1 : List Value} {bx : Nat} {lx : List Value} {w : World} (h : Sb w0 l0 l1 bx lx w) {x : Vl} (hx : SameOk x) (hr : RightV x) {f : Nat} {a : Option Addr} {c : Nat} {a' : Option Addr} {c' : Nat} {f2 : Nat} {a2 : Option Addr} {c2 : Nat} {a2' : Option Addr} {c2' : Nat} (h1 : IsV w k x (vcells x f a c a' c')) (h2 : IsV w k x (vcells x f2 a2 c2 a2' c2')) :
 Calls Try.prog 33 #[va x f a c a' c', va x f2 a2 c2 a2' c2'] w fun e w' => e = .returned (.bool true) ∧ Sb w0 l0 l1 bx lx w' := by
 refine (hx.calls hr h1 h2).mono ?_;rintro e w' ⟨he, hb⟩;exact ⟨he, h.b.trans (hb.mono h.b.size), h.b0.below hb h.b0.lt, h.b1.below hb h.b1.lt, h.x.below hb h.x.lt⟩
set_option maxHeartbeats 6400000 in
set_option maxRecDepth 100000 in
theorem same_step (v : Vl) (ih : ∀ x ∈ v.items, SameOk x) : SameOk v := by
 intro hR k f a c a' c' f2 a2 c2 a2' c2' w hv hu;have IH := Lib.hid ih; have HVV := Lib.hid hv; have HUU := Lib.hid hu; have HR := Lib.hid hR;have hcn : cn f = cn f2 := hv.inv.1.trans hu.inv.1.symm;have hil : v.items.length ≤ 1172812402927 := hv.inv.2.2.2.1;have hkl : v.keys.length ≤ 1172812402927 := hv.inv.2.2.2.2.1;have hK : 0 ≤ v.kind ∧ v.kind ≤ 6 := by cases hR with | mk v h0 h1 h2 h3 h4 => exact h0
 clear ih hv hu hR;have hne : (v.kind != v.kind) = false := by simp
 have hne1 : ((v.items.length : Int) != (v.items.length : Int)) = false := by simp
 have hne2 : ((v.keys.length : Int) != (v.keys.length : Int)) = false := by simp
 by_cases h : v.kind = 1
 ·have k1 : (v.kind == 1) = true := by rw [h]; rfl
  have k2 : (v.kind == 2) = false := by rw [h]; rfl
  have k3 : (v.kind == 3) = false := by rw [h]; rfl
  have k4 : (v.kind == 4) = false := by rw [h]; rfl
  have k5 : (v.kind == 5) = false := by rw [h]; rfl
  have k6 : (v.kind == 6) = false := by rw [h]; rfl
  clear h;go_enter Try.func33, Try.ntmps33
  go_wp2_with fail
  go_ret;exact ⟨rfl, by go_grown⟩
 by_cases h : v.kind = 2
 ·have k1 : (v.kind == 1) = false := by rw [h]; rfl
  have k2 : (v.kind == 2) = true := by rw [h]; rfl
  have k3 : (v.kind == 3) = false := by rw [h]; rfl
  have k4 : (v.kind == 4) = false := by rw [h]; rfl
  have k5 : (v.kind == 5) = false := by rw [h]; rfl
  have k6 : (v.kind == 6) = false := by rw [h]; rfl
  clear h;rcases cn_same hcn with rfl | ⟨n1, n2⟩
  ·by_cases n1 : (Ieee.double.read f).isNaN = true
   ·obtain ⟨q1, p1⟩ := ord_f (order_nan (x := f) (y := f) (.inl n1));clear n1;go_enter Try.func33, Try.ntmps33
    go_wp2_with fail
    go_ret;exact ⟨rfl, by go_grown⟩
   ·obtain ⟨q1, p1⟩ := ord_t (order_self (x := f) (by simpa using n1));clear n1;go_enter Try.func33, Try.ntmps33
    go_wp2_with fail
    go_ret;exact ⟨rfl, by go_grown⟩
  ·obtain ⟨q1, p1⟩ := ord_f (order_nan (x := f) (y := f2) (.inl n1));obtain ⟨q2, p2⟩ := ord_f (order_nan (x := f) (y := f) (.inl n1));obtain ⟨q3, p3⟩ := ord_f (order_nan (x := f2) (y := f2) (.inl n2));clear n1 n2;go_enter Try.func33, Try.ntmps33
   go_wp2_with fail
   go_ret;exact ⟨rfl, by go_grown⟩
 by_cases h : v.kind = 3
 ·have k1 : (v.kind == 1) = false := by rw [h]; rfl
  have k2 : (v.kind == 2) = false := by rw [h]; rfl
  have k3 : (v.kind == 3) = true := by rw [h]; rfl
  have k4 : (v.kind == 4) = false := by rw [h]; rfl
  have k5 : (v.kind == 5) = false := by rw [h]; rfl
  have k6 : (v.kind == 6) = false := by rw [h]; rfl
  clear h;go_enter Try.func33, Try.ntmps33
  go_wp2_with fail
  go_ret;exact ⟨rfl, by go_grown⟩
 by_cases h : v.kind = 4
 ·have k1 : (v.kind == 1) = false := by rw [h]; rfl
  have k2 : (v.kind == 2) = false := by rw [h]; rfl
  have k3 : (v.kind == 3) = false := by rw [h]; rfl
  have k4 : (v.kind == 4) = true := by rw [h]; rfl
  have k5 : (v.kind == 5) = false := by rw [h]; rfl
  have k6 : (v.kind == 6) = false := by rw [h]; rfl
  clear h;go_enter Try.func33, Try.ntmps33
  go_wp2_with fail
  go_ret;exact ⟨rfl, by go_grown⟩
 by_cases h : v.kind = 5
 ·have k1 : (v.kind == 1) = false := by rw [h]; rfl
  have k2 : (v.kind == 2) = false := by rw [h]; rfl
  have k3 : (v.kind == 3) = false := by rw [h]; rfl
  have k4 : (v.kind == 4) = false := by rw [h]; rfl
  have k5 : (v.kind == 5) = true := by rw [h]; rfl
  have k6 : (v.kind == 6) = false := by rw [h]; rfl
  clear h;go_enter Try.func33, Try.ntmps33
  go_wp2_with fail
  refine forget (fun w' => Below w.heap.size w w' ∧ Lb w' w.heap.size (vcells v f a c a' c') 39 ∧ Lb w' (w.heap.size + 1) (vcells v f2 a2 c2 a2' c2') 39) ?_ ?_
  ·exact ⟨by go_grown, (Lb.new _ _ _).alloc _, Lb.new' _ _ _ (by simp)⟩
  intro W hW;have HW := Lib.hid hW;clear hW
  go_loopg [83] v.items.length (fun g i wr => ∃ q : Nat, i = .int .i64 q ∧ q + g = v.items.length ∧ Below w.heap.size w wr ∧ Lb wr w.heap.size (vcells v f a c a' c') 39 ∧ Lb wr (w.heap.size + 1) (vcells v f2 a2 c2 a2' c2') 39)
  case atStart => exact ⟨0, rfl, by omega, HW.out⟩
  case round =>
   obtain ⟨q, rfl, hq, hB, hL0, hL1⟩ := hrel;clear HW
   by_cases hlt : 0 < gk
   ·obtain ⟨g, rfl⟩ : ∃ g, gk = g + 1 := ⟨gk - 1, by omega⟩;have hql : q < v.items.length := (by omega);obtain ⟨x, hx⟩ : ∃ x, v.items[q]? = some x := ⟨v.items[q], by simp⟩;obtain ⟨_, _, _, _, _, _, _, ⟨its, hri, hsi⟩, _⟩ := HVV.out.inv;obtain ⟨_, _, _, _, _, _, _, ⟨its', hri', hsi'⟩, _⟩ := HUU.out.inv;obtain ⟨b, o, rfl⟩ := hri.some_of (hsi.ne hql);obtain ⟨b', o', rfl⟩ := hri'.some_of (hsi'.ne hql);obtain ⟨hkb, hbs, f3, a3, c3, a4, c4, hX, h7⟩ := IsVs.cells hri hsi hx;obtain ⟨hkb', hbs', f5, a5, c5, a6, c6, hY, h7'⟩ := IsVs.cells hri' hsi' hx;have h7r := h7.ext (k := fun _ => False) (.of hB) hbs id;have d0 := h7r.c0; have d1 := h7r.c1; have d2 := h7r.c2; have d3 := h7r.c3; have d4 := h7r.c4; have d5 := h7r.c5; have d6 := h7r.c6;have KEEP := Lib.hid (show ∀ w', Sb w (vcells v f (some ⟨b, o, none⟩) c a' c') (vcells v f2 (some ⟨b', o', none⟩) c2 a2' c2') wr.heap.size (vcells x f3 a3 c3 a4 c4) w' → Sb w (vcells v f (some ⟨b, o, none⟩) c a' c') (vcells v f2 (some ⟨b', o', none⟩) c2 a2' c2') wr.heap.size (vcells x f3 a3 c3 a4 c4) w' ∧ w'.cell? ⟨w.heap.size + 1, 5, none⟩ = some (.slice (some ⟨b', o', none⟩) v.items.length c2) ∧ w'.cell? ⟨wr.heap.size, 0, none⟩ = some (.int .i64 x.kind) ∧ w'.cell? ⟨wr.heap.size, 1, none⟩ = some (.int .i64 x.int) ∧ w'.cell? ⟨wr.heap.size, 2, none⟩ = some (.float .f64 f3) ∧ w'.cell? ⟨wr.heap.size, 3, none⟩ = some (.string (str x.text)) ∧ w'.cell? ⟨wr.heap.size, 4, none⟩ = some (.bool x.bool) ∧ w'.cell? ⟨wr.heap.size, 5, none⟩ = some (.slice a3 x.items.length c3) ∧ w'.cell? ⟨wr.heap.size, 6, none⟩ = some (.slice a4 x.keys.length c4) ∧ w'.cell? ⟨b', o' + q * 7, none⟩ = some (.int .i64 x.kind) ∧ w'.cell? ⟨b', o' + q * 7 + 1, none⟩ = some (.int .i64 x.int) ∧ w'.cell? ⟨b', o' + q * 7 + 2, none⟩ = some (.float .f64 f5) ∧ w'.cell? ⟨b', o' + q * 7 + 3, none⟩ = some (.string (str x.text)) ∧ w'.cell? ⟨b', o' + q * 7 + 4, none⟩ = some (.bool x.bool) ∧ w'.cell? ⟨b', o' + q * 7 + 5, none⟩ = some (.slice a5 x.items.length c5) ∧ w'.cell? ⟨b', o' + q * 7 + 6, none⟩ = some (.slice a6 x.keys.length c6) from fun w' h => ⟨h, h.b1.cell 5, h.x.cell 0, h.x.cell 1, h.x.cell 2, h.x.cell 3, h.x.cell 4, h.x.cell 5, h.x.cell 6, (h7'.ext (k := fun _ => False) (.of h.b) hbs' id).c0, (h7'.ext (k := fun _ => False) (.of h.b) hbs' id).c1, (h7'.ext (k := fun _ => False) (.of h.b) hbs' id).c2, (h7'.ext (k := fun _ => False) (.of h.b) hbs' id).c3, (h7'.ext (k := fun _ => False) (.of h.b) hbs' id).c4, (h7'.ext (k := fun _ => False) (.of h.b) hbs' id).c5, (h7'.ext (k := fun _ => False) (.of h.b) hbs' id).c6⟩)
    have hbr : b < wr.heap.size := (by have := hB.size; omega);have hbr' : b' < wr.heap.size := (by have := hB.size; omega);have IHx := Lib.hid (IH.out x (List.mem_of_getElem? hx));have RX := Lib.hid (show RightV x by cases HR.out with | mk v h0 h1 h2 h3 h4 => exact h4 x (List.mem_of_getElem? hx))
    have HXY := Lib.hid (show ∀ w', Below w.heap.size w w' → IsV w' k x (vcells x f3 a3 c3 a4 c4) ∧ IsV w' k x (vcells x f5 a5 c5 a6 c6) from fun w' hb => ⟨hX.ext (.of hb) (Nat.le_refl _), hY.ext (.of hb) (Nat.le_refl _)⟩);have HF := Lib.hid (And.intro hB (And.intro hL0 hL1));have zu0 : (0 : Int) ≤ (q : Int) := (by omega);have zu1 : (q : Int) < (v.items.length : Int) := (by omega);have z1 := hL1.lt;have z0 := hL0.lt;clear hB hL0 hL1 hx hX hY h7 h7' h7r hri hsi hri' hsi'
    go_upto_region 16 with (fail)
    refine forget (fun w' => Sb w (vcells v f (some ⟨b, o, none⟩) c a' c') (vcells v f2 (some ⟨b', o', none⟩) c2 a2' c2') wr.heap.size (vcells x f3 a3 c3 a4 c4) w') ?_ ?_
    ·exact ⟨HF.out.1.alloc HF.out.1.size _, HF.out.2.1.alloc _, HF.out.2.2.alloc _, Lb.new _ _ _⟩
    intro W hW;have y1 := hW.b1.lt;have y0 := hW.b0.lt;have yx := hW.x.lt;have yb : b' < W.heap.size := (by have := hW.b.size; omega);clear d0 d1 d2 d3 d4 d5 d6
    go_region_held3 (fun w' => Sb w (vcells v f (some ⟨b, o, none⟩) c a' c') (vcells v f2 (some ⟨b', o', none⟩) c2 a2' c2') wr.heap.size (vcells x f3 a3 c3 a4 c4) w' ∧ w'.cell? ⟨w.heap.size + 1, 5, none⟩ = some (.slice (some ⟨b', o', none⟩) v.items.length c2) ∧ w'.cell? ⟨wr.heap.size, 0, none⟩ = some (.int .i64 x.kind) ∧ w'.cell? ⟨wr.heap.size, 1, none⟩ = some (.int .i64 x.int) ∧ w'.cell? ⟨wr.heap.size, 2, none⟩ = some (.float .f64 f3) ∧ w'.cell? ⟨wr.heap.size, 3, none⟩ = some (.string (str x.text)) ∧ w'.cell? ⟨wr.heap.size, 4, none⟩ = some (.bool x.bool) ∧ w'.cell? ⟨wr.heap.size, 5, none⟩ = some (.slice a3 x.items.length c3) ∧ w'.cell? ⟨wr.heap.size, 6, none⟩ = some (.slice a4 x.keys.length c4) ∧ w'.cell? ⟨b', o' + q * 7, none⟩ = some (.int .i64 x.kind) ∧ w'.cell? ⟨b', o' + q * 7 + 1, none⟩ = some (.int .i64 x.int) ∧ w'.cell? ⟨b', o' + q * 7 + 2, none⟩ = some (.float .f64 f5) ∧ w'.cell? ⟨b', o' + q * 7 + 3, none⟩ = some (.string (str x.text)) ∧ w'.cell? ⟨b', o' + q * 7 + 4, none⟩ = some (.bool x.bool) ∧ w'.cell? ⟨b', o' + q * 7 + 5, none⟩ = some (.slice a5 x.items.length c5) ∧ w'.cell? ⟨b', o' + q * 7 + 6, none⟩ = some (.slice a6 x.keys.length c6))
     (first | with_reducible exact KEEP.out _ (Sb.drew hW) | with_reducible exact KEEP.out _ hsq)
     (first | (go_at_call 33; apply Calls.mono; (focus (with_reducible exact Sb.same (Sb.drew hW) IHx.out RX.out (HXY.out _ (Sb.b (Sb.drew hW))).1 (HXY.out _ (Sb.b (Sb.drew hW))).2)); rintro e w5 ⟨rfl, hsq⟩))
    go_wp21
    go_roundg g
    case measure => omega
    case rel => exact ⟨q + 1, by go_num, by omega, hsq.b, hsq.b0, hsq.b1⟩
   ·obtain rfl : gk = 0 := (by omega);obtain rfl : q = v.items.length := (by omega);have HB := Lib.hid hB;clear hB hL0 hL1;go_wp21;go_ret;exact ⟨rfl, HB.out.trans (by go_grown)⟩
 by_cases h : v.kind = 6
 ·have k1 : (v.kind == 1) = false := by rw [h]; rfl
  have k2 : (v.kind == 2) = false := by rw [h]; rfl
  have k3 : (v.kind == 3) = false := by rw [h]; rfl
  have k4 : (v.kind == 4) = false := by rw [h]; rfl
  have k5 : (v.kind == 5) = false := by rw [h]; rfl
  have k6 : (v.kind == 6) = true := by rw [h]; rfl
  have h6 : v.keys.length = v.items.length := by cases HR.out with | mk v h0 h1 h2 h3 h4 => exact (h3 h).1
  have H6 := Lib.hid h6;have HH := Lib.hid h;clear h6 h;go_enter Try.func33, Try.ntmps33
  go_wp2_with fail
  refine forget (fun w' => Below w.heap.size w w' ∧ Lb w' w.heap.size (vcells v f a c a' c') 39 ∧ Lb w' (w.heap.size + 1) (vcells v f2 a2 c2 a2' c2') 39) ?_ ?_
  ·refine ⟨?_, (Lb.new _ _ _).alloc _, Lb.new' _ _ _ ?_⟩
   ·go_grown
   ·simp
  intro W hW;have HW := Lib.hid hW;clear hW
  go_loopg [102] v.keys.length (fun g i wr => ∃ q : Nat, i = .int .i64 q ∧ q + g = v.keys.length ∧ Below w.heap.size w wr ∧ Lb wr w.heap.size (vcells v f a c a' c') 39 ∧ Lb wr (w.heap.size + 1) (vcells v f2 a2 c2 a2' c2') 39)
  case atStart => exact ⟨0, rfl, by omega, HW.out⟩
  case round =>
   obtain ⟨q, rfl, hq, hB, hL0, hL1⟩ := hrel;clear HW
   by_cases hlt : 0 < gk
   ·obtain ⟨g, rfl⟩ : ∃ g, gk = g + 1 := ⟨gk - 1, by omega⟩;have hql : q < v.keys.length := (by omega);have hqi : q < v.items.length := (by rw [← H6.out]; exact hql);obtain ⟨x, hx⟩ : ∃ x, v.items[q]? = some x := ⟨v.items[q], by simp⟩;obtain ⟨key, hy⟩ : ∃ y, v.keys[q]? = some y := ⟨v.keys[q], by simp⟩;obtain ⟨_, _, _, _, _, _, _, ⟨its, hri, hsi⟩, hrk⟩ := HVV.out.inv;obtain ⟨b, o, rfl⟩ := hri.some_of (hsi.ne hqi);obtain ⟨b', o', rfl⟩ := hrk.some_of (kcells_ne v.keys hql);obtain ⟨hkb, hbs, f3, a3, c3, a4, c4, hX, h7⟩ := IsVs.cells hri hsi hx;obtain ⟨hkb', hbs', hkey⟩ := Row.keys hrk hy;have dk : wr.cell? ⟨b', o' + q, none⟩ = some (.string (str key)) := (hB.cell (p := ⟨b', o' + q, none⟩) hbs').trans hkey;have hbr : b < wr.heap.size := (by have := hB.size; omega);have hbr' : b' < wr.heap.size := (by have := hB.size; omega);have IHx := Lib.hid (IH.out x (List.mem_of_getElem? hx));have RX := Lib.hid (show RightV x by cases HR.out with | mk v h0 h1 h2 h3 h4 => exact h4 x (List.mem_of_getElem? hx))
    have hat : at_ v.keys v.items key = some x := by
     obtain ⟨h1, h2⟩ := List.getElem?_eq_some_iff.1 hy;obtain ⟨h3, h4⟩ := List.getElem?_eq_some_iff.1 hx;have hn : v.keys.Nodup := (by cases HR.out with | mk v h0 h1 h2 h3 h4 => exact (h3 HH.out).2);have := at_nth v.keys v.items hn H6.out q h1;rw [h2, h4] at this;exact this
    have A := Lib.hid (at_g k v f2 a2 c2 a2' c2' key wr (HUU.out.ext (.of hB) (Nat.le_refl _)) H6.out x true (by rw [hat]; rfl) (by rw [hat]; rfl));have HX := Lib.hid (show ∀ w', Below w.heap.size w w' → IsV w' k x (vcells x f3 a3 c3 a4 c4) from fun w' hb => hX.ext (.of hb) (Nat.le_refl _));have HF := Lib.hid (And.intro hB (And.intro hL0 hL1));have H7 := Lib.hid h7;have zi0 : (0 : Int) ≤ (q : Int) := (by omega);have zi1 : (q : Int) < (v.items.length : Int) := (by omega);have c1 := hL1.cell;have z1 := hL1.lt;have z0 := hL0.lt;clear hB hL0 hL1 hx hy hX h7 hri hsi hrk hkey hat;unfold vcells at c1
    go_wp2_with fail
    go_at_call 52;apply Calls.mono
    ·with_reducible exact A.out
    rintro e w5 ⟨f5, a5, c5, a6, c6, rfl, hb5, hV5⟩;have HB5 := Lib.hid (HF.out.1.trans (hb5.mono HF.out.1.size));have HL0 := Lib.hid (HF.out.2.1.below hb5 HF.out.2.1.lt);have HL1 := Lib.hid (HF.out.2.2.below hb5 HF.out.2.2.lt);have HV5 := Lib.hid hV5;have z51 := HL1.out.lt;have z50 := HL0.out.lt;clear hV5 hb5 A c1 dk z0 z1
    go_upto_region 24 with (fail)
    refine forget (fun w' => Sb w (vcells v f (some ⟨b, o, none⟩) c (some ⟨b', o', none⟩) c') (vcells v f2 a2 c2 a2' c2') w5.heap.size (vcells x f5 a5 c5 a6 c6) w' ∧ IsV w' k x (vcells x f5 a5 c5 a6 c6)) ?_ ?_
    ·exact ⟨⟨HB5.out.alloc HB5.out.size _, HL0.out.alloc _, HL1.out.alloc _, Lb.new _ _ _⟩, HV5.out.ext ((Ext.refl _ _ _).alloc (Nat.le_refl _) _) (Nat.le_refl _)⟩
    rintro W ⟨hW, hYV⟩;have h7 := H7.out;have KEEP := Lib.hid (show ∀ w', Sb w (vcells v f (some ⟨b, o, none⟩) c (some ⟨b', o', none⟩) c') (vcells v f2 a2 c2 a2' c2') w5.heap.size (vcells x f5 a5 c5 a6 c6) w' → Sb w (vcells v f (some ⟨b, o, none⟩) c (some ⟨b', o', none⟩) c') (vcells v f2 a2 c2 a2' c2') w5.heap.size (vcells x f5 a5 c5 a6 c6) w' ∧ w'.cell? ⟨w.heap.size, 5, none⟩ = some (.slice (some ⟨b, o, none⟩) v.items.length c) ∧ w'.cell? ⟨w5.heap.size, 0, none⟩ = some (.int .i64 x.kind) ∧ w'.cell? ⟨w5.heap.size, 1, none⟩ = some (.int .i64 x.int) ∧ w'.cell? ⟨w5.heap.size, 2, none⟩ = some (.float .f64 f5) ∧ w'.cell? ⟨w5.heap.size, 3, none⟩ = some (.string (str x.text)) ∧ w'.cell? ⟨w5.heap.size, 4, none⟩ = some (.bool x.bool) ∧ w'.cell? ⟨w5.heap.size, 5, none⟩ = some (.slice a5 x.items.length c5) ∧ w'.cell? ⟨w5.heap.size, 6, none⟩ = some (.slice a6 x.keys.length c6) ∧ w'.cell? ⟨b, o + q * 7, none⟩ = some (.int .i64 x.kind) ∧ w'.cell? ⟨b, o + q * 7 + 1, none⟩ = some (.int .i64 x.int) ∧ w'.cell? ⟨b, o + q * 7 + 2, none⟩ = some (.float .f64 f3) ∧ w'.cell? ⟨b, o + q * 7 + 3, none⟩ = some (.string (str x.text)) ∧ w'.cell? ⟨b, o + q * 7 + 4, none⟩ = some (.bool x.bool) ∧ w'.cell? ⟨b, o + q * 7 + 5, none⟩ = some (.slice a3 x.items.length c3) ∧ w'.cell? ⟨b, o + q * 7 + 6, none⟩ = some (.slice a4 x.keys.length c4) from fun w' h => ⟨h, h.b0.cell 5, h.x.cell 0, h.x.cell 1, h.x.cell 2, h.x.cell 3, h.x.cell 4, h.x.cell 5, h.x.cell 6, (h7.ext (k := fun _ => False) (.of h.b) hbs id).c0, (h7.ext (k := fun _ => False) (.of h.b) hbs id).c1, (h7.ext (k := fun _ => False) (.of h.b) hbs id).c2, (h7.ext (k := fun _ => False) (.of h.b) hbs id).c3, (h7.ext (k := fun _ => False) (.of h.b) hbs id).c4, (h7.ext (k := fun _ => False) (.of h.b) hbs id).c5, (h7.ext (k := fun _ => False) (.of h.b) hbs id).c6⟩)
    have HYV := Lib.hid (show IsV W.drew k x (vcells x f5 a5 c5 a6 c6) from hYV.ext ((Ext.refl _ _ _).drew) (Nat.le_refl _));have y1 := hW.b1.lt;have y0 := hW.b0.lt;have yx := hW.x.lt;have yb : b < W.heap.size := (by have := hW.b.size; omega);clear h7 hYV
    go_region_held3 (fun w' => Sb w (vcells v f (some ⟨b, o, none⟩) c (some ⟨b', o', none⟩) c') (vcells v f2 a2 c2 a2' c2') w5.heap.size (vcells x f5 a5 c5 a6 c6) w' ∧ w'.cell? ⟨w.heap.size, 5, none⟩ = some (.slice (some ⟨b, o, none⟩) v.items.length c) ∧ w'.cell? ⟨w5.heap.size, 0, none⟩ = some (.int .i64 x.kind) ∧ w'.cell? ⟨w5.heap.size, 1, none⟩ = some (.int .i64 x.int) ∧ w'.cell? ⟨w5.heap.size, 2, none⟩ = some (.float .f64 f5) ∧ w'.cell? ⟨w5.heap.size, 3, none⟩ = some (.string (str x.text)) ∧ w'.cell? ⟨w5.heap.size, 4, none⟩ = some (.bool x.bool) ∧ w'.cell? ⟨w5.heap.size, 5, none⟩ = some (.slice a5 x.items.length c5) ∧ w'.cell? ⟨w5.heap.size, 6, none⟩ = some (.slice a6 x.keys.length c6) ∧ w'.cell? ⟨b, o + q * 7, none⟩ = some (.int .i64 x.kind) ∧ w'.cell? ⟨b, o + q * 7 + 1, none⟩ = some (.int .i64 x.int) ∧ w'.cell? ⟨b, o + q * 7 + 2, none⟩ = some (.float .f64 f3) ∧ w'.cell? ⟨b, o + q * 7 + 3, none⟩ = some (.string (str x.text)) ∧ w'.cell? ⟨b, o + q * 7 + 4, none⟩ = some (.bool x.bool) ∧ w'.cell? ⟨b, o + q * 7 + 5, none⟩ = some (.slice a3 x.items.length c3) ∧ w'.cell? ⟨b, o + q * 7 + 6, none⟩ = some (.slice a4 x.keys.length c4))
     (first | with_reducible exact KEEP.out _ (Sb.drew hW) | with_reducible exact KEEP.out _ hsq)
     (first | (go_at_call 33; apply Calls.mono; (focus (with_reducible exact Sb.same (Sb.drew hW) IHx.out RX.out (HX.out _ (Sb.b (Sb.drew hW))) HYV.out)); rintro e w6 ⟨rfl, hsq⟩))
    go_wp21
    go_roundg g
    case measure => omega
    case rel => exact ⟨q + 1, by go_num, by omega, hsq.b, hsq.b0, hsq.b1⟩
   ·obtain rfl : gk = 0 := (by omega);obtain rfl : q = v.keys.length := (by omega);have HB := Lib.hid hB;clear hB hL0 hL1;go_wp21;go_ret;exact ⟨rfl, HB.out.trans (by go_grown)⟩
 have h : v.kind = 0 := by omega
 have k1 : (v.kind == 1) = false := by rw [h]; rfl
 have k2 : (v.kind == 2) = false := by rw [h]; rfl
 have k3 : (v.kind == 3) = false := by rw [h]; rfl
 have k4 : (v.kind == 4) = false := by rw [h]; rfl
 have k5 : (v.kind == 5) = false := by rw [h]; rfl
 have k6 : (v.kind == 6) = false := by rw [h]; rfl
 clear h;go_enter Try.func33, Try.ntmps33
 go_wp2_with fail
 go_ret;exact ⟨rfl, by go_grown⟩
theorem rightV_items {v : Vl} (h : RightV v) : ∀ x ∈ v.items, RightV x := by cases h with | mk v h0 h1 h2 h3 h4 => exact h4
mutual
theorem same_ok : (v : Vl) → SameOk v
 |⟨a, b, c, d, e, its, ks⟩ => same_step _ fun x hx => sames_ok its x hx
theorem sames_ok : (l : List Vl) → ∀ x ∈ l, SameOk x
 |[] => fun x h => by cases h
 |v :: l => fun x h => by
  rcases List.mem_cons.1 h with h | h
  ·rw [h]; exact same_ok v
  ·exact sames_ok l x h
end
end
end Go.Proofs.Ytafhhdimjkgihaa.Mn
