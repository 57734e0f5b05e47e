/- What the program does, function by function, and what trees mean: part 03. -/
import Derived.Laws.Cover2
import Derived.Deep.LoopGhost
import Derived.Deep.RegionLaw
import Derived.Deep.DrawnRows
import Derived.Test.YtafhhdimjkgihaaM01
import Derived.Test.YtafhhdimjkgihaaM02
set_option linter.unusedSimpArgs false
set_option linter.unusedVariables false
namespace Go.Proofs.Ytafhhdimjkgihaa.Mn
section
open Go.RowKit Ieee
theorem isNaN_read (w : Nat) : (double.read w).isNaN = decide (9218868437227405312 < w % 9223372036854775808) := by
 have h1 : double.binade = 4503599627370496 := by decide
 have h2 : double.signWeight = 9223372036854775808 := by decide
 have h3 : double.infRung = 9218868437227405312 := by decide
 unfold Format.read;simp only [h1, h2, h3]
 split
 ·simp [Datum.isNaN]; omega
 ·split
  ·simp [Datum.isNaN]; omega
  ·split
   ·simp [Datum.isNaN]; omega
   ·simp [Datum.isNaN]; omega
theorem cn_nan {x : Nat} (h : (double.read x).isNaN = true) : cn x = qnan := by unfold cn; rw [if_pos h]
theorem cn_num {x : Nat} (h : (double.read x).isNaN = false) : cn x = x := by unfold cn; rw [h]; rfl
theorem qnan_nan : (double.read qnan).isNaN = true := by rw [isNaN_read]; decide
theorem cn_isNaN (x : Nat) : (double.read (cn x)).isNaN = (double.read x).isNaN := by
 cases h : (double.read x).isNaN
 ·rw [cn_num h, h]
 ·rw [cn_nan h, qnan_nan]
theorem bits_nan {op : BinOp} {x y : Nat} (h : (double.read x).isNaN = true ∨ (double.read y).isNaN = true) : floatBits op .f64 x y = none := by
 have ho : ∀ d : Datum, d.opposite.isNaN = d.isNaN := by intro d; cases d <;> rfl
 have h1 : ∀ a b : Datum, a.isNaN = true ∨ b.isNaN = true → a.sum b = none := by
  intro a b h; cases a <;> cases b <;> simp [Datum.isNaN] at h <;> rfl
 have h2 : ∀ a b : Datum, a.isNaN = true ∨ b.isNaN = true → a.product b = none := by
  intro a b h; cases a <;> cases b <;> simp [Datum.isNaN] at h <;> rfl
 have h3 : ∀ n, ∀ a b : Datum, a.isNaN = true ∨ b.isNaN = true → a.quotient n b = none := by
  intro n a b h; cases a <;> cases b <;> simp [Datum.isNaN] at h <;> rfl
 unfold floatBits;cases op <;> first | rfl | skip
 ·show ((double.read x).sum (double.read y)).map _ = none;rw [h1 _ _ h]; rfl
 ·show ((double.read x).sum (double.read y).opposite).map _ = none;rw [h1 _ _ (by rw [ho]; exact h)]; rfl
 ·show ((double.read x).product (double.read y)).map _ = none;rw [h2 _ _ h]; rfl
 ·show ((double.read x).quotient _ (double.read y)).map _ = none;rw [h3 _ _ _ h]; rfl
theorem order_nan {x y : Nat} (h : (double.read x).isNaN = true ∨ (double.read y).isNaN = true) : double.order x y = none := by
 have h1 : ∀ a b : Datum, a.isNaN = true ∨ b.isNaN = true → a.order b = none := by
  intro a b h; cases a <;> cases b <;> simp [Datum.isNaN] at h <;> rfl
 exact h1 _ _ h
theorem order_cn (x y : Nat) : double.order (cn x) (cn y) = double.order x y := by
 cases hx : (double.read x).isNaN
 ·cases hy : (double.read y).isNaN
  ·rw [cn_num hx, cn_num hy]
  ·rw [order_nan (.inr hy), order_nan (.inr (by rw [cn_isNaN]; exact hy))]
 ·rw [order_nan (.inl hx), order_nan (.inl (by rw [cn_isNaN]; exact hx))]
noncomputable def far_ (op : BinOp) (x y : Nat) (w : World) : Nat := match floatBits op .f64 x y with
 |some r => r
 |none => (Question.nanBits .f64 x y).cut (w.tape w.drawn (.nanBits .f64 x y))
noncomputable def farN (op : BinOp) (x y : Nat) : Nat := if (floatBits op .f64 x y).isSome then 0 else 1
theorem drawn_nan (x y t : Nat) : cn ((Question.nanBits .f64 x y).cut t) = qnan := by
 apply cn_nan;rw [isNaN_read];have e : (Question.nanBits .f64 x y).cut t = (t % 2) * 9223372036854775808 + 9218868437227405312 + 1 + (t / 2) % 4503599627370495 := rfl;rw [e, decide_eq_true_eq];have h1 : t % 2 < 2 := Nat.mod_lt _ (by omega);have h2 : (t / 2) % 4503599627370495 < 4503599627370495 := Nat.mod_lt _ (by omega)
 generalize t % 2 = p at *
 generalize (t / 2) % 4503599627370495 = q at *
 have : p = 0 ∨ p = 1 := by omega
 rcases this with rfl | rfl <;> omega
theorem fop_far (op : BinOp) (x y : Nat) (w : World) : cn (far_ op x y w) = fop op (cn x) (cn y) := by
 unfold far_ fop
 by_cases h : (double.read x).isNaN = true ∨ (double.read y).isNaN = true
 ·rw [bits_nan h, bits_nan (by rw [cn_isNaN, cn_isNaN]; exact h)];exact drawn_nan _ _ _
 ·have hx : (double.read x).isNaN = false := by cases h1 : (double.read x).isNaN <;> simp_all
  have hy : (double.read y).isNaN = false := by cases h1 : (double.read y).isNaN <;> simp_all
  rw [cn_num hx, cn_num hy];cases floatBits op .f64 x y with
  |none => exact drawn_nan _ _ _
  |some r => rfl
theorem run_far (op : BinOp) (ho : op = .add ∨ op = .sub ∨ op = .mul ∨ op = .quo) (t : TypeId) (x y : Nat) (w : World) : (binOp op t (.float .f64 x) (.float .f64 y)).run Try.prog w = .ok (.float .f64 (far_ op x y w)) (w.drewN (farN op x y)) := by
 have hq : (Question.nanBits .f64 x y).forced = false := rfl;unfold far_ farN;cases h : floatBits op .f64 x y with
 |none =>
  rcases ho with rfl | rfl | rfl | rfl <;> (simp only [floatBits] at h; simp [binOp, Op.floatArith, h, hq, World.drewN])
 |some r =>
  rw [run_float_arith w op t .f64 x y r h];rfl
@[go_sem] theorem run_add22 (x y : Nat) (w : World) : (binOp .add 22 (.float .f64 x) (.float .f64 y)).run Try.prog w = .ok (.float .f64 (far_ .add x y w)) (w.drewN (farN .add x y)) := run_far .add (.inl rfl) 22 x y w
@[go_sem] theorem run_sub22 (x y : Nat) (w : World) : (binOp .sub 22 (.float .f64 x) (.float .f64 y)).run Try.prog w = .ok (.float .f64 (far_ .sub x y w)) (w.drewN (farN .sub x y)) := run_far .sub (.inr (.inl rfl)) 22 x y w
@[go_sem] theorem run_mul22 (x y : Nat) (w : World) : (binOp .mul 22 (.float .f64 x) (.float .f64 y)).run Try.prog w = .ok (.float .f64 (far_ .mul x y w)) (w.drewN (farN .mul x y)) := run_far .mul (.inr (.inr (.inl rfl))) 22 x y w
@[go_sem] theorem run_quo22 (x y : Nat) (w : World) : (binOp .quo 22 (.float .f64 x) (.float .f64 y)).run Try.prog w = .ok (.float .f64 (far_ .quo x y w)) (w.drewN (farN .quo x y)) := run_far .quo (.inr (.inr (.inr rfl))) 22 x y w
theorem neg_cn (x : Nat) : cn (Op.negFloat .f64 x) = fneg (cn x) := by
 have e : ∀ f, Op.negFloat .f64 f % 9223372036854775808 = f % 9223372036854775808 := by
  intro f;show (f ^^^ 2 ^ 63) % 2 ^ 63 = f % 2 ^ 63;rw [Nat.xor_mod_two_pow]; simp
 unfold fneg;cases h : (double.read x).isNaN
 ·rw [cn_num h]
 ·rw [cn_nan h, cn_nan (x := Op.negFloat .f64 x) (by rw [isNaN_read, e, ← isNaN_read]; exact h), cn_nan (x := Op.negFloat .f64 qnan) (by rw [isNaN_read, e, ← isNaN_read]; exact qnan_nan)]
theorem cn_zero : cn 0 = 0 := cn_num (by rw [isNaN_read]; decide)
end
section
open Go.RowKit
structure C7 (w : World) (b o : Nat) (v : Vl) (f : Nat) (a : Option Addr) (c : Nat) (a' : Option Addr) (c' : Nat) : Prop where
 c0 : w.cell? ⟨b, o, none⟩ = some (.int .i64 v.kind)
 c1 : w.cell? ⟨b, o + 1, none⟩ = some (.int .i64 v.int)
 c2 : w.cell? ⟨b, o + 2, none⟩ = some (.float .f64 f)
 c3 : w.cell? ⟨b, o + 3, none⟩ = some (.string (str v.text))
 c4 : w.cell? ⟨b, o + 4, none⟩ = some (.bool v.bool)
 c5 : w.cell? ⟨b, o + 5, none⟩ = some (.slice a v.items.length c)
 c6 : w.cell? ⟨b, o + 6, none⟩ = some (.slice a' v.keys.length c')
theorem C7.of {w : World} {b o : Nat} {v : Vl} {f : Nat} {a : Option Addr} {c : Nat} {a' : Option Addr} {c' : Nat} (h : ∀ j x, (vcells v f a c a' c')[j]? = some x → w.cell? ⟨b, o + j, none⟩ = some x) : C7 w b o v f a c a' c' :=
 ⟨h 0 _ rfl, h 1 _ rfl, h 2 _ rfl, h 3 _ rfl, h 4 _ rfl, h 5 _ rfl, h 6 _ rfl⟩
theorem IsVs.cells {w : World} {k : Nat → Prop} {b o : Nat} {l : List Vl} {cs : List Value} (hr : Row w k (some ⟨b, o, none⟩) cs) (hs : IsVs w k l cs) {i : Nat} {v : Vl} (hi : l[i]? = some v) :
 ¬ k b ∧ b < w.heap.size ∧ ∃ f a c a' c', IsV w k v (vcells v f a c a' c') ∧ C7 w b (o + i * 7) v f a c a' c' := by
 obtain ⟨c, h1, h2⟩ := hs.get i v hi;rcases hr with rfl | ⟨b', o', he, hk, hb, hra⟩
 ·have := h1.length;have h0 := h2 0 (c[0]'(by omega)) (by simp);simp at h0
 ·simp only [Option.some.injEq, Addr.mk.injEq, and_true] at he;obtain ⟨rfl, rfl⟩ := he;refine ⟨hk, hb, ?_⟩;cases h1 with
  |mk v f a c a' c' its hf hk' hi' hn hn' ht hm hr hs' hr' =>
   refine ⟨f, a, c, a', c', .mk v f a c a' c' its hf hk' hi' hn hn' ht hm hr hs' hr', C7.of fun j x hx => ?_⟩;have := hra _ _ (h2 j x hx);rw [← Nat.add_assoc] at this;exact this
inductive IsNs (w : World) (k : Nat → Prop) : List (Nm × Vl) → List Value → Prop
 |nil : IsNs w k [] []
 |cons {n v l c cs} (h : IsV w k v c) (hl : IsNs w k l cs) : IsNs w k ((n, v) :: l) (.string (str n) :: c ++ cs)
theorem IsNs.length {w : World} {k : Nat → Prop} {l : List (Nm × Vl)} {cs : List Value} (h : IsNs w k l cs) : cs.length = l.length * 8 := by
 induction h with
 |nil => rfl
 |cons h hl ih => rw [List.length_append, List.length_cons, h.length, ih, List.length_cons]; omega
theorem IsNs.ext {k : Nat → Prop} {B : Nat} {w w' : World} (e : Ext k B w w') (hB : w.heap.size ≤ B) {l : List (Nm × Vl)} {cs : List Value} (h : IsNs w k l cs) : IsNs w' k l cs := by
 induction h with
 |nil => exact .nil
 |cons h hl ih => exact .cons (h.ext e hB) ih
theorem IsNs.get {w : World} {k : Nat → Prop} {l : List (Nm × Vl)} {cs : List Value} (h : IsNs w k l cs) : ∀ (i : Nat) (p : Nm × Vl), l[i]? = some p → ∃ c, IsV w k p.2 c ∧ ∀ j x, (Value.string (str p.1) :: c)[j]? = some x → cs[i * 8 + j]? = some x := by
 induction h with
 |nil => intro i p hp; simp at hp
 |@cons n v l c cs h hl ih =>
  intro i p hp;cases i with
  |zero =>
   simp at hp;subst hp;refine ⟨c, h, fun j x hx => ?_⟩;rw [Nat.zero_mul, Nat.zero_add, List.getElem?_append_left (by exact (List.getElem?_eq_some_iff.1 hx).1)];exact hx
  |succ i =>
   obtain ⟨c', h1, h2⟩ := ih i p (by simpa using hp);refine ⟨c', h1, fun j x hx => ?_⟩;rw [List.getElem?_append_right (by rw [List.length_cons, h.length]; omega), List.length_cons, h.length, show (i + 1) * 8 + j - (7 + 1) = i * 8 + j by omega];exact h2 j x hx
theorem IsNs.cells {w : World} {k : Nat → Prop} {b o : Nat} {l : List (Nm × Vl)} {cs : List Value} (hr : Row w k (some ⟨b, o, none⟩) cs) (hs : IsNs w k l cs) {i : Nat} {p : Nm × Vl} (hi : l[i]? = some p) :
 ¬ k b ∧ b < w.heap.size ∧ w.cell? ⟨b, o + i * 8, none⟩ = some (.string (str p.1)) ∧ ∃ f a c a' c', IsV w k p.2 (vcells p.2 f a c a' c') ∧ C7 w b (o + i * 8 + 1) p.2 f a c a' c' := by
 obtain ⟨c, h1, h2⟩ := hs.get i p hi;rcases hr with rfl | ⟨b', o', he, hk, hb, hra⟩
 ·have := h2 0 _ rfl;simp at this
 ·simp only [Option.some.injEq, Addr.mk.injEq, and_true] at he;obtain ⟨rfl, rfl⟩ := he;refine ⟨hk, hb, hra _ _ (h2 0 _ rfl), ?_⟩;obtain ⟨n, v⟩ := p;simp only at h1 h2 ⊢;cases h1 with
  |mk v f a c a' c' its hf hk' hi' hn hn' ht hm hr hs' hr' =>
   refine ⟨f, a, c, a', c', .mk v f a c a' c' its hf hk' hi' hn hn' ht hm hr hs' hr', C7.of fun j x hx => ?_⟩;have := hra _ _ (h2 (j + 1) x hx);rw [show o + (i * 8 + (j + 1)) = o + i * 8 + 1 + j by omega] at this;exact this
theorem lookup_nil (n : Nm) : lookup [] n = none := rfl
theorem lookup_snoc (l : List (Nm × Vl)) (p : Nm × Vl) (n : Nm) : lookup (l ++ [p]) n = if p.1 = n then some p.2 else lookup l n := by
 unfold lookup;rw [List.reverse_append];simp only [List.reverse_cons, List.reverse_nil, List.nil_append, List.cons_append, List.find?_cons]
 by_cases h : p.1 = n <;> simp [h]
theorem IsV.flat (w : World) (k : Nat → Prop) (v : Vl) (f : Nat) (hf : cn f = v.flt) (hk : I64 v.kind) (hi : I64 v.int) (ht : v.text.length ≤ 140737488355328) (h1 : v.items = []) (h2 : v.keys = []) : IsV w k v (vcells v f none 0 none 0) :=
 .mk v f none 0 none 0 [] hf hk hi (by rw [h1]; simp) (by rw [h2]; simp) ht ⟨by intro _; rw [h1, h2]; rfl, by rw [h2]; exact Nat.le_refl _⟩ (.inl rfl) (by rw [h1]; exact .nil) (.inl (by rw [h2]; rfl))
theorem I64.kind {n : Int} (h : 0 ≤ n) (h2 : n ≤ 100) : I64 n := ⟨by omega, by omega⟩
theorem I64.zero : I64 0 := ⟨by omega, by omega⟩
theorem zeroV (w : World) (k : Nat → Prop) : IsV w k {} (vcells {} 0 none 0 none 0) := IsV.flat _ _ _ _ cn_zero .zero .zero (by simp) rfl rfl
def Found (k : Nat → Prop) (r : Option Vl) (w : World) (e : Ending) (w' : World) : Prop :=
 ∃ v f a c a' c' ok, e = .returned (.tuple #[va v f a c a' c', .bool ok]) ∧ Below w.heap.size w w' ∧ (ok = true → IsV w' k v (vcells v f a c a' c') ∧ r = some v) ∧ (ok = false → IsV w' k v (vcells v f a c a' c') ∧ r = none)
theorem Found.none {k : Nat → Prop} {r : Option Vl} {w w' : World} {e : Ending} (he : e = .returned (.tuple #[zero, .bool false])) (hb : Below w.heap.size w w') (hr : r = Option.none) : Found k r w e w' :=
 ⟨{}, 0, Option.none, 0, Option.none, 0, false, he, hb, (fun h => by cases h), fun _ => ⟨zeroV _ _, hr⟩⟩
set_option maxHeartbeats 800000 in
set_option maxRecDepth 100000 in
theorem name_any (k : Nat → Prop) (n : Nm) (names : List (Nm × Vl)) (b o : Nat) (a' : Option Addr) (c n' c' : Nat) (wk : Option Addr) (cs : List Value) (w : World) (hn : names.length ≤ most)
 (hr : Row w k (some ⟨b, o, none⟩) cs) (hs : IsNs w k names cs) :
 Calls Try.prog 59 #[.agg #[.slice (some ⟨b, o, none⟩) names.length c, .slice a' n' c', .pointer wk], .string (str n)] w (Found k (lookup names n) w) := by
 obtain ⟨ANS, hA⟩ : ∃ A, lookup names n = A := ⟨_, rfl⟩;rw [hA];have HA := Lib.hid hA;have HC := Lib.hid (fun i p (hi : names[i]? = some p) => IsNs.cells hr hs hi);clear hA hr hs;unfold most at hn;go_enter Try.func59, Try.ntmps59;go_wp2
 go_loop [6] (fun i => ∃ q : Nat, i = .int .i64 ((q : Int) - 1) ∧ q ≤ names.length ∧ lookup (names.take q) n = ANS) (fun i => (intOf i + 1).toNat)
 case atStart => exact ⟨names.length, by first | rfl | go_num, Nat.le_refl _, by rw [List.take_length]; exact HA.out⟩
 case round =>
  obtain ⟨q, rfl, hq, hR⟩ := hrel;have HR := Lib.hid hR;clear hR
  by_cases h : 0 < q
  ·obtain ⟨q, rfl⟩ : ∃ p, q = p + 1 := ⟨q - 1, by omega⟩;obtain ⟨p, hp⟩ : ∃ p, names[q]? = some p := ⟨names[q], by simp⟩;obtain ⟨hbk, hbs, d0, f, a, c, a2, c2, hV, h7⟩ := HC.out q p hp;have d1 := h7.c0; have d2 := h7.c1; have d3 := h7.c2; have d4 := h7.c3; have d5 := h7.c4; have d6 := h7.c5; have d7 := h7.c6;have HT := Lib.hid (show names.take (q + 1) = names.take q ++ [p] by rw [List.take_add_one, hp]; rfl);have HV := Lib.hid hV;clear hV hp h7
   by_cases hpn : p.1 = n
   ·have t1 : (p.1 == n) = true := (by simpa using hpn);have HP := Lib.hid hpn;clear hpn;go_wp2
    go_returns
    refine ⟨p.2, f, a, _, a2, c2, true, rfl, by go_grown, fun _ => ⟨HV.out.ext (.of (by go_grown)) (Nat.le_refl _), ?_⟩, fun h => by cases h⟩;have := HR.out;rw [HT.out, lookup_snoc, if_pos HP.out] at this;exact this.symm
   ·have t1 : (p.1 == n) = false := (by simpa using hpn);have HP := Lib.hid hpn;clear hpn;go_wp2
    go_round
    case rel =>
     refine ⟨q, rfl, by omega, ?_⟩;have := HR.out;rw [HT.out, lookup_snoc, if_neg HP.out] at this;exact this
    case measure => simp [intOf]
  ·obtain rfl : q = 0 := (by omega);go_wp2
   go_returns
   refine Found.none rfl (by go_grown) ?_;have := HR.out;rw [List.take_zero, lookup_nil] at this;exact this.symm
end
section
attribute [local go_sem ↓] Go.wp_at_zero Go.wp_at_succ
open Go.RowKit
theorem forget {P : Program} {c : Code} {Q : Exit → Act → World → Prop} {a : Act} {w : World} (R : World → Prop) (hR : R w) (h : ∀ w', R w' → c.wp P Q a w') : c.wp P Q a w := h w hR
theorem own_empty {w : World} {B g e size : Nat} (h : Lb w g [] e) (hb : B ≤ g) : w.ownsRow B e size (.slice (some ⟨g, 0, none⟩) 0 0) 0 [] :=
 ⟨by simp, .inr ⟨g, 0, #[], rfl, hb, h, Nat.le_refl _, by unfold maxLen; omega, by simp, by simp⟩⟩
theorem Row.laid {w w' : World} {k : Nat → Prop} {a : Option Addr} {cs : List Value} (h : Row w k a cs) (e : Below w.heap.size w w') : Laid w' a cs := by
 rcases h with h | ⟨b, o, h1, h2, h3, h4⟩
 ·exact .inl h
 ·exact .inr ⟨b, o, h1, fun j v hv => (e.cell (p := ⟨b, o + j, none⟩) h3).trans (h4 j v hv)⟩
theorem Lb.setInv {w : World} {b i : Nat} {u : Value} {cs : List Value} {t : TypeId} (h : Lb (w.setCell ⟨b, i, none⟩ u) b cs t) (hi : i < cs.length) : cs[i]? = some u := by
 unfold Lb at h;simp only [World.setCell, Array.getElem?_modify] at h;cases hb : w.heap[b]? with
 |none => simp [hb] at h
 |some o =>
  cases o with
  |cells c t' m =>
   simp only [hb, if_true, Option.map_some, Option.some.injEq, Obj.cells.injEq] at h;obtain ⟨h, _, _⟩ := h;have := congrArg (fun a : Array Value => a[i]?) h;simp at this;rw [← this];have hc : c.size = cs.length := (by have := congrArg Array.size h; simpa using this);simp [Array.getElem?_setIfInBounds, hc, hi]
  |_ => simp [hb] at h
structure B3 (w0 : World) (l0 l1 l2 : List Value) (t0 t1 t2 : TypeId) (w : World) : Prop where
 below : Below w0.heap.size w0 w
 b0 : ∃ v, Lb w w0.heap.size (v :: l0) t0
 b1 : Lb w (w0.heap.size + 1) l1 t1
 b2 : Lb w (w0.heap.size + 1 + 1) l2 t2
section
variable {w0 w w1 : World} {l0 l1 l2 : List Value} {t0 t1 t2 : TypeId}
theorem B3.alloc (h : B3 w0 l0 l1 l2 t0 t1 t2 w) (o : Obj) : B3 w0 l0 l1 l2 t0 t1 t2 (w.alloc o) := ⟨h.below.alloc h.below.size _, h.b0.imp fun _ h => h.alloc _, h.b1.alloc _, h.b2.alloc _⟩
theorem B3.drew (h : B3 w0 l0 l1 l2 t0 t1 t2 w) : B3 w0 l0 l1 l2 t0 t1 t2 w.drew := ⟨h.below.drew, h.b0, h.b1, h.b2⟩
theorem B3.undrew (h : B3 w0 l0 l1 l2 t0 t1 t2 w.drew) : B3 w0 l0 l1 l2 t0 t1 t2 w := ⟨⟨h.below.os, h.below.tape, h.below.output, h.below.size, h.below.block⟩, h.b0, h.b1, h.b2⟩
theorem B3.allocD (h : B3 w0 l0 l1 l2 t0 t1 t2 w.drew) (o : Obj) : B3 w0 l0 l1 l2 t0 t1 t2 (w.alloc o).drew := (h.undrew.alloc o).drew
theorem B3.grown (h : B3 w0 l0 l1 l2 t0 t1 t2 w) {A : Option Addr} (g : w.grownBy w1 (A.map (·.block))) (hA : ∀ a, A = some a → w0.heap.size + 1 + 1 < a.block) : B3 w0 l0 l1 l2 t0 t1 t2 w1 := by
 have hne : ∀ b, b ≤ w0.heap.size + 1 + 1 → some b ≠ A.map (·.block) := by
  intro b hb he;cases A with
  |none => cases he
  |some a => have := hA a rfl; simp only [Option.map_some, Option.some.injEq] at he; omega
 exact ⟨h.below.trans ⟨g.os, g.tape, g.output, g.size, fun b hb => g.block b (Nat.lt_of_lt_of_le hb h.below.size) (hne b (by omega))⟩, h.b0.imp fun _ h => h.grown g (hne _ (by omega)), h.b1.grown g (hne _ (by omega)), h.b2.grown g (hne _ (by omega))⟩
theorem B3.store (h : B3 w0 l0 l1 l2 t0 t1 t2 w) (u : Value) : B3 w0 l0 l1 l2 t0 t1 t2 (w.setCell ⟨w0.heap.size, 0, none⟩ u) :=
 ⟨h.below.setCell (Nat.le_refl _) u, let ⟨_, h⟩ := h.b0; ⟨u, h.set 0 u⟩, h.b1.other _ _ (by simp), h.b2.other _ _ (by simp; omega)⟩
end
theorem ones_v (v : Vl) (f : Nat) (a : Option Addr) (c : Nat) (a' : Option Addr) (c' : Nat) : Ones (vcells v f a c a' c') := by
 intro u hu;simp only [vcells, List.mem_cons, List.not_mem_nil, or_false] at hu;rcases hu with rfl | rfl | rfl | rfl | rfl | rfl | rfl <;> rfl
theorem ones_cons {u : Value} {l : List Value} (h : u.oneCell' = true) (g : Ones l) : Ones (u :: l) := fun x hx => by
 rcases List.mem_cons.1 hx with rfl | hx
 ·exact h
 ·exact g x hx
theorem IsV.ones {w : World} {k : Nat → Prop} {v : Vl} {cs : List Value} (h : IsV w k v cs) : Ones cs := by
 cases h; exact ones_v _ _ _ _ _ _
theorem IsVs.ones {w : World} {k : Nat → Prop} {l : List Vl} {cs : List Value} (h : IsVs w k l cs) : Ones cs := by
 induction l generalizing cs with
 |nil => cases h; intro u hu; cases hu
 |cons v l ih => cases h with | cons h hl => exact h.ones.append (ih hl)
theorem IsNs.ones {w : World} {k : Nat → Prop} {l : List (Nm × Vl)} {cs : List Value} (h : IsNs w k l cs) : Ones cs := by
 induction h with
 |nil => intro u hu; cases hu
 |cons h hl ih =>
  intro u hu;rcases List.mem_cons.1 hu with rfl | hu
  ·rfl
  ·exact (h.ones.append ih) u hu
theorem IsNs.snoc {w : World} {k : Nat → Prop} {l : List (Nm × Vl)} {cs : List Value} (h : IsNs w k l cs) {n : Nm} {v : Vl} {c : List Value} (hv : IsV w k v c) : IsNs w k (l ++ [(n, v)]) (cs ++ .string (str n) :: c) := by
 induction h with
 |nil => simpa using IsNs.cons (n := n) hv .nil
 |cons h hl ih => simp only [List.cons_append, List.append_assoc]; exact .cons h ih
theorem Row.of_own {w : World} {B e size n c : Nat} {A : Option Addr} {xs : List Value} {k : Nat → Prop} (h : w.ownsRow B e size (.slice A n c) n xs) (hk : ∀ b, k b → b < B) : Row w k A xs := by
 rcases h.2 with ⟨h1, h2⟩ | ⟨g, cap, cur, h1, h2, h3, h4, h5, h6, h7⟩
 ·left;have := h.1;rw [h2, Nat.zero_mul] at this;exact List.eq_nil_of_length_eq_zero this
 ·right;cases h1;refine ⟨g, 0, rfl, fun x => by have := hk _ x; omega, (Array.getElem?_eq_some_iff.1 h3).1, fun j v hv => ?_⟩;have := h.cells (g := g) rfl j v hv;rw [Addr.add_lit] at this;exact this
theorem Row.other' {k k' : Nat → Prop} {w : World} {a : Option Addr} {cs : List Value} (h : Row w k a cs) (hk : ∀ b, k' b → k b) : Row w k' a cs := h.other fun b hb => .inl (hk b hb)
def Named (k : Nat → Prop) (names : List (Nm × Vl)) (rest : List Value) (w : World) (e : Ending) (w' : World) : Prop :=
 ∃ A cap cs, e = .returned (.agg (Value.slice A names.length cap :: rest).toArray) ∧ Below w.heap.size w w' ∧ Row w' k A cs ∧ IsNs w' k names cs
def Hd (w0 : World) (ai : Option Addr) (ni ci : Nat) (wk : Option Addr) (x : Vl) (f : Nat) (a : Option Addr) (c : Nat) (a' : Option Addr) (c' : Nat) (w' : World) : Prop :=
 B3 w0 [.slice ai ni ci, .pointer wk] (vcells x f a c a' c') [.slice none 0 0, .slice none 0 0, .pointer none] 62 39 62 w'
set_option maxHeartbeats 1600000 in
set_option maxRecDepth 100000 in
theorem with_any (k : Nat → Prop) (n : Nm) (x : Vl) (f : Nat) (a : Option Addr) (c : Nat) (a' : Option Addr) (c' : Nat) (names : List (Nm × Vl)) (an : Option Addr) (cn : Nat) (ai : Option Addr) (ni ci : Nat) (wk : Option Addr) (cs : List Value) (w : World) (hn : names.length + 1 ≤ 1073741824) (hk : ∀ b, k b → b < w.heap.size)
 (hr : Row w k an cs) (hs : IsNs w k names cs) (hx : IsV w k x (vcells x f a c a' c')) :
 Calls Try.prog 68 #[.agg #[.slice an names.length cn, .slice ai ni ci, .pointer wk], .string (str n), va x f a c a' c'] w (Named k (names ++ [(n, x)]) [.slice ai ni ci, .pointer wk] w) := by
 have ho := hs.ones;have HK := Lib.hid hk;clear hk;have hl := Lib.hid hs.length;have HR := Lib.hid hr; have HS := Lib.hid hs; have HX := Lib.hid hx;clear hr hs hx;go_enter Try.func68, Try.ntmps68
 go_wp2_with fail
 refine forget (fun w' => Hd w ai ni ci wk x f a c a' c' w' ∧ w'.cell? ⟨w.heap.size, 0, none⟩ = some (.slice an names.length cn)) ?_ ?_
 ·exact ⟨⟨by go_grown, ⟨_, ((Lb.new _ _ _).alloc _).alloc _⟩, (Lb.new' _ _ _ (by simp)).alloc _, Lb.new' _ _ _ (by simp)⟩, (((Lb.new _ _ _).alloc _).alloc _).cell 0⟩
 rintro W ⟨hW, r0⟩;have k0 := hW.b1.cell 0; have k1 := hW.b1.cell 1; have k2 := hW.b1.cell 2; have k3 := hW.b1.cell 3; have k4 := hW.b1.cell 4; have k5 := hW.b1.cell 5; have k6 := hW.b1.cell 6;simp only [vcells, List.getElem?_cons_succ, List.getElem?_cons_zero] at k0 k1 k2 k3 k4 k5 k6;have z2 := hW.b2.lt;have z0 : w.heap.size < W.heap.size := by omega
 have z1 : w.heap.size + 1 < W.heap.size := by omega
 go_region_law
  (first
    |((refine step_append_o el26 (by rfl) (.tmp 7) (.tmp 9) (by rfl) (w.heap.size + 1 + 1 + 1) _ 0 0 [] (by rfl) ?_ an names.length cn cs (by rfl) hl.out ?_ ho names.length (by omega) ?_ ?_ ?_)
      (focus (first | exact own_empty (Lb.drew (Lb.new' _ [] _ (by simp))) (by omega) | exact own_empty (Lb.drew (Lb.alloc (Lb.new' _ [] _ (by simp)) _)) (by omega)))
      (focus (exact HR.out.laid (by first | exact B3.drew hW | exact B3.drew (B3.alloc hW _) | exact B3.drew (B3.alloc (B3.alloc hW _) _) | exact hW | exact B3.alloc hW _ | exact B3.alloc (B3.alloc hW _) _ : Hd w ai ni ci wk x f a c a' c' _).below))
      (focus (omega))
      (focus (first | omega | (simp; omega)))
      (intro A1 cap1 w1 hown1 hgr1 hat1; simp only [List.nil_append] at hown1; have hd1 := B3.grown (by first | exact B3.drew hW | exact B3.drew (B3.alloc hW _) | exact B3.drew (B3.alloc (B3.alloc hW _) _) | exact hW | exact B3.alloc hW _ | exact B3.alloc (B3.alloc hW _) _ : Hd w ai ni ci wk x f a c a' c' _) hgr1 (fun a ha => by cases ha; simp; omega); have z3 := hd1.b2.lt; have l0 := hd1.b1.cell 0; have l1 := hd1.b1.cell 1; have l2 := hd1.b1.cell 2; have l3 := hd1.b1.cell 3; have l4 := hd1.b1.cell 4; have l5 := hd1.b1.cell 5; have l6 := hd1.b1.cell 6; simp only [vcells, List.getElem?_cons_succ, List.getElem?_cons_zero] at l0 l1 l2 l3 l4 l5 l6))
    |((refine step_append_o el26 (by rfl) (.tmp 10) (.tmp 14) (by rfl) (w.heap.size + 1 + 1 + 1) A1 names.length cap1 cs (by rfl) ?_ _ 1 1 (.string (str n) :: vcells x f a c a' c') (by rfl) (by rfl) ?_ ?_ (names.length + 1) (by omega) ?_ ?_ ?_)
      (focus (first | exact hown1 | exact hown1.alloc _ | exact (hown1.alloc _).drew))
      (focus (first | exact Laid.of_lb (Lb.new' _ _ _ (by simp)) | exact Laid.of_lb (Lb.drew (Lb.new' _ _ _ (by simp))) | exact Laid.of_lb (Lb.grown (Lb.drew (Lb.new' _ _ _ (by simp))) hgr1 (by simp)) | exact Laid.of_lb (Lb.grown (Lb.drew (Lb.alloc (Lb.new' _ _ _ (by simp)) _)) hgr1 (by simp))))
      (focus (exact ones_cons rfl (ones_v _ _ _ _ _ _)))
      (focus (omega))
      (focus (first | omega | (simp; omega)))
      (intro A2 cap2 w2 hown2 hgr2 hat2; have hd2 := B3.grown (by first | exact hd1 | exact B3.alloc hd1 _ | exact B3.drew hd1 | exact B3.drew (B3.alloc hd1 _) : Hd w ai ni ci wk x f a c a' c' _) hgr2 (by rintro b rfl; rcases hat1 with h | h <;> (cases h; first | omega | (simp; omega))); obtain ⟨v2, hv2⟩ := hd2.b0; have s0 := hv2.cell 0; have s1 := hv2.frozen 0; simp only [List.getElem?_cons_zero] at s0)))
 all_goals
  have L0 := hv2.set 0 (.slice A2 (names.length + 1) cap2);have L2 := hd2.b2.other ⟨w.heap.size, 0, none⟩ (.slice A2 (names.length + 1) cap2) (by simp; omega);have hB := Lib.hid (hd2.below.setCell (show w.heap.size ≤ (⟨w.heap.size, 0, none⟩ : Addr).block from Nat.le_refl _) (.slice A2 (names.length + 1) cap2));have hO := Lib.hid hown2;have q0 := L0.cell 0; have q1 := L0.cell 1; have q2 := L0.cell 2;have p0 := L2.cell 0; have p1 := L2.cell 1; have p2 := L2.cell 2; have p3 := L2.frozen;have y2 := L2.lt; have y0 := L0.lt;simp only [List.set_cons_zero, List.getElem?_cons_zero, List.getElem?_cons_succ] at q0 q1 q2 p0 p1 p2;clear hv2 hd2 hgr2 hd1 hgr1 hown1 hown2 s0 s1 L0 L2 r0 hat1 hat2;go_wp21;refine bodyPost_ret (v := .agg #[.slice A2 (names.length + 1) cap2, .slice ai ni ci, .pointer wk]) (by simp [results, Try.results68, go_sem, p0, p1, p2, p3, y2]; try rfl) rfl ?_;have hb := hB.out;refine ⟨A2, cap2, _, by simp, by go_grown, Row.other' (Row.ext (Row.of_own hO.out fun b h => h) (((((Ext.refl (· < w.heap.size + 1 + 1 + 1) w2.heap.size w2).setCell (.inl ?_) _).setCell (.inl ?_) _).setCell (.inl ?_) _).setCell (.inl ?_) _) (Nat.le_refl _)) (fun b h => by have := HK.out b h; omega), IsNs.snoc (HS.out.ext (.of ?_) (Nat.le_refl _)) (HX.out.ext (.of ?_) (Nat.le_refl _))⟩
  ·show w.heap.size < _; omega
  ·show w.heap.size + 1 + 1 < _; omega
  ·show w.heap.size + 1 + 1 < _; omega
  ·show w.heap.size + 1 + 1 < _; omega
  ·go_grown
  ·go_grown
end
end Go.Proofs.Ytafhhdimjkgihaa.Mn
