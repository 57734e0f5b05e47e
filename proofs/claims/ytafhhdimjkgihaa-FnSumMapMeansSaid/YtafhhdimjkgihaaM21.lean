/- What the program does, function by function, and what trees mean: part 21. -/
import Derived.Deep.Cut
import Derived.Test.YtafhhdimjkgihaaM07
set_option linter.unusedSimpArgs false
set_option linter.unusedVariables false
namespace Go.Proofs.Ytafhhdimjkgihaa.Mn
attribute [local go_sem ↓] Go.wp_at_zero Go.wp_at_succ
open Go.RowKit
theorem eqv_num {v u : Vl} {x y : Nat} (h : num v = some x) (g : num u = some y) : eqv v u = if v.kind = 1 ∧ u.kind = 1 then decide (v.int = u.int) else flt_eq x y := by
 cases v; rw [eqv, h, g]
theorem eqv_other {v u : Vl} (h : num v = none ∨ num u = none) : eqv v u = if v.kind ≠ u.kind ∨ v.items.length ≠ u.items.length ∨ v.keys.length ≠ u.keys.length then false
 else if v.kind = 3 then decide (v.text = u.text)
 else if v.kind = 4 then decide (v.bool = u.bool)
 else if v.kind = 5 then eqvs v.items u.items
 else if v.kind = 6 then eqvm v.items v.keys u
 else true := by
 cases v;rw [eqv];cases hv : num _ with
 |none => rfl
 |some x =>
  cases hu : num u with
  |none => rfl
  |some y => rcases h with h | h <;> simp_all
theorem num_kind {v : Vl} (h : (num v).isSome = true) : v.kind = 1 ∨ v.kind = 2 := by
 unfold num at h; split at h
 ·exact .inl ‹_›
 ·split at h
  ·exact .inr ‹_›
  ·cases h
theorem num_kind' {v : Vl} (h : (num v).isSome = false) : ¬ v.kind = 1 ∧ ¬ v.kind = 2 := by
 unfold num at h; split at h
 ·cases h
 ·split at h
  ·cases h
  ·exact ⟨‹_›, ‹_›⟩
theorem num_none {v : Vl} (h : (num v).isSome = false) : num v = none := by
 cases hn : num v <;> simp_all
def Eqd (wk : Nat) (left : Int) (over : Bool) (r : Bool) (w : World) (e : Ending) (w' : World) : Prop :=
 ∃ is left' over', e = .returned (.bool is) ∧ Ext (· = wk) w.heap.size w w' ∧ Work w' wk left' over' ∧ (over' = false → over = false ∧ left' ≤ left) ∧ (over' = false → is = r)
structure F2 (w0 : World) (wk : Nat) (l0 l1 : List Value) (t0 t1 : TypeId) (w : World) : Prop where
 ext : Ext (· = wk) w0.heap.size w0 w
 b0 : Lb w w0.heap.size l0 t0
 b1 : Lb w (w0.heap.size + 1) l1 t1
theorem F2.call {w0 w w1 : World} {wk : Nat} {l0 l1 : List Value} {t0 t1 : TypeId} (h : F2 w0 wk l0 l1 t0 t1 w) (e : Ext (· = wk) w.heap.size w w1) (hk : wk < w0.heap.size) : F2 w0 wk l0 l1 t0 t1 w1 :=
 have z := h.b1.lt
 ⟨h.ext.trans (e.mono h.ext.size), h.b0.ext e (by omega) (by omega), h.b1.ext e (by omega) (by omega)⟩
def EqOk (v : Vl) : Prop := ∀ (k : Nat → Prop) (wk : Nat) (left : Int) (over : Bool) (u : Vl) (f : Nat) (a : Option Addr) (c : Nat) (a' : Option Addr) (c' : Nat) (f2 : Nat) (a2 : Option Addr) (c2 : Nat) (a2' : Option Addr) (c2' : Nat) (w : World),
 k wk → Work w wk left over → IsV w k v (vcells v f a c a' c') → IsV w k u (vcells u f2 a2 c2 a2' c2') → Calls Try.prog 85 #[.pointer (some ⟨wk, 0, none⟩), va v f a c a' c', va u f2 a2 c2 a2' c2'] w (Eqd wk left over (eqv v u) w)
theorem EqOk.calls {v : Vl} (h : EqOk v) {k : Nat → Prop} {wk : Nat} {left : Int} {over : Bool} {u : Vl} {f : Nat} {a : Option Addr} {c : Nat} {a' : Option Addr} {c' : Nat} {f2 : Nat} {a2 : Option Addr} {c2 : Nat} {a2' : Option Addr} {c2' : Nat} {w : World}
 (hk : k wk) (hW : Work w wk left over) (hV : IsV w k v (vcells v f a c a' c')) (hU : IsV w k u (vcells u f2 a2 c2 a2' c2')) : Calls Try.prog 85 #[.pointer (some ⟨wk, 0, none⟩), va v f a c a' c', va u f2 a2 c2 a2' c2'] w (Eqd wk left over (eqv v u) w) := h k wk left over u f a c a' c' f2 a2 c2 a2' c2' w hk hW hV hU
structure Sq (w0 : World) (wk : Nat) (l0 l1 : List Value) (left : Int) (over : Bool) (bx : Nat) (lx : List Value) (w : World) : Prop where
 f : F2 w0 wk l0 l1 39 39 w
 x : Lb w bx lx 39
 work : ∃ left' over', Work w wk left' over' ∧ (over' = false → over = false ∧ left' ≤ left)
theorem Sq.drew {w0 : World} {wk : Nat} {l0 l1 : List Value} {left : Int} {over : Bool} {bx : Nat} {lx : List Value} {w : World} (h : Sq w0 wk l0 l1 left over bx lx w) : Sq w0 wk l0 l1 left over bx lx w.drew := ⟨⟨h.f.ext.drew, h.f.b0, h.f.b1⟩, h.x, h.work⟩
theorem Sq.equal {k : Nat → Prop} {w0 : World} {wk : Nat} {l0 l1 : List Value} {left : Int} {over : Bool} {bx : Nat} {lx : List Value} {w : World} (h : Sq w0 wk l0 l1 left over bx lx w) {x y : Vl} (hx : EqOk x) (hk : k wk) (zk : wk < w0.heap.size) (zx : bx ≠ wk)
 {f : Nat} {a : Option Addr} {c : Nat} {a' : Option Addr} {c' : Nat} {f2 : Nat} {a2 : Option Addr} {c2 : Nat} {a2' : Option Addr} {c2' : Nat} (hX : IsV w0 k x (vcells x f a c a' c')) (hY : IsV w0 k y (vcells y f2 a2 c2 a2' c2')) :
 Calls Try.prog 85 #[.pointer (some ⟨wk, 0, none⟩), va x f a c a' c', va y f2 a2 c2 a2' c2'] w fun e w2 => ∃ is left2 over2, e = .returned (.bool is) ∧ Work w2 wk left2 over2 ∧ (over2 = false → over = false ∧ left2 ≤ left) ∧ (over2 = false → is = eqv x y) ∧ F2 w0 wk l0 l1 39 39 w2 ∧ Sq w0 wk l0 l1 left over bx lx w2 := by
 obtain ⟨left', over', hw, hm⟩ := h.work;have e0 : Ext k w0.heap.size w0 w := h.f.ext.weak fun b hb => by rw [hb]; exact hk
 refine (hx.calls hk hw (hX.ext e0 (Nat.le_refl _)) (hY.ext e0 (Nat.le_refl _))).mono ?_;rintro e w2 ⟨is, left2, over2, he, hE, hW2, hm2, hr⟩;have hm3 := mono_trans hm hm2;exact ⟨is, left2, over2, he, hW2, hm3, hr, h.f.call hE zk, ⟨h.f.call hE zk, h.x.ext hE h.x.lt zx, left2, over2, hW2, hm3⟩⟩
structure Sm (w0 : World) (wk : Nat) (l0 l1 : List Value) (left : Int) (over : Bool) (bx : Nat) (lx : List Value) (wp w : World) : Prop where
 s : Sq w0 wk l0 l1 left over bx lx w
 p : Ext (· = wk) wp.heap.size wp w
theorem Sm.drew {w0 : World} {wk : Nat} {l0 l1 : List Value} {left : Int} {over : Bool} {bx : Nat} {lx : List Value} {wp w : World} (h : Sm w0 wk l0 l1 left over bx lx wp w) : Sm w0 wk l0 l1 left over bx lx wp w.drew := ⟨h.s.drew, h.p.drew⟩
theorem Sm.equal {k : Nat → Prop} {w0 : World} {wk : Nat} {l0 l1 : List Value} {left : Int} {over : Bool} {bx : Nat} {lx : List Value} {wp w : World} (h : Sm w0 wk l0 l1 left over bx lx wp w) {x y : Vl} (hx : EqOk x) (hk : k wk) (zk : wk < w0.heap.size) (zx : bx ≠ wk)
 {f : Nat} {a : Option Addr} {c : Nat} {a' : Option Addr} {c' : Nat} {f2 : Nat} {a2 : Option Addr} {c2 : Nat} {a2' : Option Addr} {c2' : Nat} (hX : IsV w0 k x (vcells x f a c a' c')) (hY : IsV wp k y (vcells y f2 a2 c2 a2' c2')) :
 Calls Try.prog 85 #[.pointer (some ⟨wk, 0, none⟩), va x f a c a' c', va y f2 a2 c2 a2' c2'] w fun e w2 => ∃ is left2 over2, e = .returned (.bool is) ∧ Work w2 wk left2 over2 ∧ (over2 = false → over = false ∧ left2 ≤ left) ∧ (over2 = false → is = eqv x y) ∧ F2 w0 wk l0 l1 39 39 w2 ∧ Sm w0 wk l0 l1 left over bx lx wp w2 := by
 obtain ⟨left', over', hw, hm⟩ := h.s.work;have e0 : Ext k w0.heap.size w0 w := h.s.f.ext.weak fun b hb => by rw [hb]; exact hk
 have e1 : Ext k wp.heap.size wp w := h.p.weak fun b hb => by rw [hb]; exact hk
 refine (hx.calls hk hw (hX.ext e0 (Nat.le_refl _)) (hY.ext e1 (Nat.le_refl _))).mono ?_;rintro e w2 ⟨is, left2, over2, he, hE, hW2, hm2, hr⟩;have hm3 := mono_trans hm hm2;exact ⟨is, left2, over2, he, hW2, hm3, hr, h.s.f.call hE zk, ⟨⟨h.s.f.call hE zk, h.s.x.ext hE h.s.x.lt zx, left2, over2, hW2, hm3⟩, h.p.trans (hE.mono h.p.size)⟩⟩
theorem eqvm_cons (a : Vl) (l : List Vl) (key : Nm) (ks : List Nm) (u : Vl) : eqvm (a :: l) (key :: ks) u = ((match at_ u.keys u.items key with
 |some y => eqv a y
 |none => false) && eqvm l ks u) := by rw [eqvm]; rfl
theorem eqvm_nil (ks : List Nm) (u : Vl) : eqvm [] ks u = true := by cases ks <;> rw [eqvm] <;> simp
theorem eqvm_some {a : Vl} {l : List Vl} {key : Nm} {ks : List Nm} {u x : Vl} (h : (at_ u.keys u.items key).getD {} = x) (h2 : (at_ u.keys u.items key).isSome = true) : eqvm (a :: l) (key :: ks) u = (eqv a x && eqvm l ks u) := by
 rw [eqvm_cons];cases hh : at_ u.keys u.items key with
 |none => rw [hh] at h2; cases h2
 |some y => rw [hh] at h; simp only [Option.getD_some] at h; rw [h]
theorem eqvm_none {a : Vl} {l : List Vl} {key : Nm} {ks : List Nm} {u : Vl} (h2 : (at_ u.keys u.items key).isSome = false) : eqvm (a :: l) (key :: ks) u = false := by
 rw [eqvm_cons];cases hh : at_ u.keys u.items key with
 |none => rfl
 |some y => rw [hh] at h2; cases h2
theorem C7.ext {k : Nat → Prop} {B : Nat} {w w' : World} {b o : Nat} {t : Vl} {f : Nat} {a : Option Addr} {c : Nat} {a' : Option Addr} {c' : Nat} (h : C7 w b o t f a c a' c') (e : Ext k B w w') (hb : b < B) (hk : ¬ k b) : C7 w' b o t f a c a' c' := by
 have E : ∀ o, w'.cell? ⟨b, o, none⟩ = w.cell? ⟨b, o, none⟩ := fun o => World.cell?_of_block (w := w) (a := ⟨b, o, none⟩) (e.block b hb hk);exact ⟨(E _).trans h.c0, (E _).trans h.c1, (E _).trans h.c2, (E _).trans h.c3, (E _).trans h.c4, (E _).trans h.c5, (E _).trans h.c6⟩
theorem IsVs.ne {w : World} {k : Nat → Prop} {l : List Vl} {cs : List Value} (h : IsVs w k l cs) {q : Nat} (hq : q < l.length) : cs ≠ [] := by
 intro h0;have := h.length;rw [h0] at this;simp at this; omega
theorem eqvs_cons (x y : Vl) (l m : List Vl) : eqvs (x :: l) (y :: m) = (eqv x y && eqvs l m) := by rw [eqvs]
theorem eqvs_nil (m : List Vl) : eqvs [] m = true := by rw [eqvs]
set_option maxHeartbeats 6400000 in
set_option maxRecDepth 100000 in
theorem equal_step (v : Vl) (ih : ∀ x ∈ v.items, EqOk x) (k : Nat → Prop) (wk : Nat) (left : Int) (over : Bool) (u : Vl) (f : Nat) (a : Option Addr) (c : Nat) (a' : Option Addr) (c' : Nat) (f2 : Nat) (a2 : Option Addr) (c2 : Nat) (a2' : Option Addr) (c2' : Nat) (w : World)
 (hkw : k wk) (hW : Work w wk left over) (hV : IsV w k v (vcells v f a c a' c')) (hU : IsV w k u (vcells u f2 a2 c2 a2' c2')) :
 Calls Try.prog 85 #[.pointer (some ⟨wk, 0, none⟩), va v f a c a' c', va u f2 a2 c2 a2' c2'] w (Eqd wk left over (eqv v u) w) := by
 obtain ⟨hf, _, _, hn, hn', ht, _, _, _⟩ := hV.inv;obtain ⟨hf2, _, _, hm, hm', ht2, _, _, _⟩ := hU.inv;obtain ⟨p, hp⟩ : ∃ p, (num v).isSome = p := ⟨_, rfl⟩;obtain ⟨q, hq⟩ : ∃ q, (num u).isSome = q := ⟨_, rfl⟩;have N1 := Lib.hid (fun w => number_p v p hp f a c a' c' w hf);have N2 := Lib.hid (fun w => number_p u q hq f2 a2 c2 a2' c2' w hf2);have PQ := Lib.hid (And.intro hp hq);have zk : wk < w.heap.size := hW.lt;have HW := Lib.hid hW; have HVV := Lib.hid hV; have HUU := Lib.hid hU; have IH := Lib.hid ih; have HKW := Lib.hid hkw;clear hp hq hf hf2 hV hU hW ih hkw;unfold most at *;go_enter Try.func85, Try.ntmps85
 go_wp2_with fail
 go_at_call 58;apply Calls.mono
 ·exact step_any wk left _ over _ ((HW.out.alloc _).alloc _) (by omega)
 rintro e w1 ⟨left1, over1, rfl, hE1, hW1, hm1⟩;have F1 : F2 w wk (vcells v f a c a' c') (vcells u f2 a2 c2 a2' c2') 39 39 w1 := ⟨(Ext.of (by go_grown)).trans (hE1.mono (by simp; omega)), ((Lb.new _ _ _).alloc _).ext hE1 (by simp; omega) (by omega), (Lb.new' _ _ _ (by simp)).ext hE1 (by simp) (by omega)⟩;have M1 := Lib.hid (show over1 = false → over = false ∧ left1 ≤ left from fun h => by have := hm1 h; exact ⟨this.1, by omega⟩);have HF := Lib.hid F1; have HW1 := Lib.hid hW1;clear hE1 hW1 hm1;cases over1 with
 |true =>
  clear F1;go_wp21;go_ret;exact ⟨false, left1, true, rfl, HF.out.ext, HW1.out, M1.out, fun h => by cases h⟩
 |false =>
  have M2 := Lib.hid (M1.out rfl);clear M1;have c0 := F1.b0.cell; have c1 := F1.b1.cell; have y1 := F1.b1.lt;have y0 : w.heap.size < w1.heap.size := by omega
  unfold vcells at c0 c1;clear F1
  go_wp2_with fail
  go_at_call 91;apply Calls.mono
  ·with_reducible exact N1.out _
  rintro e w2 ⟨g1, rfl, k1, hb2⟩;have F := HF.out.call (.of hb2) zk;have HF2 := Lib.hid F;have K1 := Lib.hid (And.intro k1 (show Work w2 wk left1 false from HW1.out.below hb2 (by omega)));replace c0 := F.b0.cell; replace c1 := F.b1.cell; replace y1 := F.b1.lt; replace y0 : w.heap.size < w2.heap.size := by omega
  unfold vcells at c0 c1;clear k1 hb2 F
  go_wp2_with fail
  go_at_call 91;apply Calls.mono
  ·with_reducible exact N2.out _
  rintro e w3 ⟨g2, rfl, k2, hb3⟩;have F := HF2.out.call (.of hb3) zk;have HF3 := Lib.hid F;have K2 := Lib.hid (And.intro k2 (show Work w3 wk left1 false from K1.out.2.below hb3 (by omega)));replace c0 := F.b0.cell; replace c1 := F.b1.cell; replace y1 := F.b1.lt; replace y0 : w.heap.size < w3.heap.size := by omega
  unfold vcells at c0 c1;clear k2 hb3 F N1 N2;cases p with
  |true =>
   cases q with
   |true =>
    obtain ⟨xv, hxv⟩ := Option.isSome_iff_exists.1 PQ.out.1;obtain ⟨xu, hxu⟩ := Option.isSome_iff_exists.1 PQ.out.2;have E := Lib.hid (eqv_num hxv hxu);have KK := Lib.hid (And.intro (K1.out.1 xv hxv) (K2.out.1 xu hxu));clear hxv hxu
    by_cases h1 : v.kind = 1
    ·have b1 : (v.kind == 1) = true := eq_bool h1
     by_cases h2 : u.kind = 1
     ·have b2 : (u.kind == 1) = true := eq_bool h2;have E2 := Lib.hid (E.out.trans (if_pos ⟨h1, h2⟩));clear h1 h2
      go_wp2_with fail
      go_ret;refine ⟨_, left1, false, rfl, HF3.out.ext, K2.out.2, fun _ => M2.out, fun _ => ?_⟩;rw [E2.out];rw [Bool.eq_iff_iff]; simp
     ·have b2 : (u.kind == 1) = false := ne_of_bool h2;have E2 := Lib.hid (E.out.trans (if_neg fun h => h2 h.2));clear h1 h2
      go_wp2_with fail
      go_ret;refine ⟨_, left1, false, rfl, HF3.out.ext, K2.out.2, fun _ => M2.out, fun _ => ?_⟩;rw [E2.out, flt_eq, ← KK.out.1, ← KK.out.2, order_cn];rfl
    ·have b1 : (v.kind == 1) = false := ne_of_bool h1;have E2 := Lib.hid (E.out.trans (if_neg fun h => h1 h.1));clear h1
     go_wp2_with fail
     go_ret;refine ⟨_, left1, false, rfl, HF3.out.ext, K2.out.2, fun _ => M2.out, fun _ => ?_⟩;rw [E2.out, flt_eq, ← KK.out.1, ← KK.out.2, order_cn];rfl
   |false =>
    have hne : ¬ v.kind = u.kind := fun h => by
     have h1 := num_kind PQ.out.1; have h2 := num_kind' PQ.out.2; omega
    have E := Lib.hid (show eqv v u = false by rw [eqv_other (.inr (num_none PQ.out.2)), if_pos (.inl hne)]);have b1 : (v.kind != u.kind) = true := (by simpa using hne);clear hne
    go_wp2_with fail
    go_ret;exact ⟨_, left1, false, rfl, HF3.out.ext, K2.out.2, fun _ => M2.out, fun _ => E.out.symm⟩
  |false =>
   cases q with
   |true =>
    have hne : ¬ v.kind = u.kind := fun h => by
     have h1 := num_kind PQ.out.2; have h2 := num_kind' PQ.out.1; omega
    have E := Lib.hid (show eqv v u = false by rw [eqv_other (.inl (num_none PQ.out.1)), if_pos (.inl hne)]);have b1 : (v.kind != u.kind) = true := (by simpa using hne);clear hne
    go_wp2_with fail
    go_ret;exact ⟨_, left1, false, rfl, HF3.out.ext, K2.out.2, fun _ => M2.out, fun _ => E.out.symm⟩
   |false =>
    have E := Lib.hid (eqv_other (u := u) (.inl (num_none PQ.out.1)))
    by_cases h1 : v.kind = u.kind
    ·have b1 : (v.kind != u.kind) = false := by simpa using h1
     by_cases h2 : v.items.length = u.items.length
     ·have b2 : ((v.items.length : Int) != (u.items.length : Int)) = false := by simp [h2]
      by_cases h3 : v.keys.length = u.keys.length
      ·have b3 : ((v.keys.length : Int) != (u.keys.length : Int)) = false := (by simp [h3]);have E2 := Lib.hid (E.out.trans (if_neg (by rintro (h | h | h); exact h h1; exact h h2; exact h h3)));have H123 := Lib.hid (And.intro h1 (And.intro h2 h3));clear h1 h2 h3 E
       by_cases k3 : v.kind = 3
       ·have e3 : (v.kind == 3) = true := eq_bool k3;have E3 := Lib.hid (E2.out.trans (if_pos k3));clear k3
        go_wp2_with fail
        go_ret;refine ⟨_, left1, false, rfl, HF3.out.ext, K2.out.2, fun _ => M2.out, fun _ => ?_⟩;rw [E3.out, Bool.eq_iff_iff]; simp
       ·have e3 : (v.kind == 3) = false := ne_of_bool k3;have E3 := Lib.hid (E2.out.trans (if_neg k3));clear k3 E2
        by_cases k4 : v.kind = 4
        ·have e4 : (v.kind == 4) = true := eq_bool k4;have E4 := Lib.hid (E3.out.trans (if_pos k4));clear k4
         go_wp2_with fail
         go_ret;refine ⟨_, left1, false, rfl, HF3.out.ext, K2.out.2, fun _ => M2.out, fun _ => ?_⟩;rw [E4.out, Bool.eq_iff_iff]; simp
        ·have e4 : (v.kind == 4) = false := ne_of_bool k4;have E4 := Lib.hid (E3.out.trans (if_neg k4));clear k4 E3
         by_cases k5 : v.kind = 5
         ·have e5 : (v.kind == 5) = true := eq_bool k5;have E5 := Lib.hid (E4.out.trans (if_pos k5));clear k5
          go_wp2_with fail
          have HL := Lib.hid (show (v.items.length = u.items.length) from H123.out.2.1)
          go_loopg [99] v.items.length (fun g i wr => ∃ q : Nat, i = .int .i64 q ∧ q + g = v.items.length ∧ ∃ left' over', F2 w wk (vcells v f a c a' c') (vcells u f2 a2 c2 a2' c2') 39 39 wr ∧ Work wr wk left' over' ∧ (over' = false → left' ≤ left1) ∧ (over' = false → eqvs v.items u.items = eqvs (v.items.drop q) (u.items.drop q)))
          case atStart => exact ⟨0, rfl, by omega, left1, false, HF3.out, K2.out.2, fun _ => Int.le_refl _, fun _ => rfl⟩
          case round =>
           clear c0 c1 y0 y1;obtain ⟨q, rfl, hq, lr, ovr, hF, hWr, hmr, hDr⟩ := hrel;have z1 := hF.b1.lt;have z0 : w.heap.size < wr.heap.size := by omega
           by_cases hlt : 0 < gk
           ·obtain ⟨g, rfl⟩ : ∃ g, gk = g + 1 := ⟨gk - 1, by omega⟩;have hql : q < v.items.length := (by omega);have hqu : q < u.items.length := (by rw [← HL.out]; exact hql);obtain ⟨x, hx⟩ : ∃ x, v.items[q]? = some x := ⟨v.items[q], by simp⟩;obtain ⟨y, hy⟩ : ∃ y, u.items[q]? = some y := ⟨u.items[q], by simp⟩;obtain ⟨_, _, _, _, _, _, _, ⟨its, hri, hsi⟩, _⟩ := HVV.out.inv;obtain ⟨_, _, _, _, _, _, _, ⟨its', hri', hsi'⟩, _⟩ := HUU.out.inv;obtain ⟨b, o, rfl⟩ := hri.some_of (hsi.ne hql);obtain ⟨b', o', rfl⟩ := hri'.some_of (hsi'.ne hqu);obtain ⟨hkb, hbs, f3, a3, c3, a4, c4, hX, h7⟩ := IsVs.cells hri hsi hx;obtain ⟨hkb', hbs', f5, a5, c5, a6, c6, hY, h7'⟩ := IsVs.cells hri' hsi' hy;have xc : ∀ w', Ext (· = wk) w.heap.size w w' → C7 w' b (o + q * 7) x f3 a3 c3 a4 c4 := fun w' e => h7.ext e hbs fun h => hkb (by rw [h]; exact HKW.out);have d0 := (xc wr hF.ext).c0; have d1 := (xc wr hF.ext).c1; have d2 := (xc wr hF.ext).c2; have d3 := (xc wr hF.ext).c3; have d4 := (xc wr hF.ext).c4; have d5 := (xc wr hF.ext).c5; have d6 := (xc wr hF.ext).c6
            have yc : ∀ w', Sq w wk (vcells v f (some ⟨b, o, none⟩) c a' c') (vcells u f2 (some ⟨b', o', none⟩) c2 a2' c2') lr ovr wr.heap.size (vcells x f3 a3 c3 a4 c4) w' → C7 w' b' (o' + q * 7) y f5 a5 c5 a6 c6 := fun w' h => h7'.ext h.f.ext hbs' fun h => hkb' (by rw [h]; exact HKW.out);have KEEP := Lib.hid (show ∀ w', Sq w wk (vcells v f (some ⟨b, o, none⟩) c a' c') (vcells u f2 (some ⟨b', o', none⟩) c2 a2' c2') lr ovr wr.heap.size (vcells x f3 a3 c3 a4 c4) w' → Sq w wk (vcells v f (some ⟨b, o, none⟩) c a' c') (vcells u f2 (some ⟨b', o', none⟩) c2 a2' c2') lr ovr wr.heap.size (vcells x f3 a3 c3 a4 c4) w' ∧ w'.cell? ⟨w.heap.size + 1, 5, none⟩ = some (.slice (some ⟨b', o', none⟩) u.items.length c2) ∧ w'.cell? ⟨wr.heap.size, 0, none⟩ = some (.int .i64 x.kind) ∧ w'.cell? ⟨wr.heap.size, 1, none⟩ = some (.int .i64 x.int) ∧ w'.cell? ⟨wr.heap.size, 2, none⟩ = some (.float .f64 f3) ∧ w'.cell? ⟨wr.heap.size, 3, none⟩ = some (.string (str x.text)) ∧ w'.cell? ⟨wr.heap.size, 4, none⟩ = some (.bool x.bool) ∧ w'.cell? ⟨wr.heap.size, 5, none⟩ = some (.slice a3 x.items.length c3) ∧ w'.cell? ⟨wr.heap.size, 6, none⟩ = some (.slice a4 x.keys.length c4) ∧ w'.cell? ⟨b', o' + q * 7, none⟩ = some (.int .i64 y.kind) ∧ w'.cell? ⟨b', o' + q * 7 + 1, none⟩ = some (.int .i64 y.int) ∧ w'.cell? ⟨b', o' + q * 7 + 2, none⟩ = some (.float .f64 f5) ∧ w'.cell? ⟨b', o' + q * 7 + 3, none⟩ = some (.string (str y.text)) ∧ w'.cell? ⟨b', o' + q * 7 + 4, none⟩ = some (.bool y.bool) ∧ w'.cell? ⟨b', o' + q * 7 + 5, none⟩ = some (.slice a5 y.items.length c5) ∧ w'.cell? ⟨b', o' + q * 7 + 6, none⟩ = some (.slice a6 y.keys.length c6) from fun w' h => ⟨h, h.f.b1.cell 5, h.x.cell 0, h.x.cell 1, h.x.cell 2, h.x.cell 3, h.x.cell 4, h.x.cell 5, h.x.cell 6, (yc w' h).c0, (yc w' h).c1, (yc w' h).c2, (yc w' h).c3, (yc w' h).c4, (yc w' h).c5, (yc w' h).c6⟩)
            have hbr : b < wr.heap.size := (by omega);have HT := Lib.hid (And.intro (drop_cons _ _ _ hx) (drop_cons _ _ _ hy));have HXY := Lib.hid (And.intro hX hY);have HM := Lib.hid (And.intro hmr hDr);have IHx := Lib.hid (IH.out x (List.mem_of_getElem? hx));have HFr := Lib.hid (And.intro hF hWr);have zu0 : (0 : Int) ≤ (q : Int) := (by omega);have zu1 : (q : Int) < (u.items.length : Int) := (by omega);clear hF hWr hmr hDr hx hy hX hY h7 h7' xc yc hri hsi hri' hsi'
            go_upto_region 20 with (fail)
            refine forget (fun w' => Sq w wk (vcells v f (some ⟨b, o, none⟩) c a' c') (vcells u f2 (some ⟨b', o', none⟩) c2 a2' c2') lr ovr wr.heap.size (vcells x f3 a3 c3 a4 c4) w') ?_ ?_
            ·have F := HFr.out.1;exact ⟨⟨F.ext.alloc F.ext.size _, F.b0.alloc _, F.b1.alloc _⟩, Lb.new _ _ _, lr, ovr, HFr.out.2.alloc _, mono_refl⟩
            intro W hW;have y1 := hW.f.b1.lt;have y0 : w.heap.size < W.heap.size := (by omega);have yx := hW.x.lt;clear d0 d1 d2 d3 d4 d5 d6
            go_region_held3 (fun w' => Sq w wk (vcells v f (some ⟨b, o, none⟩) c a' c') (vcells u f2 (some ⟨b', o', none⟩) c2 a2' c2') lr ovr wr.heap.size (vcells x f3 a3 c3 a4 c4) w' ∧ w'.cell? ⟨w.heap.size + 1, 5, none⟩ = some (.slice (some ⟨b', o', none⟩) u.items.length c2) ∧ w'.cell? ⟨wr.heap.size, 0, none⟩ = some (.int .i64 x.kind) ∧ w'.cell? ⟨wr.heap.size, 1, none⟩ = some (.int .i64 x.int) ∧ w'.cell? ⟨wr.heap.size, 2, none⟩ = some (.float .f64 f3) ∧ w'.cell? ⟨wr.heap.size, 3, none⟩ = some (.string (str x.text)) ∧ w'.cell? ⟨wr.heap.size, 4, none⟩ = some (.bool x.bool) ∧ w'.cell? ⟨wr.heap.size, 5, none⟩ = some (.slice a3 x.items.length c3) ∧ w'.cell? ⟨wr.heap.size, 6, none⟩ = some (.slice a4 x.keys.length c4) ∧ w'.cell? ⟨b', o' + q * 7, none⟩ = some (.int .i64 y.kind) ∧ w'.cell? ⟨b', o' + q * 7 + 1, none⟩ = some (.int .i64 y.int) ∧ w'.cell? ⟨b', o' + q * 7 + 2, none⟩ = some (.float .f64 f5) ∧ w'.cell? ⟨b', o' + q * 7 + 3, none⟩ = some (.string (str y.text)) ∧ w'.cell? ⟨b', o' + q * 7 + 4, none⟩ = some (.bool y.bool) ∧ w'.cell? ⟨b', o' + q * 7 + 5, none⟩ = some (.slice a5 y.items.length c5) ∧ w'.cell? ⟨b', o' + q * 7 + 6, none⟩ = some (.slice a6 y.keys.length c6))
             (first | with_reducible exact KEEP.out _ (Sq.drew hW) | with_reducible exact KEEP.out _ hsq)
             (first | (go_at_call 85; apply Calls.mono; (focus (with_reducible exact Sq.equal (And.left ‹Sq _ _ _ _ _ _ _ _ _ ∧ _›) IHx.out HKW.out zk (by omega) HXY.out.1 HXY.out.2)); rintro e w5 ⟨is, left5, over5, rfl, hW5, hm5, hr5, hF5, hsq⟩))
            cases is with
            |true =>
             go_wp21
             go_roundg g
             case measure => omega
             case rel =>
              refine ⟨q + 1, by go_num, by omega, left5, over5, hF5, hW5, fun ho => ?_, fun ho => ?_⟩
              ·have h1 := hm5 ho; have h2 := HM.out.1 h1.1; omega
              ·rw [HM.out.2 (hm5 ho).1, HT.out.1, HT.out.2, eqvs_cons, ← hr5 ho, Bool.true_and]
            |false =>
             go_wp21;go_ret;refine ⟨false, left5, over5, rfl, hF5.ext, hW5, fun ho => ?_, fun ho => ?_⟩
             ·have h1 := hm5 ho; have h2 := HM.out.1 h1.1; have h3 := M2.out; exact ⟨h3.1, by omega⟩
             ·rw [E5.out, HM.out.2 (hm5 ho).1, HT.out.1, HT.out.2, eqvs_cons, ← hr5 ho, Bool.false_and]
           ·obtain rfl : gk = 0 := (by omega);obtain rfl : q = v.items.length := (by omega);have HH := Lib.hid (And.intro hF (And.intro hWr (And.intro hmr hDr)));clear hF hWr hmr hDr;go_wp21;go_ret;obtain ⟨hF, hWr, hmr, hDr⟩ := HH.out;refine ⟨true, lr, ovr, rfl, hF.ext, hWr, fun ho => ⟨M2.out.1, by have h1 := hmr ho; have h2 := M2.out.2; omega⟩, fun ho => ?_⟩;rw [E5.out, hDr ho, List.drop_length, eqvs_nil]
         ·have e5 : (v.kind == 5) = false := ne_of_bool k5;have E5 := Lib.hid (E4.out.trans (if_neg k5));clear k5 E4
          by_cases k6 : v.kind = 6
          ·have e6 : (v.kind == 6) = true := eq_bool k6;have E6 := Lib.hid (E5.out.trans (if_pos k6));have HL := Lib.hid (show (v.kind = 6) from k6);have HL6 := Lib.hid (And.intro (HVV.out.inv.2.2.2.2.2.2.1 k6) (HUU.out.inv.2.2.2.2.2.2.1 (H123.out.1.symm.trans k6)));clear k6
           go_wp2_with fail
           go_loopg [119] v.keys.length (fun g i wr => ∃ q : Nat, i = .int .i64 q ∧ q + g = v.keys.length ∧ ∃ left' over', F2 w wk (vcells v f a c a' c') (vcells u f2 a2 c2 a2' c2') 39 39 wr ∧ Work wr wk left' over' ∧ (over' = false → left' ≤ left1) ∧ (over' = false → eqvm v.items v.keys u = eqvm (v.items.drop q) (v.keys.drop q) u))
           case atStart => exact ⟨0, rfl, by omega, left1, false, HF3.out, K2.out.2, fun _ => Int.le_refl _, fun _ => rfl⟩
           case round =>
            clear c0 c1 y0 y1;obtain ⟨q, rfl, hq, lr, ovr, hF, hWr, hmr, hDr⟩ := hrel;have z1 := hF.b1.lt;have z0 : w.heap.size < wr.heap.size := by omega
            by_cases hlt : 0 < gk
            ·obtain ⟨g, rfl⟩ : ∃ g, gk = g + 1 := ⟨gk - 1, by omega⟩;have hql : q < v.keys.length := (by omega);have hqi : q < v.items.length := (by rw [← HL6.out.1]; exact hql);obtain ⟨x, hx⟩ : ∃ x, v.items[q]? = some x := ⟨v.items[q], by simp⟩;obtain ⟨key, hy⟩ : ∃ y, v.keys[q]? = some y := ⟨v.keys[q], by simp⟩;obtain ⟨_, _, _, _, _, _, _, ⟨its, hri, hsi⟩, hrk⟩ := HVV.out.inv;obtain ⟨b, o, rfl⟩ := hri.some_of (hsi.ne hqi);obtain ⟨b', o', rfl⟩ := hrk.some_of (fun h => by have := congrArg List.length h; simp [kcells] at this; rw [this] at hql; simp at hql);obtain ⟨hkb, hbs, f3, a3, c3, a4, c4, hX, h7⟩ := IsVs.cells hri hsi hx;obtain ⟨hkb', hbs', hkey⟩ := Row.keys hrk hy;have XC := Lib.hid (show ∀ w', Ext (· = wk) w.heap.size w w' → C7 w' b (o + q * 7) x f3 a3 c3 a4 c4 from fun w' e => h7.ext e hbs fun h => hkb (by rw [h]; exact HKW.out));have dk : wr.cell? ⟨b', o' + q, none⟩ = some (.string (str key)) := (World.cell?_of_block (w := w) (a := ⟨b', o' + q, none⟩) (hF.ext.block b' hbs' (fun h => hkb' (by rw [h]; exact HKW.out)))).trans hkey
             have hbr : b < wr.heap.size := (by omega);have hbr' : b' < wr.heap.size := (by omega);have HT := Lib.hid (And.intro (drop_cons _ _ _ hx) (drop_cons _ _ _ hy));have HX := Lib.hid hX;have HM := Lib.hid (And.intro hmr hDr);have IHx := Lib.hid (IH.out x (List.mem_of_getElem? hx));have HFr := Lib.hid (And.intro hF hWr);obtain ⟨y, hyv⟩ : ∃ y, (at_ u.keys u.items key).getD {} = y := ⟨_, rfl⟩;obtain ⟨ok, hok⟩ : ∃ ok, (at_ u.keys u.items key).isSome = ok := ⟨_, rfl⟩;have A := Lib.hid (at_g k u f2 a2 c2 a2' c2' key wr (HUU.out.ext (hF.ext.weak fun b hb => by rw [hb]; exact HKW.out) (Nat.le_refl _)) HL6.out.2 y ok hyv hok);have HY := Lib.hid (And.intro hyv hok);have zi0 : (0 : Int) ≤ (q : Int) := (by omega);have zi1 : (q : Int) < (v.items.length : Int) := (by omega);have c1 := hF.b1.cell;clear hF hWr hmr hDr hx hy hX h7 hri hsi hrk hkey hyv hok;unfold vcells at c1
             go_wp2_with fail
             go_at_call 52;apply Calls.mono
             ·with_reducible exact A.out
             rintro e w5 ⟨f5, a5, c5, a6, c6, rfl, hb5, hV5⟩;have F5 := HFr.out.1.call (.of hb5) zk;have HF5 := Lib.hid F5; have HV5 := Lib.hid hV5;have HW5 := Lib.hid (HFr.out.2.below hb5 (by omega));have z5 := F5.b1.lt;have z50 : w.heap.size < w5.heap.size := (by omega);clear F5 hV5 hb5 A c1 dk;cases ok with
             |false =>
              go_upto_region 28 with (fail)
              go_quiet (fail)
              go_wp21;go_ret;refine ⟨false, lr, ovr, rfl, ?_, ?_, fun ho => ⟨M2.out.1, by have h1 := HM.out.1 ho; have h2 := M2.out.2; omega⟩, fun ho => ?_⟩
              ·exact ((HF5.out.ext.alloc HF5.out.ext.size _).drewN _)
              ·exact HW5.out.alloc _
              ·rw [E6.out, HM.out.2 ho, HT.out.1, HT.out.2, eqvm_none HY.out.2]
             |true =>
              go_upto_region 28 with (fail)
              refine forget (fun w' => Sq w wk (vcells v f (some ⟨b, o, none⟩) c (some ⟨b', o', none⟩) c') (vcells u f2 a2 c2 a2' c2') lr ovr w5.heap.size (vcells y f5 a5 c5 a6 c6) w' ∧ IsV w' k y (vcells y f5 a5 c5 a6 c6)) ?_ ?_
              ·exact ⟨⟨⟨HF5.out.ext.alloc HF5.out.ext.size _, HF5.out.b0.alloc _, HF5.out.b1.alloc _⟩, Lb.new _ _ _, lr, ovr, HW5.out.alloc _, mono_refl⟩, HV5.out.ext ((Ext.refl _ _ _).alloc (Nat.le_refl _) _) (Nat.le_refl _)⟩
              intro W hW;have hS : Sm w wk (vcells v f (some ⟨b, o, none⟩) c (some ⟨b', o', none⟩) c') (vcells u f2 a2 c2 a2' c2') lr ovr w5.heap.size (vcells y f5 a5 c5 a6 c6) W W := ⟨hW.1, Ext.refl _ _ _⟩;have HYV := Lib.hid hW.2;have KEEP := Lib.hid (show ∀ w', Sm w wk (vcells v f (some ⟨b, o, none⟩) c (some ⟨b', o', none⟩) c') (vcells u f2 a2 c2 a2' c2') lr ovr w5.heap.size (vcells y f5 a5 c5 a6 c6) W w' → Sm w wk (vcells v f (some ⟨b, o, none⟩) c (some ⟨b', o', none⟩) c') (vcells u f2 a2 c2 a2' c2') lr ovr w5.heap.size (vcells y f5 a5 c5 a6 c6) W w' ∧ w'.cell? ⟨w.heap.size, 5, none⟩ = some (.slice (some ⟨b, o, none⟩) v.items.length c) ∧ w'.cell? ⟨w5.heap.size, 0, none⟩ = some (.int .i64 y.kind) ∧ w'.cell? ⟨w5.heap.size, 1, none⟩ = some (.int .i64 y.int) ∧ w'.cell? ⟨w5.heap.size, 2, none⟩ = some (.float .f64 f5) ∧ w'.cell? ⟨w5.heap.size, 3, none⟩ = some (.string (str y.text)) ∧ w'.cell? ⟨w5.heap.size, 4, none⟩ = some (.bool y.bool) ∧ w'.cell? ⟨w5.heap.size, 5, none⟩ = some (.slice a5 y.items.length c5) ∧ w'.cell? ⟨w5.heap.size, 6, none⟩ = some (.slice a6 y.keys.length c6) ∧ w'.cell? ⟨b, o + q * 7, none⟩ = some (.int .i64 x.kind) ∧ w'.cell? ⟨b, o + q * 7 + 1, none⟩ = some (.int .i64 x.int) ∧ w'.cell? ⟨b, o + q * 7 + 2, none⟩ = some (.float .f64 f3) ∧ w'.cell? ⟨b, o + q * 7 + 3, none⟩ = some (.string (str x.text)) ∧ w'.cell? ⟨b, o + q * 7 + 4, none⟩ = some (.bool x.bool) ∧ w'.cell? ⟨b, o + q * 7 + 5, none⟩ = some (.slice a3 x.items.length c3) ∧ w'.cell? ⟨b, o + q * 7 + 6, none⟩ = some (.slice a4 x.keys.length c4) from fun w' h => ⟨h, h.s.f.b0.cell 5, h.s.x.cell 0, h.s.x.cell 1, h.s.x.cell 2, h.s.x.cell 3, h.s.x.cell 4, h.s.x.cell 5, h.s.x.cell 6, (XC.out w' h.s.f.ext).c0, (XC.out w' h.s.f.ext).c1, (XC.out w' h.s.f.ext).c2, (XC.out w' h.s.f.ext).c3, (XC.out w' h.s.f.ext).c4, (XC.out w' h.s.f.ext).c5, (XC.out w' h.s.f.ext).c6⟩)
              have y1 := hS.s.f.b1.lt;have y0 : w.heap.size < W.heap.size := (by omega);have yx := hS.s.x.lt;clear hW
              go_region_held3 (fun w' => Sm w wk (vcells v f (some ⟨b, o, none⟩) c (some ⟨b', o', none⟩) c') (vcells u f2 a2 c2 a2' c2') lr ovr w5.heap.size (vcells y f5 a5 c5 a6 c6) W w' ∧ w'.cell? ⟨w.heap.size, 5, none⟩ = some (.slice (some ⟨b, o, none⟩) v.items.length c) ∧ w'.cell? ⟨w5.heap.size, 0, none⟩ = some (.int .i64 y.kind) ∧ w'.cell? ⟨w5.heap.size, 1, none⟩ = some (.int .i64 y.int) ∧ w'.cell? ⟨w5.heap.size, 2, none⟩ = some (.float .f64 f5) ∧ w'.cell? ⟨w5.heap.size, 3, none⟩ = some (.string (str y.text)) ∧ w'.cell? ⟨w5.heap.size, 4, none⟩ = some (.bool y.bool) ∧ w'.cell? ⟨w5.heap.size, 5, none⟩ = some (.slice a5 y.items.length c5) ∧ w'.cell? ⟨w5.heap.size, 6, none⟩ = some (.slice a6 y.keys.length c6) ∧ w'.cell? ⟨b, o + q * 7, none⟩ = some (.int .i64 x.kind) ∧ w'.cell? ⟨b, o + q * 7 + 1, none⟩ = some (.int .i64 x.int) ∧ w'.cell? ⟨b, o + q * 7 + 2, none⟩ = some (.float .f64 f3) ∧ w'.cell? ⟨b, o + q * 7 + 3, none⟩ = some (.string (str x.text)) ∧ w'.cell? ⟨b, o + q * 7 + 4, none⟩ = some (.bool x.bool) ∧ w'.cell? ⟨b, o + q * 7 + 5, none⟩ = some (.slice a3 x.items.length c3) ∧ w'.cell? ⟨b, o + q * 7 + 6, none⟩ = some (.slice a4 x.keys.length c4))
               (first | with_reducible exact KEEP.out _ (Sm.drew hS) | with_reducible exact KEEP.out _ hsq)
               (first | (go_at_call 85; apply Calls.mono; (focus (with_reducible exact Sm.equal (And.left ‹Sm _ _ _ _ _ _ _ _ _ _ ∧ _›) IHx.out HKW.out zk (by omega) HX.out HYV.out)); rintro e w6 ⟨is, left5, over5, rfl, hW6, hm6, hr6, hF6, hsq⟩))
              cases is with
              |true =>
               go_wp21
               go_roundg g
               case measure => omega
               case rel =>
                refine ⟨q + 1, by go_num, by omega, left5, over5, hF6, hW6, fun ho => ?_, fun ho => ?_⟩
                ·have h1 := hm6 ho; have h2 := HM.out.1 h1.1; omega
                ·rw [HM.out.2 (hm6 ho).1, HT.out.1, HT.out.2, eqvm_some HY.out.1 HY.out.2, ← hr6 ho, Bool.true_and]
              |false =>
               go_wp21;go_ret;refine ⟨false, left5, over5, rfl, hF6.ext, hW6, fun ho => ?_, fun ho => ?_⟩
               ·have h1 := hm6 ho; have h2 := HM.out.1 h1.1; have h3 := M2.out; exact ⟨h3.1, by omega⟩
               ·rw [E6.out, HM.out.2 (hm6 ho).1, HT.out.1, HT.out.2, eqvm_some HY.out.1 HY.out.2, ← hr6 ho, Bool.false_and]
            ·obtain rfl : gk = 0 := (by omega);obtain rfl : q = v.keys.length := (by omega);have HH := Lib.hid (And.intro hF (And.intro hWr (And.intro hmr hDr)));clear hF hWr hmr hDr;go_wp21;go_ret;obtain ⟨hF, hWr, hmr, hDr⟩ := HH.out;refine ⟨true, lr, ovr, rfl, hF.ext, hWr, fun ho => ⟨M2.out.1, by have h1 := hmr ho; have h2 := M2.out.2; omega⟩, fun ho => ?_⟩;rw [E6.out, hDr ho, HL6.out.1, List.drop_length, eqvm_nil]
          ·have e6 : (v.kind == 6) = false := ne_of_bool k6;have E6 := Lib.hid (E5.out.trans (if_neg k6));clear k6 E5
           go_wp2_with fail
           go_ret;exact ⟨_, left1, false, rfl, HF3.out.ext, K2.out.2, fun _ => M2.out, fun _ => E6.out.symm⟩
      ·have b3 : ((v.keys.length : Int) != (u.keys.length : Int)) = true := (by simp; omega);have E2 := Lib.hid (E.out.trans (if_pos (.inr (.inr h3))));clear h1 h2 h3
       go_wp2_with fail
       go_ret;exact ⟨_, left1, false, rfl, HF3.out.ext, K2.out.2, fun _ => M2.out, fun _ => E2.out.symm⟩
     ·have b2 : ((v.items.length : Int) != (u.items.length : Int)) = true := (by simp; omega);have E2 := Lib.hid (E.out.trans (if_pos (.inr (.inl h2))));clear h1 h2
      go_wp2_with fail
      go_ret;exact ⟨_, left1, false, rfl, HF3.out.ext, K2.out.2, fun _ => M2.out, fun _ => E2.out.symm⟩
    ·have b1 : (v.kind != u.kind) = true := (by simpa using h1);have E2 := Lib.hid (E.out.trans (if_pos (.inl h1)));clear h1
     go_wp2_with fail
     go_ret;exact ⟨_, left1, false, rfl, HF3.out.ext, K2.out.2, fun _ => M2.out, fun _ => E2.out.symm⟩
mutual
theorem eq_ok : (v : Vl) → EqOk v
 |⟨k, i, f, t, b, its, ks⟩ => fun K wk left over u f a c a' c' f2 a2 c2 a2' c2' w => equal_step _ (fun x hx => eqs_ok its x hx) K wk left over u f a c a' c' f2 a2 c2 a2' c2' w
theorem eqs_ok : (l : List Vl) → ∀ x ∈ l, EqOk x
 |[], _, h => by cases h
 |a :: l, x, h => by
  rcases List.mem_cons.1 h with h | h
  ·rw [h]; exact eq_ok a
  ·exact eqs_ok l x h
end
end Go.Proofs.Ytafhhdimjkgihaa.Mn
