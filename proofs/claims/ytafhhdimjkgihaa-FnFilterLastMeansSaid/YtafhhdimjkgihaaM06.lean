/- What the program does, function by function, and what trees mean: part 06. -/
import Derived.Deep.RegionHeld3
import Derived.Deep.DrawnRows
import Derived.Deep.LoopGhost
import Derived.Test.YtafhhdimjkgihaaM04
import Derived.Test.YtafhhdimjkgihaaM05
set_option linter.unusedSimpArgs false
set_option linter.unusedVariables false
namespace Go.Proofs.Ytafhhdimjkgihaa.Mn
section
open Go.RowKit
def room : Nat := 1073741824
def IsSc (w : World) (k : Nat → Prop) (wk : Nat) (env : Env) (m : Nat) (an : Option Addr) (cn : Nat) (ai : Option Addr) (ni ci : Nat) : Prop :=
 ∃ items ncs ics, ni = items.length ∧ Row w k an ncs ∧ IsNs w k env.names ncs ∧ Row w k ai ics ∧ IsIs w k items ics ∧ env.item = items.getLast? ∧ env.names.length ≤ m ∧ items.length ≤ m
abbrev sa (n : Nat) (wk : Nat) (an : Option Addr) (cn : Nat) (ai : Option Addr) (ni ci : Nat) : Value := .agg #[.slice an n cn, .slice ai ni ci, .pointer (some ⟨wk, 0, none⟩)]
def Evd (k : Nat → Prop) (wk : Nat) (left : Int) (over : Bool) (r : Option Vl) (w : World) (e : Ending) (w' : World) : Prop :=
 ∃ x f a c a' c' ok left' over', e = .returned (.tuple #[va x f a c a' c', .bool ok]) ∧ Ext (· = wk) w.heap.size w w' ∧ Work w' wk left' over' ∧ (over' = false → over = false ∧ left' ≤ left) ∧
  IsV w' k x (vcells x f a c a' c') ∧ (over' = false → r = if ok then some x else none)
structure Pre (k : Nat → Prop) (wk : Nat) (env : Env) (m : Nat) (an : Option Addr) (cn : Nat) (ai : Option Addr) (ni ci : Nat) (left : Int) (over : Bool) (w : World) : Prop where
 kw : k wk
 lt : ∀ b, k b → b < w.heap.size
 sc : IsSc w k wk env m an cn ai ni ci
 work : Work w wk left over
 room : over = false → (m : Int) + left ≤ room
def EvalOk (t : Tr) : Prop := ∀ (k : Nat → Prop) (wk : Nat) (env : Env) (m : Nat) (an : Option Addr) (cn : Nat) (ai : Option Addr) (ni ci : Nat) (left : Int) (over : Bool) (f : Nat) (a : Option Addr) (c : Nat) (a' : Option Addr) (c' : Nat) (p q : Int) (w : World),
 Pre k wk env m an cn ai ni ci left over w → IsT w k t (tcells t f a c a' c' p q) → Calls Try.prog 50 #[sa env.names.length wk an cn ai ni ci, ta t f a c a' c' p q] w (Evd k wk left over ((D t).val env) w)
theorem IsNs.other {w : World} {k k' : Nat → Prop} {l : List (Nm × Vl)} {cs : List Value} (hk : ∀ b, k' b → k b ∨ w.heap.size ≤ b) (h : IsNs w k l cs) : IsNs w k' l cs := by
 induction h with
 |nil => exact .nil
 |cons h hl ih => exact .cons (h.other hk) ih
theorem IsSc.ext {w w' : World} {k : Nat → Prop} {wk : Nat} {env : Env} {m : Nat} {an : Option Addr} {cn : Nat} {ai : Option Addr} {ni ci : Nat} {B : Nat} (e : Ext k B w w') (hB : w.heap.size ≤ B) (h : IsSc w k wk env m an cn ai ni ci) : IsSc w' k wk env m an cn ai ni ci := by
 obtain ⟨items, ncs, ics, h0, h1, h2, h3, h4, h5⟩ := h;exact ⟨items, ncs, ics, h0, h1.ext e hB, h2.ext e hB, h3.ext e hB, h4.ext e hB, h5⟩
theorem IsSc.other {w : World} {k k' : Nat → Prop} {wk : Nat} {env : Env} {m : Nat} {an : Option Addr} {cn : Nat} {ai : Option Addr} {ni ci : Nat} (hk : ∀ b, k' b → k b ∨ w.heap.size ≤ b) (h : IsSc w k wk env m an cn ai ni ci) : IsSc w k' wk env m an cn ai ni ci := by
 obtain ⟨items, ncs, ics, h0, h1, h2, h3, h4, h5⟩ := h;exact ⟨items, ncs, ics, h0, h1.other hk, h2.other hk, h3.other hk, h4.other hk, h5⟩
structure F3 (w0 : World) (wk : Nat) (l0 l1 l2 : List Value) (t0 t1 t2 : TypeId) (w : World) : Prop where
 ext : Ext (· = wk) w0.heap.size w0 w
 b0 : Lb w w0.heap.size l0 t0
 b1 : Lb w (w0.heap.size + 1) l1 t1
 b2 : Lb w (w0.heap.size + 1 + 1) l2 t2
section
variable {w0 w w1 : World} {wk : Nat} {l0 l1 l2 : List Value} {t0 t1 t2 : TypeId}
theorem F3.size (h : F3 w0 wk l0 l1 l2 t0 t1 t2 w) : w0.heap.size + 1 + 1 < w.heap.size := h.b2.lt
theorem F3.alloc (h : F3 w0 wk l0 l1 l2 t0 t1 t2 w) (o : Obj) : F3 w0 wk l0 l1 l2 t0 t1 t2 (w.alloc o) := ⟨h.ext.alloc h.ext.size _, h.b0.alloc _, h.b1.alloc _, h.b2.alloc _⟩
theorem F3.drew (h : F3 w0 wk l0 l1 l2 t0 t1 t2 w) : F3 w0 wk l0 l1 l2 t0 t1 t2 w.drew := ⟨h.ext.drew, h.b0, h.b1, h.b2⟩
theorem F3.undrew (h : F3 w0 wk l0 l1 l2 t0 t1 t2 w.drew) : F3 w0 wk l0 l1 l2 t0 t1 t2 w := ⟨⟨h.ext.os, h.ext.tape, h.ext.output, h.ext.size, h.ext.block⟩, h.b0, h.b1, h.b2⟩
theorem F3.call (h : F3 w0 wk l0 l1 l2 t0 t1 t2 w) (e : Ext (· = wk) w.heap.size w w1) (hk : wk < w0.heap.size) : F3 w0 wk l0 l1 l2 t0 t1 t2 w1 :=
 have z := h.size
 ⟨h.ext.trans (e.mono h.ext.size), h.b0.ext e (by omega) (by omega), h.b1.ext e (by omega) (by omega), h.b2.ext e (by omega) (by omega)⟩
theorem F3.grown (h : F3 w0 wk l0 l1 l2 t0 t1 t2 w) {A : Option Addr} (g : w.grownBy w1 (A.map (·.block))) (hA : ∀ a, A = some a → w0.heap.size + 1 + 1 < a.block) : F3 w0 wk l0 l1 l2 t0 t1 t2 w1 := by
 have hne : ∀ b, b ≤ w0.heap.size + 1 + 1 → some b ≠ A.map (·.block) := by
  intro b hb he;cases A with
  |none => cases he
  |some a => have := hA a rfl; simp only [Option.map_some, Option.some.injEq] at he; omega
 exact ⟨h.ext.trans ⟨g.os, g.tape, g.output, g.size, fun b hb _ => g.block b (Nat.lt_of_lt_of_le hb h.ext.size) (hne b (by omega))⟩, h.b0.grown g (hne _ (by omega)), h.b1.grown g (hne _ (by omega)), h.b2.grown g (hne _ (by omega))⟩
theorem F3.set2 (h : F3 w0 wk l0 l1 l2 t0 t1 t2 w) (i : Nat) (u : Value) : F3 w0 wk l0 l1 (l2.set i u) t0 t1 t2 (w.setCell ⟨w0.heap.size + 1 + 1, i, none⟩ u) :=
 ⟨h.ext.setCell (.inr (show w0.heap.size ≤ w0.heap.size + 1 + 1 by omega)) u, h.b0.other _ _ (show w0.heap.size + 1 + 1 ≠ _ by omega), h.b1.other _ _ (show w0.heap.size + 1 + 1 ≠ _ by omega), h.b2.set _ _⟩
end
theorem Work.keep {w w' : World} {wk : Nat} {left : Int} {over : Bool} (h : Work w wk left over) (e : w'.heap[wk]? = w.heap[wk]?) : Work w' wk left over := ⟨e.trans h.1, h.2⟩
theorem Work.alloc {w : World} {wk : Nat} {left : Int} {over : Bool} (h : Work w wk left over) (o : Obj) : Work (w.alloc o) wk left over := h.keep (heap_alloc_old w o h.lt)
theorem Work.drew {w : World} {wk : Nat} {left : Int} {over : Bool} (h : Work w wk left over) : Work w.drew wk left over := h
theorem Work.set {w : World} {wk : Nat} {left : Int} {over : Bool} (h : Work w wk left over) {p : Addr} (hp : p.block ≠ wk) (u : Value) : Work (w.setCell p u) wk left over := h.keep (Below.heap_setCell w p u wk (by rintro rfl; exact hp rfl))
theorem Work.grown {w w' : World} {wk : Nat} {left : Int} {over : Bool} (h : Work w wk left over) {A : Option Addr} (g : w.grownBy w' (A.map (·.block))) (hA : ∀ a, A = some a → a.block ≠ wk) : Work w' wk left over :=
 h.keep (g.block wk h.lt (by cases A with
  |none => intro h; cases h
  |some a => have := hA a rfl; simp; omega))
theorem own_ext {w w' : World} {B e size : Nat} {A : Option Addr} {n c : Nat} {xs : List Value} {k : Nat → Prop} {C : Nat} (h : w.ownsRow B e size (.slice A n c) n xs) (g : Ext k C w w') (hC : w.heap.size ≤ C) (hk : ∀ b, B ≤ b → ¬ k b) : w'.ownsRow B e size (.slice A n c) n xs := by
 rcases h with ⟨h1, h2 | ⟨gb, cap, cur, h2, h3, h4, h5⟩⟩
 ·exact ⟨h1, .inl h2⟩
 ·have := (Array.getElem?_eq_some_iff.1 h4).1;exact ⟨h1, .inr ⟨gb, cap, cur, h2, h3, (g.block gb (by omega) (hk _ h3)).trans h4, h5⟩⟩
theorem own_set {w : World} {B e size : Nat} {A : Option Addr} {n c : Nat} {xs : List Value} (h : w.ownsRow B e size (.slice A n c) n xs) {p : Addr} (hp : p.block < B) (u : Value) : (w.setCell p u).ownsRow B e size (.slice A n c) n xs := by
 rcases h with ⟨h1, h2 | ⟨gb, cap, cur, h2, h3, h4, h5⟩⟩
 ·exact ⟨h1, .inl h2⟩
 ·exact ⟨h1, .inr ⟨gb, cap, cur, h2, h3, (Below.heap_setCell w p u gb (by omega)).trans h4, h5⟩⟩
theorem own_base {w : World} {B e size : Nat} {A : Option Addr} {n c : Nat} {xs : List Value} (h : w.ownsRow B e size (.slice A n c) n xs) : ∀ a, A = some a → B ≤ a.block ∧ a.block < w.heap.size := by
 rintro a rfl;exact h.lt a.block rfl
def Xs (k : Nat → Prop) (A : Option Addr) (b : Nat) : Prop := k b ∨ ∃ a, A = some a ∧ a.block = b
theorem ext_grown {w w' : World} {k : Nat → Prop} {A : Option Addr} (g : w.grownBy w' (A.map (·.block))) : Ext (Xs k A) w.heap.size w w' :=
 ⟨g.os, g.tape, g.output, g.size, fun b hb hn => g.block b hb (by
  cases A with
  |none => intro h; cases h
  |some a => intro h; simp only [Option.map_some, Option.some.injEq] at h; exact hn (.inr ⟨a, rfl, h.symm⟩))⟩
theorem Ext.more {k k' : Nat → Prop} {B : Nat} {w w' : World} (h : Ext k B w w') (hk : ∀ b, k b → k' b) : Ext k' B w w' := h.weak hk
theorem IsV.grown {w w' : World} {k : Nat → Prop} {A A' : Option Addr} (g : w.grownBy w' (A.map (·.block))) (hat : A' = A ∨ A' = some ⟨w.heap.size, 0, none⟩) {v : Vl} {cs : List Value} (h : IsV w (Xs k A) v cs) : IsV w' (Xs k A') v cs := by
 have h1 : IsV w (Xs (Xs k A) A') v cs := h.other fun b hb => by
  rcases hb with hb | ⟨a, ha, rfl⟩
  ·exact .inl hb
  ·rcases hat with rfl | rfl
   ·exact .inl (.inr ⟨a, ha, rfl⟩)
   ·cases ha; exact .inr (Nat.le_refl _)
 have h2 := h1.ext ((ext_grown (k := k) g).weak fun b hb => .inl hb) (Nat.le_refl _);exact h2.other fun b hb => .inl (hb.elim (fun h => .inl (.inl h)) .inr)
theorem IsVs.grown {w w' : World} {k : Nat → Prop} {A A' : Option Addr} (g : w.grownBy w' (A.map (·.block))) (hat : A' = A ∨ A' = some ⟨w.heap.size, 0, none⟩) {l : List Vl} {cs : List Value} (h : IsVs w (Xs k A) l cs) : IsVs w' (Xs k A') l cs := by
 induction l generalizing cs with
 |nil => cases h; exact .nil
 |cons v l ih => cases h with | cons h hl => exact .cons (h.grown g hat) (ih hl)
end
section
open Go.RowKit
structure C12 (w : World) (b o : Nat) (t : Tr) (f : Nat) (a : Option Addr) (c : Nat) (a' : Option Addr) (c' : Nat) (p q : Int) : Prop where
 c0 : w.cell? ⟨b, o, none⟩ = some (.int .i64 t.kind)
 c1 : w.cell? ⟨b, o + 1, none⟩ = some (.string (str t.name))
 c2 : w.cell? ⟨b, o + 2, none⟩ = some (.int .i64 t.int)
 c3 : w.cell? ⟨b, o + 3, none⟩ = some (.float .f64 f)
 c4 : w.cell? ⟨b, o + 4, none⟩ = some (.bool t.flag)
 c5 : w.cell? ⟨b, o + 5, none⟩ = some (.bool t.method)
 c6 : w.cell? ⟨b, o + 6, none⟩ = some (.bool t.limited)
 c7 : w.cell? ⟨b, o + 7, none⟩ = some (.int .i64 t.limit)
 c8 : w.cell? ⟨b, o + 8, none⟩ = some (.slice a t.kids.length c)
 c9 : w.cell? ⟨b, o + 9, none⟩ = some (.slice a' t.map.length c')
 c10 : w.cell? ⟨b, o + 10, none⟩ = some (.int .i64 p)
 c11 : w.cell? ⟨b, o + 11, none⟩ = some (.int .i64 q)
theorem C12.of {w : World} {b o : Nat} {t : Tr} {f : Nat} {a : Option Addr} {c : Nat} {a' : Option Addr} {c' : Nat} {p q : Int} (h : ∀ j x, (tcells t f a c a' c' p q)[j]? = some x → w.cell? ⟨b, o + j, none⟩ = some x) : C12 w b o t f a c a' c' p q :=
 ⟨h 0 _ rfl, h 1 _ rfl, h 2 _ rfl, h 3 _ rfl, h 4 _ rfl, h 5 _ rfl, h 6 _ rfl, h 7 _ rfl, h 8 _ rfl, h 9 _ rfl, h 10 _ rfl, h 11 _ rfl⟩
theorem C12.ext {k : Nat → Prop} {B : Nat} {w w' : World} {b o : Nat} {t : Tr} {f : Nat} {a : Option Addr} {c : Nat} {a' : Option Addr} {c' : Nat} {p q : Int} (h : C12 w b o t f a c a' c' p q) (e : Ext k B w w') (hb : b < B) (hk : ¬ k b) : C12 w' b o t f a c a' c' p q := by
 have E : ∀ o, w'.cell? ⟨b, o, none⟩ = w.cell? ⟨b, o, none⟩ := fun o => World.cell?_of_block (w := w) (a := ⟨b, o, none⟩) (e.block b hb hk);exact ⟨(E _).trans h.c0, (E _).trans h.c1, (E _).trans h.c2, (E _).trans h.c3, (E _).trans h.c4, (E _).trans h.c5, (E _).trans h.c6, (E _).trans h.c7, (E _).trans h.c8, (E _).trans h.c9, (E _).trans h.c10, (E _).trans h.c11⟩
theorem IsTs.cells {w : World} {k : Nat → Prop} {b o : Nat} {l : List Tr} {cs : List Value} (hr : Row w k (some ⟨b, o, none⟩) cs) (hs : IsTs w k l cs) {i : Nat} {t : Tr} (hi : l[i]? = some t) :
 ¬ k b ∧ b < w.heap.size ∧ ∃ f a c a' c' p q, IsT w k t (tcells t f a c a' c' p q) ∧ C12 w b (o + i * 12) t f a c a' c' p q := by
 obtain ⟨c, h1, h2⟩ := hs.get i t hi;rcases hr with rfl | ⟨b', o', he, hk, hb, hra⟩
 ·have := h1.length;have h0 := h2 0 (c[0]'(by omega)) (by simp);simp at h0
 ·simp only [Option.some.injEq, Addr.mk.injEq, and_true] at he;obtain ⟨rfl, rfl⟩ := he;refine ⟨hk, hb, ?_⟩;cases h1 with
  |mk t f a c a' c' p q ks ms hf hk' hi' hl hp hq ht hn hn' hr hs' hr' hs2 =>
   refine ⟨f, a, c, a', c', p, q, .mk t f a c a' c' p q ks ms hf hk' hi' hl hp hq ht hn hn' hr hs' hr' hs2, C12.of fun j x hx => ?_⟩;have := hra _ _ (h2 j x hx);rw [← Nat.add_assoc] at this;exact this
theorem Row.some_of {w : World} {k : Nat → Prop} {a : Option Addr} {cs : List Value} (h : Row w k a cs) (hc : cs ≠ []) : ∃ b o, a = some ⟨b, o, none⟩ := by
 rcases h with h | ⟨b, o, h, _⟩
 ·exact absurd h hc
 ·exact ⟨b, o, h⟩
theorem IsTs.ne {w : World} {k : Nat → Prop} {l : List Tr} {cs : List Value} (h : IsTs w k l cs) {q : Nat} (hq : q < l.length) : cs ≠ [] := by
 intro h0;have := h.length;rw [h0] at this;simp at this; omega
theorem list_nil (env : Env) : list env [] = some [] := rfl
theorem list_cons (env : Env) (d : Dn) (l : List Dn) : list env (d :: l) = (d.val env).bind fun v => (list env l).bind fun vs => some (v :: vs) := rfl
def lcells (A : Option Addr) (n cap : Nat) : List Value := [.int .i64 5, .int .i64 0, .float .f64 0, .string ⟨#[]⟩, .bool false, .slice A n cap, .slice none 0 0]
def zcells : List Value := [.int .i64 0, .int .i64 0, .float .f64 0, .string ⟨#[]⟩, .bool false, .slice none 0 0, .slice none 0 0]
theorem EvalOk.calls {t : Tr} (h : EvalOk t) {k : Nat → Prop} {wk : Nat} {env : Env} {m : Nat} {an : Option Addr} {cn : Nat} {ai : Option Addr} {ni ci : Nat} {left : Int} {over : Bool} {f : Nat} {a : Option Addr} {c : Nat} {a' : Option Addr} {c' : Nat} {p q : Int} {w : World}
 (hp : Pre k wk env m an cn ai ni ci left over w) (ht : IsT w k t (tcells t f a c a' c' p q)) : Calls Try.prog 50 #[sa env.names.length wk an cn ai ni ci, ta t f a c a' c' p q] w (Evd k wk left over ((D t).val env) w) := h k wk env m an cn ai ni ci left over f a c a' c' p q w hp ht
theorem Pre.next {k : Nat → Prop} {wk : Nat} {env : Env} {m : Nat} {an : Option Addr} {cn : Nat} {ai : Option Addr} {ni ci : Nat} {left : Int} {over : Bool} {w : World} (h : Pre k wk env m an cn ai ni ci left over w) {k' : Nat → Prop} {w' : World} {left' : Int} {over' : Bool}
 (e : Ext (· = wk) w.heap.size w w') (hk : ∀ b, k b → k' b) (hk2 : ∀ b, k' b → k b ∨ w.heap.size ≤ b) (hlt : ∀ b, k' b → b < w'.heap.size) (hw : Work w' wk left' over') (hm : over' = false → over = false ∧ left' ≤ left) : Pre k' wk env m an cn ai ni ci left' over' w' where
 kw := hk _ h.kw
 lt := hlt
 sc := (h.sc.other hk2).ext (e.weak fun b hb => by rw [hb]; exact hk _ h.kw) (Nat.le_refl _)
 work := hw
 room := fun ho => by have := hm ho; have := h.room this.1; omega
theorem Work.below {w w' : World} {wk : Nat} {left : Int} {over : Bool} (h : Work w wk left over) {B : Nat} (b : Below B w w') (hB : wk < B) : Work w' wk left over := h.keep (b.block wk hB)
theorem Evd.end {k : Nat → Prop} {wk : Nat} {left : Int} {over : Bool} {r : Option Vl} {w w1 w' : World} {e : Ending} {x : Vl} {f : Nat} {a : Option Addr} {c : Nat} {a' : Option Addr} {c' : Nat} {ok : Bool} {left2 : Int} {over2 : Bool}
 (he : e = .returned (.tuple #[va x f a c a' c', .bool ok])) (hE : Ext (· = wk) w.heap.size w w1) (hW : Work w1 wk left2 over2) (hm : over2 = false → over = false ∧ left2 ≤ left) (zk : wk < w.heap.size)
 (hb : Below w.heap.size w1 w') (hV : IsV w' k x (vcells x f a c a' c')) (hr : over2 = false → r = if ok then some x else none) : Evd k wk left over r w e w' :=
 ⟨x, f, a, c, a', c', ok, left2, over2, he, hE.trans (.of hb), hW.below hb zk, hm, hV, hr⟩
theorem isV_list {w w' : World} {k k2 : Nat → Prop} {B n0 : Nat} {A : Option Addr} {n cap : Nat} {cs : List Value} {l : List Vl} (hown : w.ownsRow B 39 7 (.slice A n cap) n cs) (hvs : IsVs w (Xs k2 A) l cs) (hl : l.length ≤ most) (hk : ∀ b, k b → b < n0) (hk2 : ∀ b, k b → k2 b)
 (e1 : Ext (Xs k2 A) w.heap.size w w') (e2 : Ext (· < B) w.heap.size w w') (hB : n0 ≤ B) : IsV w' k { kind := 5, items := l } (vcells { kind := 5, items := l } 0 A cap none 0) :=
 .mk _ 0 A cap none 0 cs cn_zero ⟨by show (-9223372036854775808 : Int) ≤ 5; omega, by show (5 : Int) ≤ _; omega⟩ .zero hl (by simp) (by simp) ⟨(by intro h; cases h), by simp⟩
  (Row.other' (Row.ext (Row.of_own hown fun b h => h) e2 (Nat.le_refl _)) fun b hb => by have := hk b hb; omega) ((hvs.ext e1 (Nat.le_refl _)).other fun b hb => .inl (.inl (hk2 b hb))) (.inl rfl)
structure Lr (k : Nat → Prop) (wk : Nat) (env : Env) (m : Nat) (sc : List Value) (ts : List Tr) (left : Int) (over : Bool) (w : World) (q : Nat) (wr : World) : Prop where
 ex : ∃ (A : Option Addr) (cap : Nat) (cs : List Value) (l : List Vl) (left' : Int) (over' : Bool), F3 w wk sc zcells (lcells A q cap) 62 39 39 wr ∧ Work wr wk left' over' ∧ (over' = false → over = false ∧ left' ≤ left) ∧
  wr.ownsRow (w.heap.size + 1 + 1 + 1) 39 7 (.slice A q cap) q cs ∧ IsVs wr (Xs (fun b => k b ∨ b = w.heap.size + 1 ∨ b = w.heap.size + 1 + 1) A) l cs ∧ l.length = q ∧
  (over' = false → list env (Ds ts) = (list env (Ds (ts.drop q))).map (l ++ ·))
set_option maxHeartbeats 1600000 in
set_option maxRecDepth 100000 in
theorem list_any (ts : List Tr) (hok : ∀ t ∈ ts, EvalOk t) (k : Nat → Prop) (wk : Nat) (env : Env) (m : Nat) (an : Option Addr) (cn : Nat) (ai : Option Addr) (ni ci : Nat) (left : Int) (over : Bool) (a : Option Addr) (c : Nat) (cs : List Value) (w : World)
 (hp : Pre k wk env m an cn ai ni ci left over w) (hn : ts.length ≤ most) (hr : Row w k a cs) (hs : IsTs w k ts cs) :
 Calls Try.prog 60 #[sa env.names.length wk an cn ai ni ci, .slice a ts.length c] w (Evd k wk left over ((list env (Ds ts)).map fun l => { kind := 5, items := l }) w) := by
 have HOK := Lib.hid hok; have HP := Lib.hid hp; have HR := Lib.hid hr; have HS := Lib.hid hs;clear hok hp hr hs;unfold most at hn;have zk : wk < w.heap.size := HP.out.lt wk HP.out.kw;go_enter Try.func60, Try.ntmps60
 go_wp2_with fail
 refine forget (fun w' => Lr k wk env m [.slice an env.names.length cn, .slice ai ni ci, .pointer (some ⟨wk, 0, none⟩)] ts left over w 0 w') ?_ ?_
 ·refine ⟨none, 0, [], [], left, over, ⟨.of (by go_grown), ((Lb.new _ _ _).alloc _).alloc _, (Lb.new' _ _ _ (by simp)).alloc _, Lb.new' _ _ _ (by simp)⟩, ((HP.out.work.alloc _).alloc _).alloc _, fun h => ⟨h, Int.le_refl _⟩, World.ownsRow_nil _ _ _ _, .nil, rfl, fun _ => ?_⟩;simp
 intro W hW
 go_loopg [14] ts.length (fun g i wr => ∃ q : Nat, i = .int .i64 q ∧ q + g = ts.length ∧ Lr k wk env m [.slice an env.names.length cn, .slice ai ni ci, .pointer (some ⟨wk, 0, none⟩)] ts left over w q wr)
 case atStart => exact ⟨0, rfl, by omega, hW⟩
 case round =>
  obtain ⟨q, rfl, hq, hL⟩ := hrel;obtain ⟨A, cap, ocs, l, left', over', hF, hWk, hmono, hown, hvs, hlen, hD⟩ := hL.ex;clear hL;have z := hF.size;have z0 : w.heap.size < wr.heap.size := by omega
  have z1 : w.heap.size + 1 < wr.heap.size := by omega
  have hown2 := own_base hown;obtain ⟨X, hX⟩ : ∃ X, X = Xs (fun b => k b ∨ b = w.heap.size + 1 ∨ b = w.heap.size + 1 + 1) A := ⟨_, rfl⟩;have xk : ∀ b, k b → X b := fun b h => by rw [hX]; exact .inl (.inl h)
  have xk2 : ∀ b, X b → k b ∨ w.heap.size ≤ b := fun b h => by
   rw [hX] at h;rcases h with (h | h | h) | ⟨a, h, rfl⟩
   ·exact .inl h
   ·omega
   ·omega
   ·have := hown2 a h; omega
  have xlt : ∀ b, X b → b < wr.heap.size := fun b h => by
   rw [hX] at h;rcases h with (h | h | h) | ⟨a, h, rfl⟩
   ·have := HP.out.lt b h; omega
   ·omega
   ·omega
   ·exact (hown2 a h).2
  rw [← hX] at hvs
  by_cases hlt : 0 < gk
  ·obtain ⟨g, rfl⟩ : ∃ g, gk = g + 1 := ⟨gk - 1, by omega⟩;have hql : q < ts.length := (by omega);obtain ⟨t, ht⟩ : ∃ t, ts[q]? = some t := ⟨ts[q], by simp⟩;have hmem : t ∈ ts := List.mem_of_getElem? ht;obtain ⟨b, o, rfl⟩ := HR.out.some_of (HS.out.ne hql);obtain ⟨hkb, hbs, f, a2, c2, a3, c3, p, p', hT, h12⟩ := IsTs.cells HR.out HS.out ht;have h12r := h12.ext hF.ext hbs (fun h => hkb (by rw [h]; exact HP.out.kw));have d0 := h12r.c0; have d1 := h12r.c1; have d2 := h12r.c2; have d3 := h12r.c3; have d4 := h12r.c4; have d5 := h12r.c5;have d6 := h12r.c6; have d7 := h12r.c7; have d8 := h12r.c8; have d9 := h12r.c9; have d10 := h12r.c10; have d11 := h12r.c11;have r0 := hF.b0.cell;have hbr : b < wr.heap.size := (by omega);have hP := Lib.hid (fun o => HP.out.next (w' := wr.alloc o) (hF.ext.alloc hF.ext.size _) xk xk2 (fun b h => by have := xlt b h; simp; omega) (hWk.alloc _) hmono);have hT2 := Lib.hid (fun o => (hT.other xk2).ext ((hF.ext.alloc hF.ext.size o).weak fun b hb => by rw [hb]; exact xk _ HP.out.kw) (Nat.le_refl _))
   have H := Lib.hid (And.intro hF (And.intro hWk (And.intro hmono (And.intro hown (And.intro hvs (And.intro hlen hD))))));have HX := Lib.hid (And.intro xk (And.intro xk2 (And.intro xlt hX)));have HT := Lib.hid ht;clear hF hWk hmono hown hvs hlen hD hT h12 h12r xk xk2 xlt hX ht hown2
   go_wp2_with fail
   go_at_call 50;apply Calls.mono
   ·with_reducible refine EvalOk.calls (HOK.out t hmem) (hP.out _) (hT2.out _)
   rintro e w2 ⟨x, f4, a4, c4, a5, c5, ok, left2, over2, rfl, hE, hWk2, hm2, hV, hr2⟩;obtain ⟨hF, hWk, hmono, hown, hvs, hlen, hD⟩ := H.out;obtain ⟨xk, xk2, xlt, hX⟩ := HX.out;have hF2 := (hF.alloc _).call hE zk;have hown2 := own_ext (hown.alloc _) hE (Nat.le_refl _) (fun b hb => by omega);have hvs2 := hvs.ext (((Ext.refl X _ _).alloc (Nat.le_refl _) _).trans ((hE.weak (fun b hb => by rw [hb]; exact xk _ HP.out.kw)).mono (by simp))) (Nat.le_refl _);have hm3 : over2 = false → over = false ∧ left2 ≤ left := fun ho => (by have h1 := hm2 ho; have h2 := hmono h1.1; exact ⟨h2.1, by omega⟩);have hD2 : over2 = false → list env (Ds ts) = ((if ok = true then some x else none).bind fun v => (list env (Ds (ts.drop (q + 1)))).bind fun vs => some (v :: vs)).map (l ++ ·) := fun ho => by
    rw [hD (hm2 ho).1, drop_cons _ _ _ HT.out, Ds, list_cons, hr2 ho]
   have z2 := hF2.size;have z3 : w.heap.size < w2.heap.size := (by omega);have z4 : w.heap.size + 1 < w2.heap.size := (by omega);cases ok with
   |false =>
    have r1 := hF2.b1.cell; have g1 := hF2.b1.frozen;have E := Lib.hid (And.intro hF2.ext (And.intro hWk2 (And.intro hm3 hD2)));clear hF hWk hmono hown hvs hlen hD xk xk2 xlt hX hF2 hown2 hvs2 hm3 hD2 hE hWk2 hm2 hV hr2 d0 d1 d2 d3 d4 d5 d6 d7 d8 d9 d10 d11 r0 H HX hP hT2;unfold zcells at r1;go_wp21;refine bodyPost_ret (v := .tuple #[zero, .bool false]) (by simp [results, Try.results60, go_sem, r1, g1, z2, z3, z4]; try rfl) rfl ?_;obtain ⟨hE, hW2, hm3, hD2⟩ := E.out;refine Evd.end (x := {}) (ok := false) rfl hE hW2 hm3 zk (by go_grown) (zeroV _ _) fun ho => ?_;rw [hD2 ho]; rfl
   |true =>
    have HF := Lib.hid hF2; have HO := Lib.hid hown2; have HV := Lib.hid hV; have HVS := Lib.hid hvs2;have r6 := hF2.b2.cell; have g6 := hF2.b2.frozen;have hob := own_base hown2;have E := Lib.hid (And.intro hWk2 (And.intro hm3 (And.intro hD2 (And.intro hX (And.intro hlen hob)))));clear hF hWk hmono hown hvs hlen hD xk xk2 xlt hX hF2 hown2 hvs2 hm3 hD2 hE hWk2 hm2 hV hr2 d0 d1 d2 d3 d4 d5 d6 d7 d8 d9 d10 d11 r0 H HX hP hT2 hob;unfold lcells at r6
    go_wp2_with ((at_builtin; refine wpList_append_o el36 rfl (.tmp 28) (.tmp 30) rfl (w.heap.size + 1 + 1 + 1) A q cap ocs (by rfl) ((HO.out.alloc _).alloc _) _ 1 1 (vcells x f4 a4 c4 a5 c5) (by rfl) (by rfl) (Laid.of_lb (Lb.new' _ _ _ (by simp))) (ones_v _ _ _ _ _ _) (q + 1) rfl (by omega) (by simp; omega) ?_); intro A3 cap3 w3 hown3 hgr3 hat3; have hF3 := ((HF.out.alloc _).alloc _).grown hgr3 (fun a ha => by have := E.out.2.2.2.2.2 a ha; omega); have r7 := hF3.b2.cell; have g7 := hF3.b2.frozen; have z7 := hF3.size; unfold lcells at r7)
    go_roundg g
    case measure => omega
    case rel =>
     obtain ⟨hWk2, hm3, hD2, rfl, hlen, hob⟩ := E.out;refine ⟨q + 1, by go_num, by omega, ⟨A3, cap3, _, l ++ [x], left2, over2, hF3.set2 5 _, (((hWk2.alloc _).alloc _).grown hgr3 (fun a ha => by have := hob a ha; omega)).set (by show w.heap.size + 1 + 1 ≠ wk; omega) _, hm3, own_set hown3 (by show w.heap.size + 1 + 1 < _; omega) _, ?_, by rw [List.length_append, hlen]; rfl, fun ho => ?_⟩⟩
     ·have hb : Below w2.heap.size w2 ((w2.alloc (.cells #[.int .i64 x.kind, .int .i64 x.int, .float .f64 f4, .string (str x.text), .bool x.bool, .slice a4 x.items.length c4, .slice a5 x.keys.length c5] 39)).alloc (.cells #[.int .i64 x.kind, .int .i64 x.int, .float .f64 f4, .string (str x.text), .bool x.bool, .slice a4 x.items.length c4, .slice a5 x.keys.length c5] 39)) := (by go_grown);have h1 := IsVs.grown hgr3 hat3 (HVS.out.ext (.of hb) (Nat.le_refl _));have h2 := IsV.grown hgr3 hat3 (HV.out.ext (.of hb) (Nat.le_refl _));exact (h1.append (.one h2)).ext ((Ext.refl _ _ _).setCell (.inl (.inl (.inr (.inr rfl)))) _) (Nat.le_refl _)
     ·rw [hD2 ho];cases list env (Ds (ts.drop (q + 1))) <;> simp
  ·obtain rfl : gk = 0 := (by omega);obtain rfl : q = ts.length := (by omega);have r1 := hF.b1.cell; have g1 := hF.b1.frozen; have r2 := hF.b2.cell;have H := Lib.hid (And.intro hF.ext (And.intro hWk (And.intro hmono (And.intro hown (And.intro hvs (And.intro hlen (And.intro hD hX)))))));clear hF hWk hmono hown hvs hlen hD xk xk2 xlt hX hown2;unfold zcells at r1;unfold lcells at r2;go_wp21;refine bodyPost_ret (v := .tuple #[.agg #[.int .i64 5, .int .i64 0, .float .f64 0, .string ⟨#[]⟩, .bool false, .slice A ts.length cap, .slice none 0 0], .bool true]) (by simp [results, Try.results60, go_sem, r1, g1, z, z0, z1]; try rfl) rfl ?_;obtain ⟨hE, hW2, hm3, hown, hvs, hlen, hD2, rfl⟩ := H.out;refine Evd.end (x := { kind := 5, items := l }) (f := 0) (a := A) (c := cap) (a' := none) (c' := 0) (ok := true) (by rw [← hlen]; rfl) hE hW2 hm3 zk (by go_grown) (isV_list hown hvs (by unfold most; omega) HP.out.lt (fun b h => .inl h) ?_ ?_ (by omega)) fun ho => ?_
   ·refine ((((((((Ext.refl _ _ _).setCell (.inl ?_) _).setCell (.inl ?_) _).setCell (.inl ?_) _).setCell (.inl ?_) _).setCell (.inl ?_) _).setCell (.inl ?_) _).setCell (.inl ?_) _)
    all_goals exact .inl (.inr (.inl rfl))
   ·refine ((((((((Ext.refl _ _ _).setCell (.inl ?_) _).setCell (.inl ?_) _).setCell (.inl ?_) _).setCell (.inl ?_) _).setCell (.inl ?_) _).setCell (.inl ?_) _).setCell (.inl ?_) _)
    all_goals (show w.heap.size + 1 < _; omega)
   ·rw [hD2 ho, List.drop_length, Ds, list_nil];simp
end
end Go.Proofs.Ytafhhdimjkgihaa.Mn
