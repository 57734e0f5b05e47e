/- What the program does, function by function, and what trees mean: part 07. -/
import Derived.Test.YtafhhdimjkgihaaM06
set_option linter.unusedSimpArgs false
set_option linter.unusedVariables false
namespace Go.Proofs.Ytafhhdimjkgihaa.Mn
section
open Go.RowKit
structure St (w0 : World) (wk : Nat) (l0 l1 l2 : List Value) (t0 t1 t2 : TypeId) (left : Int) (over : Bool) (wp w : World) : Prop where
 p : Ext (· = wk) wp.heap.size wp w
 f : F3 w0 wk l0 l1 l2 t0 t1 t2 w
 work : ∃ left' over', Work w wk left' over' ∧ (over' = false → over = false ∧ left' ≤ left)
section
variable {w0 wp w w1 : World} {wk : Nat} {l0 l1 l2 : List Value} {t0 t1 t2 : TypeId} {left : Int} {over : Bool}
theorem St.alloc (h : St w0 wk l0 l1 l2 t0 t1 t2 left over wp w) (o : Obj) : St w0 wk l0 l1 l2 t0 t1 t2 left over wp (w.alloc o) := ⟨h.p.alloc h.p.size o, h.f.alloc o, let ⟨a, b, c, d⟩ := h.work; ⟨a, b, c.alloc o, d⟩⟩
theorem St.drew (h : St w0 wk l0 l1 l2 t0 t1 t2 left over wp w) : St w0 wk l0 l1 l2 t0 t1 t2 left over wp w.drew := ⟨h.p.drew, h.f.drew, h.work⟩
theorem St.undrew (h : St w0 wk l0 l1 l2 t0 t1 t2 left over wp w.drew) : St w0 wk l0 l1 l2 t0 t1 t2 left over wp w := ⟨⟨h.p.os, h.p.tape, h.p.output, h.p.size, h.p.block⟩, h.f.undrew, h.work⟩
theorem St.allocD (h : St w0 wk l0 l1 l2 t0 t1 t2 left over wp w.drew) (o : Obj) : St w0 wk l0 l1 l2 t0 t1 t2 left over wp (w.alloc o).drew := (h.undrew.alloc o).drew
theorem St.call (h : St w0 wk l0 l1 l2 t0 t1 t2 left over wp w) (e : Ext (· = wk) w.heap.size w w1) (hk : wk < w0.heap.size) {left' : Int} {over' : Bool} (hw : Work w1 wk left' over') (hm : over' = false → over = false ∧ left' ≤ left) : St w0 wk l0 l1 l2 t0 t1 t2 left over wp w1 :=
 ⟨h.p.trans (e.mono h.p.size), h.f.call e hk, left', over', hw, hm⟩
theorem St.set (h : St w0 wk l0 l1 l2 t0 t1 t2 left over wp w) (hk : wk < w0.heap.size) {p : Addr} (hp : w0.heap.size + 1 + 1 < p.block) (hp2 : wp.heap.size ≤ p.block) (u : Value) : St w0 wk l0 l1 l2 t0 t1 t2 left over wp (w.setCell p u) :=
 ⟨h.p.setCell (.inr hp2) u, ⟨h.f.ext.setCell (.inr (by omega)) u, h.f.b0.other _ _ (by omega), h.f.b1.other _ _ (by omega), h.f.b2.other _ _ (by omega)⟩, let ⟨a, b, c, d⟩ := h.work; ⟨a, b, c.set (by omega) u, d⟩⟩
theorem St.s7 (h : St w0 wk l0 l1 l2 t0 t1 t2 left over wp w) (hk : wk < w0.heap.size) {b : Nat} (hb : w0.heap.size + 1 + 1 < b) (hb2 : wp.heap.size ≤ b) (v : Vl) (f : Nat) (a : Option Addr) (c : Nat) (a' : Option Addr) (c' : Nat) : St w0 wk l0 l1 l2 t0 t1 t2 left over wp (S7 w b v f a c a' c') :=
 ((((((h.set hk (p := ⟨b, 0, none⟩) hb hb2 _).set hk (p := ⟨b, 1, none⟩) hb hb2 _).set hk (p := ⟨b, 2, none⟩) hb hb2 _).set hk (p := ⟨b, 3, none⟩) hb hb2 _).set hk (p := ⟨b, 4, none⟩) hb hb2 _).set hk (p := ⟨b, 5, none⟩) hb hb2 _).set hk (p := ⟨b, 6, none⟩) hb hb2 _
theorem St.from0 (h : St w0 wk l0 l1 l2 t0 t1 t2 left over wp w) : St w0 wk l0 l1 l2 t0 t1 t2 left over w0 w := ⟨h.f.ext, h.f, h.work⟩
end
def Xr (k : Nat → Prop) (r b : Nat) : Prop := k b ∨ b = r
def Xl (k : Nat → Prop) (n0 n1 b : Nat) : Prop := k b ∨ n0 ≤ b ∧ b < n1
structure StE (w0 : World) (wk : Nat) (l0 l1 : List Value) (t0 t1 t2 : TypeId) (left : Int) (over : Bool) (w : World) : Prop where
 ex : ∃ y0 y1 y2 y3 y4 y5 y6, St w0 wk l0 l1 [y0, y1, y2, y3, y4, y5, y6] t0 t1 t2 left over w0 w
section
variable {w0 w w1 : World} {wk : Nat} {l0 l1 : List Value} {t0 t1 t2 : TypeId} {left : Int} {over : Bool}
theorem StE.of {y0 y1 y2 y3 y4 y5 y6 : Value} (h : St w0 wk l0 l1 [y0, y1, y2, y3, y4, y5, y6] t0 t1 t2 left over w0 w) : StE w0 wk l0 l1 t0 t1 t2 left over w := ⟨⟨_, _, _, _, _, _, _, h⟩⟩
theorem StE.drew (h : StE w0 wk l0 l1 t0 t1 t2 left over w) : StE w0 wk l0 l1 t0 t1 t2 left over w.drew := by
 obtain ⟨_, _, _, _, _, _, _, h⟩ := h.ex; exact .of h.drew
theorem StE.s7r (h : StE w0 wk l0 l1 t0 t1 t2 left over w) (hk : wk < w0.heap.size) (v : Vl) (f : Nat) (a : Option Addr) (c : Nat) (a' : Option Addr) (c' : Nat) : StE w0 wk l0 l1 t0 t1 t2 left over (S7 w (w0.heap.size + 1 + 1) v f a c a' c') := by
 obtain ⟨_, _, _, _, _, _, _, h⟩ := h.ex;obtain ⟨lf, ov, hw, hm⟩ := h.work;exact .of ⟨h.f.ext.s7 (.inr (by omega)) v f a c a' c', ⟨h.f.ext.s7 (.inr (by omega)) v f a c a' c', h.f.b0.s7o (by omega) v f a c a' c', h.f.b1.s7o (by omega) v f a c a' c', h.f.b2.s7 v f a c a' c'⟩, lf, ov,
  ((((((hw.set (p := ⟨w0.heap.size + 1 + 1, 0, none⟩) (by show w0.heap.size + 1 + 1 ≠ wk; omega) _).set (p := ⟨w0.heap.size + 1 + 1, 1, none⟩) (by show w0.heap.size + 1 + 1 ≠ wk; omega) _).set (p := ⟨w0.heap.size + 1 + 1, 2, none⟩) (by show w0.heap.size + 1 + 1 ≠ wk; omega) _).set (p := ⟨w0.heap.size + 1 + 1, 3, none⟩) (by show w0.heap.size + 1 + 1 ≠ wk; omega) _).set (p := ⟨w0.heap.size + 1 + 1, 4, none⟩) (by show w0.heap.size + 1 + 1 ≠ wk; omega) _).set (p := ⟨w0.heap.size + 1 + 1, 5, none⟩) (by show w0.heap.size + 1 + 1 ≠ wk; omega) _).set (p := ⟨w0.heap.size + 1 + 1, 6, none⟩) (by show w0.heap.size + 1 + 1 ≠ wk; omega) _, hm⟩
theorem StE.f (h : StE w0 wk l0 l1 t0 t1 t2 left over w) : Ext (· = wk) w0.heap.size w0 w ∧ Lb w w0.heap.size l0 t0 ∧ Lb w (w0.heap.size + 1) l1 t1 := by
 obtain ⟨_, _, _, _, _, _, _, h⟩ := h.ex; exact ⟨h.f.ext, h.f.b0, h.f.b1⟩
end
theorem St.eval {k : Nat → Prop} {wk : Nat} {env : Env} {m : Nat} {an : Option Addr} {cn : Nat} {ai : Option Addr} {ni ci : Nat} {left0 : Int} {over0 : Bool} {left : Int} {over : Bool} {w wp w' : World} (hp : Pre k wk env m an cn ai ni ci left0 over0 w) (hm0 : over = false → over0 = false ∧ left ≤ left0) {l0 l1 l2 : List Value} {t0 t1 t2 : TypeId}
 (h : St w wk l0 l1 l2 t0 t1 t2 left over wp w') {t : Tr} (hok : EvalOk t) {f : Nat} {a : Option Addr} {c : Nat} {a' : Option Addr} {c' : Nat} {p q : Int} (ht : IsT w k t (tcells t f a c a' c' p q)) :
 Calls Try.prog 50 #[sa env.names.length wk an cn ai ni ci, ta t f a c a' c' p q] w' fun e w2 => ∃ x f a c a' c' ok left2 over2, e = .returned (.tuple #[va x f a c a' c', .bool ok]) ∧ Ext (· = wk) w'.heap.size w' w2 ∧ Work w2 wk left2 over2 ∧ (over2 = false → over = false ∧ left2 ≤ left) ∧
  IsV w2 (Xl k w.heap.size w'.heap.size) x (vcells x f a c a' c') ∧ (over2 = false → (D t).val env = if ok then some x else none) ∧ St w wk l0 l1 l2 t0 t1 t2 left over wp w2 := by
 obtain ⟨left', over', hw, hm⟩ := h.work;have z := h.f.size;have zk := hp.lt wk hp.kw;have hP : Pre (Xl k w.heap.size w'.heap.size) wk env m an cn ai ni ci left' over' w' := hp.next h.f.ext (fun b h => .inl h) (fun b h => h.imp id (·.1)) (fun b h => by rcases h with h | h; (have := hp.lt b h; omega); exact h.2) hw (fun ho => by have h1 := hm ho; have h2 := hm0 h1.1; exact ⟨h2.1, by omega⟩)
 have hT : IsT w' (Xl k w.heap.size w'.heap.size) t (tcells t f a c a' c' p q) := (ht.other fun b h => h.imp id (·.1)).ext (h.f.ext.weak fun b hb => by rw [hb]; exact .inl hp.kw) (Nat.le_refl _);refine (hok.calls hP hT).mono ?_;rintro e w2 ⟨x, f4, a4, c4, a5, c5, ok, left2, over2, he, hE, hW2, hm2, hV, hr2⟩;have hm3 : over2 = false → over = false ∧ left2 ≤ left := fun ho => by have h1 := hm2 ho; have h2 := hm h1.1; exact ⟨h2.1, by omega⟩
 exact ⟨x, f4, a4, c4, a5, c5, ok, left2, over2, he, hE, hW2, hm3, hV, hr2, h.call hE zk hW2 hm3⟩
theorem StE.eval {k : Nat → Prop} {wk : Nat} {env : Env} {m : Nat} {an : Option Addr} {cn : Nat} {ai : Option Addr} {ni ci : Nat} {left0 : Int} {over0 : Bool} {left : Int} {over : Bool} {w w' : World} (hp : Pre k wk env m an cn ai ni ci left0 over0 w) (hm0 : over = false → over0 = false ∧ left ≤ left0) {l0 l1 : List Value} {t0 t1 t2 : TypeId}
 (h : StE w wk l0 l1 t0 t1 t2 left over w') {t : Tr} (hok : EvalOk t) {f : Nat} {a : Option Addr} {c : Nat} {a' : Option Addr} {c' : Nat} {p q : Int} (ht : IsT w k t (tcells t f a c a' c' p q)) :
 Calls Try.prog 50 #[sa env.names.length wk an cn ai ni ci, ta t f a c a' c' p q] w' fun e w2 => ∃ x f a c a' c' ok left2 over2 y0 y1 y2 y3 y4 y5 y6, e = .returned (.tuple #[va x f a c a' c', .bool ok]) ∧ Ext (· = wk) w'.heap.size w' w2 ∧ Work w2 wk left2 over2 ∧ (over2 = false → over = false ∧ left2 ≤ left) ∧
  IsV w2 (Xr k (w.heap.size + 1 + 1)) x (vcells x f a c a' c') ∧ (over2 = false → (D t).val env = if ok then some x else none) ∧ St w wk l0 l1 [y0, y1, y2, y3, y4, y5, y6] t0 t1 t2 left over w w2 := by
 obtain ⟨y0, y1, y2, y3, y4, y5, y6, h⟩ := h.ex;have z := h.f.size;refine (h.eval hp hm0 hok ht).mono ?_;rintro e w2 ⟨x, f4, a4, c4, a5, c5, ok, left2, over2, he, hE, hW2, hm2, hV, hr2, hs⟩;exact ⟨x, f4, a4, c4, a5, c5, ok, left2, over2, y0, y1, y2, y3, y4, y5, y6, he, hE, hW2, hm2, hV.other fun b hb => .inl (hb.imp id fun h => by omega), hr2, hs⟩
theorem mono_refl {left : Int} {over : Bool} : over = false → over = false ∧ left ≤ left := fun h => ⟨h, Int.le_refl _⟩
theorem mono_trans {a b c : Int} {p q r : Bool} (h : q = false → p = false ∧ b ≤ a) (g : r = false → q = false ∧ c ≤ b) : r = false → p = false ∧ c ≤ a := fun ho => by have h1 := g ho; have h2 := h h1.1; exact ⟨h2.1, by omega⟩
theorem kid_at {k : Nat → Prop} {w : World} {t : Tr} {f : Nat} {a : Option Addr} {c : Nat} {a' : Option Addr} {c' : Nat} {p q : Int} (h : IsT w k t (tcells t f a c a' c' p q)) {j : Nat} {t1 : Tr} (hj : t.kids[j]? = some t1) :
 ∃ b o, a = some ⟨b, o, none⟩ ∧ ¬ k b ∧ b < w.heap.size ∧ ∃ f1 a1 c1 b1 e1 p1 q1, IsT w k t1 (tcells t1 f1 a1 c1 b1 e1 p1 q1) ∧ C12 w b (o + j * 12) t1 f1 a1 c1 b1 e1 p1 q1 := by
 generalize hc : tcells t f a c a' c' p q = cs at h
 cases h with
 |mk t f a c a' c' p q ks ms hf hk' hi' hl hp hq ht hn hn' hr hs' hr' hs2 =>
  simp only [tcells, List.cons.injEq, Value.float.injEq, Value.slice.injEq, Value.int.injEq, and_true, true_and] at hc;obtain ⟨rfl, ⟨rfl, rfl⟩, ⟨rfl, rfl⟩, rfl, rfl⟩ := hc;have hne : ks ≠ [] := hs'.ne (List.getElem?_eq_some_iff.1 hj).1;obtain ⟨b, o, rfl⟩ := hr.some_of hne;obtain ⟨h1, h2, f1, a1, c1, b1, e1, p1, q1, h3, h4⟩ := IsTs.cells hr hs' hj;exact ⟨b, o, rfl, h1, h2, f1, a1, c1, b1, e1, p1, q1, h3, h4⟩
theorem kid_in {k : Nat → Prop} {w : World} {t : Tr} {f : Nat} {b o : Nat} {c : Nat} {a' : Option Addr} {c' : Nat} {p q : Int} (h : IsT w k t (tcells t f (some ⟨b, o, none⟩) c a' c' p q)) {j : Nat} {t1 : Tr} (hj : t.kids[j]? = some t1) :
 ¬ k b ∧ b < w.heap.size ∧ ∃ f1 a1 c1 b1 e1 p1 q1, IsT w k t1 (tcells t1 f1 a1 c1 b1 e1 p1 q1) ∧ C12 w b (o + j * 12) t1 f1 a1 c1 b1 e1 p1 q1 := by
 obtain ⟨b', o', he, h1, h2, h3⟩ := kid_at h hj;cases he;exact ⟨h1, h2, h3⟩
theorem kids_some {k : Nat → Prop} {w : World} {t : Tr} {f : Nat} {a : Option Addr} {c : Nat} {a' : Option Addr} {c' : Nat} {p q : Int} (h : IsT w k t (tcells t f a c a' c' p q)) (hj : 0 < t.kids.length) : ∃ b o, a = some ⟨b, o, none⟩ := by
 obtain ⟨b, o, he, _⟩ := kid_at h (j := 0) (t1 := t.kids[0]) (by simp);exact ⟨b, o, he⟩
structure Got (w0 : World) (wk : Nat) (l0 l1 l2 : List Value) (t0 t1 t2 : TypeId) (k : Nat → Prop) (left : Int) (over : Bool) (r : Option Vl) (b6 : Nat) (x : Vl) (fx : Nat) (a : Option Addr) (c : Nat) (a' : Option Addr) (c' : Nat) (ok : Bool) (left2 : Int) (over2 : Bool) (wp w : World) : Prop where
 p : Ext (· = wk) wp.heap.size wp w
 f : F3 w0 wk l0 l1 l2 t0 t1 t2 w
 work : Work w wk left2 over2
 mono : over2 = false → over = false ∧ left2 ≤ left
 at6 : w0.heap.size + 1 + 1 < b6
 blk : Lb w b6 (vcells x fx a c a' c') 39
 val : IsV w (Xr k (w0.heap.size + 1 + 1)) x (vcells x fx a c a' c')
 mean : over2 = false → r = if ok then some x else none
theorem IsV.stored {w : World} {k : Nat → Prop} {r : Nat} {y : Vl} {cs : List Value} (h : IsV w (Xr k r) y cs) (v : Vl) (f : Nat) (a : Option Addr) (c : Nat) (a' : Option Addr) (c' : Nat) : IsV (S7 w r v f a c a' c') k y cs :=
 (h.ext ((Ext.refl _ _ _).s7 (.inl (.inr rfl)) v f a c a' c') (Nat.le_refl _)).other fun b hb => .inl (.inl hb)
theorem IsV.storedA {w : World} {k : Nat → Prop} {r : Nat} {y : Vl} {cs : List Value} (h : IsV w (Xr k r) y cs) (v : Vl) (f : Nat) (a : Option Addr) (c : Nat) (a' : Option Addr) (c' : Nat) (o : Obj) : IsV ((S7 w r v f a c a' c').alloc o) k y cs :=
 (h.stored v f a c a' c').ext ((Ext.refl _ _ _).alloc (Nat.le_refl _) _) (Nat.le_refl _)
section
variable {w0 wp w w2 : World} {wk : Nat} {l0 l1 l2 : List Value} {t0 t1 t2 : TypeId} {k : Nat → Prop} {left : Int} {over : Bool} {r : Option Vl} {x : Vl} {fx : Nat} {a : Option Addr} {c : Nat} {a' : Option Addr} {c' : Nat} {ok : Bool} {left2 : Int} {over2 : Bool} {n1 : Nat}
theorem Got.fresh (hst : St w0 wk l0 l1 l2 t0 t1 t2 left over wp w2) (hw : Work w2 wk left2 over2) (hm : over2 = false → over = false ∧ left2 ≤ left) (hn : w0.heap.size + 1 + 1 < n1) (hV : IsV w2 (Xl k w0.heap.size n1) x (vcells x fx a c a' c')) (hr : over2 = false → r = if ok then some x else none) :
 Got w0 wk l0 l1 l2 t0 t1 t2 k left over r w2.heap.size x fx a c a' c' ok left2 over2 wp (w2.alloc (.cells (vcells x fx a c a' c').toArray 39)) where
 p := hst.p.alloc hst.p.size _
 f := hst.f.alloc _
 work := hw.alloc _
 mono := hm
 at6 := hst.f.size
 blk := Lb.new _ _ _
 val := (hV.ext ((Ext.refl _ _ _).alloc (Nat.le_refl _) _) (Nat.le_refl _)).other fun b hb => .inl (hb.imp id fun h => by omega)
 mean := hr
theorem Got.there (hst : St w0 wk l0 l1 l2 t0 t1 t2 left over wp w2) (hk : wk < w0.heap.size) (hw : Work w2 wk left2 over2) (hm : over2 = false → over = false ∧ left2 ≤ left) {b6 : Nat} (h6 : w0.heap.size + 1 + 1 < b6) (h62 : wp.heap.size ≤ b6) (hn : b6 < n1) (hV : IsV w2 (Xl k w0.heap.size n1) x (vcells x fx a c a' c')) (hr : over2 = false → r = if ok then some x else none)
 {x0 x1 x2 x3 x4 x5 x6 : Value} (L : Lb w2 b6 [x0, x1, x2, x3, x4, x5, x6] 39) : Got w0 wk l0 l1 l2 t0 t1 t2 k left over r b6 x fx a c a' c' ok left2 over2 wp (S7 w2 b6 x fx a c a' c') where
 p := (hst.s7 hk h6 h62 x fx a c a' c').p
 f := (hst.s7 hk h6 h62 x fx a c a' c').f
 work := ((((((hw.set (p := ⟨b6, 0, none⟩) (by show b6 ≠ wk; omega) _).set (p := ⟨b6, 1, none⟩) (by show b6 ≠ wk; omega) _).set (p := ⟨b6, 2, none⟩) (by show b6 ≠ wk; omega) _).set (p := ⟨b6, 3, none⟩) (by show b6 ≠ wk; omega) _).set (p := ⟨b6, 4, none⟩) (by show b6 ≠ wk; omega) _).set (p := ⟨b6, 5, none⟩) (by show b6 ≠ wk; omega) _).set (p := ⟨b6, 6, none⟩) (by show b6 ≠ wk; omega) _
 mono := hm
 at6 := h6
 blk := L.s7 x fx a c a' c'
 val := (hV.ext ((Ext.refl _ _ _).s7 (.inl (.inr ⟨by omega, hn⟩)) x fx a c a' c') (Nat.le_refl _)).other fun b hb => .inl (hb.imp id fun h => by omega)
 mean := hr
end
end
section
open Go.RowKit
def Tru (wk : Nat) (left : Int) (over : Bool) (r : Option Bool) (w : World) (e : Ending) (w' : World) : Prop :=
 ∃ is ok left' over', e = .returned (.tuple #[.bool is, .bool ok]) ∧ Ext (· = wk) w.heap.size w w' ∧ Work w' wk left' over' ∧ (over' = false → over = false ∧ left' ≤ left) ∧ (over' = false → r = if ok then some is else none)
theorem truth_of (d : Env → Option Vl) (env : Env) (x : Vl) (ok : Bool) (h : d env = if ok then some x else none) : truth d env = if (ok && x.kind == 4) then some x.bool else none := by
 unfold truth; rw [h];cases ok
 ·rfl
 ·by_cases hk : x.kind = 4 <;> simp [hk]
set_option maxHeartbeats 800000 in
set_option maxRecDepth 100000 in
theorem truth_any (t : Tr) (hok : EvalOk t) (k : Nat → Prop) (wk : Nat) (env : Env) (m : Nat) (an : Option Addr) (cn : Nat) (ai : Option Addr) (ni ci : Nat) (left : Int) (over : Bool) (f : Nat) (a : Option Addr) (c : Nat) (a' : Option Addr) (c' : Nat) (p q : Int) (w : World)
 (hp : Pre k wk env m an cn ai ni ci left over w) (ht : IsT w k t (tcells t f a c a' c' p q)) :
 Calls Try.prog 74 #[sa env.names.length wk an cn ai ni ci, ta t f a c a' c' p q] w (Tru wk left over (truth (D t).val env) w) := by
 have zk : wk < w.heap.size := hp.lt wk hp.kw;have H := Lib.hid (fun w' (e : Below w.heap.size w w') => hok.calls (hp.next (.of e) (fun b h => h) (fun b h => .inl h) (fun b h => Nat.lt_of_lt_of_le (hp.lt b h) e.size) (hp.work.below e zk) (fun h => ⟨h, Int.le_refl _⟩)) (ht.ext (.of e) (Nat.le_refl _)));clear hp ht hok;go_enter Try.func74, Try.ntmps74
 go_wp2_with fail
 go_at_call 50;apply Calls.mono
 ·refine H.out _ ?_
  go_grown
 rintro e w2 ⟨x, f4, a4, c4, a5, c5, ok, left2, over2, rfl, hE, hW2, hm2, hV, hr2⟩;have E := Lib.hid (show Ext (· = wk) w.heap.size w w2 from (Ext.of (by go_grown)).trans (hE.mono (by simp; omega)));have Q := Lib.hid (And.intro hW2 (And.intro hm2 hr2));clear hE hW2 hm2 hV hr2 H;cases ok with
 |false =>
  go_wp21
  go_quiet (fail)
  go_wp21
  go_ret2
  obtain ⟨hW2, hm2, hr2⟩ := Q.out;exact ⟨x.bool, false, left2, over2, rfl, (E.out.alloc E.out.size _).drewN nq, hW2.alloc _, hm2, fun ho => truth_of _ _ x false (hr2 ho)⟩
 |true =>
  go_wp21
  go_quiet (fail)
  go_wp21
  go_ret2
  obtain ⟨hW2, hm2, hr2⟩ := Q.out;exact ⟨x.bool, (x.kind == 4), left2, over2, rfl, (E.out.alloc E.out.size _).drewN nq, hW2.alloc _, hm2, fun ho => truth_of _ _ x true (hr2 ho)⟩
theorem IsT.inv {w : World} {k : Nat → Prop} {t : Tr} {f : Nat} {a : Option Addr} {c : Nat} {a' : Option Addr} {c' : Nat} {p q : Int} (h : IsT w k t (tcells t f a c a' c' p q)) :
 cn f = t.flt ∧ I64 t.kind ∧ I64 t.int ∧ I64 t.limit ∧ t.name.length ≤ 140737488355328 ∧ t.kids.length ≤ most ∧ t.map.length ≤ most ∧ (∃ ks, Row w k a ks ∧ IsTs w k t.kids ks) ∧ (∃ ms, Row w k a' ms ∧ IsTs w k t.map ms) := by
 generalize hc : tcells t f a c a' c' p q = cs at h
 cases h with
 |mk t f a c a' c' p q ks ms hf hk' hi' hl hp hq ht hn hn' hr hs' hr' hs2 =>
  simp only [tcells, List.cons.injEq, Value.float.injEq, Value.slice.injEq, Value.int.injEq, and_true, true_and] at hc;obtain ⟨rfl, ⟨rfl, rfl⟩, ⟨rfl, rfl⟩, rfl, rfl⟩ := hc;exact ⟨hf, hk', hi', hl, ht, hn, hn', ⟨ks, hr, hs'⟩, ⟨ms, hr', hs2⟩⟩
theorem getLast_at (l : List Vl) (h : 0 < l.length) : ∃ x, l[l.length - 1]? = some x ∧ l.getLast? = some x := by
 refine ⟨l[l.length - 1], by simp, ?_⟩;rw [List.getLast?_eq_getElem?]; simp
set_option maxHeartbeats 1600000 in
set_option maxRecDepth 100000 in
theorem sequence_any (t : Tr) (hok : ∀ t1 ∈ t.kids, EvalOk t1) (k : Nat → Prop) (wk : Nat) (env : Env) (m : Nat) (an : Option Addr) (cn : Nat) (ai : Option Addr) (ni ci : Nat) (left : Int) (over : Bool) (f : Nat) (a : Option Addr) (c : Nat) (a' : Option Addr) (c' : Nat) (p q : Int) (w : World)
 (hp : Pre k wk env m an cn ai ni ci left over w) (ht : IsT w k t (tcells t f a c a' c' p q)) :
 Calls Try.prog 69 #[sa env.names.length wk an cn ai ni ci, ta t f a c a' c' p q] w (Evd k wk left over ((list env (Ds t.kids)).bind fun l => l.getLast?) w) := by
 have zk : wk < w.heap.size := hp.lt wk hp.kw;obtain ⟨_, _, _, _, _, hn, _, ⟨ks, hrow, hts⟩, _⟩ := ht.inv;have hk1 : ∀ b, Xr k (w.heap.size + 1 + 1) b → k b ∨ w.heap.size ≤ b := fun b h => h.imp id (by omega);have H := Lib.hid (fun w' (e : Below w.heap.size w w') (hz : w.heap.size + 1 + 1 < w'.heap.size) => list_any t.kids hok (Xr k (w.heap.size + 1 + 1)) wk env m an cn ai ni ci left over a c ks w'
  (hp.next (.of e) (fun b h => .inl h) hk1 (fun b h => by rcases h with h | h; exact Nat.lt_of_lt_of_le (hp.lt b h) e.size; omega) (hp.work.below e zk) (fun h => ⟨h, Int.le_refl _⟩)) hn ((hrow.other hk1).ext (.of e) (Nat.le_refl _)) ((IsTs.other hk1 hts).ext (.of e) (Nat.le_refl _)))
 clear hp ht hok hrow hts hk1;go_enter Try.func69, Try.ntmps69
 go_wp2_with fail
 go_at_call 60;apply Calls.mono
 ·refine H.out _ ?_ ?_
  ·go_grown
  ·simp
 rintro e w2 ⟨x, f4, a4, c4, a5, c5, ok, left2, over2, rfl, hE, hW2, hm2, hV, hr2⟩;have E := Lib.hid (show Ext (· = wk) w.heap.size w w2 from (Ext.of (by go_grown)).trans (hE.mono (by simp; omega)));have L2 : Lb w2 (w.heap.size + 1 + 1) _ 39 := (Lb.new' _ _ _ (by simp)).ext hE (by simp) (by omega);have r2 := L2.cell; have g2 := L2.frozen; have y2 := L2.lt;have y1 : w.heap.size + 1 < w2.heap.size := by omega
 have Q := Lib.hid (And.intro hW2 (And.intro hm2 (And.intro hr2 hV)));obtain ⟨_, _, _, hnx, _, _, _, ⟨its, hri, hsi⟩, _⟩ := hV.inv;have HI := Lib.hid (And.intro hri hsi);clear hE hW2 hm2 hV hr2 H L2 hri hsi;unfold most at hnx;cases ok with
 |false =>
  go_wp21;refine bodyPost_ret (v := .tuple #[zero, .bool false]) (by simp [results, Try.results69, go_sem, r2, g2, y2]; try rfl) rfl ?_;obtain ⟨hW2, hm2, hr2, hV⟩ := Q.out;refine Evd.end (x := {}) (ok := false) rfl E.out hW2 hm2 zk (by go_grown) (zeroV _ _) fun ho => ?_;have := hr2 ho;cases h : list env (Ds t.kids) with
  |none => rfl
  |some l => rw [h] at this; cases this
 |true =>
  by_cases hz : x.items.length = 0
  ·have b0 : ((x.items.length : Int) == 0) = true := (by rw [hz]; rfl);have HZ := Lib.hid hz;clear hz;go_wp21;refine bodyPost_ret (v := .tuple #[zero, .bool false]) (by simp [results, Try.results69, go_sem, r2, g2, y2]; try rfl) rfl ?_;obtain ⟨hW2, hm2, hr2, hV⟩ := Q.out;refine Evd.end (x := {}) (ok := false) rfl E.out hW2 hm2 zk (by go_grown) (zeroV _ _) fun ho => ?_;have := hr2 ho;cases h : list env (Ds t.kids) with
   |none => rfl
   |some l =>
    rw [h] at this;simp only [Option.map_some, if_true, Option.some.injEq] at this;have h0 := HZ.out;rw [← this] at h0;have h1 : l = [] := List.eq_nil_of_length_eq_zero h0;rw [h1]; rfl
  ·obtain ⟨n, hn1⟩ : ∃ n, x.items.length = n + 1 := ⟨x.items.length - 1, by omega⟩;obtain ⟨y, hy1, hy2⟩ := getLast_at x.items (by omega);obtain ⟨b, o, rfl⟩ : ∃ b o, a4 = some ⟨b, o, none⟩ := HI.out.1.some_of (fun h0 => by have := HI.out.2.length; rw [h0] at this; simp at this; omega);rw [show x.items.length - 1 = n by omega] at hy1;obtain ⟨hkb, hbs, f5, a6, c6, a7, c7, hY, h7⟩ := IsVs.cells HI.out.1 HI.out.2 hy1;have d1 := h7.c0; have d2 := h7.c1; have d3 := h7.c2; have d4 := h7.c3; have d5 := h7.c4; have d6 := h7.c5; have d7 := h7.c6;have b0 : ((n : Int) + 1 == 0) = false := (by simp; omega);have hbr : b ≠ w.heap.size + 1 + 1 := fun h => hkb (.inr h);have HY := Lib.hid (And.intro hY hy2);clear hY hy2 hy1 h7 hz hkb HI;go_wp21;refine bodyPost_ret (v := .tuple #[va y f5 a6 c6 a7 c7, .bool true]) (by simp [results, Try.results69, go_sem, r2, g2, y2]; try rfl) rfl ?_;obtain ⟨hW2, hm2, hr2, hV⟩ := Q.out
   refine Evd.end (x := y) (ok := true) rfl E.out hW2 hm2 zk (by go_grown) (HY.out.1.storedA y f5 a6 c6 a7 c7 _) fun ho => ?_;have := hr2 ho;cases h : list env (Ds t.kids) with
   |none => rw [h] at this; cases this
   |some l =>
    rw [h] at this;simp only [Option.map_some, if_true, Option.some.injEq] at this;have h0 := HY.out.2;rw [← this] at h0;exact h0
end
section
attribute [local go_sem ↓] Go.wp_at_zero Go.wp_at_succ
open Go.RowKit
def Wn (lk : Nat) (left : Int) (w : World) (e : Ending) (w' : World) : Prop :=
 ∃ b left', e = .returned (.bool b) ∧ Ext (· = lk) w.heap.size w w' ∧ Lb w' lk [.int .i64 left'] 3 ∧ (b = true → 0 ≤ left' ∧ left' ≤ left)
def WnOk (t : Tr) : Prop := ∀ (k : Nat → Prop) (lk : Nat) (left : Int) (f : Nat) (a : Option Addr) (c : Nat) (a' : Option Addr) (c' : Nat) (p q : Int) (w : World), k lk → Lb w lk [.int .i64 left] 3 → 0 ≤ left ∧ left ≤ 1099511627776 → IsT w k t (tcells t f a c a' c' p q) →
 Calls Try.prog 28 #[ta t f a c a' c' p q, .pointer (some ⟨lk, 0, none⟩)] w (Wn lk left w)
structure Wr (lk : Nat) (left : Int) (l0 l1 : List Value) (w : World) (left' : Int) (wr : World) : Prop where
 e : Ext (· = lk) w.heap.size w wr
 b0 : Lb wr w.heap.size l0 25
 b1 : Lb wr (w.heap.size + 1) l1 23
 l : Lb wr lk [.int .i64 left'] 3
 n : 0 ≤ left' ∧ left' ≤ left
theorem Wr.call {lk : Nat} {left : Int} {l0 l1 : List Value} {w : World} {left' : Int} {wr w1 : World} (h : Wr lk left l0 l1 w left' wr) (zk : lk < w.heap.size) {left2 : Int} (e : Ext (· = lk) wr.heap.size wr w1) (hl : Lb w1 lk [.int .i64 left2] 3) (hn : 0 ≤ left2 ∧ left2 ≤ left') : Wr lk left l0 l1 w left2 w1 :=
 ⟨h.e.trans (e.mono h.e.size), h.b0.ext e h.b0.lt (by omega), h.b1.ext e h.b1.lt (by omega), hl, hn.1, Int.le_trans hn.2 h.n.2⟩
theorem Wr.alloc {lk : Nat} {left : Int} {l0 l1 : List Value} {w : World} {left' : Int} {wr : World} (h : Wr lk left l0 l1 w left' wr) (o : Obj) : Wr lk left l0 l1 w left' (wr.alloc o) :=
 ⟨h.e.alloc h.e.size o, h.b0.alloc o, h.b1.alloc o, h.l.alloc o, h.n⟩
set_option maxHeartbeats 6400000 in
set_option maxRecDepth 100000 in
theorem within_step (t : Tr) (ih : ∀ x ∈ t.kids, WnOk x) (ih2 : ∀ x ∈ t.map, WnOk x) : WnOk t := by
 intro k lk left f a c a' c' p q0 w hk hl hn ht;have IH0 := Lib.hid ih; have IH1 := Lib.hid ih2; have HT := Lib.hid ht; have HK := Lib.hid hk;have hil : t.kids.length ≤ 1172812402927 := ht.inv.2.2.2.2.2.1;have hml : t.map.length ≤ 1172812402927 := ht.inv.2.2.2.2.2.2.1;have zk : lk < w.heap.size := hl.lt;have c0 : w.cell? ⟨lk, 0, none⟩ = some (.int .i64 left) := hl.cell 0;have f0 : w.frozen? ⟨lk, 0, none⟩ = false := hl.frozen 0;have hw1 : IntKind.i64.wrap (left - 1) = left - 1 := by rw [IntKind.wrap_i64]; omega
 have HLW := Lib.hid (show ∀ (u : Int), Lb (w.setCell ⟨lk, 0, none⟩ (.int .i64 u)) lk [.int .i64 u] 3 from fun u => hl.set 0 _);have HEX := Lib.hid (show ∀ (u : Int), Ext (· = lk) w.heap.size w (w.setCell ⟨lk, 0, none⟩ (.int .i64 u)) from fun u => (Ext.refl (· = lk) _ _).setCell (.inl rfl) _);clear ih ih2 hk hl ht
 by_cases h0 : left = 0
 ·have t0 : decide (left - 1 < 0) = true := decide_eq_true (by omega);clear h0;go_enter Try.func28, Try.ntmps28
  go_wp2_with fail
  go_ret;exact ⟨false, _, rfl, (HEX.out _).alloc (by simp) _, (HLW.out _).alloc _, fun h => by cases h⟩
 have t0 : decide (left - 1 < 0) = false := decide_eq_false (by omega);have hn1 : 0 ≤ left - 1 ∧ left - 1 ≤ left := ⟨by omega, by omega⟩;clear h0;go_enter Try.func28, Try.ntmps28
 go_wp2_with fail
 refine forget (fun w' => Wr lk left (tcells t f a c a' c' p q0) [.slice a t.kids.length c, .slice a' t.map.length c'] w (left - 1) w') ?_ ?_
 ·exact ⟨((HEX.out _).alloc (by simp) _).alloc (by simp) _, (Lb.new' _ _ _ (by simp)).alloc _, Lb.new' _ _ _ (by simp), ((HLW.out _).alloc _).alloc _, hn1⟩
 intro W hW;have HW := Lib.hid hW;clear hW c0 f0
 go_loopg [24] 2 (fun g i wr => ∃ q : Nat, i = .int .i64 q ∧ q + g = 2 ∧ ∃ left', Wr lk left (tcells t f a c a' c' p q0) [.slice a t.kids.length c, .slice a' t.map.length c'] w left' wr)
 case atStart => exact ⟨0, rfl, rfl, _, HW.out⟩
 case round =>
  obtain ⟨u, rfl, hu, lr, hR⟩ := hrel;clear HW;have HR := Lib.hid hR;have z0 := hR.b0.lt; have z1 := hR.b1.lt;have r1 := hR.b1.cell;clear hR
  by_cases hlt : 0 < gk
  ·obtain ⟨g, rfl⟩ : ∃ g, gk = g + 1 := ⟨gk - 1, by omega⟩
   by_cases hu0 : u = 0
   ·subst hu0
    go_wp2_with fail
    go_loopg [30] t.kids.length (fun g2 i w2 => ∃ q : Nat, i = .int .i64 q ∧ q + g2 = t.kids.length ∧ ∃ left', Wr lk left (tcells t f a c a' c' p q0) [.slice a t.kids.length c, .slice a' t.map.length c'] w left' w2)
    case atStart => exact ⟨0, rfl, by omega, _, HR.out⟩
    case round =>
     obtain ⟨q, rfl, hq, lr2, hR2⟩ := hrel;clear r1 z0 z1;have z0 := hR2.b0.lt; have z1 := hR2.b1.lt;have HR2 := Lib.hid hR2
     by_cases hlt2 : 0 < gk
     ·obtain ⟨g2, rfl⟩ : ∃ g, gk = g + 1 := ⟨gk - 1, by omega⟩;have hql : q < t.kids.length := (by omega);obtain ⟨x, hx⟩ : ∃ x, t.kids[q]? = some x := ⟨t.kids[q], by simp⟩;obtain ⟨ks, hrow, hts⟩ := HT.out.inv.2.2.2.2.2.2.2.1;obtain ⟨b, o, rfl⟩ := hrow.some_of (hts.ne hql);obtain ⟨hkb, hbs, f3, a3, c3, a4, c4, p3, q3, hX, h12⟩ := IsTs.cells hrow hts hx;have hbk : ¬ b = lk := fun h => hkb (by rw [h]; exact HK.out);have h12r := h12.ext hR2.e hbs hbk;have d0 := h12r.c0; have d1 := h12r.c1; have d2 := h12r.c2; have d3 := h12r.c3; have d4 := h12r.c4; have d5 := h12r.c5; have d6 := h12r.c6; have d7 := h12r.c7; have d8 := h12r.c8; have d9 := h12r.c9; have d10 := h12r.c10; have d11 := h12r.c11;have hbr := Nat.lt_of_lt_of_le hbs hR2.e.size;have zi0 : (0 : Int) ≤ (q : Int) := (by omega);have zi1 : (q : Int) < (t.kids.length : Int) := (by omega);have HX := Lib.hid hX;have IHx := Lib.hid (IH0.out x (List.mem_of_getElem? hx))
      have hlr : 0 ≤ lr2 ∧ lr2 ≤ 1099511627776 := ⟨hR2.n.1, by have := hR2.n.2; omega⟩;clear hX h12 h12r hx hR2 hrow hts
      go_wp2_with fail
      go_at_call 28;apply Calls.mono
      ·exact IHx.out k lk lr2 _ _ _ _ _ _ _ _ HK.out (HR2.out.l.alloc _) hlr ((HX.out.ext (HR2.out.e.weak fun b hb => by rw [hb]; exact HK.out) (Nat.le_refl _)).ext ((Ext.refl _ _ _).alloc (Nat.le_refl _) _) (Nat.le_refl _))
      rintro e w5 ⟨is, left5, rfl, hE5, hL5, hr5⟩;have H5 := Lib.hid (And.intro hE5 (And.intro hL5 hr5));clear hE5 hL5 hr5 d0 d1 d2 d3 d4 d5 d6 d7 d8 d9 d10 d11;cases is with
      |true =>
       go_wp2_with fail
       go_roundg g2
       case measure => omega
       case rel =>
        obtain ⟨hE5, hL5, hr5⟩ := H5.out;exact ⟨q + 1, by go_num, by omega, left5, (HR2.out.alloc _).call zk hE5 hL5 (by simpa using hr5)⟩
      |false =>
       go_wp21;go_ret;obtain ⟨hE5, hL5, hr5⟩ := H5.out;exact ⟨false, left5, rfl, (HR2.out.e.alloc HR2.out.e.size _).trans ((hE5.mono (by have := HR2.out.e.size; simp; omega)).trans (.of (by go_grown))), hL5, fun h => by cases h⟩
     ·obtain rfl : gk = 0 := (by omega);obtain rfl : q = t.kids.length := (by omega);have r1 := hR2.b1.cell;clear hR2
      go_wp2_with fail
      go_roundg g
      case measure => omega
      case rel => exact ⟨1, by go_num, by omega, lr2, HR2.out⟩
   ·obtain rfl : u = 1 := by omega
    go_wp2_with fail
    go_loopg [30] t.map.length (fun g2 i w2 => ∃ q : Nat, i = .int .i64 q ∧ q + g2 = t.map.length ∧ ∃ left', Wr lk left (tcells t f a c a' c' p q0) [.slice a t.kids.length c, .slice a' t.map.length c'] w left' w2)
    case atStart => exact ⟨0, rfl, by omega, _, HR.out⟩
    case round =>
     obtain ⟨q, rfl, hq, lr2, hR2⟩ := hrel;clear r1 z0 z1;have z0 := hR2.b0.lt; have z1 := hR2.b1.lt;have HR2 := Lib.hid hR2
     by_cases hlt2 : 0 < gk
     ·obtain ⟨g2, rfl⟩ : ∃ g, gk = g + 1 := ⟨gk - 1, by omega⟩;have hql : q < t.map.length := (by omega);obtain ⟨x, hx⟩ : ∃ x, t.map[q]? = some x := ⟨t.map[q], by simp⟩;obtain ⟨ks, hrow, hts⟩ := HT.out.inv.2.2.2.2.2.2.2.2;obtain ⟨b, o, rfl⟩ := hrow.some_of (hts.ne hql);obtain ⟨hkb, hbs, f3, a3, c3, a4, c4, p3, q3, hX, h12⟩ := IsTs.cells hrow hts hx;have hbk : ¬ b = lk := fun h => hkb (by rw [h]; exact HK.out);have h12r := h12.ext hR2.e hbs hbk;have d0 := h12r.c0; have d1 := h12r.c1; have d2 := h12r.c2; have d3 := h12r.c3; have d4 := h12r.c4; have d5 := h12r.c5; have d6 := h12r.c6; have d7 := h12r.c7; have d8 := h12r.c8; have d9 := h12r.c9; have d10 := h12r.c10; have d11 := h12r.c11;have hbr := Nat.lt_of_lt_of_le hbs hR2.e.size;have zi0 : (0 : Int) ≤ (q : Int) := (by omega);have zi1 : (q : Int) < (t.map.length : Int) := (by omega);have HX := Lib.hid hX;have IHx := Lib.hid (IH1.out x (List.mem_of_getElem? hx))
      have hlr : 0 ≤ lr2 ∧ lr2 ≤ 1099511627776 := ⟨hR2.n.1, by have := hR2.n.2; omega⟩;clear hX h12 h12r hx hR2 hrow hts
      go_wp2_with fail
      go_at_call 28;apply Calls.mono
      ·exact IHx.out k lk lr2 _ _ _ _ _ _ _ _ HK.out (HR2.out.l.alloc _) hlr ((HX.out.ext (HR2.out.e.weak fun b hb => by rw [hb]; exact HK.out) (Nat.le_refl _)).ext ((Ext.refl _ _ _).alloc (Nat.le_refl _) _) (Nat.le_refl _))
      rintro e w5 ⟨is, left5, rfl, hE5, hL5, hr5⟩;have H5 := Lib.hid (And.intro hE5 (And.intro hL5 hr5));clear hE5 hL5 hr5 d0 d1 d2 d3 d4 d5 d6 d7 d8 d9 d10 d11;cases is with
      |true =>
       go_wp2_with fail
       go_roundg g2
       case measure => omega
       case rel =>
        obtain ⟨hE5, hL5, hr5⟩ := H5.out;exact ⟨q + 1, by go_num, by omega, left5, (HR2.out.alloc _).call zk hE5 hL5 (by simpa using hr5)⟩
      |false =>
       go_wp21;go_ret;obtain ⟨hE5, hL5, hr5⟩ := H5.out;exact ⟨false, left5, rfl, (HR2.out.e.alloc HR2.out.e.size _).trans ((hE5.mono (by have := HR2.out.e.size; simp; omega)).trans (.of (by go_grown))), hL5, fun h => by cases h⟩
     ·obtain rfl : gk = 0 := (by omega);obtain rfl : q = t.map.length := (by omega);have r1 := hR2.b1.cell;clear hR2
      go_wp2_with fail
      go_roundg g
      case measure => omega
      case rel => exact ⟨2, by go_num, by omega, lr2, HR2.out⟩
  ·obtain rfl : gk = 0 := (by omega);obtain rfl : u = 2 := (by omega);go_wp21;go_ret;exact ⟨true, lr, rfl, HR.out.e.trans (.of (by go_grown)), HR.out.l, fun _ => HR.out.n⟩
mutual
theorem within_ok : (t : Tr) → WnOk t
 |⟨a, b, c, d, e, f, g, h, ks, ms⟩ => within_step _ (fun x hx => withins_ok ks x hx) (fun x hx => withins_ok ms x hx)
theorem withins_ok : (l : List Tr) → ∀ x ∈ l, WnOk x
 |[] => fun x h => by cases h
 |v :: l => fun x h => by
  rcases List.mem_cons.1 h with h | h
  ·rw [h]; exact within_ok v
  ·exact withins_ok l x h
end
end
end Go.Proofs.Ytafhhdimjkgihaa.Mn
