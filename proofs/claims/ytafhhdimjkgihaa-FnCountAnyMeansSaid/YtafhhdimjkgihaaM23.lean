/- What the program does, function by function, and what trees mean: part 23. -/
import Derived.Deep.CutRange
import Derived.Test.YtafhhdimjkgihaaM07
import Derived.Test.YtafhhdimjkgihaaM21
set_option linter.unusedSimpArgs false
set_option linter.unusedVariables false
namespace Go.Proofs.Ytafhhdimjkgihaa.Mn
section
open Go.RowKit
structure Sv (wk : Nat) (left : Int) (over : Bool) (W w : World) : Prop where
 p : Ext (· = wk) W.heap.size W w
 work : ∃ left' over', Work w wk left' over' ∧ (over' = false → over = false ∧ left' ≤ left)
section
variable {W w w1 : World} {wk : Nat} {left : Int} {over : Bool}
theorem Sv.alloc (h : Sv wk left over W w) (o : Obj) : Sv wk left over W (w.alloc o) := ⟨h.p.alloc h.p.size o, let ⟨a, b, c, d⟩ := h.work; ⟨a, b, c.alloc o, d⟩⟩
theorem Sv.drew (h : Sv wk left over W w) : Sv wk left over W w.drew := ⟨h.p.drew, h.work⟩
theorem Sv.undrew (h : Sv wk left over W w.drew) : Sv wk left over W w := ⟨⟨h.p.os, h.p.tape, h.p.output, h.p.size, h.p.block⟩, h.work⟩
theorem Sv.allocD (h : Sv wk left over W w.drew) (o : Obj) : Sv wk left over W (w.alloc o).drew := (h.undrew.alloc o).drew
theorem Sv.call (h : Sv wk left over W w) (e : Ext (· = wk) w.heap.size w w1) {left' : Int} {over' : Bool} (hw : Work w1 wk left' over') (hm : over' = false → over = false ∧ left' ≤ left) : Sv wk left over W w1 := ⟨h.p.trans (e.mono h.p.size), left', over', hw, hm⟩
theorem Sv.set (h : Sv wk left over W w) (hk : wk < W.heap.size) {p : Addr} (hp : W.heap.size ≤ p.block) (u : Value) : Sv wk left over W (w.setCell p u) := ⟨h.p.setCell (.inr hp) u, let ⟨a, b, c, d⟩ := h.work; ⟨a, b, c.set (by omega) u, d⟩⟩
theorem Sv.s7 (h : Sv wk left over W w) (hk : wk < W.heap.size) {b : Nat} (hb : W.heap.size ≤ b) (v : Vl) (f : Nat) (a : Option Addr) (c : Nat) (a' : Option Addr) (c' : Nat) : Sv wk left over W (S7 w b v f a c a' c') :=
 ((((((h.set hk (p := ⟨b, 0, none⟩) hb _).set hk (p := ⟨b, 1, none⟩) hb _).set hk (p := ⟨b, 2, none⟩) hb _).set hk (p := ⟨b, 3, none⟩) hb _).set hk (p := ⟨b, 4, none⟩) hb _).set hk (p := ⟨b, 5, none⟩) hb _).set hk (p := ⟨b, 6, none⟩) hb _
theorem Sv.cell (h : Sv wk left over W w) {b i : Nat} {x : Value} (hb : b < W.heap.size) (hk : b ≠ wk) (hx : W.cell? ⟨b, i, none⟩ = some x) : w.cell? ⟨b, i, none⟩ = some x :=
 (World.cell?_of_block (w := W) (a := ⟨b, i, none⟩) (h.p.block b hb hk)).trans hx
end
theorem within_sv {k : Nat → Prop} {wk : Nat} {env : Env} {m : Nat} {an : Option Addr} {cn : Nat} {ai : Option Addr} {ni ci : Nat} {left0 : Int} {over0 : Bool} {w W w' : World} {left : Int} {over : Bool} (hp : Pre k wk env m an cn ai ni ci left0 over0 w) (e0 : Ext (· = wk) w.heap.size w W) (h : Sv wk left over W w')
 {x : Vl} {f : Nat} {a : Option Addr} {c : Nat} {a' : Option Addr} {c' : Nat} {i : Int} (hX : IsV w k x (vcells x f a c a' c')) (hi : I64 i) (hm : m + 1 ≤ 1073741824) :
 Calls Try.prog 90 #[sa env.names.length wk an cn ai ni ci, ia x f a c a' c' i] w' fun e w2 => ∃ A cap, e = .returned (sa env.names.length wk an cn A (ni + 1) cap) ∧ Below w'.heap.size w' w2 ∧
  IsSc w2 (Xl k w.heap.size w'.heap.size) wk (here env x i) (m + 1) an cn A (ni + 1) cap ∧ Sv wk left over W w2 ∧ (∀ b, Xl k w.heap.size w'.heap.size b → b < w2.heap.size) ∧ w.heap.size ≤ w2.heap.size := by
 have zk := hp.lt wk hp.kw;have e1 : Ext (· = wk) w.heap.size w w' := e0.trans (h.p.mono e0.size);have e2 : Ext (Xl k w.heap.size w'.heap.size) w.heap.size w w' := e1.weak fun b hb => by rw [hb]; exact .inl hp.kw
 have hx : ∀ b, Xl k w.heap.size w'.heap.size b → k b ∨ w.heap.size ≤ b := fun b h => h.imp id (·.1);obtain ⟨items, ncs, ics, rfl, h1, h2, h3, h4, h5, h6, h7⟩ := hp.sc;refine (within_any (Xl k w.heap.size w'.heap.size) i x f a c a' c' items ai ci an env.names.length cn (some ⟨wk, 0, none⟩) ics w' (by omega) (fun b h => by rcases h with h | h; (have := hp.lt b h; have := e1.size; omega); exact h.2) ((h3.other hx).ext e2 (Nat.le_refl _)) ((IsIs.other hx h4).ext e2 (Nat.le_refl _)) hi ((hX.other hx).ext e2 (Nat.le_refl _))).mono ?_
 rintro e w2 ⟨A, cap, cs, he, hb, hr, hs⟩;rw [List.length_append] at he;have zb := hb.size;have ze := e1.size;refine ⟨A, cap, he, hb, ⟨items ++ [(x, i)], ncs, cs, by simp, ((h1.other hx).ext e2 (Nat.le_refl _)).ext (.of hb) (Nat.le_refl _), ((IsNs.other hx h2).ext e2 (Nat.le_refl _)).ext (.of hb) (Nat.le_refl _), hr, hs, ?_, ?_, ?_⟩, ?_, fun b h => by rcases h with h | h; (have := hp.lt b h; omega); omega, by omega⟩
 ·unfold here; simp
 ·show env.names.length ≤ _; omega
 ·rw [List.length_append]; simp; omega
 ·obtain ⟨l', o', hw, hmm⟩ := h.work;have hzk : wk < w'.heap.size := by have := e1.size; omega
  exact h.call (.of hb) (hw.below hb hzk) hmm
theorem eval_sv {k K1 : Nat → Prop} {wk : Nat} {env env1 : Env} {m m1 : Nat} {an : Option Addr} {cn : Nat} {ai : Option Addr} {ni ci : Nat} {ai1 : Option Addr} {ni1 ci1 : Nat} {left0 : Int} {over0 : Bool} {w W w1 w' : World} {left : Int} {over : Bool} (hp : Pre k wk env m an cn ai ni ci left0 over0 w) (e0 : Ext (· = wk) w.heap.size w W) (h : Sv wk left over W w')
 (hm0 : over = false → (m1 : Int) + left ≤ room) (hK : ∀ b, k b → K1 b) (hK2 : ∀ b, K1 b → k b ∨ w.heap.size ≤ b) (hK3 : ∀ b, K1 b → b < w1.heap.size) (hsc : IsSc w1 K1 wk env1 m1 an cn ai1 ni1 ci1) (e1 : Below w1.heap.size w1 w') (hz : w.heap.size ≤ w1.heap.size)
 {t : Tr} (hok : EvalOk t) {f : Nat} {a : Option Addr} {c : Nat} {a' : Option Addr} {c' : Nat} {p q : Int} (ht : IsT w k t (tcells t f a c a' c' p q)) :
 Calls Try.prog 50 #[sa env1.names.length wk an cn ai1 ni1 ci1, ta t f a c a' c' p q] w' fun e w2 => ∃ x f a c a' c' ok left2 over2, e = .returned (.tuple #[va x f a c a' c', .bool ok]) ∧ Ext (· = wk) w'.heap.size w' w2 ∧ Work w2 wk left2 over2 ∧ (over2 = false → over = false ∧ left2 ≤ left) ∧
  IsV w2 (fun b => K1 b ∨ w1.heap.size ≤ b ∧ b < w'.heap.size) x (vcells x f a c a' c') ∧ (over2 = false → (D t).val env1 = if ok then some x else none) ∧ Sv wk left over W w2 := by
 obtain ⟨left', over', hw, hm⟩ := h.work;have e2 : Ext (· = wk) w.heap.size w w' := e0.trans (h.p.mono e0.size);have hx : ∀ b, (K1 b ∨ w1.heap.size ≤ b ∧ b < w'.heap.size) → K1 b ∨ w1.heap.size ≤ b := fun b h => h.imp id (·.1);have z1 := e1.size;have hP : Pre (fun b => K1 b ∨ w1.heap.size ≤ b ∧ b < w'.heap.size) wk env1 m1 an cn ai1 ni1 ci1 left' over' w' := ⟨.inl (hK _ hp.kw), fun b h => by rcases h with h | h; (have := hK3 b h; omega); exact h.2, (hsc.other hx).ext (.of e1) (Nat.le_refl _), hw, fun ho => by have h1 := hm ho; have h2 := hm0 h1.1; omega⟩
 have hT : IsT w' (fun b => K1 b ∨ w1.heap.size ≤ b ∧ b < w'.heap.size) t (tcells t f a c a' c' p q) := (ht.other (fun b h => by
  rcases h with h | h
  ·exact hK2 b h
  ·exact .inr (Nat.le_trans hz h.1))).ext (e2.weak fun b hb => by rw [hb]; exact .inl (hK _ hp.kw)) (Nat.le_refl _)
 refine (hok.calls hP hT).mono ?_;rintro e w2 ⟨x, f4, a4, c4, a5, c5, ok, left2, over2, he, hE, hW2, hm2, hV, hr2⟩;have hm3 := mono_trans hm hm2;exact ⟨x, f4, a4, c4, a5, c5, ok, left2, over2, he, hE, hW2, hm3, hV, hr2, h.call hE hW2 hm3⟩
structure GotW (w0 : World) (wk : Nat) (k : Nat → Prop) (left : Int) (over : Bool) (r : Option Vl) (b6 : Nat) (x : Vl) (fx : Nat) (a : Option Addr) (c : Nat) (a' : Option Addr) (c' : Nat) (ok : Bool) (left2 : Int) (over2 : Bool) (W w : World) : Prop where
 p : Ext (· = wk) W.heap.size W w
 work : Work w wk left2 over2
 mono : over2 = false → over = false ∧ left2 ≤ left
 at6 : W.heap.size ≤ b6
 blk : Lb w b6 (vcells x fx a c a' c') 39
 val : IsV w (Xl k w0.heap.size W.heap.size) x (vcells x fx a c a' c')
 mean : over2 = false → r = if ok then some x else none
section
variable {w0 W w2 : World} {wk : Nat} {k K : Nat → Prop} {left : Int} {over : Bool} {r : Option Vl} {x : Vl} {fx : Nat} {a : Option Addr} {c : Nat} {a' : Option Addr} {c' : Nat} {ok : Bool} {left2 : Int} {over2 : Bool}
theorem GotW.fresh (h : Sv wk left over W w2) (hw : Work w2 wk left2 over2) (hm : over2 = false → over = false ∧ left2 ≤ left) (hV : IsV w2 K x (vcells x fx a c a' c')) (hK : ∀ b, Xl k w0.heap.size W.heap.size b → K b) (hr : over2 = false → r = if ok then some x else none) :
 GotW w0 wk k left over r w2.heap.size x fx a c a' c' ok left2 over2 W (w2.alloc (.cells (vcells x fx a c a' c').toArray 39)) where
 p := h.p.alloc h.p.size _
 work := hw.alloc _
 mono := hm
 at6 := h.p.size
 blk := Lb.new _ _ _
 val := (hV.ext ((Ext.refl _ _ _).alloc (Nat.le_refl _) _) (Nat.le_refl _)).other fun b hb => .inl (hK b hb)
 mean := hr
theorem GotW.there (h : Sv wk left over W w2) (hk : wk < W.heap.size) (hw : Work w2 wk left2 over2) (hm : over2 = false → over = false ∧ left2 ≤ left) {b6 : Nat} (h6 : W.heap.size ≤ b6) (hV : IsV w2 K x (vcells x fx a c a' c')) (hK : ∀ b, Xl k w0.heap.size W.heap.size b → K b) (hK6 : K b6) (hr : over2 = false → r = if ok then some x else none)
 {x0 x1 x2 x3 x4 x5 x6 : Value} (L : Lb w2 b6 [x0, x1, x2, x3, x4, x5, x6] 39) : GotW w0 wk k left over r b6 x fx a c a' c' ok left2 over2 W (S7 w2 b6 x fx a c a' c') where
 p := (h.s7 hk h6 x fx a c a' c').p
 work := ((((((hw.set (p := ⟨b6, 0, none⟩) (by show b6 ≠ wk; omega) _).set (p := ⟨b6, 1, none⟩) (by show b6 ≠ wk; omega) _).set (p := ⟨b6, 2, none⟩) (by show b6 ≠ wk; omega) _).set (p := ⟨b6, 3, none⟩) (by show b6 ≠ wk; omega) _).set (p := ⟨b6, 4, none⟩) (by show b6 ≠ wk; omega) _).set (p := ⟨b6, 5, none⟩) (by show b6 ≠ wk; omega) _).set (p := ⟨b6, 6, none⟩) (by show b6 ≠ wk; omega) _
 mono := hm
 at6 := h6
 blk := L.s7 x fx a c a' c'
 val := (hV.ext ((Ext.refl _ _ _).s7 (.inl hK6) x fx a c a' c') (Nat.le_refl _)).other fun b hb => .inl (hK b hb)
 mean := hr
end
end
section
attribute [local go_sem ↓] Go.wp_at_zero Go.wp_at_succ
open Go.RowKit
theorem zip_get (l : List Vl) (q : Nat) (x : Vl) (h : l[q]? = some x) : (zipIdx l)[q]? = some (x, (q : Int)) := by
 unfold zipIdx; simp [List.getElem?_zipIdx, h]
theorem zip_length (l : List Vl) : (zipIdx l).length = l.length := by unfold zipIdx; simp
theorem mapped_nil (p : Env → Option Vl) (env : Env) : mapped p env [] = some [] := rfl
theorem mapped_cons (p : Env → Option Vl) (env : Env) (x : Vl) (i : Int) (l : List (Vl × Int)) : mapped p env ((x, i) :: l) = (p (here env x i)).bind fun y => (mapped p env l).bind fun ys => some (y :: ys) := rfl
structure Mr (k : Nat → Prop) (wk : Nat) (env : Env) (sc tn : List Value) (l : List Vl) (d : Env → Option Vl) (left : Int) (w : World) (q : Nat) (A : Option Addr) (cap : Nat) (ocs : List Value) (ys : List Vl) (left' : Int) (over' : Bool) (wr : World) : Prop where
 f : F3 w wk sc tn zcells 62 25 39 wr
 o : Lb wr (w.heap.size + 1 + 1 + 1) (lcells A q cap) 39
 work : Work wr wk left' over'
 mono : over' = false → left' ≤ left
 own : wr.ownsRow (w.heap.size + 1 + 1 + 1 + 1) 39 7 (.slice A q cap) q ocs
 vs : IsVs wr (Xs (fun b => k b ∨ b = w.heap.size + 1 + 1 ∨ b = w.heap.size + 1 + 1 + 1) A) ys ocs
 len : ys.length = q
 mean : over' = false → mapped d env (zipIdx l) = (mapped d env ((zipIdx l).drop q)).map (ys ++ ·)
theorem Mr.ext {k : Nat → Prop} {wk : Nat} {env : Env} {sc tn : List Value} {l : List Vl} {d : Env → Option Vl} {left : Int} {w : World} {q : Nat} {A : Option Addr} {cap : Nat} {ocs : List Value} {ys : List Vl} {left' : Int} {over' : Bool} {wr w1 : World} (h : Mr k wk env sc tn l d left w q A cap ocs ys left' over' wr) (hk : k wk) (zk : wk < w.heap.size)
 (e : Ext (· = wk) wr.heap.size wr w1) {left2 : Int} {over2 : Bool} (hw : Work w1 wk left2 over2) (hm : over2 = false → over' = false ∧ left2 ≤ left') : Mr k wk env sc tn l d left w q A cap ocs ys left2 over2 w1 where
 f := h.f.call e zk
 o := h.o.ext e h.o.lt (by omega)
 work := hw
 mono := fun ho => by have h1 := hm ho; have h2 := h.mono h1.1; omega
 own := own_ext h.own e (Nat.le_refl _) (fun b hb => by omega)
 vs := h.vs.ext (e.weak fun b hb => by rw [hb]; exact .inl (.inl hk)) (Nat.le_refl _)
 len := h.len
 mean := fun ho => h.mean (hm ho).1
theorem Mr.append {k : Nat → Prop} {wk : Nat} {env : Env} {sc tn : List Value} {l : List Vl} {d : Env → Option Vl} {left : Int} {w : World} {q : Nat} {A : Option Addr} {cap : Nat} {ocs : List Value} {ys : List Vl} {left' : Int} {over' : Bool} {wr w1 w3 : World} (h : Mr k wk env sc tn l d left w q A cap ocs ys left' over' wr) (zk : wk < w.heap.size)
 {y : Vl} {cs : List Value} (hV : IsV wr (Xs (fun b => k b ∨ b = w.heap.size + 1 + 1 ∨ b = w.heap.size + 1 + 1 + 1) A) y cs) (hb : Below wr.heap.size wr w1) {A3 : Option Addr} {cap3 : Nat}
 (hown3 : w3.ownsRow (w.heap.size + 1 + 1 + 1 + 1) 39 7 (.slice A3 (q + 1) cap3) (q + 1) (ocs ++ cs)) (hgr : w1.grownBy w3 (A.map (·.block))) (hat : A3 = A ∨ A3 = some ⟨w1.heap.size, 0, none⟩)
 (hmean : over' = false → mapped d env ((zipIdx l).drop q) = (mapped d env ((zipIdx l).drop (q + 1))).map (y :: ·)) :
 Mr k wk env sc tn l d left w (q + 1) A3 cap3 (ocs ++ cs) (ys ++ [y]) left' over' (w3.setCell ⟨w.heap.size + 1 + 1 + 1, 5, none⟩ (.slice A3 (q + 1) cap3)) := by
 have z := h.f.size;have zo := h.o.lt;have zb := hb.size;have hob := own_base h.own;have hne : ∀ b, b ≤ w.heap.size + 1 + 1 + 1 → some b ≠ A.map (·.block) := fun b hb he => by
  cases A with
  |none => cases he
  |some a => have := (hob a rfl).1; simp at he; omega
 have f1 : F3 w wk sc tn zcells 62 25 39 w1 := h.f.call (.of hb) zk;have f3 : F3 w wk sc tn zcells 62 25 39 w3 := f1.grown hgr fun a ha => by have := (hob a ha).1; omega
 have o3 : Lb w3 (w.heap.size + 1 + 1 + 1) (lcells A q cap) 39 := (h.o.below hb zo).grown hgr (hne _ (by omega));refine ⟨⟨f3.ext.setCell (.inr (show w.heap.size ≤ w.heap.size + 1 + 1 + 1 by omega)) _, f3.b0.other _ _ (show w.heap.size + 1 + 1 + 1 ≠ _ by omega), f3.b1.other _ _ (show w.heap.size + 1 + 1 + 1 ≠ _ by omega), f3.b2.other _ _ (show w.heap.size + 1 + 1 + 1 ≠ _ by omega)⟩, o3.set 5 _,
  ((h.work.below hb (by omega)).grown hgr fun a ha => by have := (hob a ha).1; omega).set (by show w.heap.size + 1 + 1 + 1 ≠ wk; omega) _, h.mono, own_set hown3 (by show w.heap.size + 1 + 1 + 1 < _; omega) _, ?_, by rw [List.length_append, h.len]; rfl, fun ho => ?_⟩
 ·have h1 := IsVs.grown hgr hat (h.vs.ext (.of hb) (Nat.le_refl _));have h2 := IsV.grown hgr hat (hV.ext (.of hb) (Nat.le_refl _));exact (h1.append (.one h2)).ext ((Ext.refl _ _ _).setCell (.inl (.inl (.inr (.inr rfl)))) _) (Nat.le_refl _)
 ·rw [h.mean ho, hmean ho];cases mapped d env ((zipIdx l).drop (q + 1)) <;> simp
set_option maxHeartbeats 6400000 in
set_option maxRecDepth 100000 in
theorem mapped_any (l : List Vl) (t : Tr) (hok : EvalOk t) (k : Nat → Prop) (wk : Nat) (env : Env) (m : Nat) (an : Option Addr) (cn : Nat) (ai : Option Addr) (ni ci : Nat) (left : Int) (a : Option Addr) (c : Nat) (cs : List Value) (f : Nat) (a1 : Option Addr) (c1 : Nat) (a2 : Option Addr) (c2 : Nat) (p p' : Int) (w : World)
 (hp : Pre k wk env m an cn ai ni ci left false w) (hroom : (m : Int) + 1 + left ≤ room) (hn : l.length ≤ most) (hr : Row w k a cs) (hs : IsVs w k l cs) (ht : IsT w k t (tcells t f a1 c1 a2 c2 p p')) :
 Calls Try.prog 80 #[sa env.names.length wk an cn ai ni ci, .slice a l.length c, ta t f a1 c1 a2 c2 p p'] w (Evd k wk left false ((mapped (D t).val env (zipIdx l)).map fun l => { kind := 5, items := l }) w) := by
 have zk : wk < w.heap.size := hp.lt wk hp.kw;have hl0 := hp.work.2.2 rfl;have hm1 : m + 1 ≤ 1073741824 := by unfold room at hroom; omega
 have HRM := Lib.hid hroom; have HP := Lib.hid hp; have HT := Lib.hid ht; have HOK := Lib.hid hok; have HI := Lib.hid (And.intro hr hs);clear hp ht hok hr hs hroom hl0;unfold most at hn;go_enter Try.func80, Try.ntmps80
 go_wp2_with fail
 go_loopg [16] l.length (fun g i wr => ∃ q : Nat, i = .int .i64 q ∧ q + g = l.length ∧ ∃ A cap ocs ys left' over', Mr k wk env [.slice an env.names.length cn, .slice ai ni ci, .pointer (some ⟨wk, 0, none⟩)] (tcells t f a1 c1 a2 c2 p p') l (D t).val left w q A cap ocs ys left' over' wr)
 case atStart =>
  refine ⟨0, rfl, by omega, none, 0, [], [], left, false, ⟨⟨.of (by go_grown), (((Lb.new _ _ _).alloc _).alloc _).alloc _, ((Lb.new' _ _ _ (by simp)).alloc _).alloc _, (Lb.new' _ _ _ (by simp)).alloc _⟩, Lb.new' _ _ _ (by simp), (((HP.out.work.alloc _).alloc _).alloc _).alloc _, fun _ => Int.le_refl _, World.ownsRow_nil _ _ _ _, .nil, rfl, fun _ => ?_⟩⟩;simp
 case round =>
  obtain ⟨q, rfl, hq, A, cap, ocs, ys, lr, ovr, hM⟩ := hrel;have z2 := hM.f.size;have z3 := hM.o.lt;have z1 : w.heap.size + 1 < wr.heap.size := by omega
  have z0 : w.heap.size < wr.heap.size := by omega
  by_cases hlt : 0 < gk
  ·obtain ⟨g, rfl⟩ : ∃ g, gk = g + 1 := ⟨gk - 1, by omega⟩;have hql : q < l.length := (by omega);obtain ⟨x, hx⟩ : ∃ x, l[q]? = some x := ⟨l[q], by simp⟩;obtain ⟨b, o, rfl⟩ := HI.out.1.some_of (HI.out.2.ne hql);obtain ⟨hkb, hbs, f3, a3, c3, a4, c4, hX, h7⟩ := IsVs.cells HI.out.1 HI.out.2 hx;have h7r := h7.ext hM.f.ext hbs fun h => hkb (by rw [h]; exact HP.out.kw);have d0 := h7r.c0; have d1 := h7r.c1; have d2 := h7r.c2; have d3 := h7r.c3; have d4 := h7r.c4; have d5 := h7r.c5; have d6 := h7r.c6;have hbr : b < wr.heap.size := (by omega);have HX := Lib.hid hX;have HQ := Lib.hid (show I64 (q : Int) from ⟨by omega, by omega⟩);have HD := Lib.hid (drop_cons _ _ _ (zip_get l q x hx));have HM := Lib.hid hM;clear hX h7 h7r hx hM
   go_upto_region 5 with (fail)
   obtain ⟨bx, hbx⟩ : ∃ bx, bx = wr.heap.size := ⟨_, rfl⟩;rw [← hbx];refine forget (fun W => Mr k wk env [.slice an env.names.length cn, .slice ai ni ci, .pointer (some ⟨wk, 0, none⟩)] (tcells t f a1 c1 a2 c2 p p') l (D t).val left w q A cap ocs ys lr ovr W ∧ Lb W bx (vcells x f3 a3 c3 a4 c4) 39) ?_ ?_
   ·exact ⟨HM.out.ext HP.out.kw zk (.of (by go_grown)) (HM.out.work.alloc _) mono_refl, Lb.new' _ _ _ hbx.symm⟩
   clear d0 d1 d2 d3 d4 d5 d6 z0 z1 z2 z3 hbr;rintro W ⟨hM, hLx⟩;have zx : w.heap.size + 1 + 1 + 1 < bx := (by rw [hbx]; exact HM.out.o.lt);have zxW := hLx.lt;have z2 := hM.f.size;have z1 : w.heap.size + 1 < W.heap.size := (by omega);have z0 : w.heap.size < W.heap.size := (by omega);have zkW : wk < W.heap.size := (by omega);have KEEP := Lib.hid (show ∀ w', Sv wk lr ovr W w' → Sv wk lr ovr W w' ∧ w'.cell? ⟨w.heap.size, 0, none⟩ = some (.slice an env.names.length cn) ∧ w'.cell? ⟨w.heap.size, 1, none⟩ = some (.slice ai ni ci) ∧ w'.cell? ⟨w.heap.size, 2, none⟩ = some (.pointer (some ⟨wk, 0, none⟩)) ∧ w'.cell? ⟨bx, 0, none⟩ = some (.int .i64 x.kind) ∧ w'.cell? ⟨bx, 1, none⟩ = some (.int .i64 x.int) ∧ w'.cell? ⟨bx, 2, none⟩ = some (.float .f64 f3) ∧ w'.cell? ⟨bx, 3, none⟩ = some (.string (str x.text)) ∧ w'.cell? ⟨bx, 4, none⟩ = some (.bool x.bool) ∧ w'.cell? ⟨bx, 5, none⟩ = some (.slice a3 x.items.length c3) ∧ w'.cell? ⟨bx, 6, none⟩ = some (.slice a4 x.keys.length c4) ∧ w'.cell? ⟨w.heap.size + 1, 0, none⟩ = some (.int .i64 t.kind) ∧ w'.cell? ⟨w.heap.size + 1, 1, none⟩ = some (.string (str t.name)) ∧ w'.cell? ⟨w.heap.size + 1, 2, none⟩ = some (.int .i64 t.int) ∧ w'.cell? ⟨w.heap.size + 1, 3, none⟩ = some (.float .f64 f) ∧ w'.cell? ⟨w.heap.size + 1, 4, none⟩ = some (.bool t.flag) ∧ w'.cell? ⟨w.heap.size + 1, 5, none⟩ = some (.bool t.method) ∧ w'.cell? ⟨w.heap.size + 1, 6, none⟩ = some (.bool t.limited) ∧ w'.cell? ⟨w.heap.size + 1, 7, none⟩ = some (.int .i64 t.limit) ∧ w'.cell? ⟨w.heap.size + 1, 8, none⟩ = some (.slice a1 t.kids.length c1) ∧ w'.cell? ⟨w.heap.size + 1, 9, none⟩ = some (.slice a2 t.map.length c2) ∧ w'.cell? ⟨w.heap.size + 1, 10, none⟩ = some (.int .i64 p) ∧ w'.cell? ⟨w.heap.size + 1, 11, none⟩ = some (.int .i64 p') from fun w' h => ⟨h, h.cell z0 (by omega) (hM.f.b0.cell 0), h.cell z0 (by omega) (hM.f.b0.cell 1), h.cell z0 (by omega) (hM.f.b0.cell 2), h.cell zxW (by omega) (hLx.cell 0), h.cell zxW (by omega) (hLx.cell 1), h.cell zxW (by omega) (hLx.cell 2), h.cell zxW (by omega) (hLx.cell 3), h.cell zxW (by omega) (hLx.cell 4), h.cell zxW (by omega) (hLx.cell 5), h.cell zxW (by omega) (hLx.cell 6), h.cell z1 (by omega) (hM.f.b1.cell 0), h.cell z1 (by omega) (hM.f.b1.cell 1), h.cell z1 (by omega) (hM.f.b1.cell 2), h.cell z1 (by omega) (hM.f.b1.cell 3), h.cell z1 (by omega) (hM.f.b1.cell 4), h.cell z1 (by omega) (hM.f.b1.cell 5), h.cell z1 (by omega) (hM.f.b1.cell 6), h.cell z1 (by omega) (hM.f.b1.cell 7), h.cell z1 (by omega) (hM.f.b1.cell 8), h.cell z1 (by omega) (hM.f.b1.cell 9), h.cell z1 (by omega) (hM.f.b1.cell 10), h.cell z1 (by omega) (hM.f.b1.cell 11)⟩)
   have hW : Sv wk lr ovr W W := ⟨Ext.refl _ _ _, lr, ovr, hM.work, mono_refl⟩;have HE := Lib.hid (show Ext (· = wk) w.heap.size w W from hM.f.ext);have HR2 := Lib.hid (show ovr = false → ((m + 1 : Nat) : Int) + lr ≤ room from fun ho => by have h1 := hM.mono ho; have h2 := HRM.out; omega);have HM2 := Lib.hid hM; have HLx := Lib.hid hLx;clear hM hLx hbx
   go_cut [11, 12] from 17 to 40 (fun s11 s12 wx => ∃ b6 y f8 a8 c8 a9 c9 ok left2 over2, s11 = .pointer (some ⟨b6, 0, none⟩) ∧ s12 = .bool ok ∧ GotW w wk k lr ovr ((D t).val (here env x q)) b6 y f8 a8 c8 a9 c9 ok left2 over2 W wx)
   case first =>
    go_region_held3 (fun w' => Sv wk lr ovr W w' ∧ w'.cell? ⟨w.heap.size, 0, none⟩ = some (.slice an env.names.length cn) ∧ w'.cell? ⟨w.heap.size, 1, none⟩ = some (.slice ai ni ci) ∧ w'.cell? ⟨w.heap.size, 2, none⟩ = some (.pointer (some ⟨wk, 0, none⟩)) ∧ w'.cell? ⟨bx, 0, none⟩ = some (.int .i64 x.kind) ∧ w'.cell? ⟨bx, 1, none⟩ = some (.int .i64 x.int) ∧ w'.cell? ⟨bx, 2, none⟩ = some (.float .f64 f3) ∧ w'.cell? ⟨bx, 3, none⟩ = some (.string (str x.text)) ∧ w'.cell? ⟨bx, 4, none⟩ = some (.bool x.bool) ∧ w'.cell? ⟨bx, 5, none⟩ = some (.slice a3 x.items.length c3) ∧ w'.cell? ⟨bx, 6, none⟩ = some (.slice a4 x.keys.length c4) ∧ w'.cell? ⟨w.heap.size + 1, 0, none⟩ = some (.int .i64 t.kind) ∧ w'.cell? ⟨w.heap.size + 1, 1, none⟩ = some (.string (str t.name)) ∧ w'.cell? ⟨w.heap.size + 1, 2, none⟩ = some (.int .i64 t.int) ∧ w'.cell? ⟨w.heap.size + 1, 3, none⟩ = some (.float .f64 f) ∧ w'.cell? ⟨w.heap.size + 1, 4, none⟩ = some (.bool t.flag) ∧ w'.cell? ⟨w.heap.size + 1, 5, none⟩ = some (.bool t.method) ∧ w'.cell? ⟨w.heap.size + 1, 6, none⟩ = some (.bool t.limited) ∧ w'.cell? ⟨w.heap.size + 1, 7, none⟩ = some (.int .i64 t.limit) ∧ w'.cell? ⟨w.heap.size + 1, 8, none⟩ = some (.slice a1 t.kids.length c1) ∧ w'.cell? ⟨w.heap.size + 1, 9, none⟩ = some (.slice a2 t.map.length c2) ∧ w'.cell? ⟨w.heap.size + 1, 10, none⟩ = some (.int .i64 p) ∧ w'.cell? ⟨w.heap.size + 1, 11, none⟩ = some (.int .i64 p'))
     (first | with_reducible exact KEEP.out _ (Sv.drew hW) | with_reducible exact KEEP.out _ hsv2 | with_reducible exact KEEP.out _ (Sv.alloc hsv2 _) | with_reducible exact KEEP.out _ (Sv.s7 hsv2 zkW (Nat.le_refl _) _ _ _ _ _ _) | with_reducible exact KEEP.out _ (Sv.s7 hsv2 zkW hsv1.p.size _ _ _ _ _ _) | with_reducible exact KEEP.out _ hsv1 | with_reducible exact KEEP.out _ (Sv.alloc hsv1 _) | with_reducible exact KEEP.out _ (Sv.allocD (Sv.drew hW) _))
     (first
       |(go_at_call 90; apply Calls.mono; (focus (with_reducible exact within_sv HP.out HE.out (And.left ‹Sv _ _ _ _ _ ∧ _›) HX.out HQ.out hm1)); rintro e w1 ⟨A1, cap1, rfl, hb1, hsc, hsv1, hk1, hz1⟩; (try (have L5 : Lb w1 W.heap.size _ 39 := Lb.below (Lb.drew (Lb.new' _ _ _ (by simp))) hb1 (by simp))))
       |(go_at_call 50; apply Calls.mono; (focus (refine eval_sv HP.out HE.out (And.left ‹Sv _ _ _ _ _ ∧ _›) HR2.out (fun b h => .inl h) (fun b h => h.imp id (·.1)) hk1 hsc ?_ hz1 HOK.out HT.out; go_grown)); rintro e w2 ⟨y, f8, a8, c8, a9, c9, ok, left2, over2, rfl, hE, hW2, hm2, hV, hr2, hsv2⟩; have zs1 := hsv1.p.size;
          (try (first | (have L6 : Lb w2 w1.heap.size _ 39 := Lb.ext (Lb.new' _ _ _ (by simp)) hE (by simp) (by omega); have r6 := L6.cell; have g6 := L6.frozen; have z6 := L6.lt) | (have L6 := Lb.ext L5 hE L5.lt (by omega); have r6 := L6.cell; have g6 := L6.frozen; have z6 := L6.lt) | (have L6 : Lb w2 w1.heap.size _ 39 := Lb.ext (Lb.drew (Lb.new' _ _ _ (by simp))) hE (by simp) (by omega); have r6 := L6.cell; have g6 := L6.frozen; have z6 := L6.lt)))))
    all_goals
     go_wp21;go_meet
     case rel =>
      first |(have qq := GotW.there hsv2 zkW hW2 hm2 (Nat.le_refl W.heap.size) hV (fun b h => .inl (h.imp id fun h => ⟨h.1, by simp; omega⟩)) (.inl (.inr ⟨by omega, by simp⟩)) hr2 L6; exact ⟨_, y, f8, a8, c8, a9, c9, ok, left2, over2, rfl, rfl, qq⟩) |(have qq := GotW.there hsv2 zkW hW2 hm2 zs1 hV (fun b h => .inl h) (.inr ⟨Nat.le_refl _, by simp⟩) hr2 L6; exact ⟨_, y, f8, a8, c8, a9, c9, ok, left2, over2, rfl, rfl, qq⟩) |(have qq := GotW.fresh (w0 := w) hsv2 hW2 hm2 hV (fun b h => .inl h) hr2; exact ⟨_, y, f8, a8, c8, a9, c9, ok, left2, over2, rfl, rfl, qq⟩)
   case rest =>
    obtain ⟨b6, y, f8, a8, c8, a9, c9, ok, left2, over2, rfl, rfl, hG⟩ := hcut;have hM := HM2.out.ext HP.out.kw zk hG.p hG.work hG.mono;have zy := hG.blk.lt;have y3 := hM.o.lt;have y2 := hM.f.size;have y1 : w.heap.size + 1 < wc.heap.size := (by omega);have y0 : w.heap.size < wc.heap.size := (by omega);have HG := Lib.hid hG; have HM3 := Lib.hid hM;clear hG KEEP hW;cases ok with
    |false =>
     have r1 := hM.f.b2.cell; have g1 := hM.f.b2.frozen;clear hM;unfold zcells at r1;go_wp21;refine bodyPost_ret (v := .tuple #[zero, .bool false]) (by simp [results, Try.results80, go_sem, r1, g1, y0, y1, y2, y3, zy]; try rfl) rfl ?_;refine Evd.end (x := {}) (ok := false) rfl HM3.out.f.ext HM3.out.work (fun ho => ⟨rfl, HM3.out.mono ho⟩) zk (by go_grown) (zeroV _ _) fun ho => ?_;rw [HM3.out.mean ho, HD.out, mapped_cons, HG.out.mean ho]; rfl
    |true =>
     have r6 := hM.o.cell; have g6 := hM.o.frozen;have rB := HG.out.blk.cell;have x3 := HM2.out.o.lt;have hob := own_base HM2.out.own;have HV := Lib.hid (HG.out.val.other (k' := Xs (fun b => k b ∨ b = w.heap.size + 1 + 1 ∨ b = w.heap.size + 1 + 1 + 1) A) fun b h => by
      rcases h with (h | h | h) | ⟨a, h, rfl⟩
      ·exact .inl (.inl h)
      ·exact .inl (.inr ⟨by omega, by omega⟩)
      ·exact .inl (.inr ⟨by omega, by omega⟩)
      ·have := hob a h; exact .inl (.inr ⟨by omega, this.2⟩))
     have hne : ∀ b, b ≤ w.heap.size + 1 + 1 + 1 → some b ≠ A.map (·.block) := fun b hb he => by
      cases A with
      |none => cases he
      |some a => have := (hob a rfl).1; simp at he; omega
     clear hM;unfold lcells at r6;unfold vcells at rB
     go_wp2_with ((at_builtin; refine wpList_append_o el36 rfl (.tmp 35) (.tmp 37) rfl (w.heap.size + 1 + 1 + 1 + 1) A q cap ocs (by rfl) (HM3.out.own.alloc _) _ 1 1 (vcells y f8 a8 c8 a9 c9) (by rfl) (by rfl) (Laid.of_lb (Lb.new' _ _ _ (by simp))) (ones_v _ _ _ _ _ _) (q + 1) rfl (by omega) (by simp; omega) ?_); intro A3 cap3 w3 hown3 hgr3 hat3; have qq := HM3.out.append zk HV.out (by go_grown) hown3 hgr3 hat3 (fun ho => by rw [HD.out, mapped_cons, HG.out.mean ho]; cases mapped (D t).val env ((zipIdx l).drop (q + 1)) <;> rfl); have HQQ := Lib.hid qq; clear qq; have r7 := (Lb.below HM3.out.o (w1 := wc.alloc _) (by go_grown) y3).grown hgr3 (hne _ (Nat.le_refl _)) |>.cell; have z7 : w.heap.size + 1 + 1 + 1 < w3.heap.size := (Lb.below HM3.out.o (w1 := wc.alloc _) (by go_grown) y3).grown hgr3 (hne _ (Nat.le_refl _)) |>.lt; have g7 := (Lb.below HM3.out.o (w1 := wc.alloc _) (by go_grown) y3).grown hgr3 (hne _ (Nat.le_refl _)) |>.frozen; unfold lcells at r7)
     go_roundg g
     case measure => omega
     case rel => exact ⟨q + 1, by go_num, by omega, A3, cap3, _, ys ++ [y], left2, over2, HQQ.out⟩
  ·obtain rfl : gk = 0 := (by omega);obtain rfl : q = l.length := (by omega);have r1 := hM.f.b2.cell; have g1 := hM.f.b2.frozen; have r2 := hM.o.cell;have HM := Lib.hid hM;clear hM;unfold zcells at r1;unfold lcells at r2;go_wp21;refine bodyPost_ret (v := .tuple #[.agg #[.int .i64 5, .int .i64 0, .float .f64 0, .string ⟨#[]⟩, .bool false, .slice A l.length cap, .slice none 0 0], .bool true]) (by simp [results, Try.results80, go_sem, r1, g1, z0, z1, z2, z3]; try rfl) rfl ?_;refine Evd.end (x := { kind := 5, items := ys }) (f := 0) (a := A) (c := cap) (a' := none) (c' := 0) (ok := true) (by rw [← HM.out.len]; rfl) HM.out.f.ext HM.out.work (fun ho => ⟨rfl, HM.out.mono ho⟩) zk (by go_grown) (isV_list HM.out.own HM.out.vs (by rw [HM.out.len]; unfold most; omega) HP.out.lt (fun b h => .inl h) ?_ ?_ (by omega)) fun ho => ?_
   ·refine ((((((((Ext.refl _ _ _).setCell (.inl ?_) _).setCell (.inl ?_) _).setCell (.inl ?_) _).setCell (.inl ?_) _).setCell (.inl ?_) _).setCell (.inl ?_) _).setCell (.inl ?_) _)
    all_goals exact .inl (.inr (.inl rfl))
   ·refine ((((((((Ext.refl _ _ _).setCell (.inl ?_) _).setCell (.inl ?_) _).setCell (.inl ?_) _).setCell (.inl ?_) _).setCell (.inl ?_) _).setCell (.inl ?_) _).setCell (.inl ?_) _)
    all_goals (show w.heap.size + 1 + 1 < _; omega)
   ·rw [HM.out.mean ho, List.drop_eq_nil_of_le (by rw [zip_length]; omega), mapped_nil];simp
end
end Go.Proofs.Ytafhhdimjkgihaa.Mn
