/- What the program does, function by function, and what trees mean: part 40. -/
import Derived.Test.YtafhhdimjkgihaaM19
import Derived.Test.YtafhhdimjkgihaaM15
import Derived.Test.YtafhhdimjkgihaaM01
import Derived.Test.YtafhhdimjkgihaaM21
set_option linter.unusedSimpArgs false
set_option linter.unusedVariables false
namespace Go.Proofs.Ytafhhdimjkgihaa.Mn
section
attribute [local go_sem ↓] Go.wp_at_zero Go.wp_at_succ
open Go.RowKit
def ZzOk (fn : FuncId) (st : Tr → Tr) (t : Tr) : Prop := ∀ v fp pb po cs Tp w, Pos w pb po cs Tp v t fp (fun _ => False) → Calls Try.prog fn #[.pointer (some ⟨pb, po, none⟩)] w (Wd (T st t) pb po cs Tp fp (fun _ => False) (fun _ => True) w)
theorem Pos.below {w w1 : World} {pb po : Nat} {cs : List Value} {Tp : TypeId} {v : Value} {t : Tr} {fp : List Nat} (h : Pos w pb po cs Tp v t fp (fun _ => False)) (hb : Below w.heap.size w w1) : Pos w1 pb po cs Tp v t fp (fun _ => False) :=
 ⟨h.lb.below hb h.lb.lt, h.get, h.tree.same fun b hx => hb.block b (h.tree.lt b hx), h.nd, h.out, fun b hb => hb.elim⟩
theorem turn_below {pb : Nat} {fp : List Nat} {w w1 : World} (hb : Below w.heap.size w w1) : Turn pb fp (fun _ => False) w w1 := ⟨hb.os, hb.tape, hb.output, hb.size, fun b h _ _ _ => hb.block b h⟩
def ImplOk (fn : FuncId) (st : Tr → Tr) (t : Tr) : Prop := WholeT t → ∀ (k : Nat → Prop) (f : Nat) (a : Option Addr) (c : Nat) (a' : Option Addr) (c' : Nat) (p q : Int) (w : World), (∀ b, k b → b < w.heap.size) → IsT w k t (tcells t f a c a' c' p q) →
 Calls Try.prog fn #[ta t f a c a' c' p q] w (Vcd k (T st (nrm t)) w)
end
section
inductive RightV : Vl → Prop
 |mk (v : Vl) (h0 : 0 ≤ v.kind ∧ v.kind ≤ 6) (h1 : v.kind < 5 → v.items = []) (h2 : v.kind ≠ 6 → v.keys = []) (h3 : v.kind = 6 → v.keys.length = v.items.length ∧ v.keys.Nodup) (h4 : ∀ x ∈ v.items, RightV x) (h5 : v.items.length ≤ 1099511627776) : RightV v
theorem at_nth (ks : List Nm) (its : List Vl) (hn : ks.Nodup) (hl : ks.length = its.length) : ∀ (i : Nat) (h : i < ks.length), at_ ks its ks[i] = some (its[i]'(by omega)) := by
 induction ks generalizing its with
 |nil => intro i h; simp at h
 |cons k ks ih =>
  intro i h
  match its, hl with
  |x :: its, hl =>
   rw [at_];cases i with
   |zero => rw [if_pos (by simp)]; rfl
   |succ i =>
    have hne : k ≠ ks[i]'(by simpa using h) := fun e => (List.nodup_cons.1 hn).1 (e ▸ List.getElem_mem _);rw [if_neg (by simpa using hne)];exact ih its (List.nodup_cons.1 hn).2 (by simpa using hl) i (by simpa using h)
end
section
attribute [local go_sem ↓] Go.wp_at_zero Go.wp_at_succ
open Go.RowKit
def mostR : Nat := 8796093021952
mutual
inductive IsR (w : World) (k : Nat → Prop) : Vl → List Value → Prop
 |mk (v : Vl) (f : Nat) (a : Option Addr) (c : Nat) (a' : Option Addr) (c' : Nat) (its : List Value) (hf : cn f = v.flt) (hk : I64 v.kind) (hi : I64 v.int) (hn : v.items.length ≤ mostR) (hn' : v.keys.length ≤ mostR) (ht : v.text.length ≤ 140737488355328)
   (hc : v.keys.length ≤ c') (hr : Row w k a its) (hs : IsRs w k v.items its) (hr' : Row w k a' (kcells v.keys)) : IsR w k v (vcells v f a c a' c')
inductive IsRs (w : World) (k : Nat → Prop) : List Vl → List Value → Prop
 |nil : IsRs w k [] []
 |cons {v l c cs} (h : IsR w k v c) (hl : IsRs w k l cs) : IsRs w k (v :: l) (c ++ cs)
end
mutual
theorem IsR.ext {k : Nat → Prop} {B : Nat} {w w' : World} (e : Ext k B w w') (hB : w.heap.size ≤ B) : {v : Vl} → {c : List Value} → IsR w k v c → IsR w' k v c
 |_, _, .mk v f a c a' c' its hf hk hi hn hn' ht hc hr hs hr' => .mk v f a c a' c' its hf hk hi hn hn' ht hc (hr.ext e hB) (IsRs.ext e hB hs) (hr'.ext e hB)
theorem IsRs.ext {k : Nat → Prop} {B : Nat} {w w' : World} (e : Ext k B w w') (hB : w.heap.size ≤ B) : {l : List Vl} → {cs : List Value} → IsRs w k l cs → IsRs w' k l cs
 |_, _, .nil => .nil
 |_, _, .cons h hl => .cons (IsR.ext e hB h) (IsRs.ext e hB hl)
end
mutual
theorem IsR.other {k k' : Nat → Prop} {w : World} (hk' : ∀ b, k' b → k b ∨ w.heap.size ≤ b) : {v : Vl} → {c : List Value} → IsR w k v c → IsR w k' v c
 |_, _, .mk v f a c a' c' its hf hk hi hn hn' ht hm hr hs hr' => .mk v f a c a' c' its hf hk hi hn hn' ht hm (hr.other hk') (IsRs.other hk' hs) (hr'.other hk')
theorem IsRs.other {k k' : Nat → Prop} {w : World} (hk' : ∀ b, k' b → k b ∨ w.heap.size ≤ b) : {l : List Vl} → {cs : List Value} → IsRs w k l cs → IsRs w k' l cs
 |_, _, .nil => .nil
 |_, _, .cons h hl => .cons (IsR.other hk' h) (IsRs.other hk' hl)
end
mutual
theorem IsV.toR {k : Nat → Prop} {w : World} : {v : Vl} → {c : List Value} → IsV w k v c → IsR w k v c
 |_, _, .mk v f a c a' c' its hf hk hi hn hn' ht hm hr hs hr' => .mk v f a c a' c' its hf hk hi (Nat.le_trans hn (by decide)) (Nat.le_trans hn' (by decide)) ht hm.2 hr (IsVs.toR hs) hr'
theorem IsVs.toR {k : Nat → Prop} {w : World} : {l : List Vl} → {cs : List Value} → IsVs w k l cs → IsRs w k l cs
 |_, _, .nil => .nil
 |_, _, .cons h hl => .cons (IsV.toR h) (IsVs.toR hl)
end
theorem rightV_kids {v : Vl} (h : RightV v) : (∀ x ∈ v.items, RightV x) ∧ (v.kind = 6 → v.keys.length = v.items.length) := by cases h with | mk v h0 h1 h2 h3 h4 => exact ⟨h4, fun h => (h3 h).1⟩
theorem rightV_len {v : Vl} (h : RightV v) : v.items.length ≤ most ∧ v.keys.length ≤ most := by
 cases h with | mk v h0 h1 h2 h3 h4 h5 =>
 have h6 : v.items.length ≤ most := by unfold most; omega
 refine ⟨h6, ?_⟩
 by_cases hk : v.kind = 6
 ·rw [(h3 hk).1]; exact h6
 ·rw [h2 hk]; simp
mutual
theorem IsR.toV {k : Nat → Prop} {w : World} : {v : Vl} → {c : List Value} → IsR w k v c → RightV v → IsV w k v c
 |_, _, .mk v f a c a' c' its hf hk hi hn hn' ht hc hr hs hr', h => .mk v f a c a' c' its hf hk hi (rightV_len h).1 (rightV_len h).2 ht ⟨(rightV_kids h).2, hc⟩ hr (IsRs.toV hs (rightV_kids h).1) hr'
theorem IsRs.toV {k : Nat → Prop} {w : World} : {l : List Vl} → {cs : List Value} → IsRs w k l cs → (∀ x ∈ l, RightV x) → IsVs w k l cs
 |_, _, .nil, _ => .nil
 |_, _, .cons h hl, g => .cons (IsR.toV h (g _ (List.mem_cons_self ..))) (IsRs.toV hl fun x hx => g x (List.mem_cons_of_mem _ hx))
end
theorem IsR.length {w : World} {k : Nat → Prop} {v : Vl} {c : List Value} (h : IsR w k v c) : c.length = 7 := by
 cases h; rfl
theorem IsRs.length {w : World} {k : Nat → Prop} {l : List Vl} {cs : List Value} (h : IsRs w k l cs) : cs.length = l.length * 7 := by
 induction l generalizing cs with
 |nil => cases h; rfl
 |cons v l ih =>
  cases h with
  |cons h hl => rw [List.length_append, h.length, ih hl, List.length_cons]; omega
theorem IsRs.ne {w : World} {k : Nat → Prop} {l : List Vl} {cs : List Value} (h : IsRs w k l cs) {q : Nat} (hq : q < l.length) : cs ≠ [] := by
 intro h0;have := h.length;rw [h0] at this;simp at this; omega
theorem IsRs.get {w : World} {k : Nat → Prop} {l : List Vl} {cs : List Value} (h : IsRs w k l cs) : ∀ (i : Nat) (v : Vl), l[i]? = some v → ∃ c, IsR w k v c ∧ ∀ j x, c[j]? = some x → cs[i * 7 + j]? = some x := by
 induction l generalizing cs with
 |nil => intro i v hv; simp at hv
 |cons u l ih =>
  cases h with
  |@cons _ _ c cs h hl =>
   intro i v hv;cases i with
   |zero =>
    simp at hv;subst hv;refine ⟨c, h, fun j x hx => ?_⟩;rw [Nat.zero_mul, Nat.zero_add, List.getElem?_append_left (by exact (List.getElem?_eq_some_iff.1 hx).1)];exact hx
   |succ i =>
    obtain ⟨c', h1, h2⟩ := ih hl i v (by simpa using hv);refine ⟨c', h1, fun j x hx => ?_⟩;rw [List.getElem?_append_right (by rw [h.length]; omega), h.length, show (i + 1) * 7 + j - 7 = i * 7 + j by omega];exact h2 j x hx
theorem IsRs.cells {w : World} {k : Nat → Prop} {b o : Nat} {l : List Vl} {cs : List Value} (hr : Row w k (some ⟨b, o, none⟩) cs) (hs : IsRs w k l cs) {i : Nat} {v : Vl} (hi : l[i]? = some v) :
 ¬ k b ∧ b < w.heap.size ∧ ∃ f a c a' c', IsR w k v (vcells v f a c a' c') ∧ C7 w b (o + i * 7) v f a c a' c' := by
 obtain ⟨c, h1, h2⟩ := hs.get i v hi;have hc7 := h1.length;rcases hr with h | ⟨b', o', he, hk, hb, hra⟩
 ·exfalso;have := h2 0 (c[0]) (by simp);rw [h] at this; simp at this
 ·simp only [Option.some.injEq, Addr.mk.injEq, and_true] at he;obtain ⟨rfl, rfl⟩ := he;refine ⟨hk, hb, ?_⟩;cases h1 with
  |mk v f a c a' c' its hf hk' hi' hn hn' ht hm hr hs' hr' =>
   refine ⟨f, a, c, a', c', .mk v f a c a' c' its hf hk' hi' hn hn' ht hm hr hs' hr', C7.of fun j x hx => ?_⟩;have := hra _ _ (h2 j x hx);rw [← Nat.add_assoc] at this;exact this
theorem IsR.inv {w : World} {k : Nat → Prop} {v : Vl} {f : Nat} {a : Option Addr} {c : Nat} {a' : Option Addr} {c' : Nat} (h : IsR w k v (vcells v f a c a' c')) :
 I64 v.kind ∧ v.items.length ≤ mostR ∧ v.keys.length ≤ mostR ∧ v.keys.length ≤ c' ∧ (∃ its, Row w k a its ∧ IsRs w k v.items its) ∧ Row w k a' (kcells v.keys) := by
 generalize hc : vcells v f a c a' c' = cs at h
 cases h with
 |mk v f2 a2 c2 a2' c2' its hf hk' hi' hn hn' ht hm hr hs' hr' =>
  simp only [vcells, List.cons.injEq, Value.float.injEq, Value.slice.injEq, and_true, true_and] at hc;obtain ⟨rfl, ⟨rfl, rfl⟩, rfl, rfl⟩ := hc;exact ⟨hk', hn, hn', hm, ⟨its, hr, hs'⟩, hr'⟩
theorem kcells_pos (l : List Nm) {q : Nat} (h : q < l.length) : kcells l ≠ [] := fun h2 => by
 have h3 : (kcells l).length = 0 := by rw [h2]; rfl
 unfold kcells at h3;rw [List.length_map] at h3; omega
def Ri (lk : Nat) (left : Int) (v : Vl) (w : World) (e : Ending) (w' : World) : Prop :=
 ∃ b left', e = .returned (.bool b) ∧ Ext (· = lk) w.heap.size w w' ∧ Lb w' lk [.int .i64 left'] 3 ∧ (b = true → RightV v ∧ 0 ≤ left' ∧ left' + 1 ≤ left)
def RiOk (v : Vl) : Prop := ∀ (k : Nat → Prop) (lk : Nat) (left : Int) (f : Nat) (a : Option Addr) (c : Nat) (a' : Option Addr) (c' : Nat) (w : World), k lk → Lb w lk [.int .i64 left] 3 → 0 ≤ left ∧ left ≤ 1099511627776 → IsR w k v (vcells v f a c a' c') →
 Calls Try.prog 51 #[va v f a c a' c', .pointer (some ⟨lk, 0, none⟩)] w (Ri lk left v w)
structure Rr (lk : Nat) (left : Int) (l0 : List Value) (v : Vl) (w : World) (q : Nat) (left' : Int) (wr : World) : Prop where
 e : Ext (· = lk) w.heap.size w wr
 b0 : Lb wr w.heap.size l0 39
 l : Lb wr lk [.int .i64 left'] 3
 n : 0 ≤ left' ∧ left' + q + 1 ≤ left
 r : ∀ x ∈ v.items.take q, RightV x
 d : v.kind = 6 → (v.keys.take q).Nodup
theorem Rr.below {lk : Nat} {left : Int} {l0 : List Value} {v : Vl} {w : World} {q : Nat} {left' : Int} {wr w1 : World} (h : Rr lk left l0 v w q left' wr) (hb : Below wr.heap.size wr w1) : Rr lk left l0 v w q left' w1 :=
 ⟨h.e.trans ((Ext.of hb).mono h.e.size), h.b0.below hb h.b0.lt, h.l.below hb h.l.lt, h.n, h.r, h.d⟩
set_option maxHeartbeats 6400000 in
set_option maxRecDepth 100000 in
theorem right_step (v : Vl) (ih : ∀ x ∈ v.items, RiOk x) : RiOk v := by
 intro k lk left f a c a' c' w hk hl hn hv;have IH := Lib.hid ih; have HV := Lib.hid hv; have HK := Lib.hid hk; have HL := Lib.hid hl;have hil : v.items.length ≤ 8796093021952 := hv.inv.2.1;have hkl : v.keys.length ≤ 8796093021952 := hv.inv.2.2.1;have hcap : v.keys.length ≤ c' := hv.inv.2.2.2.1;have zk : lk < w.heap.size := hl.lt;have c0 : w.cell? ⟨lk, 0, none⟩ = some (.int .i64 left) := hl.cell 0;have f0 : w.frozen? ⟨lk, 0, none⟩ = false := hl.frozen 0;have hw1 : IntKind.i64.wrap (left - 1) = left - 1 := by rw [IntKind.wrap_i64]; omega
 have hw2 : wrap64 (left - 1) = left - 1 := by unfold wrap64; omega
 have HLW := Lib.hid (show ∀ (u : Int) (o : Obj), Lb ((w.setCell ⟨lk, 0, none⟩ (.int .i64 u)).alloc o) lk [.int .i64 u] 3 from fun u o => (hl.set 0 _).alloc o);have HEX := Lib.hid (show ∀ (u : Int) (o : Obj), Ext (· = lk) w.heap.size w ((w.setCell ⟨lk, 0, none⟩ (.int .i64 u)).alloc o) from fun u o => ((Ext.refl (· = lk) _ _).setCell (.inl rfl) _).alloc (by simp) o);have HNW := Lib.hid (show ∀ (u : Int) (cs : List Value), Lb ((w.setCell ⟨lk, 0, none⟩ (.int .i64 u)).alloc (.cells cs.toArray 39)) w.heap.size cs 39 from fun u cs => Lb.new' _ _ _ (by simp));clear ih hv hk hl
 by_cases h0 : left = 0
 ·have t0 : decide (left - 1 < 0) = true := decide_eq_true (by omega);go_enter Try.func51, Try.ntmps51
  go_wp2_with fail
  go_ret;exact ⟨false, _, rfl, HEX.out _ _, HLW.out _ _, fun h => by cases h⟩
 have t0 : decide (left - 1 < 0) = false := decide_eq_false (by omega)
 by_cases h1 : v.kind < 0
 ·have t1 : decide (v.kind < 0) = true := decide_eq_true (by omega);clear h1;go_enter Try.func51, Try.ntmps51
  go_wp2_with fail
  go_ret;exact ⟨false, _, rfl, HEX.out _ _, HLW.out _ _, fun h => by cases h⟩
 have t1 : decide (v.kind < 0) = false := decide_eq_false (by omega)
 by_cases h2 : 6 < v.kind
 ·have t2 : decide (6 < v.kind) = true := decide_eq_true (by omega);clear h1 h2;go_enter Try.func51, Try.ntmps51
  go_wp2_with fail
  go_ret;exact ⟨false, _, rfl, HEX.out _ _, HLW.out _ _, fun h => by cases h⟩
 have t2 : decide (6 < v.kind) = false := decide_eq_false (by omega)
 by_cases h3 : v.kind < 5 ∧ 0 < v.items.length
 ·obtain ⟨h3, h4⟩ := h3;have t3 : decide (v.kind < 5) = true := decide_eq_true (by omega);have t4 : decide (0 < v.items.length) = true := decide_eq_true (by omega);have t4i : decide ((0 : Int) < (v.items.length : Int)) = true := decide_eq_true (by omega);clear h1 h2 h3 h4;go_enter Try.func51, Try.ntmps51
  go_wp2_with fail
  go_ret;exact ⟨false, _, rfl, HEX.out _ _, HLW.out _ _, fun h => by cases h⟩
 by_cases h5 : v.kind ≠ 6 ∧ 0 < v.keys.length
 ·obtain ⟨h5, h6⟩ := h5;have t5 : (v.kind != 6) = true := by simpa using h5
  have t6 : decide (0 < v.keys.length) = true := decide_eq_true (by omega);have t6i : decide ((0 : Int) < (v.keys.length : Int)) = true := decide_eq_true (by omega)
  by_cases h3' : v.kind < 5
  ·have hi0 : v.items.length = 0 := (by omega);have t3 : decide (v.kind < 5) = true := decide_eq_true (by omega);have t4 : decide (0 < v.items.length) = false := decide_eq_false (by omega);have t4i : decide ((0 : Int) < (v.items.length : Int)) = false := decide_eq_false (by omega);clear h1 h2 h3 h3' h5 h6;go_enter Try.func51, Try.ntmps51
   go_wp2_with fail
   go_ret;exact ⟨false, _, rfl, HEX.out _ _, HLW.out _ _, fun h => by cases h⟩
  ·have t3 : decide (v.kind < 5) = false := decide_eq_false (by omega);clear h1 h2 h3 h3' h5 h6;go_enter Try.func51, Try.ntmps51
   go_wp2_with fail
   go_ret;exact ⟨false, _, rfl, HEX.out _ _, HLW.out _ _, fun h => by cases h⟩
 by_cases h7 : v.kind = 6
 ·have t5 : (v.kind != 6) = false := by simpa using h7
  have t7 : (v.kind == 6) = true := by simpa using h7
  have t3 : decide (v.kind < 5) = false := decide_eq_false (by omega)
  by_cases h8 : v.keys.length = v.items.length
  ·have t8 : ((v.keys.length : Int) != (v.items.length : Int)) = false := (by simp [h8]);have HG := Lib.hid (show (v.kind < 5 → v.items.length = 0) ∧ (v.kind ≠ 6 → v.keys.length = 0) ∧ (v.kind = 6 → v.keys.length = v.items.length) from ⟨fun h => by omega, fun h => by omega, fun h => h8⟩);have HN6 := Lib.hid h7;clear h7 h8 h3 h5;go_enter Try.func51, Try.ntmps51
   go_wp2_with fail
   refine forget (fun w' => Rr lk left (vcells v f a c a' c') v w 0 (left - 1) w') ?_ ?_
   ·exact ⟨HEX.out _ _, HNW.out _ _, HLW.out _ _, ⟨by omega, by omega⟩, fun x hx => by simp at hx, fun _ => by simp⟩
   intro W hW;have HW := Lib.hid hW;clear hW
   go_loopg [67] v.items.length (fun g i wr => ∃ q : Nat, i = .int .i64 q ∧ q + g = v.items.length ∧ ∃ left', Rr lk left (vcells v f a c a' c') v w q left' wr)
   case atStart => exact ⟨0, rfl, by omega, _, HW.out⟩
   case round =>
    obtain ⟨q, rfl, hq, lr, hR⟩ := hrel;clear HW c0 f0;have z0 := hR.b0.lt;have r0 := hR.b0.cell;unfold vcells at r0
    by_cases hlt : 0 < gk
    ·obtain ⟨g, rfl⟩ : ∃ g, gk = g + 1 := ⟨gk - 1, by omega⟩;have hql : q < v.items.length := (by omega);obtain ⟨x, hx⟩ : ∃ x, v.items[q]? = some x := ⟨v.items[q], by simp⟩;obtain ⟨_, _, _, _, ⟨its, hri, hsi⟩, hrk⟩ := HV.out.inv;obtain ⟨b, o, rfl⟩ := hri.some_of (hsi.ne hql);obtain ⟨hkb, hbs, f3, a3, c3, a4, c4, hX, h7⟩ := IsRs.cells hri hsi hx;have hbk : ¬ b = lk := fun h => hkb (by rw [h]; exact HK.out);have h7r := h7.ext hR.e hbs hbk;have d0 := h7r.c0; have d1 := h7r.c1; have d2 := h7r.c2; have d3 := h7r.c3; have d4 := h7r.c4; have d5 := h7r.c5; have d6 := h7r.c6;have hbr : b < wr.heap.size := (by have := hR.e.size; omega);have zi0 : (0 : Int) ≤ (q : Int) := (by omega);have zi1 : (q : Int) < (v.items.length : Int) := (by omega);have HX := Lib.hid hX; have HXQ := Lib.hid hx; have HR := Lib.hid hR;have IHx := Lib.hid (IH.out x (List.mem_of_getElem? hx));have HLR := Lib.hid hR.n;have hlr : 0 ≤ lr ∧ lr ≤ 1099511627776 := ⟨hR.n.1, by have := hR.n.2; omega⟩
     have hqk : q < v.keys.length := (by have := HG.out.2.2 HN6.out; omega);obtain ⟨b', o', rfl⟩ := hrk.some_of (kcells_pos v.keys hqk);obtain ⟨kq, hkq⟩ : ∃ t, v.keys[q]? = some t := ⟨v.keys[q], by simp⟩;obtain ⟨hkb', hbs', hkey⟩ := Row.keys hrk hkq;have hbk' : ¬ b' = lk := fun h => hkb' (by rw [h]; exact HK.out);have dk : wr.cell? ⟨b', o' + q, none⟩ = some (.string (str kq)) := (World.cell?_of_block (w := w) (a := ⟨b', o' + q, none⟩) (hR.e.block b' hbs' hbk')).trans hkey;have hbr' : b' < wr.heap.size := (by have := hR.e.size; omega);have HKQ := Lib.hid hkq; have HRK := Lib.hid hrk;have zi2 : (q : Int) < (v.keys.length : Int) := (by omega);have zi3 : (q : Int) ≤ (c' : Int) := (by omega);have zi4 : q ≤ c' := (by omega);clear hX h7 h7r hx hR hri hsi hrk hkey hkq
     go_upto_region 9 with (fail)
     refine forget (fun W2 => Below wr.heap.size wr W2 ∧ Lb W2 wr.heap.size (vcells x f3 a3 c3 a4 c4) 39) ?_ ?_
     ·exact ⟨by go_grown, Lb.new' _ _ _ rfl⟩
     rintro W2 ⟨hB2, hL2⟩;have HR2 := Lib.hid (HR.out.below hB2);clear r0 d0 d1 d2 d3 d4 d5 d6;have r0 := HR2.out.b0.cell;have z20 := HR2.out.b0.lt;have r6 := hL2.cell;have z26 := hL2.lt;have dq : W2.cell? ⟨b', o' + q, none⟩ = some (.string (str kq)) := (hB2.cell (p := ⟨b', o' + q, none⟩) hbr').trans dk;have zb2 : b' < W2.heap.size := (by have := hB2.size; omega);have HB2 := Lib.hid hB2;unfold vcells at r0 r6;clear hB2 hL2 dk
     go_loopg [80] q (fun g2 s80 w3 => ∃ p : Nat, s80 = .int .i64 p ∧ p + g2 = q ∧ w3 = W2 ∧ kq ∉ v.keys.take p)
     case atStart => exact ⟨0, rfl, by omega, rfl, by simp⟩
     case round =>
      obtain ⟨p, rfl, hp, rfl, hnot⟩ := hrel;have HNOT := Lib.hid hnot;clear hnot
      by_cases hlt2 : 0 < gk
      ·obtain ⟨g2, rfl⟩ : ∃ g, gk = g + 1 := ⟨gk - 1, by omega⟩;obtain ⟨kp, hkp⟩ : ∃ t, v.keys[p]? = some t := ⟨v.keys[p], by simp⟩;have dp := (HB2.out.cell (p := ⟨b', o' + p, none⟩) hbr').trans ((World.cell?_of_block (w := w) (a := ⟨b', o' + p, none⟩) (HR.out.e.block b' hbs' hbk')).trans (Row.keys HRK.out hkp).2.2);have HKP := Lib.hid hkp;have zp0 : (0 : Int) ≤ (p : Int) := (by omega);have zp1 : (p : Int) < (q : Int) := (by omega);clear hkp
       by_cases hkk : kp = kq
       ·have nn : (kp == kq) = true := (by simpa using hkk);clear hkk
        go_wp2_with fail
        go_ret;exact ⟨false, lr, rfl, HR2.out.e, HR2.out.l, fun h => by cases h⟩
       ·have nn : (kp == kq) = false := (by simpa using hkk);have HKK := Lib.hid hkk;clear hkk
        go_wp2_with fail
        go_roundg g2
        case measure => omega
        case rel =>
         refine ⟨p + 1, by go_num, by omega, rfl, ?_⟩;rw [List.take_add_one, HKP.out];intro h;rcases List.mem_append.1 h with h | h
         ·exact HNOT.out h
         ·simp at h; exact HKK.out h.symm
      ·obtain rfl : gk = 0 := (by omega);obtain rfl : q = p := by omega
       go_wp2_with fail
       go_at_call 51;apply Calls.mono
       ·exact IHx.out k lk lr _ _ _ _ _ _ HK.out HR2.out.l hlr (HX.out.ext (HR2.out.e.weak fun b hb => by rw [hb]; exact HK.out) (Nat.le_refl _))
       rintro e w5 ⟨is, left5, rfl, hE5, hL5, hr5⟩;have hE6 : Ext (· = lk) w.heap.size w w5 := HR2.out.e.trans (hE5.mono HR2.out.e.size);have hB6 : Lb w5 w.heap.size (vcells v f (some ⟨b, o, none⟩) c (some ⟨b', o', none⟩) c') 39 := HR2.out.b0.ext hE5 HR2.out.b0.lt (by omega);have H5 := Lib.hid (And.intro hE6 (And.intro hB6 (And.intro hL5 hr5)));clear hE5 hL5 hr5 hE6 hB6 r0 r6;cases is with
       |true =>
        go_wp2_with fail
        go_roundg g
        case measure => omega
        case rel =>
         obtain ⟨hE6, hB6, hL5, hr5⟩ := H5.out;obtain ⟨h1, h2⟩ := (show RightV x ∧ 0 ≤ left5 ∧ left5 + 1 ≤ lr from hr5 (by simp));refine ⟨q + 1, by go_num, by omega, left5, hE6, hB6, hL5, ⟨h2.1, by have a1 := h2.2; have a2 := HLR.out.2; omega⟩, fun y hy => ?_, fun h => by
          rw [List.take_add_one, HKQ.out];exact List.nodup_append.2 ⟨HR.out.d h, by simp, fun a ha b hb => by simp at hb; rw [hb]; rintro rfl; exact HNOT.out ha⟩⟩
         rw [List.take_add_one, HXQ.out] at hy;rcases List.mem_append.1 hy with hy | hy
         ·exact HR.out.r y hy
         ·simp at hy; rw [hy]; exact h1
       |false =>
        go_wp21;go_ret;obtain ⟨hE6, hB6, hL5, hr5⟩ := H5.out;exact ⟨false, left5, rfl, hE6.trans (.of (by go_grown)), hL5, fun h => by cases h⟩
    ·obtain rfl : gk = 0 := (by omega);obtain rfl : q = v.items.length := (by omega);have HR := Lib.hid hR;clear hR r0;go_wp21;go_ret;refine ⟨true, lr, rfl, HR.out.e.trans (.of (by go_grown)), HR.out.l, fun _ => ⟨.mk v ⟨by omega, by omega⟩ (fun h => ?_) (fun h => ?_) (fun h => ?_) (fun x hx => HR.out.r x (by rw [List.take_length]; exact hx)) (by have := HR.out.n; omega), ⟨HR.out.n.1, by have := HR.out.n.2; omega⟩⟩⟩
     ·exact List.eq_nil_of_length_eq_zero (by have := HG.out.1 h; omega)
     ·exact List.eq_nil_of_length_eq_zero (by have := HG.out.2.1 h; omega)
     ·have h1 := HG.out.2.2 h;refine ⟨h1, ?_⟩;have h2 := HR.out.d h
      rwa [List.take_of_length_le (by omega)] at h2
  ·have t8 : ((v.keys.length : Int) != (v.items.length : Int)) = true := (by simpa using (show ¬ (v.keys.length : Int) = (v.items.length : Int) by omega));clear h7 h3 h5;go_enter Try.func51, Try.ntmps51
   go_wp2_with fail
   go_ret;exact ⟨false, _, rfl, HEX.out _ _, HLW.out _ _, fun h => by cases h⟩
 ·have hk0 : v.keys.length = 0 := by omega
  have t6 : decide (0 < v.keys.length) = false := decide_eq_false (by omega);have t6i : decide ((0 : Int) < (v.keys.length : Int)) = false := decide_eq_false (by omega);have t5 : (v.kind != 6) = true := by simpa using h7
  have t7 : (v.kind == 6) = false := by simpa using h7
  have HG := Lib.hid (show (v.kind < 5 → v.items.length = 0) ∧ (v.kind ≠ 6 → v.keys.length = 0) ∧ (v.kind = 6 → v.keys.length = v.items.length) from ⟨fun h => by omega, fun h => by omega, fun h => by omega⟩);have HN6 := Lib.hid h7
  by_cases h3' : v.kind < 5
  ·have hi0 : v.items.length = 0 := (by omega);have t3 : decide (v.kind < 5) = true := decide_eq_true (by omega);have t4 : decide (0 < v.items.length) = false := decide_eq_false (by omega);have t4i : decide ((0 : Int) < (v.items.length : Int)) = false := decide_eq_false (by omega);clear hk0 hi0;clear h3 h5;go_enter Try.func51, Try.ntmps51
   go_wp2_with fail
   refine forget (fun w' => Rr lk left (vcells v f a c a' c') v w 0 (left - 1) w') ?_ ?_
   ·exact ⟨HEX.out _ _, HNW.out _ _, HLW.out _ _, ⟨by omega, by omega⟩, fun x hx => by simp at hx, fun _ => by simp⟩
   intro W hW;have HW := Lib.hid hW;clear hW
   go_loopg [67] v.items.length (fun g i wr => ∃ q : Nat, i = .int .i64 q ∧ q + g = v.items.length ∧ ∃ left', Rr lk left (vcells v f a c a' c') v w q left' wr)
   case atStart => exact ⟨0, rfl, by omega, _, HW.out⟩
   case round =>
    obtain ⟨q, rfl, hq, lr, hR⟩ := hrel;clear HW c0 f0;have z0 := hR.b0.lt;have r0 := hR.b0.cell;unfold vcells at r0
    by_cases hlt : 0 < gk
    ·obtain ⟨g, rfl⟩ : ∃ g, gk = g + 1 := ⟨gk - 1, by omega⟩;have hql : q < v.items.length := (by omega);obtain ⟨x, hx⟩ : ∃ x, v.items[q]? = some x := ⟨v.items[q], by simp⟩;obtain ⟨_, _, _, _, ⟨its, hri, hsi⟩, hrk⟩ := HV.out.inv;obtain ⟨b, o, rfl⟩ := hri.some_of (hsi.ne hql);obtain ⟨hkb, hbs, f3, a3, c3, a4, c4, hX, h7⟩ := IsRs.cells hri hsi hx;have hbk : ¬ b = lk := fun h => hkb (by rw [h]; exact HK.out);have h7r := h7.ext hR.e hbs hbk;have d0 := h7r.c0; have d1 := h7r.c1; have d2 := h7r.c2; have d3 := h7r.c3; have d4 := h7r.c4; have d5 := h7r.c5; have d6 := h7r.c6;have hbr : b < wr.heap.size := (by have := hR.e.size; omega);have zi0 : (0 : Int) ≤ (q : Int) := (by omega);have zi1 : (q : Int) < (v.items.length : Int) := (by omega);have HX := Lib.hid hX; have HXQ := Lib.hid hx; have HR := Lib.hid hR;have IHx := Lib.hid (IH.out x (List.mem_of_getElem? hx));have HLR := Lib.hid hR.n;have hlr : 0 ≤ lr ∧ lr ≤ 1099511627776 := ⟨hR.n.1, by have := hR.n.2; omega⟩
     clear hX h7 h7r hx hR hri hsi hrk
     go_wp2_with fail
     go_at_call 51;apply Calls.mono
     ·exact IHx.out k lk lr _ _ _ _ _ _ HK.out (HR.out.l.alloc _) hlr ((HX.out.ext (HR.out.e.weak fun b hb => by rw [hb]; exact HK.out) (Nat.le_refl _)).ext ((Ext.refl _ _ _).alloc (Nat.le_refl _) _) (Nat.le_refl _))
     rintro e w5 ⟨is, left5, rfl, hE5, hL5, hr5⟩;have hE6 : Ext (· = lk) w.heap.size w w5 := (HR.out.e.alloc HR.out.e.size _).trans (hE5.mono (by have := HR.out.e.size; simp; omega));have hB6 : Lb w5 w.heap.size (vcells v f (some ⟨b, o, none⟩) c a' c') 39 := (HR.out.b0.alloc _).ext hE5 (by simp; omega) (by omega);have H5 := Lib.hid (And.intro hE6 (And.intro hB6 (And.intro hL5 hr5)));clear hE5 hL5 hr5 hE6 hB6 d0 d1 d2 d3 d4 d5 d6 r0;cases is with
     |true =>
      go_wp2_with fail
      go_roundg g
      case measure => omega
      case rel =>
       obtain ⟨hE6, hB6, hL5, hr5⟩ := H5.out;obtain ⟨h1, h2⟩ := (show RightV x ∧ 0 ≤ left5 ∧ left5 + 1 ≤ lr from hr5 (by simp));refine ⟨q + 1, by go_num, by omega, left5, hE6, hB6, hL5, ⟨h2.1, by have a1 := h2.2; have a2 := HLR.out.2; omega⟩, fun y hy => ?_, fun h => absurd h HN6.out⟩;rw [List.take_add_one, HXQ.out] at hy;rcases List.mem_append.1 hy with hy | hy
       ·exact HR.out.r y hy
       ·simp at hy; rw [hy]; exact h1
     |false =>
      go_wp21;go_ret;obtain ⟨hE6, hB6, hL5, hr5⟩ := H5.out;exact ⟨false, left5, rfl, hE6.trans (.of (by go_grown)), hL5, fun h => by cases h⟩
    ·obtain rfl : gk = 0 := (by omega);obtain rfl : q = v.items.length := (by omega);have HR := Lib.hid hR;clear hR r0;go_wp21;go_ret;refine ⟨true, lr, rfl, HR.out.e.trans (.of (by go_grown)), HR.out.l, fun _ => ⟨.mk v ⟨by omega, by omega⟩ (fun h => ?_) (fun h => ?_) (fun h => ?_) (fun x hx => HR.out.r x (by rw [List.take_length]; exact hx)) (by have := HR.out.n; omega), ⟨HR.out.n.1, by have := HR.out.n.2; omega⟩⟩⟩
     ·exact List.eq_nil_of_length_eq_zero (by have := HG.out.1 h; omega)
     ·exact List.eq_nil_of_length_eq_zero (by have := HG.out.2.1 h; omega)
     ·have h1 := HG.out.2.2 h;refine ⟨h1, ?_⟩;have h2 := HR.out.d h
      rwa [List.take_of_length_le (by omega)] at h2
  ·have t3 : decide (v.kind < 5) = false := decide_eq_false (by omega);clear hk0;clear h3 h5;go_enter Try.func51, Try.ntmps51
   go_wp2_with fail
   refine forget (fun w' => Rr lk left (vcells v f a c a' c') v w 0 (left - 1) w') ?_ ?_
   ·exact ⟨HEX.out _ _, HNW.out _ _, HLW.out _ _, ⟨by omega, by omega⟩, fun x hx => by simp at hx, fun _ => by simp⟩
   intro W hW;have HW := Lib.hid hW;clear hW
   go_loopg [67] v.items.length (fun g i wr => ∃ q : Nat, i = .int .i64 q ∧ q + g = v.items.length ∧ ∃ left', Rr lk left (vcells v f a c a' c') v w q left' wr)
   case atStart => exact ⟨0, rfl, by omega, _, HW.out⟩
   case round =>
    obtain ⟨q, rfl, hq, lr, hR⟩ := hrel;clear HW c0 f0;have z0 := hR.b0.lt;have r0 := hR.b0.cell;unfold vcells at r0
    by_cases hlt : 0 < gk
    ·obtain ⟨g, rfl⟩ : ∃ g, gk = g + 1 := ⟨gk - 1, by omega⟩;have hql : q < v.items.length := (by omega);obtain ⟨x, hx⟩ : ∃ x, v.items[q]? = some x := ⟨v.items[q], by simp⟩;obtain ⟨_, _, _, _, ⟨its, hri, hsi⟩, hrk⟩ := HV.out.inv;obtain ⟨b, o, rfl⟩ := hri.some_of (hsi.ne hql);obtain ⟨hkb, hbs, f3, a3, c3, a4, c4, hX, h7⟩ := IsRs.cells hri hsi hx;have hbk : ¬ b = lk := fun h => hkb (by rw [h]; exact HK.out);have h7r := h7.ext hR.e hbs hbk;have d0 := h7r.c0; have d1 := h7r.c1; have d2 := h7r.c2; have d3 := h7r.c3; have d4 := h7r.c4; have d5 := h7r.c5; have d6 := h7r.c6;have hbr : b < wr.heap.size := (by have := hR.e.size; omega);have zi0 : (0 : Int) ≤ (q : Int) := (by omega);have zi1 : (q : Int) < (v.items.length : Int) := (by omega);have HX := Lib.hid hX; have HXQ := Lib.hid hx; have HR := Lib.hid hR;have IHx := Lib.hid (IH.out x (List.mem_of_getElem? hx));have HLR := Lib.hid hR.n;have hlr : 0 ≤ lr ∧ lr ≤ 1099511627776 := ⟨hR.n.1, by have := hR.n.2; omega⟩
     clear hX h7 h7r hx hR hri hsi hrk
     go_wp2_with fail
     go_at_call 51;apply Calls.mono
     ·exact IHx.out k lk lr _ _ _ _ _ _ HK.out (HR.out.l.alloc _) hlr ((HX.out.ext (HR.out.e.weak fun b hb => by rw [hb]; exact HK.out) (Nat.le_refl _)).ext ((Ext.refl _ _ _).alloc (Nat.le_refl _) _) (Nat.le_refl _))
     rintro e w5 ⟨is, left5, rfl, hE5, hL5, hr5⟩;have hE6 : Ext (· = lk) w.heap.size w w5 := (HR.out.e.alloc HR.out.e.size _).trans (hE5.mono (by have := HR.out.e.size; simp; omega));have hB6 : Lb w5 w.heap.size (vcells v f (some ⟨b, o, none⟩) c a' c') 39 := (HR.out.b0.alloc _).ext hE5 (by simp; omega) (by omega);have H5 := Lib.hid (And.intro hE6 (And.intro hB6 (And.intro hL5 hr5)));clear hE5 hL5 hr5 hE6 hB6 d0 d1 d2 d3 d4 d5 d6 r0;cases is with
     |true =>
      go_wp2_with fail
      go_roundg g
      case measure => omega
      case rel =>
       obtain ⟨hE6, hB6, hL5, hr5⟩ := H5.out;obtain ⟨h1, h2⟩ := (show RightV x ∧ 0 ≤ left5 ∧ left5 + 1 ≤ lr from hr5 (by simp));refine ⟨q + 1, by go_num, by omega, left5, hE6, hB6, hL5, ⟨h2.1, by have a1 := h2.2; have a2 := HLR.out.2; omega⟩, fun y hy => ?_, fun h => absurd h HN6.out⟩;rw [List.take_add_one, HXQ.out] at hy;rcases List.mem_append.1 hy with hy | hy
       ·exact HR.out.r y hy
       ·simp at hy; rw [hy]; exact h1
     |false =>
      go_wp21;go_ret;obtain ⟨hE6, hB6, hL5, hr5⟩ := H5.out;exact ⟨false, left5, rfl, hE6.trans (.of (by go_grown)), hL5, fun h => by cases h⟩
    ·obtain rfl : gk = 0 := (by omega);obtain rfl : q = v.items.length := (by omega);have HR := Lib.hid hR;clear hR r0;go_wp21;go_ret;refine ⟨true, lr, rfl, HR.out.e.trans (.of (by go_grown)), HR.out.l, fun _ => ⟨.mk v ⟨by omega, by omega⟩ (fun h => ?_) (fun h => ?_) (fun h => ?_) (fun x hx => HR.out.r x (by rw [List.take_length]; exact hx)) (by have := HR.out.n; omega), ⟨HR.out.n.1, by have := HR.out.n.2; omega⟩⟩⟩
     ·exact List.eq_nil_of_length_eq_zero (by have := HG.out.1 h; omega)
     ·exact List.eq_nil_of_length_eq_zero (by have := HG.out.2.1 h; omega)
     ·have h1 := HG.out.2.2 h;refine ⟨h1, ?_⟩;have h2 := HR.out.d h
      rwa [List.take_of_length_le (by omega)] at h2
mutual
theorem right_ok : (v : Vl) → RiOk v
 |⟨a, b, c, d, e, its, ks⟩ => right_step _ fun x hx => rights_ok its x hx
theorem rights_ok : (l : List Vl) → ∀ x ∈ l, RiOk x
 |[] => fun x h => by cases h
 |v :: l => fun x h => by
  rcases List.mem_cons.1 h with h | h
  ·rw [h]; exact right_ok v
  ·exact rights_ok l x h
end
end
end Go.Proofs.Ytafhhdimjkgihaa.Mn
