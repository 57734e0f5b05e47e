/- What the program does, function by function, and what trees mean: part 04. -/
import Derived.Test.YtafhhdimjkgihaaM03
set_option linter.unusedSimpArgs false
set_option linter.unusedVariables false
namespace Go.Proofs.Ytafhhdimjkgihaa.Mn
section
attribute [local go_sem ↓] Go.wp_at_zero Go.wp_at_succ
open Go.RowKit
def icells (x : Vl) (f : Nat) (a : Option Addr) (c : Nat) (a' : Option Addr) (c' : Nat) (i : Int) : List Value :=
 [.int .i64 x.kind, .int .i64 x.int, .float .f64 f, .string (str x.text), .bool x.bool, .slice a x.items.length c, .slice a' x.keys.length c', .int .i64 0, .int .i64 0, .float .f64 0, .string ⟨#[]⟩, .bool false, .slice none 0 0, .slice none 0 0, .int .i64 i]
abbrev ia (x : Vl) (f : Nat) (a : Option Addr) (c : Nat) (a' : Option Addr) (c' : Nat) (i : Int) : Value :=
 .agg #[.int .i64 x.kind, .int .i64 x.int, .float .f64 f, .string (str x.text), .bool x.bool, .slice a x.items.length c, .slice a' x.keys.length c', .int .i64 0, .int .i64 0, .float .f64 0, .string ⟨#[]⟩, .bool false, .slice none 0 0, .slice none 0 0, .int .i64 i]
theorem ones_i (x : Vl) (f : Nat) (a : Option Addr) (c : Nat) (a' : Option Addr) (c' : Nat) (i : Int) : Ones (icells x f a c a' c' i) := by
 intro u hu;simp only [icells, List.mem_cons, List.not_mem_nil, or_false] at hu;rcases hu with rfl | rfl | rfl | rfl | rfl | rfl | rfl | rfl | rfl | rfl | rfl | rfl | rfl | rfl | rfl <;> rfl
inductive IsIs (w : World) (k : Nat → Prop) : List (Vl × Int) → List Value → Prop
 |nil : IsIs w k [] []
 |cons {x i l f a c a' c' cs} (h : IsV w k x (vcells x f a c a' c')) (hi : I64 i) (hl : IsIs w k l cs) : IsIs w k ((x, i) :: l) (icells x f a c a' c' i ++ cs)
section
variable {w : World} {k : Nat → Prop} {l : List (Vl × Int)} {cs : List Value}
theorem IsIs.length (h : IsIs w k l cs) : cs.length = l.length * 15 := by
 induction h with
 |nil => rfl
 |cons h hi hl ih => rw [List.length_append, ih, List.length_cons]; simp [icells]; omega
theorem IsIs.ones (h : IsIs w k l cs) : Ones cs := by
 induction h with
 |nil => intro u hu; cases hu
 |cons h hi hl ih => exact (ones_i _ _ _ _ _ _ _).append ih
theorem IsIs.ext {B : Nat} {w' : World} (e : Ext k B w w') (hB : w.heap.size ≤ B) (h : IsIs w k l cs) : IsIs w' k l cs := by
 induction h with
 |nil => exact .nil
 |cons h hi hl ih => exact .cons (h.ext e hB) hi ih
theorem IsIs.other {k' : Nat → Prop} (hk : ∀ b, k' b → k b ∨ w.heap.size ≤ b) (h : IsIs w k l cs) : IsIs w k' l cs := by
 induction h with
 |nil => exact .nil
 |cons h hi hl ih => exact .cons (h.other hk) hi ih
theorem IsIs.snoc (h : IsIs w k l cs) {x : Vl} {i : Int} {f : Nat} {a : Option Addr} {c : Nat} {a' : Option Addr} {c' : Nat} (hi : I64 i) (hv : IsV w k x (vcells x f a c a' c')) : IsIs w k (l ++ [(x, i)]) (cs ++ icells x f a c a' c' i) := by
 induction h with
 |nil => simpa using IsIs.cons hv hi .nil
 |cons h hi hl ih => simp only [List.cons_append, List.append_assoc]; exact .cons h hi ih
end
def Itemed (k : Nat → Prop) (items : List (Vl × Int)) (ns wk : Value) (w : World) (e : Ending) (w' : World) : Prop :=
 ∃ A cap cs, e = .returned (.agg #[ns, .slice A items.length cap, wk]) ∧ Below w.heap.size w w' ∧ Row w' k A cs ∧ IsIs w' k items cs
structure B3b (w0 : World) (x0 x2 : Value) (l1 l2 : List Value) (t0 t1 t2 : TypeId) (w : World) : Prop where
 below : Below w0.heap.size w0 w
 b0 : ∃ v, Lb w w0.heap.size [x0, v, x2] t0
 b1 : Lb w (w0.heap.size + 1) l1 t1
 b2 : Lb w (w0.heap.size + 1 + 1) l2 t2
section
variable {w0 w w1 : World} {x0 x2 : Value} {l1 l2 : List Value} {t0 t1 t2 : TypeId}
theorem B3b.alloc (h : B3b w0 x0 x2 l1 l2 t0 t1 t2 w) (o : Obj) : B3b w0 x0 x2 l1 l2 t0 t1 t2 (w.alloc o) := ⟨h.below.alloc h.below.size _, h.b0.imp fun _ h => h.alloc _, h.b1.alloc _, h.b2.alloc _⟩
theorem B3b.drew (h : B3b w0 x0 x2 l1 l2 t0 t1 t2 w) : B3b w0 x0 x2 l1 l2 t0 t1 t2 w.drew := ⟨h.below.drew, h.b0, h.b1, h.b2⟩
theorem B3b.undrew (h : B3b w0 x0 x2 l1 l2 t0 t1 t2 w.drew) : B3b w0 x0 x2 l1 l2 t0 t1 t2 w := ⟨⟨h.below.os, h.below.tape, h.below.output, h.below.size, h.below.block⟩, h.b0, h.b1, h.b2⟩
theorem B3b.allocD (h : B3b w0 x0 x2 l1 l2 t0 t1 t2 w.drew) (o : Obj) : B3b w0 x0 x2 l1 l2 t0 t1 t2 (w.alloc o).drew := (h.undrew.alloc o).drew
theorem B3b.grown (h : B3b w0 x0 x2 l1 l2 t0 t1 t2 w) {A : Option Addr} (g : w.grownBy w1 (A.map (·.block))) (hA : ∀ a, A = some a → w0.heap.size + 1 + 1 < a.block) : B3b w0 x0 x2 l1 l2 t0 t1 t2 w1 := by
 have hne : ∀ b, b ≤ w0.heap.size + 1 + 1 → some b ≠ A.map (·.block) := by
  intro b hb he;cases A with
  |none => cases he
  |some a => have := hA a rfl; simp only [Option.map_some, Option.some.injEq] at he; omega
 exact ⟨h.below.trans ⟨g.os, g.tape, g.output, g.size, fun b hb => g.block b (Nat.lt_of_lt_of_le hb h.below.size) (hne b (by omega))⟩, h.b0.imp fun _ h => h.grown g (hne _ (by omega)), h.b1.grown g (hne _ (by omega)), h.b2.grown g (hne _ (by omega))⟩
theorem B3b.store (h : B3b w0 x0 x2 l1 l2 t0 t1 t2 w) (u : Value) : B3b w0 x0 x2 l1 l2 t0 t1 t2 (w.setCell ⟨w0.heap.size, 1, none⟩ u) :=
 ⟨h.below.setCell (Nat.le_refl _) u, let ⟨_, h⟩ := h.b0; ⟨u, h.set 1 u⟩, h.b1.other _ _ (by simp), h.b2.other _ _ (by simp; omega)⟩
end
def Hi (w0 : World) (an : Option Addr) (nn cn : Nat) (wk : Option Addr) (i : Int) (x : Vl) (f : Nat) (a : Option Addr) (c : Nat) (a' : Option Addr) (c' : Nat) (w' : World) : Prop :=
 B3b w0 (.slice an nn cn) (.pointer wk) (icells x f a c a' c' i) [.slice none 0 0, .slice none 0 0, .pointer none] 62 185 62 w'
set_option maxHeartbeats 1600000 in
set_option maxRecDepth 100000 in
theorem within_any (k : Nat → Prop) (i : Int) (x : Vl) (f : Nat) (a : Option Addr) (c : Nat) (a' : Option Addr) (c' : Nat) (items : List (Vl × Int)) (ai : Option Addr) (ci : Nat) (an : Option Addr) (nn cn : Nat) (wk : Option Addr) (cs : List Value) (w : World) (hn : items.length + 1 ≤ 1073741824) (hk : ∀ b, k b → b < w.heap.size)
 (hr : Row w k ai cs) (hs : IsIs w k items cs) (hi : I64 i) (hx : IsV w k x (vcells x f a c a' c')) :
 Calls Try.prog 90 #[.agg #[.slice an nn cn, .slice ai items.length ci, .pointer wk], ia x f a c a' c' i] w (Itemed k (items ++ [(x, i)]) (.slice an nn cn) (.pointer wk) w) := by
 have ho := hs.ones;have HK := Lib.hid hk;clear hk;have hl := Lib.hid hs.length;have HR := Lib.hid hr; have HS := Lib.hid hs; have HX := Lib.hid hx;clear hr hs hx;go_enter Try.func90, Try.ntmps90
 go_wp2_with fail
 refine forget (fun w' => Hi w an nn cn wk i x f a c a' c' w' ∧ w'.cell? ⟨w.heap.size, 1, none⟩ = some (.slice ai items.length ci)) ?_ ?_
 ·exact ⟨⟨by go_grown, ⟨_, ((Lb.new _ _ _).alloc _).alloc _⟩, (Lb.new' _ _ _ (by simp)).alloc _, Lb.new' _ _ _ (by simp)⟩, (((Lb.new _ _ _).alloc _).alloc _).cell 1⟩
 rintro W ⟨hW, r0⟩;have k0 := hW.b1.cell 0; have k1 := hW.b1.cell 1; have k2 := hW.b1.cell 2; have k3 := hW.b1.cell 3; have k4 := hW.b1.cell 4; have k5 := hW.b1.cell 5; have k6 := hW.b1.cell 6; have k7 := hW.b1.cell 7; have k8 := hW.b1.cell 8; have k9 := hW.b1.cell 9; have k10 := hW.b1.cell 10; have k11 := hW.b1.cell 11; have k12 := hW.b1.cell 12; have k13 := hW.b1.cell 13; have k14 := hW.b1.cell 14;simp only [icells, vcells, List.cons_append, List.nil_append, List.getElem?_cons_succ, List.getElem?_cons_zero] at k0 k1 k2 k3 k4 k5 k6 k7 k8 k9 k10 k11 k12 k13 k14;have z2 := hW.b2.lt;have z0 : w.heap.size < W.heap.size := by omega
 have z1 : w.heap.size + 1 < W.heap.size := by omega
 go_region_law
  (first
    |((refine step_append_o el60 (by rfl) (.tmp 5) (.tmp 7) (by rfl) (w.heap.size + 1 + 1 + 1) _ 0 0 [] (by rfl) ?_ ai items.length ci cs (by rfl) hl.out ?_ ho items.length (by omega) ?_ ?_ ?_)
      (focus (first | exact own_empty (Lb.drew (Lb.new' _ [] _ (by simp))) (by omega) | exact own_empty (Lb.drew (Lb.alloc (Lb.new' _ [] _ (by simp)) _)) (by omega)))
      (focus (exact HR.out.laid (by first | exact B3b.drew hW | exact B3b.drew (B3b.alloc hW _) | exact B3b.drew (B3b.alloc (B3b.alloc hW _) _) | exact hW | exact B3b.alloc hW _ | exact B3b.alloc (B3b.alloc hW _) _ : Hi w an nn cn wk i x f a c a' c' _).below))
      (focus (omega))
      (focus (first | omega | (simp; omega)))
      (intro A1 cap1 w1 hown1 hgr1 hat1; simp only [List.nil_append] at hown1; have hd1 := B3b.grown (by first | exact B3b.drew hW | exact B3b.drew (B3b.alloc hW _) | exact B3b.drew (B3b.alloc (B3b.alloc hW _) _) | exact hW | exact B3b.alloc hW _ | exact B3b.alloc (B3b.alloc hW _) _ : Hi w an nn cn wk i x f a c a' c' _) hgr1 (fun a ha => by cases ha; simp; omega); have z3 := hd1.b2.lt; have l0 := hd1.b1.cell 0; have l1 := hd1.b1.cell 1; have l2 := hd1.b1.cell 2; have l3 := hd1.b1.cell 3; have l4 := hd1.b1.cell 4; have l5 := hd1.b1.cell 5; have l6 := hd1.b1.cell 6; have l7 := hd1.b1.cell 7; have l8 := hd1.b1.cell 8; have l9 := hd1.b1.cell 9; have l10 := hd1.b1.cell 10; have l11 := hd1.b1.cell 11; have l12 := hd1.b1.cell 12; have l13 := hd1.b1.cell 13; have l14 := hd1.b1.cell 14; simp only [icells, vcells, List.cons_append, List.nil_append, List.getElem?_cons_succ, List.getElem?_cons_zero] at l0 l1 l2 l3 l4 l5 l6 l7 l8 l9 l10 l11 l12 l13 l14))
    |((refine step_append_o el60 (by rfl) (.tmp 8) (.tmp 10) (by rfl) (w.heap.size + 1 + 1 + 1) A1 items.length cap1 cs (by rfl) ?_ _ 1 1 (icells x f a c a' c' i) (by rfl) (by rfl) ?_ ?_ (items.length + 1) (by omega) ?_ ?_ ?_)
      (focus (first | exact hown1 | exact hown1.alloc _ | exact (hown1.alloc _).drew))
      (focus (first | exact Laid.of_lb (Lb.new' _ _ _ (by simp)) | exact Laid.of_lb (Lb.drew (Lb.new' _ _ _ (by simp))) | exact Laid.of_lb (Lb.grown (Lb.drew (Lb.new' _ _ _ (by simp))) hgr1 (by simp)) | exact Laid.of_lb (Lb.grown (Lb.drew (Lb.alloc (Lb.new' _ _ _ (by simp)) _)) hgr1 (by simp))))
      (focus (exact ones_i _ _ _ _ _ _ _))
      (focus (omega))
      (focus (first | omega | (simp; omega)))
      (intro A2 cap2 w2 hown2 hgr2 hat2; have hd2 := B3b.grown (by first | exact hd1 | exact B3b.alloc hd1 _ | exact B3b.drew hd1 | exact B3b.drew (B3b.alloc hd1 _) : Hi w an nn cn wk i x f a c a' c' _) hgr2 (by rintro b rfl; rcases hat1 with h | h <;> (cases h; first | omega | (simp; omega))); obtain ⟨v2, hv2⟩ := hd2.b0; have s0 := hv2.cell 1; have s1 := hv2.frozen 1; simp only [List.getElem?_cons_zero, List.getElem?_cons_succ] at s0)))
 all_goals
  have L0 := hv2.set 1 (.slice A2 (items.length + 1) cap2);have L2 := hd2.b2.other ⟨w.heap.size, 1, none⟩ (.slice A2 (items.length + 1) cap2) (by simp; omega);have hB := Lib.hid (hd2.below.setCell (show w.heap.size ≤ (⟨w.heap.size, 1, none⟩ : Addr).block from Nat.le_refl _) (.slice A2 (items.length + 1) cap2));have hO := Lib.hid hown2;have q0 := L0.cell 0; have q1 := L0.cell 1; have q2 := L0.cell 2;have p0 := L2.cell 0; have p1 := L2.cell 1; have p2 := L2.cell 2; have p3 := L2.frozen;have y2 := L2.lt; have y0 := L0.lt;simp only [List.set_cons_zero, List.set_cons_succ, List.getElem?_cons_zero, List.getElem?_cons_succ] at q0 q1 q2 p0 p1 p2;clear hv2 hd2 hgr2 hd1 hgr1 hown1 hown2 s0 s1 L0 L2 r0 hat1 hat2;go_wp21;refine bodyPost_ret (v := .agg #[.slice an nn cn, .slice A2 (items.length + 1) cap2, .pointer wk]) (by simp [results, Try.results90, go_sem, p0, p1, p2, p3, y2]; try rfl) rfl ?_;have hb := hB.out
  refine ⟨A2, cap2, _, by simp, by go_grown, Row.other' (Row.ext (Row.of_own hO.out fun b h => h) (((((Ext.refl (· < w.heap.size + 1 + 1 + 1) w2.heap.size w2).setCell (.inl ?_) _).setCell (.inl ?_) _).setCell (.inl ?_) _).setCell (.inl ?_) _) (Nat.le_refl _)) (fun b h => by have := HK.out b h; omega), IsIs.snoc (HS.out.ext (.of ?_) (Nat.le_refl _)) hi (HX.out.ext (.of ?_) (Nat.le_refl _))⟩
  ·show w.heap.size < _; omega
  ·show w.heap.size + 1 + 1 < _; omega
  ·show w.heap.size + 1 + 1 < _; omega
  ·show w.heap.size + 1 + 1 < _; omega
  ·go_grown
  ·go_grown
end
section
open Go.RowKit
theorem Row.keys {w : World} {k : Nat → Prop} {b o : Nat} {l : List Nm} (hr : Row w k (some ⟨b, o, none⟩) (kcells l)) {i : Nat} {t : Nm} (hi : l[i]? = some t) : ¬ k b ∧ b < w.heap.size ∧ w.cell? ⟨b, o + i, none⟩ = some (.string (str t)) := by
 have hx : (kcells l)[i]? = some (.string (str t)) := by simp [kcells, hi]
 rcases hr with h | ⟨b', o', he, hk, hb, hra⟩
 ·rw [h] at hx; simp at hx
 ·simp only [Option.some.injEq, Addr.mk.injEq, and_true] at he;obtain ⟨rfl, rfl⟩ := he;exact ⟨hk, hb, hra _ _ hx⟩
theorem IsV.inv {w : World} {k : Nat → Prop} {v : Vl} {f : Nat} {a : Option Addr} {c : Nat} {a' : Option Addr} {c' : Nat} (h : IsV w k v (vcells v f a c a' c')) :
 cn f = v.flt ∧ I64 v.kind ∧ I64 v.int ∧ v.items.length ≤ most ∧ v.keys.length ≤ most ∧ v.text.length ≤ 140737488355328 ∧ (v.kind = 6 → v.keys.length = v.items.length) ∧ (∃ its, Row w k a its ∧ IsVs w k v.items its) ∧ Row w k a' (kcells v.keys) := by
 generalize hc : vcells v f a c a' c' = cs at h
 cases h with
 |mk v f2 a2 c2 a2' c2' its hf hk' hi' hn hn' ht hm hr hs' hr' =>
  simp only [vcells, List.cons.injEq, Value.float.injEq, Value.slice.injEq, and_true, true_and] at hc;obtain ⟨rfl, ⟨rfl, rfl⟩, rfl, rfl⟩ := hc;exact ⟨hf, hk', hi', hn, hn', ht, hm.1, ⟨its, hr, hs'⟩, hr'⟩
theorem IsV.cap {w : World} {k : Nat → Prop} {v : Vl} {f : Nat} {a : Option Addr} {c : Nat} {a' : Option Addr} {c' : Nat} (h : IsV w k v (vcells v f a c a' c')) : v.keys.length ≤ c' := by
 generalize hc : vcells v f a c a' c' = cs at h
 cases h with
 |mk v f2 a2 c2 a2' c2' its hf hk' hi' hn hn' ht hm hr hs' hr' =>
  simp only [vcells, List.cons.injEq, Value.float.injEq, Value.slice.injEq, and_true, true_and] at hc;obtain ⟨rfl, ⟨rfl, rfl⟩, rfl, rfl⟩ := hc;exact hm.2
theorem at_nil (items : List Vl) (n : Nm) : at_ [] items n = none := by unfold at_; rfl
theorem at_cons (k : Nm) (ks : List Nm) (x : Vl) (xs : List Vl) (n : Nm) : at_ (k :: ks) (x :: xs) n = if k = n then some x else at_ ks xs n := by rw [at_]
theorem drop_cons {α : Type} (l : List α) (q : Nat) (x : α) (h : l[q]? = some x) : l.drop q = x :: l.drop (q + 1) := by
 obtain ⟨hlt, rfl⟩ := List.getElem?_eq_some_iff.1 h;exact List.drop_eq_getElem_cons hlt
set_option maxHeartbeats 800000 in
set_option maxRecDepth 100000 in
theorem at_any (k : Nat → Prop) (v : Vl) (f : Nat) (a : Option Addr) (c : Nat) (a' : Option Addr) (c' : Nat) (n : Nm) (w : World) (h : IsV w k v (vcells v f a c a' c')) (h6 : v.keys.length = v.items.length) :
 Calls Try.prog 52 #[va v f a c a' c', .string (str n)] w (Found k (at_ v.keys v.items n) w) := by
 obtain ⟨hf, hk, hi, hn, hn', ht, hm, ⟨its, hr, hs⟩, hr'⟩ := h.inv;obtain ⟨ANS, hA⟩ : ∃ A, at_ v.keys v.items n = A := ⟨_, rfl⟩;rw [hA]
 by_cases hz : v.keys.length = 0
 ·have hA2 := Lib.hid (show Option.none = ANS by rw [← hA, List.eq_nil_of_length_eq_zero hz, at_nil]);clear hA h6 hm hf hr hs hr' h;go_enter Try.func52, Try.ntmps52;go_wp2
  go_loop [11] (fun i => i = .int .i64 0) (fun _ => 0)
  case atStart => rfl
  case round =>
   obtain rfl := hrel;go_wp2
   go_returns
   exact Found.none rfl (by go_grown) hA2.out.symm
 ·obtain ⟨b', o', rfl⟩ : ∃ b o, a' = some ⟨b, o, none⟩ := by
   rcases hr' with h | ⟨b, o, h, _⟩
   ·exact absurd (by have := congrArg List.length h; simpa [kcells] using this) hz
   ·exact ⟨b, o, h⟩
  obtain ⟨b, o, rfl⟩ : ∃ b o, a = some ⟨b, o, none⟩ := by
   rcases hr with h | ⟨b, o, h, _⟩
   ·have := hs.length; rw [h] at this; simp at this; omega
   ·exact ⟨b, o, h⟩
  have HK := Lib.hid (fun i t (hi : v.keys[i]? = some t) => Row.keys hr' hi);have HC := Lib.hid (fun i x (hi : v.items[i]? = some x) => IsVs.cells hr hs hi);have H6 := Lib.hid h6;have HA := Lib.hid hA;clear hA h6 hm hf hr hs hr' h;unfold most at hn hn';go_enter Try.func52, Try.ntmps52;go_wp2
  go_loop [11] (fun i => ∃ q : Nat, i = .int .i64 q ∧ q ≤ v.keys.length ∧ at_ (v.keys.drop q) (v.items.drop q) n = ANS) (fun i => v.keys.length - (intOf i).toNat)
  case atStart => exact ⟨0, rfl, Nat.zero_le _, HA.out⟩
  case round =>
   obtain ⟨q, rfl, hq, hR⟩ := hrel;have HR := Lib.hid hR;clear hR
   by_cases hlt : q < v.keys.length
   ·obtain ⟨t, hT⟩ : ∃ t, v.keys[q]? = some t := ⟨v.keys[q], by simp⟩;have hqi : q < v.items.length := (by rw [← H6.out]; exact hlt);obtain ⟨x, hX⟩ : ∃ x, v.items[q]? = some x := ⟨v.items[q], by simp⟩;obtain ⟨hbk', hbs', e0⟩ := HK.out q t hT;obtain ⟨hbk, hbs, f2, a2, c2, a3, c3, hV, h7⟩ := HC.out q x hX;have d1 := h7.c0; have d2 := h7.c1; have d3 := h7.c2; have d4 := h7.c3; have d5 := h7.c4; have d6 := h7.c5; have d7 := h7.c6;have HV := Lib.hid hV;have HT := Lib.hid (And.intro (drop_cons _ _ _ hT) (drop_cons _ _ _ hX));clear hV hT hX h7
    by_cases htn : t = n
    ·have t1 : (t == n) = true := (by simpa using htn);have HP := Lib.hid htn;clear htn;go_wp2
     go_returns
     refine ⟨x, f2, a2, c2, a3, c3, true, rfl, by go_grown, fun _ => ⟨HV.out.ext (.of (by go_grown)) (Nat.le_refl _), ?_⟩, fun h => by cases h⟩;have := HR.out;rw [HT.out.1, HT.out.2, at_cons, if_pos HP.out] at this;exact this.symm
    ·have t1 : (t == n) = false := (by simpa using htn);have HP := Lib.hid htn;clear htn;go_wp2
     go_round
     case rel =>
      refine ⟨q + 1, by go_num, by omega, ?_⟩;have := HR.out;rw [HT.out.1, HT.out.2, at_cons, if_neg HP.out] at this;exact this
     case measure => simp [intOf]; omega
   ·have HE := Lib.hid (show v.keys.drop q = [] from List.drop_eq_nil_of_le (by omega));go_wp2
    go_returns
    refine Found.none rfl (by go_grown) ?_;have := HR.out;rw [HE.out, at_nil] at this;exact this.symm
end
section
open Go.RowKit
def Tells (r : Option Bool) (w : World) (e : Ending) (w' : World) : Prop := ∃ is, e = .returned (.tuple #[.bool is, .bool r.isSome]) ∧ (∀ x, r = some x → is = x) ∧ Below w.heap.size w w'
def NumP (v : Vl) (p : Bool) (w : World) (e : Ending) (w' : World) : Prop := ∃ g, e = .returned (.tuple #[.float .f64 g, .bool p]) ∧ (∀ x, num v = some x → cn g = x) ∧ Below w.heap.size w w'
theorem number_p (v : Vl) (p : Bool) (hp : (num v).isSome = p) (f : Nat) (a : Option Addr) (c : Nat) (a' : Option Addr) (c' : Nat) (w : World) (hf : cn f = v.flt) :
 Calls Try.prog 91 #[va v f a c a' c'] w (NumP v p w) := by
 subst hp; exact number_any v f a c a' c' w hf
theorem less_num (v u : Vl) (h1 : ¬ (v.kind = 3 ∧ u.kind = 3)) (h2 : ¬ (v.kind = 1 ∧ u.kind = 1)) : less v u = match num v, num u with
 |some x, some y => some (flt_lt x y)
 |_, _ => none := by
 unfold less; rw [if_neg h1, if_neg h2]; rfl
set_option maxHeartbeats 800000 in
theorem less_any (v u : Vl) (f : Nat) (a : Option Addr) (c : Nat) (a' : Option Addr) (c' : Nat) (f2 : Nat) (a2 : Option Addr) (c2 : Nat) (a2' : Option Addr) (c2' : Nat) (w : World) (hf : cn f = v.flt) (hf2 : cn f2 = u.flt) :
 Calls Try.prog 86 #[va v f a c a' c', va u f2 a2 c2 a2' c2'] w (Tells (less v u) w) := by
 by_cases h3 : v.kind = 3 ∧ u.kind = 3
 ·have b1 : (v.kind == 3) = true := by simp [h3.1]
  have b2 : (u.kind == 3) = true := by simp [h3.2]
  have H := Lib.hid (show less v u = some (textLt v.text u.text) by unfold less; rw [if_pos h3]);clear h3 hf hf2;go_enter Try.func86, Try.ntmps86;go_wp2
  go_ret2
  exact ⟨_, by rw [H.out]; rfl, fun x hx => by rw [H.out] at hx; exact Option.some.inj hx, by go_grown⟩
 ·by_cases h1 : v.kind = 1 ∧ u.kind = 1
  ·have b1 : (v.kind == 1) = true := (by simp [h1.1]);have b2 : (u.kind == 1) = true := (by simp [h1.2]);have b3 : (v.kind == 3) = false := (by simp [h1.1]);have H := Lib.hid (show less v u = some (decide (v.int < u.int)) by unfold less; rw [if_neg h3, if_pos h1]);clear h1 h3 hf hf2;go_enter Try.func86, Try.ntmps86;go_wp2
   go_ret2
   exact ⟨_, by rw [H.out]; rfl, fun x hx => by rw [H.out] at hx; exact Option.some.inj hx, by go_grown⟩
  ·have H := Lib.hid (less_num v u h3 h1);obtain ⟨p, hp⟩ : ∃ p, (num v).isSome = p := ⟨_, rfl⟩;obtain ⟨q, hq⟩ : ∃ q, (num u).isSome = q := ⟨_, rfl⟩;have N1 := Lib.hid (fun w => number_p v p hp f a c a' c' w hf);have N2 := Lib.hid (fun w => number_p u q hq f2 a2 c2 a2' c2' w hf2);have B : ((v.kind == 3) = false ∨ ((v.kind == 3) = true ∧ (u.kind == 3) = false)) ∧ ((v.kind == 1) = false ∨ ((v.kind == 1) = true ∧ (u.kind == 1) = false)) := by
    constructor
    ·by_cases x : v.kind = 3
     ·right; simp only [beq_iff_eq, beq_eq_false_iff_ne, ne_eq]; exact ⟨x, fun y => h3 ⟨x, y⟩⟩
     ·left; simpa using x
    ·by_cases x : v.kind = 1
     ·right; simp only [beq_iff_eq, beq_eq_false_iff_ne, ne_eq]; exact ⟨x, fun y => h1 ⟨x, y⟩⟩
     ·left; simpa using x
   clear h1 h3 hf hf2;have fin : ∀ (g1 g2 : Nat), (∀ x, num v = some x → cn g1 = x) → (∀ x, num u = some x → cn g2 = x) → ∀ x, less v u = some x → (p && (q && (FloatKind.f64.format.order g1 g2 == some .lt))) = x := by
    subst hp hq;intro g1 g2 k1 k2 x hx;rw [H.out] at hx;cases hv : num v with
    |none => rw [hv] at hx; cases hx
    |some a =>
     cases hu : num u with
     |none => rw [hv, hu] at hx; cases hx
     |some b =>
      rw [hv, hu] at hx;have := Option.some.inj hx;rw [← this, ← k1 a hv, ← k2 b hu, flt_lt, order_cn];rfl
   have fin2 : (less v u).isSome = (p && q) := by
    subst hp hq;rw [H.out];cases num v <;> cases num u <;> rfl
   have F := Lib.hid (And.intro fin fin2);clear fin fin2 hp hq;obtain ⟨B1, B2⟩ := B;rcases B1 with b1 | ⟨b1, b2⟩ <;> rcases B2 with b3 | ⟨b3, b4⟩ <;> cases p <;> cases q
   all_goals
    go_enter Try.func86, Try.ntmps86
    go_wp2_with (first
     |(go_at_call 91; apply Calls.mono; (focus (with_reducible exact N1.out _)); rintro e w1 ⟨g1, rfl, k1, hb1⟩; have K1 := Lib.hid k1; clear k1; obtain ⟨hc1, hf1⟩ := bcell hb1; have hz1 : w.heap.size + 1 < w1.heap.size := (by have := hb1.size; simp at this; omega))
     |(go_at_call 91; apply Calls.mono; (focus (with_reducible exact N2.out _)); rintro e w2 ⟨g2, rfl, k2, hb2⟩; have K2 := Lib.hid k2; clear k2))
    all_goals
     go_ret2
     refine ⟨_, by rw [F.out.2]; rfl, fun x hx => ?_, (((Below.refl _ _).alloc (Nat.le_refl _) _).alloc (by simp) _).trans ((hb1.mono (by simp; omega)).trans (hb2.mono (by omega)))⟩;have := F.out.1 g1 g2 K1.out K2.out x hx;simpa using this
end
end Go.Proofs.Ytafhhdimjkgihaa.Mn
