/- What the program does, function by function, and what trees mean: part 22. -/
import Derived.Deep.Cut
import Derived.Test.YtafhhdimjkgihaaM21
import Derived.Test.YtafhhdimjkgihaaM20
set_option linter.unusedSimpArgs false
set_option linter.unusedVariables false
namespace Go.Proofs.Ytafhhdimjkgihaa.Mn
section
open Go.RowKit
theorem yesV (w : World) (k : Nat → Prop) (b : Bool) : IsV w k (yes b) (vcells (yes b) 0 none 0 none 0) := IsV.flat _ _ _ _ cn_zero ⟨by show (-9223372036854775808 : Int) ≤ 4; omega, by show (4 : Int) ≤ _; omega⟩ .zero (by simp [yes]) rfl rfl
theorem yes_v (b : Bool) (w : World) : Calls Try.prog 75 #[.bool b] w (fun e w' => e = .returned (.agg #[.int .i64 4, .int .i64 0, .float .f64 0, .string ⟨#[]⟩, .bool b, .slice none 0 0, .slice none 0 0]) ∧ Below w.heap.size w w') := yes_any b w
abbrev yv (b : Bool) : Value := .agg #[.int .i64 4, .int .i64 0, .float .f64 0, .string ⟨#[]⟩, .bool b, .slice none 0 0, .slice none 0 0]
theorem Evd.tells {k : Nat → Prop} {wk : Nat} {left : Int} {over : Bool} {r : Option Vl} {w w1 w' : World} {e : Ending} {b : Bool} {left2 : Int} {over2 : Bool}
 (he : e = .returned (.tuple #[yv b, .bool true])) (hE : Ext (· = wk) w.heap.size w w1) (hW : Work w1 wk left2 over2) (hm : over2 = false → over = false ∧ left2 ≤ left) (zk : wk < w.heap.size)
 (hb : Below w.heap.size w1 w') (hr : over2 = false → r = some (yes b)) : Evd k wk left over r w e w' :=
 Evd.end (x := yes b) (ok := true) he hE hW hm zk hb (yesV _ _ _) hr
theorem F3.calls {w0 w w1 : World} {wk : Nat} {l0 l1 l2 : List Value} {t0 t1 t2 : TypeId} (h : F3 w0 wk l0 l1 l2 t0 t1 t2 w) (e : Below w.heap.size w w1) (hk : wk < w0.heap.size) : F3 w0 wk l0 l1 l2 t0 t1 t2 w1 := h.call (.of e) hk
theorem any_false_take (l : List Vl) (p : Vl → Bool) : ∀ q, (l.take q).any p = false → q ≥ l.length → l.any p = false := fun q h hq => by rw [List.take_of_length_le hq] at h; exact h
set_option maxHeartbeats 3200000 in
set_option maxRecDepth 100000 in
theorem within_list (k : Nat → Prop) (wk : Nat) (left : Int) (over : Bool) (v u : Vl) (f : Nat) (a : Option Addr) (c : Nat) (a' : Option Addr) (c' : Nat) (f2 : Nat) (a2 : Option Addr) (c2 : Nat) (a2' : Option Addr) (c2' : Nat) (w : World)
 (hkw : k wk) (hW : Work w wk left over) (hV : IsV w k v (vcells v f a c a' c')) (hU : IsV w k u (vcells u f2 a2 c2 a2' c2')) (h5 : u.kind = 5) :
 Calls Try.prog 87 #[.pointer (some ⟨wk, 0, none⟩), va v f a c a' c', va u f2 a2 c2 a2' c2'] w (Evd k wk left over (some (yes (u.items.any (eqv v)))) w) := by
 have b5 : (u.kind == 5) = true := eq_bool h5;obtain ⟨_, _, _, hn, _, _, _, ⟨its, hri, hsi⟩, _⟩ := hU.inv;have zk : wk < w.heap.size := hW.lt;have HW := Lib.hid hW; have HV := Lib.hid hV; have HKW := Lib.hid hkw; have HI := Lib.hid (And.intro hri hsi);clear hW hV hU h5 hkw hri hsi;unfold most at hn;go_enter Try.func87, Try.ntmps87
 go_wp2_with fail
 go_loopg [19] u.items.length (fun g i wr => ∃ q : Nat, i = .int .i64 q ∧ q + g = u.items.length ∧ ∃ left' over', F3 w wk (vcells v f a c a' c') (vcells u f2 a2 c2 a2' c2') zcells 39 39 39 wr ∧ Work wr wk left' over' ∧ (over' = false → over = false ∧ left' ≤ left) ∧ (over' = false → (u.items.any (eqv v)) = ((u.items.drop q).any (eqv v))))
 case atStart =>
  exact ⟨0, rfl, by omega, left, over, ⟨.of (by go_grown), ((Lb.new _ _ _).alloc _).alloc _, (Lb.new' _ _ _ (by simp)).alloc _, Lb.new' _ _ _ (by simp)⟩, ((HW.out.alloc _).alloc _).alloc _, fun h => ⟨h, Int.le_refl _⟩, fun _ => rfl⟩
 case round =>
  obtain ⟨q, rfl, hq, lr, ovr, hF, hWr, hmr, hDr⟩ := hrel;have z2 := hF.size;have z1 : w.heap.size + 1 < wr.heap.size := by omega
  have z0 : w.heap.size < wr.heap.size := by omega
  have r2 := hF.b2.cell; have g2 := hF.b2.frozen;have r0 := hF.b0.cell;unfold zcells at r2;unfold vcells at r0
  by_cases hlt : 0 < gk
  ·obtain ⟨g, rfl⟩ : ∃ g, gk = g + 1 := ⟨gk - 1, by omega⟩;have hqi : q < u.items.length := (by omega);obtain ⟨x, hx⟩ : ∃ x, u.items[q]? = some x := ⟨u.items[q], by simp⟩;obtain ⟨b, o, rfl⟩ := HI.out.1.some_of (HI.out.2.ne hqi);obtain ⟨hkb, hbs, f3, a3, c3, a4, c4, hX, h7⟩ := IsVs.cells HI.out.1 HI.out.2 hx;have h7r := h7.ext hF.ext hbs fun h => hkb (by rw [h]; exact HKW.out);have d0 := h7r.c0; have d1 := h7r.c1; have d2 := h7r.c2; have d3 := h7r.c3; have d4 := h7r.c4; have d5 := h7r.c5; have d6 := h7r.c6;have hbr : b < wr.heap.size := (by omega);have e0 : Ext k w.heap.size w wr := hF.ext.weak fun b hb => (by rw [hb]; exact HKW.out);have Q := Lib.hid (fun o => (eq_ok v).calls (w := wr.alloc o) HKW.out (hWr.alloc o) ((HV.out.ext e0 (Nat.le_refl _)).ext ((Ext.refl _ _ _).alloc (Nat.le_refl _) o) (Nat.le_refl _)) ((hX.ext e0 (Nat.le_refl _)).ext ((Ext.refl _ _ _).alloc (Nat.le_refl _) o) (Nat.le_refl _)))
   have HT := Lib.hid (drop_cons _ _ _ hx);have HM := Lib.hid (And.intro hF (And.intro hmr hDr));clear hF hWr hmr hDr hx hX h7 h7r e0 r2 g2
   go_wp2_with fail
   go_at_call 85;apply Calls.mono
   ·with_reducible exact Q.out _
   rintro e w5 ⟨is, left5, over5, rfl, hE5, hW5, hm5, hr5⟩;have F5 := (HM.out.1.alloc _).call hE5 zk;have HF5 := Lib.hid F5;have r2 := F5.b2.cell; have g2 := F5.b2.frozen;have z5 := F5.size;have hm6 := Lib.hid (mono_trans HM.out.2.1 hm5); have HW5 := Lib.hid hW5; have HR := Lib.hid (And.intro hm5 hr5);unfold zcells at r2;clear F5 hE5 hW5 hm5 hr5 Q d0 d1 d2 d3 d4 d5 d6 r0;cases is with
   |true =>
    go_wp2_with fail
    go_at_call 75;refine (yes_v _ _).mono ?_;rintro e w6 ⟨rfl, hb6⟩;have L2 := HF5.out.b2.below hb6 (by omega);have HB := Lib.hid hb6;replace r2 := L2.cell; replace g2 := L2.frozen; have z6 := L2.lt;unfold zcells at r2;clear hb6 L2;go_wp21;refine bodyPost_ret (v := .tuple #[yv true, .bool true]) (by simp [results, Try.results87, go_sem, r2, g2, z6]; try rfl) rfl ?_;have hB6 := HB.out.mono (show w.heap.size ≤ w5.heap.size by omega);exact Evd.tells rfl (HF5.out.ext.trans (.of hB6)) (HW5.out.below hB6 zk) hm6.out zk (by go_grown) fun ho => by
     rw [HM.out.2.2 (HR.out.1 ho).1, HT.out, List.any_cons, ← HR.out.2 ho]; rfl
   |false =>
    go_wp21
    go_roundg g
    case measure => omega
    case rel =>
     refine ⟨q + 1, by go_num, by omega, left5, over5, HF5.out, HW5.out, hm6.out, fun ho => ?_⟩;rw [HM.out.2.2 (HR.out.1 ho).1, HT.out, List.any_cons, ← HR.out.2 ho, Bool.false_or]
  ·obtain rfl : gk = 0 := (by omega);obtain rfl : q = u.items.length := (by omega);have HM := Lib.hid (And.intro hF (And.intro hWr (And.intro hmr hDr)));clear hF hWr hmr hDr r2 g2 r0
   go_wp2_with fail
   go_at_call 75;refine (yes_v _ _).mono ?_;rintro e w6 ⟨rfl, hb6⟩;have L2 := HM.out.1.b2.below hb6 (by omega);have HB := Lib.hid hb6;have r2 := L2.cell; have g2 := L2.frozen; have z6 := L2.lt;unfold zcells at r2;clear hb6 L2;go_wp21;refine bodyPost_ret (v := .tuple #[yv false, .bool true]) (by simp [results, Try.results87, go_sem, r2, g2, z6]; try rfl) rfl ?_;have hB6 := HB.out.mono (show w.heap.size ≤ wr.heap.size by omega);exact Evd.tells rfl (HM.out.1.ext.trans (.of hB6)) (HM.out.2.1.below hB6 zk) HM.out.2.2.1 zk (by go_grown) fun ho => by
    rw [HM.out.2.2.2 ho, List.drop_length]; rfl
set_option maxHeartbeats 1600000 in
set_option maxRecDepth 100000 in
theorem within_map (k : Nat → Prop) (wk : Nat) (left : Int) (over : Bool) (v u : Vl) (f : Nat) (a : Option Addr) (c : Nat) (a' : Option Addr) (c' : Nat) (f2 : Nat) (a2 : Option Addr) (c2 : Nat) (a2' : Option Addr) (c2' : Nat) (w : World)
 (hW : Work w wk left over) (hU : IsV w k u (vcells u f2 a2 c2 a2' c2')) (h6 : u.kind = 6) (h3 : v.kind = 3) :
 Calls Try.prog 87 #[.pointer (some ⟨wk, 0, none⟩), va v f a c a' c', va u f2 a2 c2 a2' c2'] w (Evd k wk left over (some (yes (at_ u.keys u.items v.text).isSome)) w) := by
 have b5 : (u.kind == 5) = false := ne_of_bool (by omega);have b6 : (u.kind == 6) = true := eq_bool h6;have b3 : (v.kind == 3) = true := eq_bool h3;have hl := hU.inv.2.2.2.2.2.2.1 h6;obtain ⟨y, hyv⟩ : ∃ y, (at_ u.keys u.items v.text).getD {} = y := ⟨_, rfl⟩;obtain ⟨ok, hok⟩ : ∃ ok, (at_ u.keys u.items v.text).isSome = ok := ⟨_, rfl⟩;rw [hok];have A := Lib.hid (fun w' (e : Below w.heap.size w w') => at_g k u f2 a2 c2 a2' c2' v.text w' (hU.ext (.of e) (Nat.le_refl _)) hl y ok hyv hok);have zk : wk < w.heap.size := hW.lt;have HW := Lib.hid hW;clear hW hU h6 h3 hl hyv hok;go_enter Try.func87, Try.ntmps87
 go_wp2_with fail
 go_at_call 52;apply Calls.mono
 ·with_reducible refine A.out _ ?_
  go_grown
 rintro e w5 ⟨f5, a5, c5, a6, c6, rfl, hb5, hV5⟩;have F : F3 w wk (vcells v f a c a' c') (vcells u f2 a2 c2 a2' c2') zcells 39 39 39 w5 := F3.calls (w := _) ⟨.of (by go_grown), ((Lb.new _ _ _).alloc _).alloc _, (Lb.new' _ _ _ (by simp)).alloc _, Lb.new' _ _ _ (by simp)⟩ hb5 zk;have HF := Lib.hid F; have HW5 := Lib.hid ((((HW.out.alloc _).alloc _).alloc _).below hb5 (by simp; omega));have z5 := F.size;clear F hb5 hV5 A
 go_wp2_with fail
 go_at_call 75;refine (yes_v _ _).mono ?_;rintro e w6 ⟨rfl, hb6⟩;have hb7 : Below w5.heap.size w5 w6 := Below.trans (by go_grown) (hb6.mono (by simp));have L2 := HF.out.b2.below hb7 (by omega);have HB := Lib.hid hb7;have r2 := L2.cell; have g2 := L2.frozen; have z6 := L2.lt;unfold zcells at r2;clear hb6 hb7 L2;go_wp21;refine bodyPost_ret (v := .tuple #[yv ok, .bool true]) (by simp [results, Try.results87, go_sem, r2, g2, z6]; try rfl) rfl ?_;have hB6 := HB.out.mono (show w.heap.size ≤ w5.heap.size by omega);exact Evd.tells rfl (HF.out.ext.trans (.of hB6)) (HW5.out.below hB6 zk) mono_refl zk (by go_grown) fun ho => rfl
set_option maxHeartbeats 800000 in
set_option maxRecDepth 100000 in
theorem within_none (k : Nat → Prop) (wk : Nat) (left : Int) (over : Bool) (v u : Vl) (f : Nat) (a : Option Addr) (c : Nat) (a' : Option Addr) (c' : Nat) (f2 : Nat) (a2 : Option Addr) (c2 : Nat) (a2' : Option Addr) (c2' : Nat) (w : World)
 (hW : Work w wk left over) (b5 : (u.kind == 5) = false) (h : (u.kind == 6) = false ∨ ((u.kind == 6) = true ∧ (v.kind == 3) = false)) :
 Calls Try.prog 87 #[.pointer (some ⟨wk, 0, none⟩), va v f a c a' c', va u f2 a2 c2 a2' c2'] w (Evd k wk left over none w) := by
 have zk : wk < w.heap.size := hW.lt;have HW := Lib.hid hW;clear hW;rcases h with b6 | ⟨b6, b3⟩
 all_goals
  go_enter Try.func87, Try.ntmps87
  go_wp2_with fail
  refine bodyPost_ret (v := .tuple #[zero, .bool false]) (by simp [results, Try.results87, go_sem]; try rfl) rfl ?_;exact Evd.end (x := {}) (ok := false) rfl (Ext.refl _ _ _) HW.out mono_refl zk (by go_grown) (zeroV _ _) fun ho => rfl
theorem isin_any (k : Nat → Prop) (wk : Nat) (left : Int) (over : Bool) (v u : Vl) (f : Nat) (a : Option Addr) (c : Nat) (a' : Option Addr) (c' : Nat) (f2 : Nat) (a2 : Option Addr) (c2 : Nat) (a2' : Option Addr) (c2' : Nat) (w : World)
 (hkw : k wk) (hW : Work w wk left over) (hV : IsV w k v (vcells v f a c a' c')) (hU : IsV w k u (vcells u f2 a2 c2 a2' c2')) :
 Calls Try.prog 87 #[.pointer (some ⟨wk, 0, none⟩), va v f a c a' c', va u f2 a2 c2 a2' c2'] w (Evd k wk left over (within v u) w) := by
 by_cases h5 : u.kind = 5
 ·have : within v u = some (yes (u.items.any (eqv v))) := by unfold within; rw [if_pos h5]
  rw [this]; exact within_list k wk left over v u f a c a' c' f2 a2 c2 a2' c2' w hkw hW hV hU h5
 ·by_cases h6 : u.kind = 6 ∧ v.kind = 3
  ·have : within v u = some (yes (at_ u.keys u.items v.text).isSome) := (by unfold within; rw [if_neg h5, if_pos h6]);rw [this]; exact within_map k wk left over v u f a c a' c' f2 a2 c2 a2' c2' w hW hU h6.1 h6.2
  ·have : within v u = none := (by unfold within; rw [if_neg h5, if_neg h6]);rw [this];refine within_none k wk left over v u f a c a' c' f2 a2 c2 a2' c2' w hW (ne_of_bool h5) ?_
   by_cases x : u.kind = 6
   ·exact .inr ⟨eq_bool x, ne_of_bool fun y => h6 ⟨x, y⟩⟩
   ·exact .inl (ne_of_bool x)
end
section
attribute [local go_sem ↓] Go.wp_at_zero Go.wp_at_succ
open Go.RowKit
theorem St.truth {k : Nat → Prop} {wk : Nat} {env : Env} {m : Nat} {an : Option Addr} {cn : Nat} {ai : Option Addr} {ni ci : Nat} {left0 : Int} {over0 : Bool} {left : Int} {over : Bool} {w wp w' : World} (hp : Pre k wk env m an cn ai ni ci left0 over0 w) (hm0 : over = false → over0 = false ∧ left ≤ left0) {l0 l1 l2 : List Value} {t0 t1 t2 : TypeId}
 (h : St w wk l0 l1 l2 t0 t1 t2 left over wp w') {t : Tr} (hok : EvalOk t) {f : Nat} {a : Option Addr} {c : Nat} {a' : Option Addr} {c' : Nat} {p q : Int} (ht : IsT w k t (tcells t f a c a' c' p q)) :
 Calls Try.prog 74 #[sa env.names.length wk an cn ai ni ci, ta t f a c a' c' p q] w' fun e w2 => ∃ is ok left2 over2, e = .returned (.tuple #[.bool is, .bool ok]) ∧ Ext (· = wk) w'.heap.size w' w2 ∧ Work w2 wk left2 over2 ∧ (over2 = false → over = false ∧ left2 ≤ left) ∧
  (over2 = false → Mn.truth (D t).val env = if ok then some is else none) ∧ St w wk l0 l1 l2 t0 t1 t2 left over wp w2 := by
 obtain ⟨left', over', hw, hm⟩ := h.work;have z := h.f.size;have zk := hp.lt wk hp.kw;have hP : Pre (Xl k w.heap.size w'.heap.size) wk env m an cn ai ni ci left' over' w' := hp.next h.f.ext (fun b h => .inl h) (fun b h => h.imp id (·.1)) (fun b h => by rcases h with h | h; (have := hp.lt b h; omega); exact h.2) hw (fun ho => by have h1 := hm ho; have h2 := hm0 h1.1; exact ⟨h2.1, by omega⟩)
 have hT : IsT w' (Xl k w.heap.size w'.heap.size) t (tcells t f a c a' c' p q) := (ht.other fun b h => h.imp id (·.1)).ext (h.f.ext.weak fun b hb => by rw [hb]; exact .inl hp.kw) (Nat.le_refl _);refine (truth_any t hok _ _ _ _ _ _ _ _ _ _ _ _ _ _ _ _ _ _ _ hP hT).mono ?_;rintro e w2 ⟨is, ok, left2, over2, he, hE, hW2, hm2, hr2⟩;have hm3 : over2 = false → over = false ∧ left2 ≤ left := fun ho => by have h1 := hm2 ho; have h2 := hm h1.1; exact ⟨h2.1, by omega⟩
 exact ⟨is, ok, left2, over2, he, hE, hW2, hm3, hr2, h.call hE zk hW2 hm3⟩
structure GotB (w0 : World) (wk : Nat) (l0 l1 l2 : List Value) (t0 t1 t2 : TypeId) (left : Int) (over : Bool) (r : Option Bool) (is ok : Bool) (left2 : Int) (over2 : Bool) (wp w : World) : Prop where
 p : Ext (· = wk) wp.heap.size wp w
 f : F3 w0 wk l0 l1 l2 t0 t1 t2 w
 work : Work w wk left2 over2
 mono : over2 = false → over = false ∧ left2 ≤ left
 mean : over2 = false → r = if ok then some is else none
set_option maxHeartbeats 12800000 in
set_option maxRecDepth 100000 in
theorem binary_log (t t1 t2 : Tr) (hk : t.kids = [t1, t2]) (hok1 : EvalOk t1) (hok2 : EvalOk t2) (z : Bool) (hq : t.name = nm "and" ∧ z = false ∨ t.name = nm "&&" ∧ z = false ∨ t.name = nm "or" ∧ z = true ∨ t.name = nm "||" ∧ z = true) (k : Nat → Prop) (wk : Nat) (env : Env) (m : Nat) (an : Option Addr) (cn : Nat) (ai : Option Addr) (ni ci : Nat) (left : Int) (over : Bool) (f : Nat) (a : Option Addr) (c : Nat) (a' : Option Addr) (c' : Nat) (p q : Int) (w : World)
 (hp : Pre k wk env m an cn ai ni ci left over w) (ht : IsT w k t (tcells t f a c a' c' p q)) :
 Calls Try.prog 62 #[sa env.names.length wk an cn ai ni ci, ta t f a c a' c' p q] w (Evd k wk left over ((truth (D t1).val env).bind fun x => if x = z then some (yes x) else (truth (D t2).val env).bind fun y => some (yes y)) w) := by
 obtain ⟨b, o, rfl⟩ := kids_some ht (by rw [hk]; exact Nat.zero_lt_succ _);obtain ⟨hkb, hbs, f1, a1, c1, b1, e1, p1, q1, hT1, h121⟩ := kid_in ht (j := 0) (t1 := t1) (by rw [hk]; rfl);rw [Nat.zero_mul, Nat.add_zero] at h121;obtain ⟨hkb, hbs, f2, a2, c2, b2, e2, p2, q2, hT2, h122⟩ := kid_in ht (j := 1) (t1 := t2) (by rw [hk]; rfl);replace h122 : C12 w b (o + 12) t2 f2 a2 c2 b2 e2 p2 q2 := h122;have zk : wk < w.heap.size := hp.lt wk hp.kw;have hbk : ¬ b = wk := fun h => hkb (by rw [h]; exact hp.kw);have hkl : ((t.kids.length : Int) == 2) = true := by rw [hk]; rfl
 have hkl0 : 0 < t.kids.length := by rw [hk]; exact Nat.zero_lt_succ _
 have hkl1 : 1 < t.kids.length := by rw [hk]; simp
 have hki1 : (1 : Int) < (t.kids.length : Int) := by omega
 have KEEP := Lib.hid (show ∀ w', St w wk [.slice an env.names.length cn, .slice ai ni ci, .pointer (some ⟨wk, 0, none⟩)] (tcells t f (some ⟨b, o, none⟩) c a' c' p q) zcells 62 25 39 left over w w' → St w wk [.slice an env.names.length cn, .slice ai ni ci, .pointer (some ⟨wk, 0, none⟩)] (tcells t f (some ⟨b, o, none⟩) c a' c' p q) zcells 62 25 39 left over w w' ∧ w'.cell? ⟨w.heap.size, 0, none⟩ = some (.slice an env.names.length cn) ∧ w'.cell? ⟨w.heap.size, 1, none⟩ = some (.slice ai ni ci) ∧ w'.cell? ⟨w.heap.size, 2, none⟩ = some (.pointer (some ⟨wk, 0, none⟩)) ∧ w'.cell? ⟨w.heap.size + 1, 8, none⟩ = some (.slice (some ⟨b, o, none⟩) t.kids.length c) ∧ w'.cell? ⟨b, o, none⟩ = some (.int .i64 t1.kind) ∧ w'.cell? ⟨b, o + 1, none⟩ = some (.string (str t1.name)) ∧ w'.cell? ⟨b, o + 2, none⟩ = some (.int .i64 t1.int) ∧ w'.cell? ⟨b, o + 3, none⟩ = some (.float .f64 f1) ∧ w'.cell? ⟨b, o + 4, none⟩ = some (.bool t1.flag) ∧ w'.cell? ⟨b, o + 5, none⟩ = some (.bool t1.method) ∧ w'.cell? ⟨b, o + 6, none⟩ = some (.bool t1.limited) ∧ w'.cell? ⟨b, o + 7, none⟩ = some (.int .i64 t1.limit) ∧ w'.cell? ⟨b, o + 8, none⟩ = some (.slice a1 t1.kids.length c1) ∧ w'.cell? ⟨b, o + 9, none⟩ = some (.slice b1 t1.map.length e1) ∧ w'.cell? ⟨b, o + 10, none⟩ = some (.int .i64 p1) ∧ w'.cell? ⟨b, o + 11, none⟩ = some (.int .i64 q1) from fun w' h => ⟨h, h.f.b0.cell 0, h.f.b0.cell 1, h.f.b0.cell 2, h.f.b1.cell 8, (h121.ext h.f.ext hbs hbk).c0, (h121.ext h.f.ext hbs hbk).c1, (h121.ext h.f.ext hbs hbk).c2, (h121.ext h.f.ext hbs hbk).c3, (h121.ext h.f.ext hbs hbk).c4, (h121.ext h.f.ext hbs hbk).c5, (h121.ext h.f.ext hbs hbk).c6, (h121.ext h.f.ext hbs hbk).c7, (h121.ext h.f.ext hbs hbk).c8, (h121.ext h.f.ext hbs hbk).c9, (h121.ext h.f.ext hbs hbk).c10, (h121.ext h.f.ext hbs hbk).c11⟩)
 have HM := Lib.hid (mono_refl (left := left) (over := over)); have HP := Lib.hid hp; have HK := Lib.hid hk;have HT1 := Lib.hid hT1; have HOK1 := Lib.hid hok1; have H121 := Lib.hid h121;have HT2 := Lib.hid hT2; have HOK2 := Lib.hid hok2; have H122 := Lib.hid h122;clear hp ht hk hT1 hok1 h121 hT2 hok2 h122;rcases hq with ⟨hq, rfl⟩ | ⟨hq, rfl⟩ | ⟨hq, rfl⟩ | ⟨hq, rfl⟩
 all_goals
  first |have nn0 : (t.name == [97, 110, 100]) = true := by rw [hq]; decide |have nn0 : (t.name == [97, 110, 100]) = false := by rw [hq]; decide
  first |have nn1 : (t.name == [38, 38]) = true := by rw [hq]; decide |have nn1 : (t.name == [38, 38]) = false := by rw [hq]; decide
  first |have nn2 : (t.name == [111, 114]) = true := by rw [hq]; decide |have nn2 : (t.name == [111, 114]) = false := by rw [hq]; decide
  first |have nn3 : (t.name == [124, 124]) = true := by rw [hq]; decide |have nn3 : (t.name == [124, 124]) = false := by rw [hq]; decide
  clear hq;go_enter Try.func62, Try.ntmps62
  go_upto_region 8 with (first | (go_at_call 67; refine (kids_any _ _ _ _ _ _ _ _ _ _).mono ?_; rintro e w1 ⟨rfl, hb1⟩; have L1 : Lb w1 (w.heap.size + 1) _ 25 := ((Lb.new' _ _ _ (by simp)).alloc _).below hb1 (by simp); have n1 := L1.cell 1; simp only [tcells, List.getElem?_cons_succ, List.getElem?_cons_zero] at n1; have yy := L1.lt))
  clear n1 yy L1;refine forget (fun w' => St w wk [.slice an env.names.length cn, .slice ai ni ci, .pointer (some ⟨wk, 0, none⟩)] (tcells t f (some ⟨b, o, none⟩) c a' c' p q) zcells 62 25 39 left over w w') ?_ ?_
  ·exact ⟨.of (Below.trans (by go_grown) (hb1.mono (by first | omega | (simp; done) | (simp; omega)))), ⟨.of (Below.trans (by go_grown) (hb1.mono (by first | omega | (simp; done) | (simp; omega)))), (((Lb.new _ _ _).alloc _).alloc _).below hb1 (by first | omega | (simp; done) | (simp; omega)), ((Lb.new' _ _ _ (by simp)).alloc _).below hb1 (by first | omega | (simp; done) | (simp; omega)), (Lb.new' _ _ _ (by simp)).below hb1 (by first | omega | (simp; done) | (simp; omega))⟩, left, over, (((HP.out.work.alloc _).alloc _).alloc _).below hb1 (by first | omega | (simp; done) | (simp; omega)), fun h => ⟨h, Int.le_refl _⟩⟩
  clear hb1;intro W hW;have z0 : w.heap.size + 1 + 1 < W.heap.size := hW.f.size;have z1 : w.heap.size + 1 < W.heap.size := by omega
  have z2 : w.heap.size < W.heap.size := by omega
  have zp : w.heap.size ≤ W.heap.size := by omega
  go_cut [6, 7] from 8 (fun s6 s7 wx => ∃ is ok left2 over2, s6 = .bool is ∧ s7 = .bool ok ∧ GotB w wk [.slice an env.names.length cn, .slice ai ni ci, .pointer (some ⟨wk, 0, none⟩)] (tcells t f (some ⟨b, o, none⟩) c a' c' p q) zcells 62 25 39 left over (truth (D t1).val env) is ok left2 over2 w wx)
  case first =>
   go_region_held3 (fun w' => St w wk [.slice an env.names.length cn, .slice ai ni ci, .pointer (some ⟨wk, 0, none⟩)] (tcells t f (some ⟨b, o, none⟩) c a' c' p q) zcells 62 25 39 left over w w' ∧ w'.cell? ⟨w.heap.size, 0, none⟩ = some (.slice an env.names.length cn) ∧ w'.cell? ⟨w.heap.size, 1, none⟩ = some (.slice ai ni ci) ∧ w'.cell? ⟨w.heap.size, 2, none⟩ = some (.pointer (some ⟨wk, 0, none⟩)) ∧ w'.cell? ⟨w.heap.size + 1, 8, none⟩ = some (.slice (some ⟨b, o, none⟩) t.kids.length c) ∧ w'.cell? ⟨b, o, none⟩ = some (.int .i64 t1.kind) ∧ w'.cell? ⟨b, o + 1, none⟩ = some (.string (str t1.name)) ∧ w'.cell? ⟨b, o + 2, none⟩ = some (.int .i64 t1.int) ∧ w'.cell? ⟨b, o + 3, none⟩ = some (.float .f64 f1) ∧ w'.cell? ⟨b, o + 4, none⟩ = some (.bool t1.flag) ∧ w'.cell? ⟨b, o + 5, none⟩ = some (.bool t1.method) ∧ w'.cell? ⟨b, o + 6, none⟩ = some (.bool t1.limited) ∧ w'.cell? ⟨b, o + 7, none⟩ = some (.int .i64 t1.limit) ∧ w'.cell? ⟨b, o + 8, none⟩ = some (.slice a1 t1.kids.length c1) ∧ w'.cell? ⟨b, o + 9, none⟩ = some (.slice b1 t1.map.length e1) ∧ w'.cell? ⟨b, o + 10, none⟩ = some (.int .i64 p1) ∧ w'.cell? ⟨b, o + 11, none⟩ = some (.int .i64 q1))
    (first | with_reducible exact KEEP.out _ (St.drew hW) | with_reducible exact KEEP.out _ hst)
    (first | (go_at_call 74; apply Calls.mono; (focus (with_reducible exact St.truth HP.out HM.out (And.left ‹St _ _ _ _ _ _ _ _ _ _ _ _ ∧ _›) HOK1.out HT1.out)); rintro e w2 ⟨is, ok, left2, over2, rfl, hE, hW2, hm2, hr2, hst⟩))
   all_goals
    go_wp21;go_meet
    case rel => exact ⟨is, ok, left2, over2, rfl, rfl, ⟨hst.p, hst.f, hW2, hm2, hr2⟩⟩
  case rest =>
   obtain ⟨isa, oka, lefta, overa, rfl, rfl, hG⟩ := hcut;have hW : St w wk [.slice an env.names.length cn, .slice ai ni ci, .pointer (some ⟨wk, 0, none⟩)] (tcells t f (some ⟨b, o, none⟩) c a' c' p q) zcells 62 25 39 lefta overa wc wc := ⟨Ext.refl _ _ _, hG.f, lefta, overa, hG.work, mono_refl⟩;have HM2 := Lib.hid hG.mono;have G := Lib.hid hG;have y0 : w.heap.size + 1 + 1 < wc.heap.size := hG.f.size;have y1 : w.heap.size + 1 < wc.heap.size := (by omega);have y2 : w.heap.size < wc.heap.size := (by omega);have n1 := hG.f.b1.cell 1;simp only [tcells, List.getElem?_cons_succ, List.getElem?_cons_zero] at n1;have h122 := H122.out;have KEEP2 := Lib.hid (show ∀ w', St w wk [.slice an env.names.length cn, .slice ai ni ci, .pointer (some ⟨wk, 0, none⟩)] (tcells t f (some ⟨b, o, none⟩) c a' c' p q) zcells 62 25 39 lefta overa wc w' → St w wk [.slice an env.names.length cn, .slice ai ni ci, .pointer (some ⟨wk, 0, none⟩)] (tcells t f (some ⟨b, o, none⟩) c a' c' p q) zcells 62 25 39 lefta overa wc w' ∧ w'.cell? ⟨w.heap.size, 0, none⟩ = some (.slice an env.names.length cn) ∧ w'.cell? ⟨w.heap.size, 1, none⟩ = some (.slice ai ni ci) ∧ w'.cell? ⟨w.heap.size, 2, none⟩ = some (.pointer (some ⟨wk, 0, none⟩)) ∧ w'.cell? ⟨w.heap.size + 1, 8, none⟩ = some (.slice (some ⟨b, o, none⟩) t.kids.length c) ∧ w'.cell? ⟨b, o + 12, none⟩ = some (.int .i64 t2.kind) ∧ w'.cell? ⟨b, o + 12 + 1, none⟩ = some (.string (str t2.name)) ∧ w'.cell? ⟨b, o + 12 + 2, none⟩ = some (.int .i64 t2.int) ∧ w'.cell? ⟨b, o + 12 + 3, none⟩ = some (.float .f64 f2) ∧ w'.cell? ⟨b, o + 12 + 4, none⟩ = some (.bool t2.flag) ∧ w'.cell? ⟨b, o + 12 + 5, none⟩ = some (.bool t2.method) ∧ w'.cell? ⟨b, o + 12 + 6, none⟩ = some (.bool t2.limited) ∧ w'.cell? ⟨b, o + 12 + 7, none⟩ = some (.int .i64 t2.limit) ∧ w'.cell? ⟨b, o + 12 + 8, none⟩ = some (.slice a2 t2.kids.length c2) ∧ w'.cell? ⟨b, o + 12 + 9, none⟩ = some (.slice b2 t2.map.length e2) ∧ w'.cell? ⟨b, o + 12 + 10, none⟩ = some (.int .i64 p2) ∧ w'.cell? ⟨b, o + 12 + 11, none⟩ = some (.int .i64 q2) from fun w' h => ⟨h, h.f.b0.cell 0, h.f.b0.cell 1, h.f.b0.cell 2, h.f.b1.cell 8, (h122.ext h.f.ext hbs hbk).c0, (h122.ext h.f.ext hbs hbk).c1, (h122.ext h.f.ext hbs hbk).c2, (h122.ext h.f.ext hbs hbk).c3, (h122.ext h.f.ext hbs hbk).c4, (h122.ext h.f.ext hbs hbk).c5, (h122.ext h.f.ext hbs hbk).c6, (h122.ext h.f.ext hbs hbk).c7, (h122.ext h.f.ext hbs hbk).c8, (h122.ext h.f.ext hbs hbk).c9, (h122.ext h.f.ext hbs hbk).c10, (h122.ext h.f.ext hbs hbk).c11⟩)
   clear h122 hG;cases oka with
   |false =>
    go_wp2_with fail
    go_at_call 75;refine (yes_v _ _).mono ?_;rintro e w5 ⟨rfl, hb5⟩;have F5 := G.out.f.calls hb5 zk;have HB := Lib.hid (And.intro F5 (G.out.work.below hb5 (by have := G.out.f.size; omega)));have r2 := F5.b2.cell; have g2 := F5.b2.frozen; have x5 := F5.size;unfold zcells at r2;clear F5 hb5;go_wp21;refine bodyPost_ret (v := .tuple #[yv (isa), .bool (false)]) (by simp [results, Try.results62, go_sem, r2, g2, x5]; try rfl) rfl ?_;exact Evd.end (x := yes (isa)) (ok := false) rfl HB.out.1.ext HB.out.2 G.out.mono zk (by go_grown) (yesV _ _ _) fun ho => by rw [G.out.mean ho]; rfl
   |true =>
    cases isa
    all_goals first
     |(
      go_wp2_with fail
      go_at_call 75;refine (yes_v _ _).mono ?_;rintro e w5 ⟨rfl, hb5⟩;have F5 := G.out.f.calls hb5 zk;have HB := Lib.hid (And.intro F5 (G.out.work.below hb5 (by have := G.out.f.size; omega)));have r2 := F5.b2.cell; have g2 := F5.b2.frozen; have x5 := F5.size;unfold zcells at r2;clear F5 hb5;go_wp21;refine bodyPost_ret (v := .tuple #[yv (false), .bool (true)]) (by simp [results, Try.results62, go_sem, r2, g2, x5]; try rfl) rfl ?_;exact Evd.end (x := yes (false)) (ok := true) rfl HB.out.1.ext HB.out.2 G.out.mono zk (by go_grown) (yesV _ _ _) fun ho => by rw [G.out.mean ho]; rfl)
     |(
      go_wp2_with fail
      go_at_call 75;refine (yes_v _ _).mono ?_;rintro e w5 ⟨rfl, hb5⟩;have F5 := G.out.f.calls hb5 zk;have HB := Lib.hid (And.intro F5 (G.out.work.below hb5 (by have := G.out.f.size; omega)));have r2 := F5.b2.cell; have g2 := F5.b2.frozen; have x5 := F5.size;unfold zcells at r2;clear F5 hb5;go_wp21;refine bodyPost_ret (v := .tuple #[yv (true), .bool (true)]) (by simp [results, Try.results62, go_sem, r2, g2, x5]; try rfl) rfl ?_;exact Evd.end (x := yes (true)) (ok := true) rfl HB.out.1.ext HB.out.2 G.out.mono zk (by go_grown) (yesV _ _ _) fun ho => by rw [G.out.mean ho]; rfl)
     |(
      go_upto_region 12 with (fail)
      clear n1
      go_cut [7, 9] from 10 (fun s6 s7 wx => ∃ is ok left2 over2, s6 = .bool ok ∧ s7 = .bool is ∧ GotB w wk [.slice an env.names.length cn, .slice ai ni ci, .pointer (some ⟨wk, 0, none⟩)] (tcells t f (some ⟨b, o, none⟩) c a' c' p q) zcells 62 25 39 lefta overa (truth (D t2).val env) is ok left2 over2 wc wx)
      case first =>
       go_region_held3 (fun w' => St w wk [.slice an env.names.length cn, .slice ai ni ci, .pointer (some ⟨wk, 0, none⟩)] (tcells t f (some ⟨b, o, none⟩) c a' c' p q) zcells 62 25 39 lefta overa wc w' ∧ w'.cell? ⟨w.heap.size, 0, none⟩ = some (.slice an env.names.length cn) ∧ w'.cell? ⟨w.heap.size, 1, none⟩ = some (.slice ai ni ci) ∧ w'.cell? ⟨w.heap.size, 2, none⟩ = some (.pointer (some ⟨wk, 0, none⟩)) ∧ w'.cell? ⟨w.heap.size + 1, 8, none⟩ = some (.slice (some ⟨b, o, none⟩) t.kids.length c) ∧ w'.cell? ⟨b, o + 12, none⟩ = some (.int .i64 t2.kind) ∧ w'.cell? ⟨b, o + 12 + 1, none⟩ = some (.string (str t2.name)) ∧ w'.cell? ⟨b, o + 12 + 2, none⟩ = some (.int .i64 t2.int) ∧ w'.cell? ⟨b, o + 12 + 3, none⟩ = some (.float .f64 f2) ∧ w'.cell? ⟨b, o + 12 + 4, none⟩ = some (.bool t2.flag) ∧ w'.cell? ⟨b, o + 12 + 5, none⟩ = some (.bool t2.method) ∧ w'.cell? ⟨b, o + 12 + 6, none⟩ = some (.bool t2.limited) ∧ w'.cell? ⟨b, o + 12 + 7, none⟩ = some (.int .i64 t2.limit) ∧ w'.cell? ⟨b, o + 12 + 8, none⟩ = some (.slice a2 t2.kids.length c2) ∧ w'.cell? ⟨b, o + 12 + 9, none⟩ = some (.slice b2 t2.map.length e2) ∧ w'.cell? ⟨b, o + 12 + 10, none⟩ = some (.int .i64 p2) ∧ w'.cell? ⟨b, o + 12 + 11, none⟩ = some (.int .i64 q2))
        (first | with_reducible exact KEEP2.out _ (St.drew hW) | with_reducible exact KEEP2.out _ hst)
        (first | (go_at_call 74; apply Calls.mono; (focus (with_reducible exact St.truth HP.out HM2.out (And.left ‹St _ _ _ _ _ _ _ _ _ _ _ _ ∧ _›) HOK2.out HT2.out)); rintro e w2 ⟨is, ok, left2, over2, rfl, hE, hW2, hm2, hr2, hst⟩))
       all_goals
        go_wp21;go_meet
        case rel => exact ⟨is, ok, left2, over2, rfl, rfl, ⟨hst.p, hst.f, hW2, hm2, hr2⟩⟩
      case rest =>
       obtain ⟨is2, ok2, left2, over2, rfl, rfl, hG2⟩ := hcut;have G2 := Lib.hid hG2;have hm3 := Lib.hid (mono_trans HM2.out hG2.mono);clear hG2
       go_wp2_with fail
       go_at_call 75;refine (yes_v _ _).mono ?_;rintro e w5 ⟨rfl, hb5⟩;have F5 := G2.out.f.calls hb5 zk;have HB := Lib.hid (And.intro F5 (G2.out.work.below hb5 (by have := G2.out.f.size; omega)));have r2 := F5.b2.cell; have g2 := F5.b2.frozen; have x5 := F5.size;unfold zcells at r2;clear F5 hb5;go_wp21;refine bodyPost_ret (v := .tuple #[yv (is2), .bool (ok2)]) (by simp [results, Try.results62, go_sem, r2, g2, x5]; try rfl) rfl ?_;exact Evd.end (x := yes (is2)) (ok := ok2) rfl HB.out.1.ext HB.out.2 hm3.out zk (by go_grown) (yesV _ _ _) fun ho => by rw [G.out.mean (G2.out.mono ho).1, G2.out.mean ho]; cases ok2 <;> rfl)
end
end Go.Proofs.Ytafhhdimjkgihaa.Mn
