/- What the program does, function by function, and what trees mean: part 05. -/
import Derived.Test.YtafhhdimjkgihaaM04
import Derived.Test.YtafhhdimjkgihaaM02
set_option linter.unusedSimpArgs false
set_option linter.unusedVariables false
namespace Go.Proofs.Ytafhhdimjkgihaa.Mn
section
open Go.RowKit
theorem arith_txt (v u : Vl) (h : v.kind = 3 ∧ u.kind = 3) : arith (nm "+") v u = some { kind := 3, text := v.text ++ u.text } := by unfold arith; rw [if_pos ⟨rfl, h.1, h.2⟩]
theorem arith_int (op : Nm) (v u : Vl) (h : v.kind = 1 ∧ u.kind = 1) (ho : op ≠ nm "/") : arith op v u = if op = nm "+" then some { kind := 1, int := wrap (v.int + u.int) }
 else if op = nm "-" then some { kind := 1, int := wrap (v.int - u.int) }
 else if op = nm "*" then some { kind := 1, int := wrap (v.int * u.int) }
 else if u.int = 0 then none
 else some { kind := 1, int := v.int.tmod u.int } := by
 unfold arith; rw [if_neg (by rintro ⟨_, h3, _⟩; omega), if_pos ⟨h.1, h.2, ho⟩]
theorem arith_flt (op : Nm) (v u : Vl) (h1 : ¬ (op = nm "+" ∧ v.kind = 3 ∧ u.kind = 3)) (h2 : ¬ (v.kind = 1 ∧ u.kind = 1 ∧ op ≠ nm "/")) : arith op v u = match num v, num u with
 |some x, some y =>
  if op = nm "%" then none
  else if op = nm "+" then some { kind := 2, flt := fop .add x y }
  else if op = nm "-" then some { kind := 2, flt := fop .sub x y }
  else if op = nm "*" then some { kind := 2, flt := fop .mul x y }
  else some { kind := 2, flt := fop .quo x y }
 |_, _ => none := by
 unfold arith; rw [if_neg h1, if_neg h2]; rfl
theorem str_append (s t : Nm) : str s ++ str t = str (s ++ t) := by
 apply ByteArray.ext;simp [str, ByteArray.data_append]
theorem two_l {α β γ : Type} {a : Option α} {b : Option β} {p : Bool} (h : a.isSome = p) (hp : ¬ p = true) (g : α → β → Option γ) : (a.bind fun x => b.bind fun y => g x y) = none := by
 cases a <;> simp_all
theorem two_r {α β γ : Type} {a : Option α} {b : Option β} {p : Bool} (h : b.isSome = p) (hp : ¬ p = true) (g : α → β → Option γ) : (a.bind fun x => b.bind fun y => g x y) = none := by
 cases a <;> cases b <;> simp_all
theorem some_of {α : Type} {a : Option α} {p : Bool} (h : a.isSome = p) (hp : p = true) : ∃ x, a = some x := by
 subst hp; exact Option.isSome_iff_exists.1 h
theorem I64.one : I64 1 := ⟨by omega, by omega⟩
theorem I64.two : I64 2 := ⟨by omega, by omega⟩
theorem I64.three : I64 3 := ⟨by omega, by omega⟩
theorem tmod_in {a b : Int} (h : I64 a) : I64 (a.tmod b) := by
 unfold I64 at *;have h1 := Int.natAbs_tmod a b;have h2 := Nat.mod_le a.natAbs b.natAbs
 by_cases ha : 0 ≤ a
 ·have := Int.tmod_nonneg b ha; omega
 ·have h3 := Int.tmod_nonneg b (show 0 ≤ -a by omega);rw [Int.neg_tmod] at h3;omega
set_option maxHeartbeats 800000 in
theorem ar_txt (k : Nat → Prop) (v u : Vl) (f : Nat) (a : Option Addr) (c : Nat) (a' : Option Addr) (c' : Nat) (f2 : Nat) (a2 : Option Addr) (c2 : Nat) (a2' : Option Addr) (c2' : Nat) (w : World) (op : Nm) (ho : op = nm "+") (h : v.kind = 3 ∧ u.kind = 3) (hl : v.text.length + u.text.length ≤ 140737488355328) :
 Calls Try.prog 84 #[.string (str op), va v f a c a' c', va u f2 a2 c2 a2' c2'] w (Found k (arith op v u) w) := by
 have o43 : (op == [43]) = true := by rw [ho]; decide
 have o45 : (op == [45]) = false := by rw [ho]; decide
 have o42 : (op == [42]) = false := by rw [ho]; decide
 have o47 : (op == [47]) = false := by rw [ho]; decide
 have o37 : (op == [37]) = false := by rw [ho]; decide
 have b1 : (v.kind == 3) = true := by simp [h.1]
 have b2 : (u.kind == 3) = true := by simp [h.2]
 have H := Lib.hid (show arith op v u = some { kind := 3, text := v.text ++ u.text } by rw [ho]; exact arith_txt v u h);have hl2 : ¬ 9223372036854775807 < v.text.length + u.text.length := by omega
 have HL := Lib.hid hl;clear h ho hl;go_enter Try.func84, Try.ntmps84;go_wp2
 go_returns
 refine ⟨{ kind := 3, text := v.text ++ u.text }, 0, none, 0, none, 0, true, by simp only [str_append]; rfl, by go_grown, fun _ => ⟨IsV.flat _ _ _ _ cn_zero .three .zero (by have := HL.out; simpa using this) rfl rfl, H.out⟩, fun h => by cases h⟩
set_option maxHeartbeats 800000 in
theorem ar_int_add (k : Nat → Prop) (v u : Vl) (f : Nat) (a : Option Addr) (c : Nat) (a' : Option Addr) (c' : Nat) (f2 : Nat) (a2 : Option Addr) (c2 : Nat) (a2' : Option Addr) (c2' : Nat) (w : World) (op : Nm) (ho : op = nm "+") (h : v.kind = 1 ∧ u.kind = 1) (hv : I64 v.int) (hu : I64 u.int) :
 Calls Try.prog 84 #[.string (str op), va v f a c a' c', va u f2 a2 c2 a2' c2'] w (Found k (arith op v u) w) := by
 have o43 : (op == [43]) = true := by rw [ho]; decide
 have o45 : (op == [45]) = false := by rw [ho]; decide
 have o42 : (op == [42]) = false := by rw [ho]; decide
 have o47 : (op == [47]) = false := by rw [ho]; decide
 have o37 : (op == [37]) = false := by rw [ho]; decide
 have b1 : (v.kind == 1) = true := by simp [h.1]
 have b2 : (u.kind == 1) = true := by simp [h.2]
 have b3 : (v.kind == 3) = false := by simp [h.1]
 have H := Lib.hid (show arith op v u = some { kind := 1, int := wrap (v.int + u.int) } by rw [ho, arith_int _ v u h (by decide)]; rw [if_pos rfl]);unfold I64 at hv hu;clear h ho;go_enter Try.func84, Try.ntmps84;go_wp2
 go_returns
 refine ⟨{ kind := 1, int := wrap (v.int + u.int) }, 0, none, 0, none, 0, true, rfl, by go_grown, fun _ => ⟨IsV.flat _ _ _ _ cn_zero .one (wrap_in _) (by simp) rfl rfl, H.out⟩, fun h => by cases h⟩
set_option maxHeartbeats 800000 in
theorem ar_int_sub (k : Nat → Prop) (v u : Vl) (f : Nat) (a : Option Addr) (c : Nat) (a' : Option Addr) (c' : Nat) (f2 : Nat) (a2 : Option Addr) (c2 : Nat) (a2' : Option Addr) (c2' : Nat) (w : World) (op : Nm) (ho : op = nm "-") (h : v.kind = 1 ∧ u.kind = 1) (hv : I64 v.int) (hu : I64 u.int) :
 Calls Try.prog 84 #[.string (str op), va v f a c a' c', va u f2 a2 c2 a2' c2'] w (Found k (arith op v u) w) := by
 have o43 : (op == [43]) = false := by rw [ho]; decide
 have o45 : (op == [45]) = true := by rw [ho]; decide
 have o42 : (op == [42]) = false := by rw [ho]; decide
 have o47 : (op == [47]) = false := by rw [ho]; decide
 have o37 : (op == [37]) = false := by rw [ho]; decide
 have b1 : (v.kind == 1) = true := by simp [h.1]
 have b2 : (u.kind == 1) = true := by simp [h.2]
 have b3 : (v.kind == 3) = false := by simp [h.1]
 have H := Lib.hid (show arith op v u = some { kind := 1, int := wrap (v.int - u.int) } by rw [ho, arith_int _ v u h (by decide)]; rw [if_neg (by decide), if_pos rfl]);unfold I64 at hv hu;clear h ho;go_enter Try.func84, Try.ntmps84;go_wp2
 go_returns
 refine ⟨{ kind := 1, int := wrap (v.int - u.int) }, 0, none, 0, none, 0, true, rfl, by go_grown, fun _ => ⟨IsV.flat _ _ _ _ cn_zero .one (wrap_in _) (by simp) rfl rfl, H.out⟩, fun h => by cases h⟩
set_option maxHeartbeats 800000 in
theorem ar_int_mul (k : Nat → Prop) (v u : Vl) (f : Nat) (a : Option Addr) (c : Nat) (a' : Option Addr) (c' : Nat) (f2 : Nat) (a2 : Option Addr) (c2 : Nat) (a2' : Option Addr) (c2' : Nat) (w : World) (op : Nm) (ho : op = nm "*") (h : v.kind = 1 ∧ u.kind = 1) (hv : I64 v.int) (hu : I64 u.int) :
 Calls Try.prog 84 #[.string (str op), va v f a c a' c', va u f2 a2 c2 a2' c2'] w (Found k (arith op v u) w) := by
 have o43 : (op == [43]) = false := by rw [ho]; decide
 have o45 : (op == [45]) = false := by rw [ho]; decide
 have o42 : (op == [42]) = true := by rw [ho]; decide
 have o47 : (op == [47]) = false := by rw [ho]; decide
 have o37 : (op == [37]) = false := by rw [ho]; decide
 have b1 : (v.kind == 1) = true := by simp [h.1]
 have b2 : (u.kind == 1) = true := by simp [h.2]
 have b3 : (v.kind == 3) = false := by simp [h.1]
 have H := Lib.hid (show arith op v u = some { kind := 1, int := wrap (v.int * u.int) } by rw [ho, arith_int _ v u h (by decide)]; rw [if_neg (by decide), if_neg (by decide), if_pos rfl]);unfold I64 at hv hu;clear h ho;go_enter Try.func84, Try.ntmps84;go_wp2
 go_returns
 refine ⟨{ kind := 1, int := wrap (v.int * u.int) }, 0, none, 0, none, 0, true, rfl, by go_grown, fun _ => ⟨IsV.flat _ _ _ _ cn_zero .one (wrap_in _) (by simp) rfl rfl, H.out⟩, fun h => by cases h⟩
set_option maxHeartbeats 800000 in
theorem ar_int_rem (k : Nat → Prop) (v u : Vl) (f : Nat) (a : Option Addr) (c : Nat) (a' : Option Addr) (c' : Nat) (f2 : Nat) (a2 : Option Addr) (c2 : Nat) (a2' : Option Addr) (c2' : Nat) (w : World) (op : Nm) (ho : op = nm "%") (h : v.kind = 1 ∧ u.kind = 1) (hv : I64 v.int) (hu : I64 u.int) :
 Calls Try.prog 84 #[.string (str op), va v f a c a' c', va u f2 a2 c2 a2' c2'] w (Found k (arith op v u) w) := by
 have o43 : (op == [43]) = false := by rw [ho]; decide
 have o45 : (op == [45]) = false := by rw [ho]; decide
 have o42 : (op == [42]) = false := by rw [ho]; decide
 have o47 : (op == [47]) = false := by rw [ho]; decide
 have o37 : (op == [37]) = true := by rw [ho]; decide
 have b1 : (v.kind == 1) = true := by simp [h.1]
 have b2 : (u.kind == 1) = true := by simp [h.2]
 have b3 : (v.kind == 3) = false := by simp [h.1]
 have H := Lib.hid (show arith op v u = if u.int = 0 then none else some { kind := 1, int := v.int.tmod u.int } by rw [ho, arith_int _ v u h (by decide), if_neg (by decide), if_neg (by decide), if_neg (by decide)]);unfold I64 at hv hu;clear h ho
 by_cases hz : u.int = 0
 ·have z1 : (u.int == 0) = true := by simp [hz]
  have HZ := Lib.hid hz;clear hz;go_enter Try.func84, Try.ntmps84;go_wp2
  go_returns
  exact Found.none rfl (by go_grown) (by rw [H.out, if_pos HZ.out])
 ·have z1 : (u.int == 0) = false := by simp [hz]
  have z2 : ¬ u.int = 0 := hz;go_enter Try.func84, Try.ntmps84;go_wp2
  go_returns
  refine ⟨{ kind := 1, int := v.int.tmod u.int }, 0, none, 0, none, 0, true, ?_, by go_grown, fun _ => ⟨IsV.flat _ _ _ _ cn_zero .one (tmod_in hv) (by simp) rfl rfl, by rw [H.out, if_neg hz]⟩, fun h => by cases h⟩
  first | rfl | go_goals
def flo (op : Nm) (x y : Nat) : Option Vl := if op = nm "%" then none
 else if op = nm "+" then some { kind := 2, flt := fop .add x y }
 else if op = nm "-" then some { kind := 2, flt := fop .sub x y }
 else if op = nm "*" then some { kind := 2, flt := fop .mul x y }
 else some { kind := 2, flt := fop .quo x y }
set_option maxHeartbeats 25600000 in
theorem ar_flt (k : Nat → Prop) (v u : Vl) (f : Nat) (a : Option Addr) (c : Nat) (a' : Option Addr) (c' : Nat) (f2 : Nat) (a2 : Option Addr) (c2 : Nat) (a2' : Option Addr) (c2' : Nat) (w : World) (op : Nm) (hB : op = nm "+" ∧ ((v.kind == 3) = false ∧ (v.kind == 1) = false ∨ (v.kind == 3) = false ∧ (v.kind == 1) = true ∧ (u.kind == 1) = false ∨ (v.kind == 3) = true ∧ (v.kind == 1) = false ∧ (u.kind == 3) = false) ∨ op = nm "-" ∧ ((v.kind == 1) = false ∨ (v.kind == 1) = true ∧ (u.kind == 1) = false) ∨ op = nm "*" ∧ ((v.kind == 1) = false ∨ (v.kind == 1) = true ∧ (u.kind == 1) = false) ∨ op = nm "/" ∧ ((v.kind == 1) = false ∨ (v.kind == 1) = true ∧ (u.kind == 1) = false ∨ (v.kind == 1) = true ∧ (u.kind == 1) = true) ∨ op = nm "%" ∧ ((v.kind == 1) = false ∨ (v.kind == 1) = true ∧ (u.kind == 1) = false)) (hf : cn f = v.flt) (hf2 : cn f2 = u.flt) (h1 : ¬ (op = nm "+" ∧ v.kind = 3 ∧ u.kind = 3)) (h2 : ¬ (v.kind = 1 ∧ u.kind = 1 ∧ op ≠ nm "/")) :
 Calls Try.prog 84 #[.string (str op), va v f a c a' c', va u f2 a2 c2 a2' c2'] w (Found k (arith op v u) w) := by
 have H := Lib.hid (show arith op v u = (num v).bind fun x => (num u).bind fun y => flo op x y by rw [arith_flt _ v u h1 h2]; cases num v <;> cases num u <;> rfl);obtain ⟨p, hp⟩ : ∃ p, (num v).isSome = p := ⟨_, rfl⟩;obtain ⟨q, hq⟩ : ∃ q, (num u).isSome = q := ⟨_, rfl⟩;have N1 := Lib.hid (fun w => number_p v p hp f a c a' c' w hf);have N2 := Lib.hid (fun w => number_p u q hq f2 a2 c2 a2' c2' w hf2);have P := Lib.hid (And.intro hp hq);clear hf hf2 h1 h2 hp hq;rcases hB with ⟨ho, ⟨b3, b4⟩ | ⟨b3, b4, b5⟩ | ⟨b3, b4, b5⟩⟩ | ⟨ho, b3 | ⟨b3, b4⟩⟩ | ⟨ho, b3 | ⟨b3, b4⟩⟩ | ⟨ho, b3 | ⟨b3, b4⟩ | ⟨b3, b4⟩⟩ | ⟨ho, b3 | ⟨b3, b4⟩⟩
 all_goals
  first |have o43 : (op == [43]) = true := by rw [ho]; decide |have o43 : (op == [43]) = false := by rw [ho]; decide
  first |have o45 : (op == [45]) = true := by rw [ho]; decide |have o45 : (op == [45]) = false := by rw [ho]; decide
  first |have o42 : (op == [42]) = true := by rw [ho]; decide |have o42 : (op == [42]) = false := by rw [ho]; decide
  first |have o47 : (op == [47]) = true := by rw [ho]; decide |have o47 : (op == [47]) = false := by rw [ho]; decide
  first |have o37 : (op == [37]) = true := by rw [ho]; decide |have o37 : (op == [37]) = false := by rw [ho]; decide
  have HO := Lib.hid ho;clear ho;go_enter Try.func84, Try.ntmps84
  go_wp2_with (first
   |(go_at_call 91; apply Calls.mono; (focus (with_reducible exact N1.out _)); rintro e w1 ⟨g1, rfl, k1, hb1⟩; have K1 := Lib.hid k1; clear k1; obtain ⟨hc1, hf1⟩ := bcell hb1; have hz1 : w.heap.size + 1 + 1 < w1.heap.size := (by have := hb1.size; simp at this; omega))
   |(go_at_call 91; apply Calls.mono; (focus (with_reducible exact N2.out _)); rintro e w2 ⟨g2, rfl, k2, hb2⟩; have K2 := Lib.hid k2; clear k2; obtain ⟨hc2, hf2⟩ := bcell hb2; have hz2 : w.heap.size + 1 + 1 < w2.heap.size := (by have := hb2.size; omega); have hB2 := Lib.hid ((((((Below.refl w.heap.size w).alloc (Nat.le_refl _) _).alloc (by simp) _).alloc (by simp; omega) _).trans (hb1.mono (by simp; omega))).trans (hb2.mono (by omega)))))
  all_goals first
   |(have hq1 := ‹q = true›;refine bodyPost_ret (by simp [results, Try.results84, go_sem, hc2, hf2, hz2, hc1, hf1, hz1]; try rfl) rfl ?_;obtain ⟨x, hx⟩ := some_of P.out.1 ‹p = true›;obtain ⟨y, hy⟩ := some_of P.out.2 hq1;refine ⟨{ kind := 2, flt := cn _ }, _, none, 0, none, 0, true, rfl, ?_, fun _ => ⟨IsV.flat _ _ _ _ rfl .two .zero (by simp) rfl rfl, by rw [H.out, hx, hy, HO.out, fop_far, K1.out x hx, K2.out y hy]; rfl⟩, fun h => by cases h⟩
     (have hB := hB2.out; go_grown; all_goals (with_reducible refine below_drewN ?_ _); all_goals go_grown))
   |(refine bodyPost_ret (by simp [results, Try.results84, go_sem, hc2, hf2, hz2, hc1, hf1, hz1]; try rfl) rfl ?_;refine Found.none rfl ?_ (by rw [H.out]; first | (exact two_l P.out.1 (by assumption) _) | (exact two_r P.out.2 (by assumption) _) | (rw [HO.out]; cases num v <;> cases num u <;> rfl))
     (have hB := hB2.out; go_grown; all_goals (with_reducible refine below_drewN ?_ _); all_goals go_grown))
end
section
open Go.RowKit
theorem ne_of_bool {a b : Int} (h : ¬ a = b) : (a == b) = false := by simpa using h
theorem eq_bool {a b : Int} (h : a = b) : (a == b) = true := by simpa using h
theorem arith_any (k : Nat → Prop) (v u : Vl) (f : Nat) (a : Option Addr) (c : Nat) (a' : Option Addr) (c' : Nat) (f2 : Nat) (a2 : Option Addr) (c2 : Nat) (a2' : Option Addr) (c2' : Nat) (w : World) (op : Nm)
 (ho : op = nm "+" ∨ op = nm "-" ∨ op = nm "*" ∨ op = nm "/" ∨ op = nm "%") (hf : cn f = v.flt) (hf2 : cn f2 = u.flt) (hv : I64 v.int) (hu : I64 u.int) (hl : v.text.length + u.text.length ≤ 140737488355328) :
 Calls Try.prog 84 #[.string (str op), va v f a c a' c', va u f2 a2 c2 a2' c2'] w (Found k (arith op v u) w) := by
 by_cases h1 : v.kind = 1
 ·by_cases g1 : u.kind = 1
  ·rcases ho with ho | ho | ho | ho | ho
   ·exact ar_int_add k v u f a c a' c' f2 a2 c2 a2' c2' w op ho ⟨h1, g1⟩ hv hu
   ·exact ar_int_sub k v u f a c a' c' f2 a2 c2 a2' c2' w op ho ⟨h1, g1⟩ hv hu
   ·exact ar_int_mul k v u f a c a' c' f2 a2 c2 a2' c2' w op ho ⟨h1, g1⟩ hv hu
   ·exact ar_flt k v u f a c a' c' f2 a2 c2 a2' c2' w op (.inr (.inr (.inr (.inl (⟨ho, .inr (.inr ⟨(eq_bool h1), (eq_bool g1)⟩)⟩))))) hf hf2 (by rintro ⟨_, h, _⟩; omega) (by rintro ⟨_, _, h⟩; exact h ho)
   ·exact ar_int_rem k v u f a c a' c' f2 a2 c2 a2' c2' w op ho ⟨h1, g1⟩ hv hu
  ·have n1 : ¬ (op = nm "+" ∧ v.kind = 3 ∧ u.kind = 3) := (by rintro ⟨_, h, _⟩; omega);have n2 : ¬ (v.kind = 1 ∧ u.kind = 1 ∧ op ≠ nm "/") := (by rintro ⟨_, h, _⟩; exact g1 h);rcases ho with ho | ho | ho | ho | ho
   ·exact ar_flt k v u f a c a' c' f2 a2 c2 a2' c2' w op (.inl (⟨ho, .inr (.inl ⟨(ne_of_bool (by omega)), (eq_bool h1), (ne_of_bool g1)⟩)⟩)) hf hf2 n1 n2
   ·exact ar_flt k v u f a c a' c' f2 a2 c2 a2' c2' w op (.inr (.inl (⟨ho, .inr ⟨(eq_bool h1), (ne_of_bool g1)⟩⟩))) hf hf2 n1 n2
   ·exact ar_flt k v u f a c a' c' f2 a2 c2 a2' c2' w op (.inr (.inr (.inl (⟨ho, .inr ⟨(eq_bool h1), (ne_of_bool g1)⟩⟩)))) hf hf2 n1 n2
   ·exact ar_flt k v u f a c a' c' f2 a2 c2 a2' c2' w op (.inr (.inr (.inr (.inl (⟨ho, .inr (.inl ⟨(eq_bool h1), (ne_of_bool g1)⟩)⟩))))) hf hf2 n1 n2
   ·exact ar_flt k v u f a c a' c' f2 a2 c2 a2' c2' w op (.inr (.inr (.inr (.inr (⟨ho, .inr ⟨(eq_bool h1), (ne_of_bool g1)⟩⟩))))) hf hf2 n1 n2
 ·have n2 : ¬ (v.kind = 1 ∧ u.kind = 1 ∧ op ≠ nm "/") := by rintro ⟨h, _⟩; exact h1 h
  rcases ho with ho | ho | ho | ho | ho
  ·by_cases h3 : v.kind = 3
   ·by_cases g3 : u.kind = 3
    ·exact ar_txt k v u f a c a' c' f2 a2 c2 a2' c2' w op ho ⟨h3, g3⟩ hl
    ·exact ar_flt k v u f a c a' c' f2 a2 c2 a2' c2' w op (.inl (⟨ho, .inr (.inr ⟨(eq_bool h3), (ne_of_bool h1), (ne_of_bool g3)⟩)⟩)) hf hf2 (by rintro ⟨_, _, h⟩; exact g3 h) n2
   ·exact ar_flt k v u f a c a' c' f2 a2 c2 a2' c2' w op (.inl (⟨ho, .inl ⟨(ne_of_bool h3), (ne_of_bool h1)⟩⟩)) hf hf2 (by rintro ⟨_, h, _⟩; exact h3 h) n2
  ·exact ar_flt k v u f a c a' c' f2 a2 c2 a2' c2' w op (.inr (.inl (⟨ho, .inl (ne_of_bool h1)⟩))) hf hf2 (by rintro ⟨h, _⟩; rw [ho] at h; exact absurd h (by decide)) n2
  ·exact ar_flt k v u f a c a' c' f2 a2 c2 a2' c2' w op (.inr (.inr (.inl (⟨ho, .inl (ne_of_bool h1)⟩)))) hf hf2 (by rintro ⟨h, _⟩; rw [ho] at h; exact absurd h (by decide)) n2
  ·exact ar_flt k v u f a c a' c' f2 a2 c2 a2' c2' w op (.inr (.inr (.inr (.inl (⟨ho, .inl (ne_of_bool h1)⟩))))) hf hf2 (by rintro ⟨h, _⟩; rw [ho] at h; exact absurd h (by decide)) n2
  ·exact ar_flt k v u f a c a' c' f2 a2 c2 a2' c2' w op (.inr (.inr (.inr (.inr (⟨ho, .inl (ne_of_bool h1)⟩))))) hf hf2 (by rintro ⟨h, _⟩; rw [ho] at h; exact absurd h (by decide)) n2
theorem el_list (v u : Vl) (h : v.kind = 5 ∧ u.kind = 1) : element v u = if (if u.int < 0 then u.int + v.items.length else u.int) < 0 then none else v.items[(if u.int < 0 then u.int + v.items.length else u.int).toNat]? := by
 unfold element; rw [if_pos h]
set_option maxHeartbeats 800000 in
set_option maxRecDepth 100000 in
theorem element_list (k : Nat → Prop) (v u : Vl) (f : Nat) (a : Option Addr) (c : Nat) (a' : Option Addr) (c' : Nat) (f2 : Nat) (a2 : Option Addr) (c2 : Nat) (a2' : Option Addr) (c2' : Nat) (w : World) (hV : IsV w k v (vcells v f a c a' c')) (hu : I64 u.int) (h : v.kind = 5 ∧ u.kind = 1)
 (q : Int) (hq : q = if u.int < 0 then u.int + v.items.length else u.int) (r : Option Vl) (hr : r = element v u) :
 Calls Try.prog 77 #[va v f a c a' c', va u f2 a2 c2 a2' c2'] w (Found k r w) := by
 obtain ⟨_, _, _, hn, hn', _, _, ⟨its, hR, hS⟩, _⟩ := hV.inv;have e := el_list v u h;rw [← hq, ← hr] at e;have b1 : (v.kind == 5) = true := eq_bool h.1;have b2 : (u.kind == 1) = true := eq_bool h.2;unfold most at hn;unfold I64 at hu
 by_cases h0 : 0 ≤ q ∧ q < v.items.length
 ·obtain ⟨i, rfl⟩ : ∃ i : Nat, q = i := ⟨q.toNat, by omega⟩;have hi : i < v.items.length := by omega
  obtain ⟨x, hx⟩ : ∃ x, v.items[i]? = some x := ⟨v.items[i], by simp⟩;obtain ⟨b, o, rfl⟩ : ∃ b o, a = some ⟨b, o, none⟩ := by
   rcases hR with h | ⟨b, o, h, _⟩
   ·have := hS.length; rw [h] at this; simp at this; omega
   ·exact ⟨b, o, h⟩
  obtain ⟨hbk, hbs, f3, a3, c3, a4, c4, hX, h7⟩ := IsVs.cells hR hS hx;have d1 := h7.c0; have d2 := h7.c1; have d3 := h7.c2; have d4 := h7.c3; have d5 := h7.c4; have d6 := h7.c5; have d7 := h7.c6;rw [if_neg (by omega), Int.toNat_natCast, hx] at e;have E := Lib.hid (And.intro e hX);clear e hX hx h7 hR hS hr hV h h0
  by_cases hneg : u.int < 0
  ·rw [if_pos hneg] at hq;have hs : u.int + (v.items.length : Int) = i := (by omega);have Q := Lib.hid hq;clear hq;go_enter Try.func77, Try.ntmps77;have hbs1 : b < w.heap.size + 1 := (by omega);have hbs2 : b < w.heap.size + 1 + 1 := (by omega);go_wp2
   go_returns
   exact ⟨x, f3, a3, c3, a4, c4, true, rfl, by go_grown, fun _ => ⟨E.out.2.ext (.of (by go_grown)) (Nat.le_refl _), E.out.1⟩, fun h => by cases h⟩
  ·rw [if_neg hneg] at hq;have hbs1 : b < w.heap.size + 1 := (by omega);have hbs2 : b < w.heap.size + 1 + 1 := (by omega);have Q := Lib.hid hq;have hui : u.int = i := hq.symm;obtain ⟨uk, ui, uf, ut, ub, uit, uks⟩ := u;simp only at hui;subst hui;clear hq Q hneg hu;simp only at *;go_enter Try.func77, Try.ntmps77;go_wp2
   go_returns
   exact ⟨x, f3, a3, c3, a4, c4, true, rfl, by go_grown, fun _ => ⟨E.out.2.ext (.of (by go_grown)) (Nat.le_refl _), E.out.1⟩, fun h => by cases h⟩
 ·have e2 : r = none := by
   rw [e]
   by_cases hz : q < 0
   ·rw [if_pos hz]
   ·rw [if_neg hz]; exact List.getElem?_eq_none (by omega)
  have E := Lib.hid e2;clear e e2 hr hR hS hV h
  by_cases hneg : u.int < 0
  ·rw [if_pos hneg] at hq;have hs : u.int + (v.items.length : Int) = q := (by omega);have Q := Lib.hid hq;clear hq;have hz : q < 0 := (by omega);clear h0;go_enter Try.func77, Try.ntmps77;go_wp2
   go_returns
   exact Found.none rfl (by go_grown) E.out
  ·rw [if_neg hneg] at hq;have hz : (v.items.length : Int) ≤ u.int := (by omega);have hz0 : 0 ≤ u.int := (by omega);have Q := Lib.hid hq;clear hq h0 hneg;go_enter Try.func77, Try.ntmps77;go_wp2
   go_returns
   exact Found.none rfl (by go_grown) E.out
end
section
open Go.RowKit
def FoundZ (k : Nat → Prop) (r : Option Vl) (w : World) (e : Ending) (w' : World) : Prop :=
 (∃ v f a c a' c', e = .returned (.tuple #[va v f a c a' c', .bool true]) ∧ Below w.heap.size w w' ∧ IsV w' k v (vcells v f a c a' c') ∧ r = some v) ∨ (e = .returned (.tuple #[zero, .bool false]) ∧ Below w.heap.size w w' ∧ r = none)
theorem FoundZ.found {k : Nat → Prop} {r : Option Vl} {w w' : World} {e : Ending} (h : FoundZ k r w e w') : Found k r w e w' := by
 rcases h with ⟨v, f, a, c, a', c', he, hb, hv, hr⟩ | ⟨he, hb, hr⟩
 ·exact ⟨v, f, a, c, a', c', true, he, hb, fun _ => ⟨hv, hr⟩, fun h => by cases h⟩
 ·exact Found.none he hb hr
set_option maxHeartbeats 800000 in
set_option maxRecDepth 100000 in
theorem at_z (k : Nat → Prop) (v : Vl) (f : Nat) (a : Option Addr) (c : Nat) (a' : Option Addr) (c' : Nat) (n : Nm) (w : World) (h : IsV w k v (vcells v f a c a' c')) (h6 : v.keys.length = v.items.length) :
 Calls Try.prog 52 #[va v f a c a' c', .string (str n)] w (FoundZ k (at_ v.keys v.items n) w) := by
 obtain ⟨hf, hk, hi, hn, hn', ht, hm, ⟨its, hr, hs⟩, hr'⟩ := h.inv;obtain ⟨ANS, hA⟩ : ∃ A, at_ v.keys v.items n = A := ⟨_, rfl⟩;rw [hA]
 by_cases hz : v.keys.length = 0
 ·have hA2 := Lib.hid (show Option.none = ANS by rw [← hA, List.eq_nil_of_length_eq_zero hz, at_nil]);clear hA h6 hm hf hr hs hr' h;go_enter Try.func52, Try.ntmps52;go_wp2
  go_loop [11] (fun i => i = .int .i64 0) (fun _ => 0)
  case atStart => rfl
  case round =>
   obtain rfl := hrel;go_wp2
   go_returns
   exact .inr ⟨rfl, by go_grown, hA2.out.symm⟩
 ·obtain ⟨b', o', rfl⟩ : ∃ b o, a' = some ⟨b, o, none⟩ := by
   rcases hr' with h | ⟨b, o, h, _⟩
   ·exact absurd (by have := congrArg List.length h; simpa [kcells] using this) hz
   ·exact ⟨b, o, h⟩
  obtain ⟨b, o, rfl⟩ : ∃ b o, a = some ⟨b, o, none⟩ := by
   rcases hr with h | ⟨b, o, h, _⟩
   ·have := hs.length; rw [h] at this; simp at this; omega
   ·exact ⟨b, o, h⟩
  have HK := Lib.hid (fun i t (hi : v.keys[i]? = some t) => Row.keys hr' hi);have HC := Lib.hid (fun i x (hi : v.items[i]? = some x) => IsVs.cells hr hs hi);have H6 := Lib.hid h6;have HA := Lib.hid hA;clear hA h6 hm hf hr hs hr' h;unfold most at hn hn';go_enter Try.func52, Try.ntmps52;go_wp2
  go_loop [11] (fun i => ∃ q : Nat, i = .int .i64 q ∧ q ≤ v.keys.length ∧ at_ (v.keys.drop q) (v.items.drop q) n = ANS) (fun i => v.keys.length - (intOf i).toNat)
  case atStart => exact ⟨0, rfl, Nat.zero_le _, HA.out⟩
  case round =>
   obtain ⟨q, rfl, hq, hR⟩ := hrel;have HR := Lib.hid hR;clear hR
   by_cases hlt : q < v.keys.length
   ·obtain ⟨t, hT⟩ : ∃ t, v.keys[q]? = some t := ⟨v.keys[q], by simp⟩;have hqi : q < v.items.length := (by rw [← H6.out]; exact hlt);obtain ⟨x, hX⟩ : ∃ x, v.items[q]? = some x := ⟨v.items[q], by simp⟩;obtain ⟨hbk', hbs', e0⟩ := HK.out q t hT;obtain ⟨hbk, hbs, f2, a2, c2, a3, c3, hV, h7⟩ := HC.out q x hX;have d1 := h7.c0; have d2 := h7.c1; have d3 := h7.c2; have d4 := h7.c3; have d5 := h7.c4; have d6 := h7.c5; have d7 := h7.c6;have HV := Lib.hid hV;have HT := Lib.hid (And.intro (drop_cons _ _ _ hT) (drop_cons _ _ _ hX));clear hV hT hX h7
    by_cases htn : t = n
    ·have t1 : (t == n) = true := (by simpa using htn);have HP := Lib.hid htn;clear htn;go_wp2
     go_returns
     refine .inl ⟨x, f2, a2, c2, a3, c3, rfl, by go_grown, HV.out.ext (.of (by go_grown)) (Nat.le_refl _), ?_⟩;have := HR.out;rw [HT.out.1, HT.out.2, at_cons, if_pos HP.out] at this;exact this.symm
    ·have t1 : (t == n) = false := (by simpa using htn);have HP := Lib.hid htn;clear htn;go_wp2
     go_round
     case rel =>
      refine ⟨q + 1, by go_num, by omega, ?_⟩;have := HR.out;rw [HT.out.1, HT.out.2, at_cons, if_neg HP.out] at this;exact this
     case measure => simp [intOf]; omega
   ·have HE := Lib.hid (show v.keys.drop q = [] from List.drop_eq_nil_of_le (by omega));go_wp2
    go_returns
    refine .inr ⟨rfl, by go_grown, ?_⟩;have := HR.out;rw [HE.out, at_nil] at this;exact this.symm
end
section
open Go.RowKit
def Gave (k : Nat → Prop) (x : Vl) (ok : Bool) (w : World) (e : Ending) (w' : World) : Prop := ∃ f a c a' c', e = .returned (.tuple #[va x f a c a' c', .bool ok]) ∧ Below w.heap.size w w' ∧ IsV w' k x (vcells x f a c a' c')
theorem at_g (k : Nat → Prop) (v : Vl) (f : Nat) (a : Option Addr) (c : Nat) (a' : Option Addr) (c' : Nat) (n : Nm) (w : World) (h : IsV w k v (vcells v f a c a' c')) (h6 : v.keys.length = v.items.length) (x : Vl) (ok : Bool) (hx : (at_ v.keys v.items n).getD {} = x) (hok : (at_ v.keys v.items n).isSome = ok) :
 Calls Try.prog 52 #[va v f a c a' c', .string (str n)] w (Gave k x ok w) := by
 refine (at_z k v f a c a' c' n w h h6).mono ?_;rintro e w1 (⟨v, f, a, c, a', c', he, hb, hv, hr⟩ | ⟨he, hb, hr⟩)
 ·rw [hr] at hx hok;simp only [Option.getD_some, Option.isSome_some] at hx hok;subst hx hok;exact ⟨f, a, c, a', c', he, hb, hv⟩
 ·rw [hr] at hx hok;simp only [Option.getD_none, Option.isSome_none] at hx hok;subst hx hok;exact ⟨0, none, 0, none, 0, he, hb, zeroV _ _⟩
def And1 (k : Nat → Prop) (r : Nat) (b : Nat) : Prop := k b ∨ b = r
theorem IsV.and1 {w : World} {k : Nat → Prop} {v : Vl} {cs : List Value} (h : IsV w k v cs) {r : Nat} (hr : w.heap.size ≤ r) : IsV w (And1 k r) v cs := h.other fun b hb => hb.imp id (by rintro rfl; exact hr)
theorem IsV.drop1 {w : World} {k : Nat → Prop} {v : Vl} {cs : List Value} {r : Nat} (h : IsV w (And1 k r) v cs) : IsV w k v cs := h.other fun b hb => .inl (.inl hb)
set_option maxRecDepth 100000 in
theorem element_map (k : Nat → Prop) (v u : Vl) (f : Nat) (a : Option Addr) (c : Nat) (a' : Option Addr) (c' : Nat) (f2 : Nat) (a2 : Option Addr) (c2 : Nat) (a2' : Option Addr) (c2' : Nat) (w : World) (x : Vl) (hV : IsV w k v (vcells v f a c a' c')) (h : v.kind = 6 ∧ u.kind = 3) (hx : (at_ v.keys v.items u.text).getD {} = x)  :
 Calls Try.prog 77 #[va v f a c a' c', va u f2 a2 c2 a2' c2'] w (Gave k x true w) := by
 have h6 := hV.inv.2.2.2.2.2.2.1 h.1;obtain ⟨ok, hok⟩ : ∃ ok, (at_ v.keys v.items u.text).isSome = ok := ⟨_, rfl⟩;have A := Lib.hid (fun w1 (e : Below w.heap.size w w1) => (at_g _ v f a c a' c' u.text w1 ((hV.and1 (r := w.heap.size + 1 + 1) (by omega)).ext (.of e) (Nat.le_refl _)) h6 x ok hx hok));have b1 : (v.kind == 5) = false := ne_of_bool (by omega);have b2 : (v.kind == 6) = true := eq_bool h.1;have b3 : (u.kind == 3) = true := eq_bool h.2;clear h hV h6 hx hok;go_enter Try.func77, Try.ntmps77
 go_wp2_with fail
 go_at_call 52;apply Calls.mono
 ·with_reducible refine A.out _ ?_
  go_grown
 rintro e w1 ⟨f3, a3, c3, a4, c4, rfl, hb1, hx1⟩;have L4 : Lb w1 (w.heap.size + 1 + 1) _ 39 := (Lb.new' _ _ _ (by simp)).below hb1 (by simp);have HX := Lib.hid hx1;have HB : Hid (Below w.heap.size w w1) := Lib.hid (Below.trans (by go_grown) (hb1.mono (by simp; omega)));have HL := Lib.hid L4;have r4 := L4.cell;have g4 := L4.frozen;have z4 := L4.lt;clear hb1 hx1 L4 A b1 b2 b3;go_wp21;refine bodyPost_ret (v := .tuple #[va x f3 a3 c3 a4 c4, .bool true]) (by simp [results, Try.results77, go_sem, r4, g4, z4]; try rfl) rfl ?_;have hb := HB.out;refine ⟨f3, a3, c3, a4, c4, rfl, by go_grown, (IsV.ext (Ext.alloc (Ext.s7 (Ext.refl (And1 k (w.heap.size + 1 + 1)) w1.heap.size w1) (b := w.heap.size + 1 + 1) (.inl (.inr rfl)) x f3 a3 c3 a4 c4) (by simp) _) (Nat.le_refl _) HX.out).drop1⟩
end
end Go.Proofs.Ytafhhdimjkgihaa.Mn
