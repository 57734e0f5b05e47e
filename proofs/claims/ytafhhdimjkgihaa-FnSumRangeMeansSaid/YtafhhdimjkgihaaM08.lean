/- What the program does, function by function, and what trees mean: part 08. -/
import Derived.Test.YtafhhdimjkgihaaM07
set_option linter.unusedSimpArgs false
set_option linter.unusedVariables false
namespace Go.Proofs.Ytafhhdimjkgihaa.Mn
attribute [local go_sem ↓] Go.wp_at_zero Go.wp_at_succ
open Go.RowKit
def Shape (t : Tr) : Prop :=
 ((t.kind = 1 ∨ t.kind = 2 ∨ t.kind = 3 ∨ t.kind = 4 ∨ t.kind = 5 ∨ t.kind = 6 ∨ t.kind = 17) ∧ t.kids.length = 0) ∨
 (t.kind = 8 ∧ ∀ x ∈ t.kids, x.kind = 3 ∨ x.kind = 4 ∨ x.kind = 5 ∨ x.kind = 6) ∨ ((t.kind = 9 ∨ t.kind = 16) ∧ t.kids.length = 1) ∨ (t.kind = 10 ∧ t.kids.length = 2) ∨
 (t.kind = 12 ∧ t.kids.length = 2 ∧ t.method = false ∧ t.flag = false) ∨ (t.kind = 15 ∧ (t.kids.length = 1 ∨ t.kids.length = 2 ∧ ∃ x, t.kids[1]? = some x ∧ x.kind = 16)) ∨ (t.kind = 18 ∧ t.kids.length = 3) ∨
 ((t.kind = 19 ∨ t.kind = 23) ∧ t.kids.length = 2) ∨ (t.kind = 20 ∧ 0 < t.kids.length) ∨ t.kind = 21 ∨ (t.kind = 22 ∧ ∀ x ∈ t.kids, x.kind = 23)
inductive WholeT : Tr → Prop
 |mk (t : Tr) (hm : t.map = []) (hl : t.limited = false) (hf : t.kind = 15 → t.flag = false) (h16 : ∀ (i : Nat) (x : Tr), t.kids[i]? = some x → x.kind = 16 → t.kind = 15 ∧ i = 1) (h23 : ∀ x ∈ t.kids, x.kind = 23 → t.kind = 22) (hs : Shape t) (hk : ∀ x ∈ t.kids, WholeT x) : WholeT t
def Wh (t : Tr) (w : World) (e : Ending) (w' : World) : Prop := ∃ b, e = .returned (.bool b) ∧ Below w.heap.size w w' ∧ (b = true → WholeT t)
def WhOk (t : Tr) : Prop := ∀ (k : Nat → Prop) (f : Nat) (a : Option Addr) (c : Nat) (a' : Option Addr) (c' : Nat) (p q : Int) (w : World), (∀ b, k b → b < w.heap.size) → IsT w k t (tcells t f a c a' c' p q) →
 Calls Try.prog 29 #[ta t f a c a' c' p q] w (Wh t w)
structure Wq (w0 : World) (l0 : List Value) (t : Tr) (q : Nat) (wr : World) : Prop where
 b : Below w0.heap.size w0 wr
 b0 : Lb wr w0.heap.size l0 25
 r : ∀ (i : Nat) (x : Tr), i < q → t.kids[i]? = some x → WholeT x ∧ (x.kind = 16 → t.kind = 15 ∧ i = 1) ∧ (x.kind = 23 → t.kind = 22)
set_option maxHeartbeats 3200000 in
set_option maxRecDepth 100000 in
theorem predicated_any (n : Nm) (w : World) : Calls Try.prog 49 #[.string (str n)] w (fun e w' => ∃ b, e = .returned (.bool b) ∧ w' = w) := by
 by_cases h0 : (n == [109, 97, 112]) = true
 ·go_enter Try.func49, Try.ntmps49
  go_wp2_with fail
  go_ret;exact ⟨_, rfl, rfl⟩
 replace h0 : (n == [109, 97, 112]) = false := by simpa using h0
 by_cases h1 : (n == [102, 105, 108, 116, 101, 114]) = true
 ·go_enter Try.func49, Try.ntmps49
  go_wp2_with fail
  go_ret;exact ⟨_, rfl, rfl⟩
 replace h1 : (n == [102, 105, 108, 116, 101, 114]) = false := by simpa using h1
 by_cases h2 : (n == [97, 108, 108]) = true
 ·go_enter Try.func49, Try.ntmps49
  go_wp2_with fail
  go_ret;exact ⟨_, rfl, rfl⟩
 replace h2 : (n == [97, 108, 108]) = false := by simpa using h2
 by_cases h3 : (n == [97, 110, 121]) = true
 ·go_enter Try.func49, Try.ntmps49
  go_wp2_with fail
  go_ret;exact ⟨_, rfl, rfl⟩
 replace h3 : (n == [97, 110, 121]) = false := by simpa using h3
 by_cases h4 : (n == [110, 111, 110, 101]) = true
 ·go_enter Try.func49, Try.ntmps49
  go_wp2_with fail
  go_ret;exact ⟨_, rfl, rfl⟩
 replace h4 : (n == [110, 111, 110, 101]) = false := by simpa using h4
 by_cases h5 : (n == [111, 110, 101]) = true
 ·go_enter Try.func49, Try.ntmps49
  go_wp2_with fail
  go_ret;exact ⟨_, rfl, rfl⟩
 replace h5 : (n == [111, 110, 101]) = false := by simpa using h5
 by_cases h6 : (n == [102, 105, 110, 100]) = true
 ·go_enter Try.func49, Try.ntmps49
  go_wp2_with fail
  go_ret;exact ⟨_, rfl, rfl⟩
 replace h6 : (n == [102, 105, 110, 100]) = false := by simpa using h6
 by_cases h7 : (n == [102, 105, 110, 100, 73, 110, 100, 101, 120]) = true
 ·go_enter Try.func49, Try.ntmps49
  go_wp2_with fail
  go_ret;exact ⟨_, rfl, rfl⟩
 replace h7 : (n == [102, 105, 110, 100, 73, 110, 100, 101, 120]) = false := by simpa using h7
 by_cases h8 : (n == [102, 105, 110, 100, 76, 97, 115, 116]) = true
 ·go_enter Try.func49, Try.ntmps49
  go_wp2_with fail
  go_ret;exact ⟨_, rfl, rfl⟩
 replace h8 : (n == [102, 105, 110, 100, 76, 97, 115, 116]) = false := by simpa using h8
 by_cases h9 : (n == [102, 105, 110, 100, 76, 97, 115, 116, 73, 110, 100, 101, 120]) = true
 ·go_enter Try.func49, Try.ntmps49
  go_wp2_with fail
  go_ret;exact ⟨_, rfl, rfl⟩
 replace h9 : (n == [102, 105, 110, 100, 76, 97, 115, 116, 73, 110, 100, 101, 120]) = false := by simpa using h9
 by_cases h10 : (n == [103, 114, 111, 117, 112, 66, 121]) = true
 ·go_enter Try.func49, Try.ntmps49
  go_wp2_with fail
  go_ret;exact ⟨_, rfl, rfl⟩
 replace h10 : (n == [103, 114, 111, 117, 112, 66, 121]) = false := by simpa using h10
 by_cases h11 : (n == [115, 111, 114, 116, 66, 121]) = true
 ·go_enter Try.func49, Try.ntmps49
  go_wp2_with fail
  go_ret;exact ⟨_, rfl, rfl⟩
 replace h11 : (n == [115, 111, 114, 116, 66, 121]) = false := by simpa using h11
 by_cases h12 : (n == [114, 101, 100, 117, 99, 101]) = true
 ·go_enter Try.func49, Try.ntmps49
  go_wp2_with fail
  go_ret;exact ⟨_, rfl, rfl⟩
 replace h12 : (n == [114, 101, 100, 117, 99, 101]) = false := by simpa using h12
 go_enter Try.func49, Try.ntmps49
 go_wp2_with fail
 go_ret;exact ⟨_, rfl, rfl⟩
theorem kinds_wh (k : Int) : k = 1 ∨ k = 2 ∨ k = 3 ∨ k = 4 ∨ k = 5 ∨ k = 6 ∨ k = 17 ∨ k = 9 ∨ k = 16 ∨ k = 8 ∨ k = 10 ∨ k = 12 ∨ k = 18 ∨ k = 19 ∨ k = 23 ∨ k = 20 ∨ k = 21 ∨ ∀ c ∈ [1, 2, 3, 4, 5, 6, 17, 9, 16, 8, 10, 12, 18, 19, 23, 20, 21], k ≠ (c : Int) := by
 simp only [List.mem_cons, List.not_mem_nil, or_false, forall_eq_or_imp, forall_eq];omega
theorem dec_t {p : Prop} [Decidable p] (h : p) : decide p = true := decide_eq_true h
set_option maxHeartbeats 12800000 in
set_option maxRecDepth 100000 in
theorem whole_step (t : Tr) (ih : ∀ x ∈ t.kids, WhOk x) : WhOk t := by
 intro k f a c a' c' p q0 w hk ht;have IH := Lib.hid ih; have HT := Lib.hid ht; have HK := Lib.hid hk;have hil : t.kids.length ≤ 1172812402927 := ht.inv.2.2.2.2.2.1;have hml : t.map.length ≤ 1172812402927 := ht.inv.2.2.2.2.2.2.1;clear ih ht hk;cases hlim : t.limited with
 |true =>
  go_enter Try.func29, Try.ntmps29
  go_wp2_with fail
  go_ret;exact ⟨false, rfl, by go_grown, fun h => by cases h⟩
 |false =>
 by_cases hmp : 0 < t.map.length
 ·have m1 : decide (0 < t.map.length) = true := decide_eq_true hmp;have m2 : decide ((0 : Int) < (t.map.length : Int)) = true := decide_eq_true (by omega);go_enter Try.func29, Try.ntmps29
  go_wp2_with fail
  go_ret;exact ⟨false, rfl, by go_grown, fun h => by cases h⟩
 have m1 : decide (0 < t.map.length) = false := decide_eq_false hmp;have m2 : decide ((0 : Int) < (t.map.length : Int)) = false := decide_eq_false (by omega);have HMP := Lib.hid (show t.map = [] from List.eq_nil_of_length_eq_zero (by omega));have HLIM := Lib.hid hlim;clear hmp
 by_cases h15 : t.kind = 15
 ·have e15 : (t.kind == 15) = true := by simpa using h15
  have n15 : (t.kind != 15) = false := by simpa using h15
  have n22 : (t.kind != 22) = true := by rw [h15]; rfl
  cases hfl : t.flag with
  |true =>
   clear h15;go_enter Try.func29, Try.ntmps29
   go_wp2_with fail
   go_ret;exact ⟨false, rfl, by go_grown, fun h => by cases h⟩
  |false =>
   have HP := Lib.hid (show (∀ (i : Nat) (x : Tr), t.kids[i]? = some x → WholeT x ∧ (x.kind = 16 → t.kind = 15 ∧ i = 1) ∧ (x.kind = 23 → t.kind = 22)) → Shape t → WholeT t from fun h hs => .mk t HMP.out HLIM.out (fun _ => hfl) (fun i x hi hx => (h i x hi).2.1 hx) (fun x hx h2 => by obtain ⟨i, hi⟩ := List.getElem?_of_mem hx; exact (h i x hi).2.2 h2) hs (fun x hx => by obtain ⟨i, hi⟩ := List.getElem?_of_mem hx; exact (h i x hi).1));have H15 := Lib.hid h15;clear h15;go_enter Try.func29, Try.ntmps29
   go_wp2_with fail
   refine forget (fun w' => Wq w (tcells t f a c a' c' p q0) t 0 w') ?_ ?_
   ·refine ⟨by go_grown, ?_, fun i x hi => by omega⟩;have h := Lb.new w (tcells t f a c a' c' p q0) 25;simp only [tcells, hlim, hfl] at h ⊢;exact h
   intro W hW;have HW := Lib.hid hW;clear hW
   go_loopg [31] t.kids.length (fun g i wr => ∃ q : Nat, i = .int .i64 q ∧ q + g = t.kids.length ∧ Wq w (tcells t f a c a' c' p q0) t q wr)
   case atStart => exact ⟨0, rfl, by omega, HW.out⟩
   case round =>
    obtain ⟨q, rfl, hq, hQ⟩ := hrel;clear HW;have HQ := Lib.hid hQ;have z0 := hQ.b0.lt;have r0 := hQ.b0.cell;unfold tcells at r0
    by_cases hlt : 0 < gk
    ·obtain ⟨g, rfl⟩ : ∃ g, gk = g + 1 := ⟨gk - 1, by omega⟩;have hql : q < t.kids.length := (by omega);obtain ⟨x, hx⟩ : ∃ x, t.kids[q]? = some x := ⟨t.kids[q], by simp⟩;obtain ⟨b, o, rfl, hkb, hbs, f3, a3, c3, a4, c4, p3, q3, hX, h12⟩ := kid_at HT.out hx;have h12r := h12.ext (k := fun _ => False) (.of hQ.b) hbs id;have d0 := h12r.c0; have d1 := h12r.c1; have d2 := h12r.c2; have d3 := h12r.c3; have d4 := h12r.c4; have d5 := h12r.c5; have d6 := h12r.c6; have d7 := h12r.c7; have d8 := h12r.c8; have d9 := h12r.c9; have d10 := h12r.c10; have d11 := h12r.c11;have hbr : b < wr.heap.size := (by have := hQ.b.size; omega);have zi0 : (0 : Int) ≤ (q : Int) := (by omega);have zi1 : (q : Int) < (t.kids.length : Int) := (by omega);have HX := Lib.hid hX; have HXQ := Lib.hid hx;have IHx := Lib.hid (IH.out x (List.mem_of_getElem? hx));clear hX h12 h12r hx hQ
     by_cases h16 : x.kind = 16
     ·have s16 : (x.kind == 16) = true := (by simpa using h16);have s23 : (x.kind == 23) = false := by rw [h16]; rfl
      by_cases hq1 : q = 1
      ·have i1 : ((q : Int) != 1) = false := (by simp [hq1]);have HC := Lib.hid (And.intro h16 hq1);clear h16 hq1
       go_wp2_with fail
       go_at_call 29;apply Calls.mono
       ·exact IHx.out k _ _ _ _ _ _ _ _ (fun b hb => by have h1 := HK.out b hb; have h2 := HQ.out.b.size; simp; omega) ((HX.out.ext (.of HQ.out.b) (Nat.le_refl _)).ext ((Ext.refl _ _ _).alloc (Nat.le_refl _) _) (Nat.le_refl _))
       rintro e w5 ⟨is, rfl, hb5, hr5⟩;have HB5 := Lib.hid (show Below w.heap.size w w5 from (HQ.out.b.alloc HQ.out.b.size _).trans (hb5.mono (by have := HQ.out.b.size; simp; omega)));have HL5 := Lib.hid ((HQ.out.b0.alloc _).below hb5 (by simp; omega));have HR5 := Lib.hid hr5;clear hb5 hr5 d0 d1 d2 d3 d4 d5 d6 d7 d8 d9 d10 d11;cases is with
       |true =>
        go_wp2_with fail
        go_roundg g
        case measure => omega
        case rel =>
         refine ⟨q + 1, by go_num, by omega, HB5.out, HL5.out, fun i y hi hy => ?_⟩
         by_cases h1 : i < q
         ·exact HQ.out.r i y h1 hy
         ·obtain rfl : i = q := (by omega);rw [HXQ.out] at hy;obtain rfl : x = y := (by simpa using hy);exact ⟨by simpa using HR5.out, fun _ => ⟨H15.out, HC.out.2⟩, fun h => by rw [HC.out.1] at h; omega⟩
       |false =>
        go_wp21;go_ret;exact ⟨false, rfl, HB5.out.trans (by go_grown), fun h => by cases h⟩
      ·have i1 : ((q : Int) != 1) = true := (by simpa using (show ¬ (q : Int) = 1 by omega));clear h16 hq1
       go_wp2_with fail
       go_ret;exact ⟨false, rfl, HQ.out.b.trans (by go_grown), fun h => by cases h⟩
     ·have s16 : (x.kind == 16) = false := by simpa using h16
      by_cases h23 : x.kind = 23
      ·have s23 : (x.kind == 23) = true := (by simpa using h23);clear h16 h23
       go_wp2_with fail
       go_ret;exact ⟨false, rfl, HQ.out.b.trans (by go_grown), fun h => by cases h⟩
      ·have s23 : (x.kind == 23) = false := (by simpa using h23);have HC := Lib.hid (And.intro h16 h23);clear h16 h23
       go_wp2_with fail
       go_at_call 29;apply Calls.mono
       ·exact IHx.out k _ _ _ _ _ _ _ _ (fun b hb => by have h1 := HK.out b hb; have h2 := HQ.out.b.size; simp; omega) ((HX.out.ext (.of HQ.out.b) (Nat.le_refl _)).ext ((Ext.refl _ _ _).alloc (Nat.le_refl _) _) (Nat.le_refl _))
       rintro e w5 ⟨is, rfl, hb5, hr5⟩;have HB5 := Lib.hid (show Below w.heap.size w w5 from (HQ.out.b.alloc HQ.out.b.size _).trans (hb5.mono (by have := HQ.out.b.size; simp; omega)));have HL5 := Lib.hid ((HQ.out.b0.alloc _).below hb5 (by simp; omega));have HR5 := Lib.hid hr5;clear hb5 hr5 d0 d1 d2 d3 d4 d5 d6 d7 d8 d9 d10 d11;cases is with
       |true =>
        go_wp2_with fail
        go_roundg g
        case measure => omega
        case rel =>
         refine ⟨q + 1, by go_num, by omega, HB5.out, HL5.out, fun i y hi hy => ?_⟩
         by_cases h1 : i < q
         ·exact HQ.out.r i y h1 hy
         ·obtain rfl : i = q := (by omega);rw [HXQ.out] at hy;obtain rfl : x = y := (by simpa using hy);exact ⟨by simpa using HR5.out, fun h => absurd h HC.out.1, fun h => absurd h HC.out.2⟩
       |false =>
        go_wp21;go_ret;exact ⟨false, rfl, HB5.out.trans (by go_grown), fun h => by cases h⟩
    ·obtain rfl : gk = 0 := (by omega);obtain rfl : q = t.kids.length := (by omega);have HPP := Lib.hid (HP.out fun i x hi => hQ.r i x (List.getElem?_eq_some_iff.1 hi).1 hi);clear hQ;have hK := H15.out;have u1 : (t.kind == 1) = false := (by rw [hK]; rfl);have u2 : (t.kind == 2) = false := (by rw [hK]; rfl);have u3 : (t.kind == 3) = false := (by rw [hK]; rfl);have u4 : (t.kind == 4) = false := (by rw [hK]; rfl);have u5 : (t.kind == 5) = false := (by rw [hK]; rfl);have u6 : (t.kind == 6) = false := (by rw [hK]; rfl);have u17 : (t.kind == 17) = false := (by rw [hK]; rfl);have u8 : (t.kind == 8) = false := (by rw [hK]; rfl);have u9 : (t.kind == 9) = false := (by rw [hK]; rfl);have u16 : (t.kind == 16) = false := (by rw [hK]; rfl);have u10 : (t.kind == 10) = false := (by rw [hK]; rfl);have u12 : (t.kind == 12) = false := (by rw [hK]; rfl);have u15 : (t.kind == 15) = true := (by rw [hK]; rfl);have u18 : (t.kind == 18) = false := by rw [hK]; rfl
     have u19 : (t.kind == 19) = false := (by rw [hK]; rfl);have u23 : (t.kind == 23) = false := (by rw [hK]; rfl);have u20 : (t.kind == 20) = false := (by rw [hK]; rfl);have u21 : (t.kind == 21) = false := (by rw [hK]; rfl);have u22 : (t.kind == 22) = false := (by rw [hK]; rfl);clear hK
     by_cases hl1 : t.kids.length = 1
     ·have l1 : ((t.kids.length : Int) == 1) = true := (by rw [hl1]; rfl);have l2 : ((t.kids.length : Int) == 2) = false := (by rw [hl1]; rfl);have HLL := Lib.hid hl1;clear hl1
      by_cases hc1 : (t.name == [99, 111, 117, 110, 116]) = true
      ·go_wp2_with fail
       go_ret;exact ⟨_, rfl, HQ.out.b, fun h => HPP.out (.inr (.inr (.inr (.inr (.inr (.inl ⟨H15.out, .inl HLL.out⟩))))))⟩
      replace hc1 : (t.name == [99, 111, 117, 110, 116]) = false := by simpa using hc1
      by_cases hc2 : (t.name == [115, 117, 109]) = true
      ·go_wp2_with fail
       go_ret;exact ⟨_, rfl, HQ.out.b, fun h => HPP.out (.inr (.inr (.inr (.inr (.inr (.inl ⟨H15.out, .inl HLL.out⟩))))))⟩
      replace hc2 : (t.name == [115, 117, 109]) = false := by simpa using hc2
      go_wp2_with fail
      go_at_call 49;refine (predicated_any _ _).mono ?_;rintro e w5 ⟨b1, rfl, rfl⟩;cases b1 with
      |true =>
       go_wp2_with fail
       go_at_call 49;refine (predicated_any _ _).mono ?_;rintro e w5 ⟨b2, rfl, rfl⟩;cases b2 with
       |true =>
        go_wp2_with fail
        go_ret;exact ⟨_, rfl, HQ.out.b, fun h => HPP.out (.inr (.inr (.inr (.inr (.inr (.inl ⟨H15.out, .inl HLL.out⟩))))))⟩
       |false =>
        go_wp2_with fail
        go_ret;exact ⟨_, rfl, HQ.out.b, fun h => HPP.out (.inr (.inr (.inr (.inr (.inr (.inl ⟨H15.out, .inl HLL.out⟩))))))⟩
      |false =>
       go_wp2_with fail
       go_at_call 49;refine (predicated_any _ _).mono ?_;rintro e w5 ⟨b2, rfl, rfl⟩;cases b2 with
       |true =>
        go_wp2_with fail
        go_ret;exact ⟨_, rfl, HQ.out.b, fun h => HPP.out (.inr (.inr (.inr (.inr (.inr (.inl ⟨H15.out, .inl HLL.out⟩))))))⟩
       |false =>
        go_wp2_with fail
        go_ret;exact ⟨_, rfl, HQ.out.b, fun h => HPP.out (.inr (.inr (.inr (.inr (.inr (.inl ⟨H15.out, .inl HLL.out⟩))))))⟩
     have l1 : ((t.kids.length : Int) == 1) = false := beq_eq_false_iff_ne.2 (by omega)
     by_cases hl2 : t.kids.length = 2
     ·have l2 : ((t.kids.length : Int) == 2) = true := (by rw [hl2]; rfl);obtain ⟨x, hx⟩ : ∃ x, t.kids[1]? = some x := ⟨t.kids[1], by simp⟩;obtain ⟨b, o, rfl, hkb, hbs, f3, a3, c3, a4, c4, p3, q3, hX, h12⟩ := kid_at HT.out hx;have d0 : wr.cell? ⟨b, o + 12, none⟩ = some (.int .i64 x.kind) := (h12.ext (k := fun _ => False) (.of HQ.out.b) hbs id).c0;have hbr := Nat.lt_of_lt_of_le hbs HQ.out.b.size;have hki1 : (1 : Int) < (t.kids.length : Int) := (by omega);have hki0 : 1 < t.kids.length := (by omega);have HLL := Lib.hid (And.intro hl2 hx);clear hX h12 hx hl2 hl1
      by_cases h16 : x.kind = 16
      ·have s16 : (x.kind == 16) = true := (by simpa using h16);have H16 := Lib.hid h16;clear h16
       by_cases hc1 : (t.name == [99, 111, 117, 110, 116]) = true
       ·go_wp2_with fail
        go_ret;exact ⟨_, rfl, HQ.out.b, fun h => HPP.out (.inr (.inr (.inr (.inr (.inr (.inl ⟨H15.out, .inr ⟨HLL.out.1, x, HLL.out.2, H16.out⟩⟩))))))⟩
       replace hc1 : (t.name == [99, 111, 117, 110, 116]) = false := by simpa using hc1
       by_cases hc2 : (t.name == [115, 117, 109]) = true
       ·go_wp2_with fail
        go_ret;exact ⟨_, rfl, HQ.out.b, fun h => HPP.out (.inr (.inr (.inr (.inr (.inr (.inl ⟨H15.out, .inr ⟨HLL.out.1, x, HLL.out.2, H16.out⟩⟩))))))⟩
       replace hc2 : (t.name == [115, 117, 109]) = false := by simpa using hc2
       go_wp2_with fail
       go_at_call 49;refine (predicated_any _ _).mono ?_;rintro e w5 ⟨b1, rfl, rfl⟩;cases b1 with
       |true =>
        go_wp2_with fail
        go_ret;exact ⟨_, rfl, HQ.out.b, fun h => HPP.out (.inr (.inr (.inr (.inr (.inr (.inl ⟨H15.out, .inr ⟨HLL.out.1, x, HLL.out.2, H16.out⟩⟩))))))⟩
       |false =>
        go_wp2_with fail
        go_at_call 49;refine (predicated_any _ _).mono ?_;rintro e w5 ⟨b2, rfl, rfl⟩;cases b2 with
        |true =>
         go_wp2_with fail
         go_ret;exact ⟨_, rfl, HQ.out.b, fun h => HPP.out (.inr (.inr (.inr (.inr (.inr (.inl ⟨H15.out, .inr ⟨HLL.out.1, x, HLL.out.2, H16.out⟩⟩))))))⟩
        |false =>
         go_wp2_with fail
         go_ret;exact ⟨_, rfl, HQ.out.b, fun h => HPP.out (.inr (.inr (.inr (.inr (.inr (.inl ⟨H15.out, .inr ⟨HLL.out.1, x, HLL.out.2, H16.out⟩⟩))))))⟩
      ·have s16 : (x.kind == 16) = false := (by simpa using h16);clear h16
       by_cases hc1 : (t.name == [99, 111, 117, 110, 116]) = true
       ·go_wp2_with fail
        go_ret;exact ⟨_, rfl, HQ.out.b, fun h => by simp at h⟩
       replace hc1 : (t.name == [99, 111, 117, 110, 116]) = false := by simpa using hc1
       by_cases hc2 : (t.name == [115, 117, 109]) = true
       ·go_wp2_with fail
        go_ret;exact ⟨_, rfl, HQ.out.b, fun h => by simp at h⟩
       replace hc2 : (t.name == [115, 117, 109]) = false := by simpa using hc2
       go_wp2_with fail
       go_at_call 49;refine (predicated_any _ _).mono ?_;rintro e w5 ⟨b1, rfl, rfl⟩;cases b1 with
       |true =>
        go_wp2_with fail
        go_at_call 49;refine (predicated_any _ _).mono ?_;rintro e w5 ⟨b2, rfl, rfl⟩;cases b2 with
        |true =>
         go_wp2_with fail
         go_ret;exact ⟨_, rfl, HQ.out.b, fun h => by simp at h⟩
        |false =>
         go_wp2_with fail
         go_ret;exact ⟨_, rfl, HQ.out.b, fun h => by simp at h⟩
       |false =>
        go_wp2_with fail
        go_at_call 49;refine (predicated_any _ _).mono ?_;rintro e w5 ⟨b2, rfl, rfl⟩;cases b2 with
        |true =>
         go_wp2_with fail
         go_ret;exact ⟨_, rfl, HQ.out.b, fun h => by simp at h⟩
        |false =>
         go_wp2_with fail
         go_ret;exact ⟨_, rfl, HQ.out.b, fun h => by simp at h⟩
     have l2 : ((t.kids.length : Int) == 2) = false := beq_eq_false_iff_ne.2 (by omega);clear hl1 hl2
     by_cases hc1 : (t.name == [99, 111, 117, 110, 116]) = true
     ·go_wp2_with fail
      go_ret;exact ⟨_, rfl, HQ.out.b, fun h => by simp at h⟩
     replace hc1 : (t.name == [99, 111, 117, 110, 116]) = false := by simpa using hc1
     by_cases hc2 : (t.name == [115, 117, 109]) = true
     ·go_wp2_with fail
      go_ret;exact ⟨_, rfl, HQ.out.b, fun h => by simp at h⟩
     replace hc2 : (t.name == [115, 117, 109]) = false := by simpa using hc2
     go_wp2_with fail
     go_at_call 49;refine (predicated_any _ _).mono ?_;rintro e w5 ⟨b1, rfl, rfl⟩;cases b1 with
     |true =>
      go_wp2_with fail
      go_at_call 49;refine (predicated_any _ _).mono ?_;rintro e w5 ⟨b2, rfl, rfl⟩;cases b2 with
      |true =>
       go_wp2_with fail
       go_ret;exact ⟨_, rfl, HQ.out.b, fun h => by simp at h⟩
      |false =>
       go_wp2_with fail
       go_ret;exact ⟨_, rfl, HQ.out.b, fun h => by simp at h⟩
     |false =>
      go_wp2_with fail
      go_at_call 49;refine (predicated_any _ _).mono ?_;rintro e w5 ⟨b2, rfl, rfl⟩;cases b2 with
      |true =>
       go_wp2_with fail
       go_ret;exact ⟨_, rfl, HQ.out.b, fun h => by simp at h⟩
      |false =>
       go_wp2_with fail
       go_ret;exact ⟨_, rfl, HQ.out.b, fun h => by simp at h⟩
 have e15 : (t.kind == 15) = false := by simpa using h15
 have n15 : (t.kind != 15) = true := by simpa using h15
 have HP := Lib.hid (show (∀ (i : Nat) (x : Tr), t.kids[i]? = some x → WholeT x ∧ (x.kind = 16 → t.kind = 15 ∧ i = 1) ∧ (x.kind = 23 → t.kind = 22)) → Shape t → WholeT t from fun h hs => .mk t HMP.out HLIM.out (fun h => absurd h h15) (fun i x hi hx => (h i x hi).2.1 hx) (fun x hx h2 => by obtain ⟨i, hi⟩ := List.getElem?_of_mem hx; exact (h i x hi).2.2 h2) hs (fun x hx => by obtain ⟨i, hi⟩ := List.getElem?_of_mem hx; exact (h i x hi).1));have H15 := Lib.hid h15
 by_cases h22 : t.kind = 22
 ·have n22 : (t.kind != 22) = false := by simpa using h22
  have H22 := Lib.hid h22;clear h15 h22;go_enter Try.func29, Try.ntmps29
  go_wp2_with fail
  refine forget (fun w' => Wq w (tcells t f a c a' c' p q0) t 0 w') ?_ ?_
  ·refine ⟨by go_grown, ?_, fun i x hi => by omega⟩;have h := Lb.new w (tcells t f a c a' c' p q0) 25;simp only [tcells, hlim] at h ⊢;exact h
  intro W hW;have HW := Lib.hid hW;clear hW
  go_loopg [31] t.kids.length (fun g i wr => ∃ q : Nat, i = .int .i64 q ∧ q + g = t.kids.length ∧ Wq w (tcells t f a c a' c' p q0) t q wr)
  case atStart => exact ⟨0, rfl, by omega, HW.out⟩
  case round =>
   obtain ⟨q, rfl, hq, hQ⟩ := hrel;clear HW;have HQ := Lib.hid hQ;have z0 := hQ.b0.lt;have r0 := hQ.b0.cell;unfold tcells at r0
   by_cases hlt : 0 < gk
   ·obtain ⟨g, rfl⟩ : ∃ g, gk = g + 1 := ⟨gk - 1, by omega⟩;have hql : q < t.kids.length := (by omega);obtain ⟨x, hx⟩ : ∃ x, t.kids[q]? = some x := ⟨t.kids[q], by simp⟩;obtain ⟨b, o, rfl, hkb, hbs, f3, a3, c3, a4, c4, p3, q3, hX, h12⟩ := kid_at HT.out hx;have h12r := h12.ext (k := fun _ => False) (.of hQ.b) hbs id;have d0 := h12r.c0; have d1 := h12r.c1; have d2 := h12r.c2; have d3 := h12r.c3; have d4 := h12r.c4; have d5 := h12r.c5; have d6 := h12r.c6; have d7 := h12r.c7; have d8 := h12r.c8; have d9 := h12r.c9; have d10 := h12r.c10; have d11 := h12r.c11;have hbr : b < wr.heap.size := (by have := hQ.b.size; omega);have zi0 : (0 : Int) ≤ (q : Int) := (by omega);have zi1 : (q : Int) < (t.kids.length : Int) := (by omega);have HX := Lib.hid hX; have HXQ := Lib.hid hx;have IHx := Lib.hid (IH.out x (List.mem_of_getElem? hx));clear hX h12 h12r hx hQ
    by_cases h16 : x.kind = 16
    ·have s16 : (x.kind == 16) = true := (by simpa using h16);clear h16
     go_wp2_with fail
     go_ret;exact ⟨false, rfl, HQ.out.b.trans (by go_grown), fun h => by cases h⟩
    ·have s16 : (x.kind == 16) = false := by simpa using h16
     by_cases h23 : x.kind = 23
     ·have s23 : (x.kind == 23) = true := (by simpa using h23);have HC := Lib.hid h16;clear h16 h23
      go_wp2_with fail
      go_at_call 29;apply Calls.mono
      ·exact IHx.out k _ _ _ _ _ _ _ _ (fun b hb => by have h1 := HK.out b hb; have h2 := HQ.out.b.size; simp; omega) ((HX.out.ext (.of HQ.out.b) (Nat.le_refl _)).ext ((Ext.refl _ _ _).alloc (Nat.le_refl _) _) (Nat.le_refl _))
      rintro e w5 ⟨is, rfl, hb5, hr5⟩;have HB5 := Lib.hid (show Below w.heap.size w w5 from (HQ.out.b.alloc HQ.out.b.size _).trans (hb5.mono (by have := HQ.out.b.size; simp; omega)));have HL5 := Lib.hid ((HQ.out.b0.alloc _).below hb5 (by simp; omega));have HR5 := Lib.hid hr5;clear hb5 hr5 d0 d1 d2 d3 d4 d5 d6 d7 d8 d9 d10 d11;cases is with
      |true =>
       go_wp2_with fail
       go_roundg g
       case measure => omega
       case rel =>
        refine ⟨q + 1, by go_num, by omega, HB5.out, HL5.out, fun i y hi hy => ?_⟩
        by_cases h1 : i < q
        ·exact HQ.out.r i y h1 hy
        ·obtain rfl : i = q := (by omega);rw [HXQ.out] at hy;obtain rfl : x = y := (by simpa using hy);exact ⟨by simpa using HR5.out, fun h => absurd h HC.out, fun _ => H22.out⟩
      |false =>
       go_wp21;go_ret;exact ⟨false, rfl, HB5.out.trans (by go_grown), fun h => by cases h⟩
     ·have s23 : (x.kind == 23) = false := (by simpa using h23);have HC := Lib.hid h16;clear h16 h23
      go_wp2_with fail
      go_at_call 29;apply Calls.mono
      ·exact IHx.out k _ _ _ _ _ _ _ _ (fun b hb => by have h1 := HK.out b hb; have h2 := HQ.out.b.size; simp; omega) ((HX.out.ext (.of HQ.out.b) (Nat.le_refl _)).ext ((Ext.refl _ _ _).alloc (Nat.le_refl _) _) (Nat.le_refl _))
      rintro e w5 ⟨is, rfl, hb5, hr5⟩;have HB5 := Lib.hid (show Below w.heap.size w w5 from (HQ.out.b.alloc HQ.out.b.size _).trans (hb5.mono (by have := HQ.out.b.size; simp; omega)));have HL5 := Lib.hid ((HQ.out.b0.alloc _).below hb5 (by simp; omega));have HR5 := Lib.hid hr5;clear hb5 hr5 d0 d1 d2 d3 d4 d5 d6 d7 d8 d9 d10 d11;cases is with
      |true =>
       go_wp2_with fail
       go_roundg g
       case measure => omega
       case rel =>
        refine ⟨q + 1, by go_num, by omega, HB5.out, HL5.out, fun i y hi hy => ?_⟩
        by_cases h1 : i < q
        ·exact HQ.out.r i y h1 hy
        ·obtain rfl : i = q := (by omega);rw [HXQ.out] at hy;obtain rfl : x = y := (by simpa using hy);exact ⟨by simpa using HR5.out, fun h => absurd h HC.out, fun _ => H22.out⟩
      |false =>
       go_wp21;go_ret;exact ⟨false, rfl, HB5.out.trans (by go_grown), fun h => by cases h⟩
   ·obtain rfl : gk = 0 := (by omega);obtain rfl : q = t.kids.length := (by omega);have HPP := Lib.hid (HP.out fun i x hi => hQ.r i x (List.getElem?_eq_some_iff.1 hi).1 hi);clear hQ;have hK := H22.out;have u1 : (t.kind == 1) = false := (by rw [hK]; rfl);have u2 : (t.kind == 2) = false := (by rw [hK]; rfl);have u3 : (t.kind == 3) = false := (by rw [hK]; rfl);have u4 : (t.kind == 4) = false := (by rw [hK]; rfl);have u5 : (t.kind == 5) = false := (by rw [hK]; rfl);have u6 : (t.kind == 6) = false := (by rw [hK]; rfl);have u17 : (t.kind == 17) = false := (by rw [hK]; rfl);have u8 : (t.kind == 8) = false := (by rw [hK]; rfl);have u9 : (t.kind == 9) = false := (by rw [hK]; rfl);have u16 : (t.kind == 16) = false := (by rw [hK]; rfl);have u10 : (t.kind == 10) = false := (by rw [hK]; rfl);have u12 : (t.kind == 12) = false := (by rw [hK]; rfl);have u15 : (t.kind == 15) = false := (by rw [hK]; rfl);have u18 : (t.kind == 18) = false := by rw [hK]; rfl
    have u19 : (t.kind == 19) = false := (by rw [hK]; rfl);have u23 : (t.kind == 23) = false := (by rw [hK]; rfl);have u20 : (t.kind == 20) = false := (by rw [hK]; rfl);have u21 : (t.kind == 21) = false := (by rw [hK]; rfl);have u22 : (t.kind == 22) = true := (by rw [hK]; rfl);have HKK := Lib.hid hK;clear hK r0;have r0 := HQ.out.b0.cell;unfold tcells at r0
    go_wp2_with fail
    refine forget (fun w' => Below w.heap.size w w' ∧ Lb w' w.heap.size (tcells t f a c a' c' p q0) 25) ⟨HQ.out.b, HQ.out.b0⟩ ?_;intro W2 hW2;have HW2 := Lib.hid hW2;clear hW2
    go_loopg [206] t.kids.length (fun g i wr => ∃ q : Nat, i = .int .i64 q ∧ q + g = t.kids.length ∧ Below w.heap.size w wr ∧ Lb wr w.heap.size (tcells t f a c a' c' p q0) 25 ∧ ∀ (i : Nat) (x : Tr), i < q → t.kids[i]? = some x → x.kind = 23)
    case atStart => exact ⟨0, rfl, by omega, HW2.out.1, HW2.out.2, fun i x hi => by omega⟩
    case round =>
     obtain ⟨q2, rfl, hq2, hB2, hL2, hr2⟩ := hrel;have HB2 := Lib.hid hB2; have HR2 := Lib.hid hr2; have HL2 := Lib.hid hL2;clear r0 z0;have z0 := hL2.lt
     by_cases hlt2 : 0 < gk
     ·obtain ⟨g2, rfl⟩ : ∃ g, gk = g + 1 := ⟨gk - 1, by omega⟩;have hql2 : q2 < t.kids.length := (by omega);obtain ⟨x, hx⟩ : ∃ x, t.kids[q2]? = some x := ⟨t.kids[q2], by simp⟩;obtain ⟨b, o, rfl, hkb, hbs, f3, a3, c3, a4, c4, p3, q3, hX, h12⟩ := kid_at HT.out hx;have h12r := h12.ext (k := fun _ => False) (.of hB2) hbs id;have d0 := h12r.c0; have d1 := h12r.c1; have d2 := h12r.c2; have d3 := h12r.c3; have d4 := h12r.c4; have d5 := h12r.c5; have d6 := h12r.c6; have d7 := h12r.c7; have d8 := h12r.c8; have d9 := h12r.c9; have d10 := h12r.c10; have d11 := h12r.c11;have hbr := Nat.lt_of_lt_of_le hbs hB2.size;have zi0 : (0 : Int) ≤ (q2 : Int) := (by omega);have zi1 : (q2 : Int) < (t.kids.length : Int) := (by omega);have HXQ := Lib.hid hx;clear hX h12 h12r hx hB2 hr2 hL2
      by_cases hx23 : x.kind = 23
      ·have v23 : (x.kind != 23) = false := (by simpa using hx23);have HXK := Lib.hid hx23;clear hx23
       go_wp2_with fail
       go_roundg g2
       case measure => omega
       case rel =>
        refine ⟨q2 + 1, by go_num, by omega, HB2.out.alloc HB2.out.size _, HL2.out.alloc _, fun i y hi hy => ?_⟩
        by_cases h1 : i < q2
        ·exact HR2.out i y h1 hy
        ·obtain rfl : i = q2 := (by omega);rw [HXQ.out] at hy;obtain rfl : x = y := (by simpa using hy);exact HXK.out
      have v23 : (x.kind != 23) = true := (by simpa using hx23);clear hx23
      go_wp2_with fail
      go_ret;exact ⟨false, rfl, HB2.out.alloc HB2.out.size _, fun h => by cases h⟩
     ·obtain rfl : gk = 0 := (by omega);obtain rfl : q2 = t.kids.length := (by omega);clear hB2 hr2 hL2
      go_wp2_with fail
      go_ret;refine ⟨true, rfl, HB2.out, fun _ => HPP.out (.inr (.inr (.inr (.inr (.inr (.inr (.inr (.inr (.inr (.inr ⟨HKK.out, fun x hx => by obtain ⟨i, hi⟩ := List.getElem?_of_mem hx; exact HR2.out i x (List.getElem?_eq_some_iff.1 hi).1 hi⟩))))))))))⟩
 ·have n22 : (t.kind != 22) = true := by simpa using h22
  have H22 := Lib.hid h22;clear h15 h22;go_enter Try.func29, Try.ntmps29
  go_wp2_with fail
  refine forget (fun w' => Wq w (tcells t f a c a' c' p q0) t 0 w') ?_ ?_
  ·refine ⟨by go_grown, ?_, fun i x hi => by omega⟩;have h := Lb.new w (tcells t f a c a' c' p q0) 25;simp only [tcells, hlim] at h ⊢;exact h
  intro W hW;have HW := Lib.hid hW;clear hW
  go_loopg [31] t.kids.length (fun g i wr => ∃ q : Nat, i = .int .i64 q ∧ q + g = t.kids.length ∧ Wq w (tcells t f a c a' c' p q0) t q wr)
  case atStart => exact ⟨0, rfl, by omega, HW.out⟩
  case round =>
   obtain ⟨q, rfl, hq, hQ⟩ := hrel;clear HW;have HQ := Lib.hid hQ;have z0 := hQ.b0.lt;have r0 := hQ.b0.cell;unfold tcells at r0
   by_cases hlt : 0 < gk
   ·obtain ⟨g, rfl⟩ : ∃ g, gk = g + 1 := ⟨gk - 1, by omega⟩;have hql : q < t.kids.length := (by omega);obtain ⟨x, hx⟩ : ∃ x, t.kids[q]? = some x := ⟨t.kids[q], by simp⟩;obtain ⟨b, o, rfl, hkb, hbs, f3, a3, c3, a4, c4, p3, q3, hX, h12⟩ := kid_at HT.out hx;have h12r := h12.ext (k := fun _ => False) (.of hQ.b) hbs id;have d0 := h12r.c0; have d1 := h12r.c1; have d2 := h12r.c2; have d3 := h12r.c3; have d4 := h12r.c4; have d5 := h12r.c5; have d6 := h12r.c6; have d7 := h12r.c7; have d8 := h12r.c8; have d9 := h12r.c9; have d10 := h12r.c10; have d11 := h12r.c11;have hbr : b < wr.heap.size := (by have := hQ.b.size; omega);have zi0 : (0 : Int) ≤ (q : Int) := (by omega);have zi1 : (q : Int) < (t.kids.length : Int) := (by omega);have HX := Lib.hid hX; have HXQ := Lib.hid hx;have IHx := Lib.hid (IH.out x (List.mem_of_getElem? hx));clear hX h12 h12r hx hQ
    by_cases h16 : x.kind = 16
    ·have s16 : (x.kind == 16) = true := (by simpa using h16);clear h16
     go_wp2_with fail
     go_ret;exact ⟨false, rfl, HQ.out.b.trans (by go_grown), fun h => by cases h⟩
    ·have s16 : (x.kind == 16) = false := by simpa using h16
     by_cases h23 : x.kind = 23
     ·have s23 : (x.kind == 23) = true := (by simpa using h23);clear h16 h23
      go_wp2_with fail
      go_ret;exact ⟨false, rfl, HQ.out.b.trans (by go_grown), fun h => by cases h⟩
     ·have s23 : (x.kind == 23) = false := (by simpa using h23);have HC := Lib.hid (And.intro h16 h23);clear h16 h23
      go_wp2_with fail
      go_at_call 29;apply Calls.mono
      ·exact IHx.out k _ _ _ _ _ _ _ _ (fun b hb => by have h1 := HK.out b hb; have h2 := HQ.out.b.size; simp; omega) ((HX.out.ext (.of HQ.out.b) (Nat.le_refl _)).ext ((Ext.refl _ _ _).alloc (Nat.le_refl _) _) (Nat.le_refl _))
      rintro e w5 ⟨is, rfl, hb5, hr5⟩;have HB5 := Lib.hid (show Below w.heap.size w w5 from (HQ.out.b.alloc HQ.out.b.size _).trans (hb5.mono (by have := HQ.out.b.size; simp; omega)));have HL5 := Lib.hid ((HQ.out.b0.alloc _).below hb5 (by simp; omega));have HR5 := Lib.hid hr5;clear hb5 hr5 d0 d1 d2 d3 d4 d5 d6 d7 d8 d9 d10 d11;cases is with
      |true =>
       go_wp2_with fail
       go_roundg g
       case measure => omega
       case rel =>
        refine ⟨q + 1, by go_num, by omega, HB5.out, HL5.out, fun i y hi hy => ?_⟩
        by_cases h1 : i < q
        ·exact HQ.out.r i y h1 hy
        ·obtain rfl : i = q := (by omega);rw [HXQ.out] at hy;obtain rfl : x = y := (by simpa using hy);exact ⟨by simpa using HR5.out, fun h => absurd h HC.out.1, fun h => absurd h HC.out.2⟩
      |false =>
       go_wp21;go_ret;exact ⟨false, rfl, HB5.out.trans (by go_grown), fun h => by cases h⟩
   ·obtain rfl : gk = 0 := (by omega);obtain rfl : q = t.kids.length := (by omega);have HPP := Lib.hid (HP.out fun i x hi => hQ.r i x (List.getElem?_eq_some_iff.1 hi).1 hi);clear hQ;rcases kinds_wh t.kind with hK | hK | hK | hK | hK | hK | hK | hK | hK | hK | hK | hK | hK | hK | hK | hK | hK | hK
    all_goals
     first |have u1 : (t.kind == 1) = true := by rw [hK]; rfl |have u1 : (t.kind == 1) = false := by rw [hK]; rfl |have u1 : (t.kind == 1) = false := by simpa using hK 1 (by simp)
     first |have u2 : (t.kind == 2) = true := by rw [hK]; rfl |have u2 : (t.kind == 2) = false := by rw [hK]; rfl |have u2 : (t.kind == 2) = false := by simpa using hK 2 (by simp)
     first |have u3 : (t.kind == 3) = true := by rw [hK]; rfl |have u3 : (t.kind == 3) = false := by rw [hK]; rfl |have u3 : (t.kind == 3) = false := by simpa using hK 3 (by simp)
     first |have u4 : (t.kind == 4) = true := by rw [hK]; rfl |have u4 : (t.kind == 4) = false := by rw [hK]; rfl |have u4 : (t.kind == 4) = false := by simpa using hK 4 (by simp)
     first |have u5 : (t.kind == 5) = true := by rw [hK]; rfl |have u5 : (t.kind == 5) = false := by rw [hK]; rfl |have u5 : (t.kind == 5) = false := by simpa using hK 5 (by simp)
     first |have u6 : (t.kind == 6) = true := by rw [hK]; rfl |have u6 : (t.kind == 6) = false := by rw [hK]; rfl |have u6 : (t.kind == 6) = false := by simpa using hK 6 (by simp)
     first |have u17 : (t.kind == 17) = true := by rw [hK]; rfl |have u17 : (t.kind == 17) = false := by rw [hK]; rfl |have u17 : (t.kind == 17) = false := by simpa using hK 17 (by simp)
     first |have u8 : (t.kind == 8) = true := by rw [hK]; rfl |have u8 : (t.kind == 8) = false := by rw [hK]; rfl |have u8 : (t.kind == 8) = false := by simpa using hK 8 (by simp)
     first |have u9 : (t.kind == 9) = true := by rw [hK]; rfl |have u9 : (t.kind == 9) = false := by rw [hK]; rfl |have u9 : (t.kind == 9) = false := by simpa using hK 9 (by simp)
     first |have u16 : (t.kind == 16) = true := by rw [hK]; rfl |have u16 : (t.kind == 16) = false := by rw [hK]; rfl |have u16 : (t.kind == 16) = false := by simpa using hK 16 (by simp)
     first |have u10 : (t.kind == 10) = true := by rw [hK]; rfl |have u10 : (t.kind == 10) = false := by rw [hK]; rfl |have u10 : (t.kind == 10) = false := by simpa using hK 10 (by simp)
     first |have u12 : (t.kind == 12) = true := by rw [hK]; rfl |have u12 : (t.kind == 12) = false := by rw [hK]; rfl |have u12 : (t.kind == 12) = false := by simpa using hK 12 (by simp)
     first |have u15 : (t.kind == 15) = true := by rw [hK]; rfl |have u15 : (t.kind == 15) = false := by rw [hK]; rfl |have u15 : (t.kind == 15) = false := by simpa using H15.out
     first |have u18 : (t.kind == 18) = true := by rw [hK]; rfl |have u18 : (t.kind == 18) = false := by rw [hK]; rfl |have u18 : (t.kind == 18) = false := by simpa using hK 18 (by simp)
     first |have u19 : (t.kind == 19) = true := by rw [hK]; rfl |have u19 : (t.kind == 19) = false := by rw [hK]; rfl |have u19 : (t.kind == 19) = false := by simpa using hK 19 (by simp)
     first |have u23 : (t.kind == 23) = true := by rw [hK]; rfl |have u23 : (t.kind == 23) = false := by rw [hK]; rfl |have u23 : (t.kind == 23) = false := by simpa using hK 23 (by simp)
     first |have u20 : (t.kind == 20) = true := by rw [hK]; rfl |have u20 : (t.kind == 20) = false := by rw [hK]; rfl |have u20 : (t.kind == 20) = false := by simpa using hK 20 (by simp)
     first |have u21 : (t.kind == 21) = true := by rw [hK]; rfl |have u21 : (t.kind == 21) = false := by rw [hK]; rfl |have u21 : (t.kind == 21) = false := by simpa using hK 21 (by simp)
     first |have u22 : (t.kind == 22) = true := by rw [hK]; rfl |have u22 : (t.kind == 22) = false := by rw [hK]; rfl |have u22 : (t.kind == 22) = false := by simpa using H22.out
    iterate 7 focus
     have HKK := Lib.hid hK;clear hK
     go_wp2_with fail
     go_ret;refine ⟨_, rfl, HQ.out.b, fun h => HPP.out ?_⟩;have h0 : t.kids.length = 0 := (by simpa using h);exact .inl ⟨by have := HKK.out; omega, h0⟩
    iterate 2 focus
     have HKK := Lib.hid hK;clear hK
     go_wp2_with fail
     go_ret;refine ⟨_, rfl, HQ.out.b, fun h => HPP.out ?_⟩;have h0 : t.kids.length = 1 := (by have h2 : (t.kids.length : Int) = 1 := (by simpa using h); omega);exact .inr (.inr (.inl ⟨by have := HKK.out; omega, h0⟩))
    ·have HKK := Lib.hid hK;clear hK r0;have r0 := HQ.out.b0.cell;unfold tcells at r0
     go_wp2_with fail
     refine forget (fun w' => Below w.heap.size w w' ∧ Lb w' w.heap.size (tcells t f a c a' c' p q0) 25) ⟨HQ.out.b, HQ.out.b0⟩ ?_;intro W2 hW2;have HW2 := Lib.hid hW2;clear hW2
     go_loopg [84] t.kids.length (fun g i wr => ∃ q : Nat, i = .int .i64 q ∧ q + g = t.kids.length ∧ Below w.heap.size w wr ∧ Lb wr w.heap.size (tcells t f a c a' c' p q0) 25 ∧ ∀ (i : Nat) (x : Tr), i < q → t.kids[i]? = some x → x.kind = 3 ∨ x.kind = 4 ∨ x.kind = 5 ∨ x.kind = 6)
     case atStart => exact ⟨0, rfl, by omega, HW2.out.1, HW2.out.2, fun i x hi => by omega⟩
     case round =>
      obtain ⟨q2, rfl, hq2, hB2, hL2, hr2⟩ := hrel;have HB2 := Lib.hid hB2; have HR2 := Lib.hid hr2; have HL2 := Lib.hid hL2;clear r0 z0;have z0 := hL2.lt
      by_cases hlt2 : 0 < gk
      ·obtain ⟨g2, rfl⟩ : ∃ g, gk = g + 1 := ⟨gk - 1, by omega⟩;have hql2 : q2 < t.kids.length := (by omega);obtain ⟨x, hx⟩ : ∃ x, t.kids[q2]? = some x := ⟨t.kids[q2], by simp⟩;obtain ⟨b, o, rfl, hkb, hbs, f3, a3, c3, a4, c4, p3, q3, hX, h12⟩ := kid_at HT.out hx;have h12r := h12.ext (k := fun _ => False) (.of hB2) hbs id;have d0 := h12r.c0; have d1 := h12r.c1; have d2 := h12r.c2; have d3 := h12r.c3; have d4 := h12r.c4; have d5 := h12r.c5; have d6 := h12r.c6; have d7 := h12r.c7; have d8 := h12r.c8; have d9 := h12r.c9; have d10 := h12r.c10; have d11 := h12r.c11;have hbr := Nat.lt_of_lt_of_le hbs hB2.size;have zi0 : (0 : Int) ≤ (q2 : Int) := (by omega);have zi1 : (q2 : Int) < (t.kids.length : Int) := (by omega);have HXQ := Lib.hid hx;clear hX h12 h12r hx hB2 hr2 hL2
       by_cases hx3 : x.kind = 3
       ·have v3 : (x.kind != 3) = false := (by simpa using hx3);have HXK := Lib.hid hx3;clear hx3
        go_wp2_with fail
        go_roundg g2
        case measure => omega
        case rel =>
         refine ⟨q2 + 1, by go_num, by omega, HB2.out.alloc HB2.out.size _, HL2.out.alloc _, fun i y hi hy => ?_⟩
         by_cases h1 : i < q2
         ·exact HR2.out i y h1 hy
         ·obtain rfl : i = q2 := (by omega);rw [HXQ.out] at hy;obtain rfl : x = y := (by simpa using hy);exact .inl HXK.out
       have v3 : (x.kind != 3) = true := (by simpa using hx3);clear hx3
       by_cases hx4 : x.kind = 4
       ·have v4 : (x.kind != 4) = false := (by simpa using hx4);have HXK := Lib.hid hx4;clear hx4
        go_wp2_with fail
        go_roundg g2
        case measure => omega
        case rel =>
         refine ⟨q2 + 1, by go_num, by omega, HB2.out.alloc HB2.out.size _, HL2.out.alloc _, fun i y hi hy => ?_⟩
         by_cases h1 : i < q2
         ·exact HR2.out i y h1 hy
         ·obtain rfl : i = q2 := (by omega);rw [HXQ.out] at hy;obtain rfl : x = y := (by simpa using hy);exact .inr (.inl HXK.out)
       have v4 : (x.kind != 4) = true := (by simpa using hx4);clear hx4
       by_cases hx5 : x.kind = 5
       ·have v5 : (x.kind != 5) = false := (by simpa using hx5);have HXK := Lib.hid hx5;clear hx5
        go_wp2_with fail
        go_roundg g2
        case measure => omega
        case rel =>
         refine ⟨q2 + 1, by go_num, by omega, HB2.out.alloc HB2.out.size _, HL2.out.alloc _, fun i y hi hy => ?_⟩
         by_cases h1 : i < q2
         ·exact HR2.out i y h1 hy
         ·obtain rfl : i = q2 := (by omega);rw [HXQ.out] at hy;obtain rfl : x = y := (by simpa using hy);exact .inr (.inr (.inl HXK.out))
       have v5 : (x.kind != 5) = true := (by simpa using hx5);clear hx5
       by_cases hx6 : x.kind = 6
       ·have v6 : (x.kind != 6) = false := (by simpa using hx6);have HXK := Lib.hid hx6;clear hx6
        go_wp2_with fail
        go_roundg g2
        case measure => omega
        case rel =>
         refine ⟨q2 + 1, by go_num, by omega, HB2.out.alloc HB2.out.size _, HL2.out.alloc _, fun i y hi hy => ?_⟩
         by_cases h1 : i < q2
         ·exact HR2.out i y h1 hy
         ·obtain rfl : i = q2 := (by omega);rw [HXQ.out] at hy;obtain rfl : x = y := (by simpa using hy);exact .inr (.inr (.inr HXK.out))
       have v6 : (x.kind != 6) = true := (by simpa using hx6);clear hx6
       go_wp2_with fail
       go_ret;exact ⟨false, rfl, HB2.out.alloc HB2.out.size _, fun h => by cases h⟩
      ·obtain rfl : gk = 0 := (by omega);obtain rfl : q2 = t.kids.length := (by omega);clear hB2 hr2 hL2
       go_wp2_with fail
       go_ret;refine ⟨true, rfl, HB2.out, fun _ => HPP.out (.inr (.inl ⟨HKK.out, fun x hx => by obtain ⟨i, hi⟩ := List.getElem?_of_mem hx; exact HR2.out i x (List.getElem?_eq_some_iff.1 hi).1 hi⟩))⟩
    ·have HKK := Lib.hid hK;clear hK
     by_cases hl : t.kids.length = 2
     ·have l0 : ((t.kids.length : Int) == 2) = true := (by rw [hl]; rfl);have HLL := Lib.hid hl;clear hl
      by_cases hn0 : (t.name == [42, 42]) = true
      ·have hm0 : (t.name != [42, 42]) = false := by simp [bne, hn0]
       go_wp2_with fail
       go_ret;exact ⟨false, rfl, HQ.out.b, fun h => by cases h⟩
      have hm0 : (t.name != [42, 42]) = true := by simp [bne, hn0]
      by_cases hn1 : (t.name == [94]) = true
      ·have hm1 : (t.name != [94]) = false := by simp [bne, hn1]
       go_wp2_with fail
       go_ret;exact ⟨false, rfl, HQ.out.b, fun h => by cases h⟩
      have hm1 : (t.name != [94]) = true := by simp [bne, hn1]
      by_cases hn2 : (t.name == [109, 97, 116, 99, 104, 101, 115]) = true
      ·have hm2 : (t.name != [109, 97, 116, 99, 104, 101, 115]) = false := by simp [bne, hn2]
       go_wp2_with fail
       go_ret;exact ⟨false, rfl, HQ.out.b, fun h => by cases h⟩
      have hm2 : (t.name != [109, 97, 116, 99, 104, 101, 115]) = true := by simp [bne, hn2]
      go_wp2_with fail
      go_ret;exact ⟨_, rfl, HQ.out.b, fun h => HPP.out (.inr (.inr (.inr (.inl ⟨HKK.out, HLL.out⟩))))⟩
     ·have l0 : ((t.kids.length : Int) == 2) = false := beq_eq_false_iff_ne.2 (by omega);clear hl
      go_wp2_with fail
      go_ret;exact ⟨false, rfl, HQ.out.b, fun h => by cases h⟩
    ·have HKK := Lib.hid hK;clear hK
     by_cases hl : t.kids.length = 2
     ·have l0 : ((t.kids.length : Int) == 2) = true := (by rw [hl]; rfl);have HLL := Lib.hid hl;clear hl;cases hme : t.method with
      |true =>
       go_wp2_with fail
       go_ret;exact ⟨false, rfl, HQ.out.b, fun h => by cases h⟩
      |false =>
       cases hfl : t.flag with
       |true =>
        go_wp2_with fail
        go_ret;exact ⟨false, rfl, HQ.out.b, fun h => by cases h⟩
       |false =>
        have HMF := Lib.hid (And.intro hme hfl)
        go_wp2_with fail
        go_ret;exact ⟨_, rfl, HQ.out.b, fun h => HPP.out (.inr (.inr (.inr (.inr (.inl ⟨HKK.out, HLL.out, HMF.out.1, HMF.out.2⟩)))))⟩
     ·have l0 : ((t.kids.length : Int) == 2) = false := beq_eq_false_iff_ne.2 (by omega);clear hl
      go_wp2_with fail
      go_ret;exact ⟨false, rfl, HQ.out.b, fun h => by cases h⟩
    ·have HKK := Lib.hid hK;clear hK
     by_cases hl : t.kids.length = 3
     ·have l0 : ((t.kids.length : Int) == 3) = true := (by rw [hl]; rfl);have HLL := Lib.hid hl;clear hl
      go_wp2_with fail
      go_ret;exact ⟨_, rfl, HQ.out.b, fun h => HPP.out (.inr (.inr (.inr (.inr (.inr (.inr (.inl ⟨HKK.out, HLL.out⟩)))))))⟩
     ·have l0 : ((t.kids.length : Int) == 3) = false := beq_eq_false_iff_ne.2 (by omega);clear hl
      go_wp2_with fail
      go_ret;exact ⟨false, rfl, HQ.out.b, fun h => by cases h⟩
    iterate 2 focus
     have HKK := Lib.hid hK;clear hK
     by_cases hl : t.kids.length = 2
     ·have l0 : ((t.kids.length : Int) == 2) = true := (by rw [hl]; rfl);have HLL := Lib.hid hl;clear hl
      go_wp2_with fail
      go_ret;exact ⟨_, rfl, HQ.out.b, fun h => HPP.out (.inr (.inr (.inr (.inr (.inr (.inr (.inr (.inl ⟨by have := HKK.out; omega, HLL.out⟩))))))))⟩
     ·have l0 : ((t.kids.length : Int) == 2) = false := beq_eq_false_iff_ne.2 (by omega);clear hl
      go_wp2_with fail
      go_ret;exact ⟨false, rfl, HQ.out.b, fun h => by cases h⟩
    ·have HKK := Lib.hid hK;clear hK
     by_cases hl : 0 < t.kids.length
     ·have l0 : decide (0 < t.kids.length) = true := decide_eq_true hl;have l1 : decide ((0 : Int) < (t.kids.length : Int)) = true := decide_eq_true (by omega);have HLL := Lib.hid hl;clear hl
      go_wp2_with fail
      go_ret;exact ⟨_, rfl, HQ.out.b, fun h => HPP.out (.inr (.inr (.inr (.inr (.inr (.inr (.inr (.inr (.inl ⟨HKK.out, HLL.out⟩)))))))))⟩
     ·have l0 : decide (0 < t.kids.length) = false := decide_eq_false hl;have l1 : decide ((0 : Int) < (t.kids.length : Int)) = false := decide_eq_false (by omega);clear hl
      go_wp2_with fail
      go_ret;exact ⟨false, rfl, HQ.out.b, fun h => by cases h⟩
    ·have HKK := Lib.hid hK;clear hK
     go_wp2_with fail
     go_ret;exact ⟨_, rfl, HQ.out.b, fun h => HPP.out (.inr (.inr (.inr (.inr (.inr (.inr (.inr (.inr (.inr (.inl HKK.out))))))))))⟩
    ·clear hK
     go_wp2_with fail
     go_ret;exact ⟨false, rfl, HQ.out.b, fun h => by cases h⟩
mutual
theorem whole_ok : (t : Tr) → WhOk t
 |⟨a, b, c, d, e, f, g, h, ks, ms⟩ => whole_step _ fun x hx => wholes_ok ks x hx
theorem wholes_ok : (l : List Tr) → ∀ x ∈ l, WhOk x
 |[] => fun x h => by cases h
 |v :: l => fun x h => by
  rcases List.mem_cons.1 h with h | h
  ·rw [h]; exact whole_ok v
  ·exact wholes_ok l x h
end
end Go.Proofs.Ytafhhdimjkgihaa.Mn
