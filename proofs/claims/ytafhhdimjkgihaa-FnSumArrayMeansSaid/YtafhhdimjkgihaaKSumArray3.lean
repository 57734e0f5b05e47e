/- SumArray: what belongs to this law alone: part 3. -/
import Derived.Deep.QuietTactic
import Derived.BigQuiet
import Derived.Test.YtafhhdimjkgihaaM09
import Derived.Test.YtafhhdimjkgihaaKSumArray1
import Derived.Test.YtafhhdimjkgihaaM40
import Derived.Test.YtafhhdimjkgihaaKSumArray2
import Derived.Test.YtafhhdimjkgihaaM41
set_option linter.unusedSimpArgs false
set_option linter.unusedVariables false
namespace Go.Proofs.Ytafhhdimjkgihaa.Mn
section
attribute [local go_sem ↓] Go.wp_at_zero Go.wp_at_succ
open Go.RowKit
def Lft (L L' : Int) : Prop := (L < 0 → L' = L - 1) ∧ (0 ≤ L → -1 - 2345624805854 * (L + 1) ≤ L') ∧ L' ≤ L - 1
def Lf (lb : Nat) (L : Int) (t : Tr) (w : World) (e : Ending) (w' : World) : Prop :=
 ∃ i s fl L', e = .returned (.tuple #[.bool i, .bool s, .bool fl]) ∧ Ext (· = lb) w.heap.size w w' ∧ Lb w' lb [.int .i64 L'] 3 ∧ Lft L L' ∧ (0 ≤ L' → fl = false → NoFl t)
def LfOk (t : Tr) : Prop := ∀ (k : Nat → Prop) (lb : Nat) (L : Int) (f : Nat) (a : Option Addr) (c : Nat) (a' : Option Addr) (c' : Nat) (p q : Int) (w : World), k lb → Lb w lb [.int .i64 L] 3 → -4611686018427387904 ≤ L ∧ L ≤ 1000 → IsT w k t (tcells t f a c a' c' p q) →
 Calls Try.prog 44 #[ta t f a c a' c' p q, .pointer (some ⟨lb, 0, none⟩)] w (Lf lb L t w)
structure Ls (lb : Nat) (w : World) (l0 : List Value) (l : Int) (w' : World) : Prop where
 e : Ext (· = lb) w.heap.size w w'
 b0 : Lb w' w.heap.size l0 25
 l : Lb w' lb [.int .i64 l] 3
theorem Ls.below {lb : Nat} {w : World} {l0 : List Value} {l : Int} {w' w1 : World} (h : Ls lb w l0 l w') (hb : Below w'.heap.size w' w1) : Ls lb w l0 l w1 :=
 ⟨h.e.trans ((Ext.of hb).mono h.e.size), h.b0.below hb h.b0.lt, h.l.below hb h.l.lt⟩
structure LqN (lb : Nat) (w : World) (l0 : List Value) (rb : Nat) (row : List Value) (L l : Int) (d : Nat) (w' : World) : Prop where
 s : Ls lb w l0 l w'
 r : Lb w' rb row 23
 rw : w.heap.size ≤ rb
 hi : l ≤ L - 1
 lo : -1 - 2345624805854 * L - d ≤ l
theorem LqN.next {lb : Nat} {w : World} {l0 : List Value} {rb : Nat} {row : List Value} {L l : Int} {d : Nat} {w' : World} (h : LqN lb w l0 rb row L l d w') {o : Obj} {l5 : Int} {w5 : World} (hE : Ext (· = lb) (w'.alloc o).heap.size (w'.alloc o) w5) (hL : Lb w5 lb [.int .i64 l5] 3) (hb : Lft l l5) (hk : lb < w.heap.size) : LqN lb w l0 rb row L l5 (d + 1) w5 where
 s := ⟨h.s.e.trans ((((Ext.refl (· = lb) _ _).alloc (Nat.le_refl _) o).trans (hE.mono (by simp))).mono h.s.e.size), (h.s.b0.alloc o).ext hE (by have := h.s.b0.lt; simp; omega) (by omega), hL⟩
 r := (h.r.alloc o).ext hE (by have := h.r.lt; simp; omega) (by have := h.rw; omega)
 rw := h.rw
 hi := by have h1 := hb.2.2; have h2 := h.hi; omega
 lo := by
  have h1 := h.lo; have h2 := h.hi
  by_cases hl : l < 0
  ·have := hb.1 hl; omega
  ·have := hb.2.1 (by omega); omega
def NfJ (t : Tr) (j : Nat) : Prop := (t.kind ≠ 4 ∧ ¬ (t.kind = 10 ∧ t.name = nm "/")) ∧ (0 < j → ∀ x ∈ t.kids, NoFl x) ∧ (1 < j → ∀ x ∈ t.map, NoFl x)
set_option maxHeartbeats 25600000 in
set_option maxRecDepth 100000 in
theorem left_step (t : Tr) (ih : ∀ x ∈ t.kids, LfOk x) (ihm : ∀ x ∈ t.map, LfOk x) : LfOk t := by
 intro k lb L f a c a' c' p q0 w hk hl hL ht;have IH := Lib.hid (And.intro ih ihm); have HT := Lib.hid ht; have HK := Lib.hid hk; have HL := Lib.hid hl; have HLL := Lib.hid hL;have hil : t.kids.length ≤ 1172812402927 := ht.inv.2.2.2.2.2.1;have hml : t.map.length ≤ 1172812402927 := ht.inv.2.2.2.2.2.2.1;have zk : lb < w.heap.size := hl.lt;have c0 : w.cell? ⟨lb, 0, none⟩ = some (.int .i64 L) := hl.cell 0;have f0 : w.frozen? ⟨lb, 0, none⟩ = false := hl.frozen 0;have hw1 : IntKind.i64.wrap (L - 1) = L - 1 := by rw [IntKind.wrap_i64]; omega
 have hw2 : wrap64 (L - 1) = L - 1 := by unfold wrap64; omega
 clear ih ihm ht hk hl
 by_cases hn : L - 1 < 0
 ·have t0 : decide (L - 1 < 0) = true := decide_eq_true hn;go_enter Try.func44, Try.ntmps44
  go_wp2_with fail
  refine bodyPost_ret (v := .tuple #[.bool false, .bool false, .bool false]) (by simp [results, Try.results44, go_sem]; try rfl) rfl ?_;refine ⟨false, false, false, L - 1, rfl, ?_, ?_, ⟨fun _ => rfl, fun h => by omega, by omega⟩, fun h => by omega⟩
  ·exact ((Ext.refl (· = lb) _ _).setCell (.inl rfl) _).alloc (by simp) _
  ·have hq := (HL.out.set 0 (.int .i64 (L - 1))).alloc (.cells (tcells t f a c a' c' p q0).toArray 25);exact hq
 have t0 : decide (L - 1 < 0) = false := decide_eq_false hn;go_enter Try.func44, Try.ntmps44
 go_upto_region 4 with (fail)
 refine forget (fun w' => Ls lb w (tcells t f a c a' c' p q0) (L - 1) w') ?_ ?_
 ·exact ⟨((Ext.refl (· = lb) _ _).setCell (.inl rfl) _).alloc (by simp) _, Lb.new' _ _ _ (by simp), (HL.out.set 0 (.int .i64 (L - 1))).alloc (.cells (tcells t f a c a' c' p q0).toArray 25)⟩
 intro W hW
 go_cut [4, 5, 6] from 23 (fun s4 s5 s6 wx => ∃ i s fl, s4 = .bool i ∧ s5 = .bool s ∧ s6 = .bool fl ∧ (fl = false → t.kind ≠ 4 ∧ ¬ (t.kind = 10 ∧ t.name = nm "/")) ∧ Ls lb w (tcells t f a c a' c' p q0) (L - 1) wx)
 case first =>
  have HW := Lib.hid hW;have r0 := hW.b0.cell; have z0 := hW.b0.lt;unfold tcells at r0;clear hW c0 f0 hw1 hw2 t0;rcases (show t.kind = 17 ∨ t.kind = 4 ∨ t.kind = 10 ∨ t.kind ≠ 17 ∧ t.kind ≠ 4 ∧ t.kind ≠ 10 by omega) with hq | hq | hq | hq
  ·have HF := Lib.hid (show t.kind ≠ 4 ∧ ¬ (t.kind = 10 ∧ t.name = nm "/") from ⟨by omega, fun h => by omega⟩);have e17 : (t.kind == 17) = true := (by rw [hq]; rfl);have e4 : (t.kind == 4) = false := (by rw [beq_eq_false_iff_ne]; omega);have e10 : (t.kind == 10) = false := (by rw [beq_eq_false_iff_ne]; omega);clear hq
   go_quiet (fail)
   go_wp21;go_meet
   case rel => exact ⟨_, _, _, rfl, rfl, rfl, fun _ => HF.out, HW.out.below (below_drewN (Below.refl _ _) _)⟩
  ·have hq2 := hq;have e17 : (t.kind == 17) = false := (by rw [beq_eq_false_iff_ne]; omega);have e4 : (t.kind == 4) = true := (by rw [hq]; rfl);have e10 : (t.kind == 10) = false := (by rw [beq_eq_false_iff_ne]; omega);clear hq hq2
   go_quiet (fail)
   go_wp21;go_meet
   case rel => exact ⟨_, _, _, rfl, rfl, rfl, fun h => (by cases h), HW.out.below (below_drewN (Below.refl _ _) _)⟩
  ·have HQ := Lib.hid hq;have e17 : (t.kind == 17) = false := (by rw [beq_eq_false_iff_ne]; omega);have e4 : (t.kind == 4) = false := (by rw [beq_eq_false_iff_ne]; omega);have e10 : (t.kind == 10) = true := (by rw [hq]; rfl);clear hq
   by_cases n47 : (t.name == [47]) = true
   ·skip
    go_quiet (fail)
    go_wp21;go_meet
    case rel => exact ⟨_, _, _, rfl, rfl, rfl, fun h => (by cases h), HW.out.below (below_drewN (Below.refl _ _) _)⟩
   replace n47 : (t.name == [47]) = false := (by simpa using n47);have HF := Lib.hid (show t.kind ≠ 4 ∧ ¬ (t.kind = 10 ∧ t.name = nm "/") from ⟨by have := HQ.out; omega, fun h => by rw [h.2] at n47; exact absurd n47 (by decide)⟩);cases n42 : (t.name == [42, 42])
   all_goals
    go_quiet (fail)
    go_wp21;go_meet
    case rel => exact ⟨_, _, _, rfl, rfl, rfl, fun _ => HF.out, HW.out.below (below_drewN (Below.refl _ _) _)⟩
  ·have HF := Lib.hid (show t.kind ≠ 4 ∧ ¬ (t.kind = 10 ∧ t.name = nm "/") from ⟨by omega, fun h => by omega⟩);have e17 : (t.kind == 17) = false := (by rw [beq_eq_false_iff_ne]; omega);have e4 : (t.kind == 4) = false := (by rw [beq_eq_false_iff_ne]; omega);have e10 : (t.kind == 10) = false := (by rw [beq_eq_false_iff_ne]; omega);clear hq
   go_quiet (fail)
   go_wp21;go_meet
   case rel => exact ⟨_, _, _, rfl, rfl, rfl, fun _ => HF.out, HW.out.below (below_drewN (Below.refl _ _) _)⟩
 case rest =>
  obtain ⟨i0, s0, fl0, rfl, rfl, rfl, hF0, hC⟩ := hcut;have HC := Lib.hid hC; have HF0 := Lib.hid hF0;have r0 := hC.b0.cell; have z0 := hC.b0.lt;unfold tcells at r0;clear hW hC hF0 c0 f0 hw1 hw2 t0
  go_wp2_with fail
  refine forget (fun w' => LqN lb w (tcells t f a c a' c' p q0) wc.heap.size [.slice a t.kids.length c, .slice a' t.map.length c'] L (L - 1) 0 w') ?_ ?_
  ·exact ⟨HC.out.below (by go_grown), Lb.new' _ _ _ rfl, HC.out.e.size, by omega, by omega⟩
  intro W2 hW2;have HW2 := Lib.hid hW2;clear hW2 r0 z0
  go_loopg [4, 5, 6, 63] 2 (fun g s4 s5 s6 s63 wr => ∃ (j : Nat) (i s fl : Bool) (l : Int) (d : Nat), s4 = .bool i ∧ s5 = .bool s ∧ s6 = .bool fl ∧ s63 = .int .i64 j ∧ j + g = 2 ∧ d ≤ j * 1172812402927 ∧ LqN lb w (tcells t f a c a' c' p q0) wc.heap.size [.slice a t.kids.length c, .slice a' t.map.length c'] L l d wr ∧ (0 ≤ l → fl = false → NfJ t j))
  case atStart => exact ⟨0, _, _, _, L - 1, 0, rfl, rfl, rfl, rfl, by omega, by omega, HW2.out, fun _ h => ⟨HF0.out h, fun h => by omega, fun h => by omega⟩⟩
  case round =>
   obtain ⟨j, i, s, fl, l, d, rfl, rfl, rfl, rfl, hj, hd, hQ, hP⟩ := hrel;have HQ := Lib.hid hQ; have HP := Lib.hid hP;have z1 := hQ.r.lt
   by_cases hlt : 0 < gk
   ·obtain ⟨g, rfl⟩ : ∃ g, gk = g + 1 := ⟨gk - 1, by omega⟩;obtain ⟨ls, al, cl, rs, hrow, hts, hcell, hlen, hall, hwh⟩ : ∃ ls al cl rs, Row w k al rs ∧ IsTs w k ls rs ∧ wr.cell? ⟨wc.heap.size, j, none⟩ = some (.slice al ls.length cl) ∧ ls.length ≤ 1172812402927 ∧ (∀ x ∈ ls, LfOk x) ∧ (j = 0 ∧ ls = t.kids ∨ j = 1 ∧ ls = t.map) := by
     obtain ⟨_, _, _, _, _, _, _, ⟨ks, h1, h2⟩, ⟨ms, h3, h4⟩⟩ := HT.out.inv;rcases (show j = 0 ∨ j = 1 by omega) with rfl | rfl
     ·exact ⟨_, _, _, ks, h1, h2, by rw [hQ.r.cell]; rfl, hil, IH.out.1, .inl ⟨rfl, rfl⟩⟩
     ·exact ⟨_, _, _, ms, h3, h4, by rw [hQ.r.cell]; rfl, hml, IH.out.2, .inr ⟨rfl, rfl⟩⟩
    have HO := Lib.hid (And.intro hrow (And.intro hts (And.intro hall hwh)));have zj0 : (0 : Int) ≤ (j : Int) := (by omega);have zj1 : (j : Int) < 2 := (by omega);clear hQ hP hrow hts hall hwh hil hml HW2
    go_wp2_with fail
    refine forget (fun w' => w' = wr) rfl ?_;rintro W3 rfl;clear hcell
    go_loopg [4, 5, 6, 69] ls.length (fun g2 s4 s5 s6 s69 w3 => ∃ (q : Nat) (i s fl : Bool) (l : Int), s4 = .bool i ∧ s5 = .bool s ∧ s6 = .bool fl ∧ s69 = .int .i64 q ∧ q + g2 = ls.length ∧ LqN lb w (tcells t f a c a' c' p q0) wc.heap.size [.slice a t.kids.length c, .slice a' t.map.length c'] L l (d + q) w3 ∧ (0 ≤ l → fl = false → NfJ t j ∧ ∀ x ∈ ls.take q, NoFl x))
    case atStart => exact ⟨0, _, _, _, l, rfl, rfl, rfl, rfl, by omega, HQ.out, fun h1 h2 => ⟨HP.out h1 h2, by simp⟩⟩
    case round =>
     obtain ⟨q, i3, s3, fl3, l3, rfl, rfl, rfl, rfl, hq, hQ3, hP3⟩ := hrel;have HQ3 := Lib.hid hQ3; have HP3 := Lib.hid hP3;clear z1 HQ HP;have z1 := hQ3.r.lt
     by_cases hlt2 : 0 < gk
     ·obtain ⟨g2, rfl⟩ : ∃ g, gk = g + 1 := ⟨gk - 1, by omega⟩;have hql : q < ls.length := (by omega);obtain ⟨x, hx⟩ : ∃ x, ls[q]? = some x := ⟨ls[q], by simp⟩;obtain ⟨b, o, rfl⟩ := HO.out.1.some_of (HO.out.2.1.ne hql);obtain ⟨hkb, hbs, f3, a3, c3, a4, c4, p3, q3, hX, h12⟩ := IsTs.cells HO.out.1 HO.out.2.1 hx;have hbk : ¬ b = lb := fun h => hkb (by rw [h]; exact HK.out);have h12r := h12.ext hQ3.s.e hbs hbk;have d0 := h12r.c0; have d1 := h12r.c1; have d2 := h12r.c2; have d3 := h12r.c3; have d4 := h12r.c4; have d5 := h12r.c5; have d6 := h12r.c6; have d7 := h12r.c7; have d8 := h12r.c8; have d9 := h12r.c9; have d10 := h12r.c10; have d11 := h12r.c11;have hbr := Nat.lt_of_lt_of_le hbs hQ3.s.e.size;have zi0 : (0 : Int) ≤ (q : Int) := (by omega);have zi1 : (q : Int) < (ls.length : Int) := (by omega);have HX := Lib.hid hX; have HXQ := Lib.hid hx;have IHx := Lib.hid (HO.out.2.2.1 x (List.mem_of_getElem? hx))
      have hl3 : -4611686018427387904 ≤ l3 ∧ l3 ≤ 1000 := ⟨by have h1 := hQ3.lo; have h2 := HLL.out; omega, by have h1 := hQ3.hi; have h2 := HLL.out; omega⟩;have HL3 := Lib.hid hl3;clear hX h12 h12r hx hQ3 hP3 hl3
      go_wp2_with fail
      go_at_call 44;apply Calls.mono
      ·exact IHx.out k lb l3 _ _ _ _ _ _ _ _ HK.out (HQ3.out.s.l.alloc _) HL3.out ((HX.out.ext (HQ3.out.s.e.weak fun b hb => by rw [hb]; exact HK.out) (Nat.le_refl _)).ext (k := k) ((Ext.refl _ _ _).alloc (Nat.le_refl _) _) (Nat.le_refl _))
      rintro e w5 ⟨i5, s5, f5, l5, rfl, hE5, hL5, hb5, hn5⟩;have HQ5 := Lib.hid (HQ3.out.next hE5 hL5 hb5 zk);have HN5 := Lib.hid (show 0 ≤ l5 → fl3 = false → f5 = false → NfJ t j ∧ ∀ y ∈ ls.take (q + 1), NoFl y from fun h1 h2 h3 => by
       have h4 := HP3.out (by have := hb5.2.2; omega) h2;refine ⟨h4.1, fun y hy => ?_⟩;rw [List.take_add_one, HXQ.out] at hy;rcases List.mem_append.1 hy with hy | hy
       ·exact h4.2 y hy
       ·have : y = x := (by simpa using hy);rw [this]; exact hn5 h1 h3)
      clear hE5 hL5 hb5 hn5 d0 d1 d2 d3 d4 d5 d6 d7 d8 d9 d10 d11;cases i3 <;> cases s3 <;> cases fl3
      all_goals
       go_wp2_with fail
       go_roundg g2
       case measure => omega
       case rel => exact ⟨q + 1, _, _, _, l5, rfl, rfl, rfl, by go_num, by omega, HQ5.out, fun h1 h2 => (by first | exact HN5.out h1 rfl h2 | exact HN5.out h1 trivial h2 | exact HN5.out h1 h2 | exact absurd h2 (by decide))⟩
     ·obtain rfl : gk = 0 := (by omega);obtain rfl : q = ls.length := (by omega);clear hQ3 hP3;have hjw : wrap64 ((j : Int) + 1) = ((j + 1 : Nat) : Int) := by unfold wrap64; omega
      go_wp2_with fail
      go_roundg g
      case measure => omega
      case rel =>
       refine ⟨j + 1, _, _, _, l3, d + ls.length, rfl, rfl, rfl, by go_num, by omega, by omega, HQ3.out, fun h1 h2 => ?_⟩;have h3 := HP3.out h1 h2;have h4 : ∀ x ∈ ls, NoFl x := fun x hx => h3.2 x (by rw [List.take_of_length_le (Nat.le_refl _)]; exact hx);refine ⟨h3.1.1, ?_, ?_⟩
       ·rcases HO.out.2.2.2 with ⟨h5, h6⟩ | ⟨h5, h6⟩
        ·intro _; rw [← h6]; exact h4
        ·intro _; exact h3.1.2.1 (by omega)
       ·rcases HO.out.2.2.2 with ⟨h5, h6⟩ | ⟨h5, h6⟩
        ·intro h; omega
        ·intro _; rw [← h6]; exact h4
   ·obtain rfl : gk = 0 := (by omega);obtain rfl : j = 2 := (by omega);clear hQ hP
    go_wp2_with fail
    refine bodyPost_ret (v := .tuple #[.bool i, .bool s, .bool fl]) (by simp [results, Try.results44, go_sem]; try rfl) rfl ?_;exact ⟨i, s, fl, l, rfl, HQ.out.s.e, HQ.out.s.l, ⟨fun h => by omega, fun h => by have h1 := HQ.out.lo; omega, by have h1 := HQ.out.hi; omega⟩, fun h1 h2 => .mk t (HP.out h1 h2).1.1 (HP.out h1 h2).1.2 ((HP.out h1 h2).2.1 (by omega)) ((HP.out h1 h2).2.2 (by omega))⟩
mutual
theorem left_ok : (t : Tr) → LfOk t
 |⟨a, b, c, d, e, f, g, h, ks, ms⟩ => left_step _ (fun x hx => lefts_ok ks x hx) (fun x hx => lefts_ok ms x hx)
theorem lefts_ok : (l : List Tr) → ∀ x ∈ l, LfOk x
 |[] => fun x h => by cases h
 |v :: l => fun x h => by
  rcases List.mem_cons.1 h with h | h
  ·rw [h]; exact left_ok v
  ·exact lefts_ok l x h
end
def BlQ (P : Prop) (w : World) (e : Ending) (w' : World) : Prop := ∃ b, e = .returned (.bool b) ∧ Below w.heap.size w w' ∧ (b = false → P)
set_option maxHeartbeats 6400000 in
set_option maxRecDepth 100000 in
theorem lefttree_any (t : Tr) (k : Nat → Prop) (f : Nat) (a : Option Addr) (c : Nat) (a' : Option Addr) (c' : Nat) (p q0 : Int) (w : World) (ht : IsT w k t (tcells t f a c a' c' p q0)) :
 Calls Try.prog 25 #[.string { data := #[70, 110, 83, 117, 109, 65, 114, 114, 97, 121, 77, 101, 97, 110, 115] }, ta t f a c a' c' p q0] w (BlQ (NoFl t) w) := by
 have HT := Lib.hid ht;clear ht;go_enter Try.func25, Try.ntmps25
 go_wp2_with fail
 go_at_call 44;apply Calls.mono
 ·exact left_ok t (fun b => b = w.heap.size + 1) (w.heap.size + 1) 1000 _ _ _ _ _ _ _ _ rfl (Lb.new' _ _ _ (by simp)) ⟨by omega, by omega⟩ ((HT.out.other fun b hb => .inr (by omega)).ext (B := w.heap.size) (((Ext.refl _ _ _).alloc (Nat.le_refl _) _).alloc (by simp) _) (Nat.le_refl _))
 rintro e w1 ⟨i, s, fl, L', rfl, hE, hL, hb, hn⟩;have hB : Below w.heap.size w w1 := (show Below w.heap.size w ((w.alloc (.cells (tcells t f a c a' c' p q0).toArray 25)).alloc (.cells #[.int .i64 1000] 3)) from by go_grown).trans ⟨hE.os, hE.tape, hE.output, hE.size, fun y hy => hE.block y (by simp; omega) (by omega)⟩;have HB := Lib.hid hB; have HN := Lib.hid hn;have l0 := hL.cell; have lz := hL.lt;clear hE hL hb hn hB
 by_cases hl : L' < 0
 ·have t0 : decide (L' < 0) = true := decide_eq_true hl;clear hl
  (simp only []; go_at_K)
  go_wp2_with fail
  refine bodyPost_ret (v := .bool true) (by first | rfl | (simp [results, Try.results25, go_sem]; try rfl)) rfl ?_;exact ⟨true, rfl, HB.out, fun h => by cases h⟩
 ·have t0 : decide (L' < 0) = false := decide_eq_false hl;have HL := Lib.hid (show 0 ≤ L' by omega);clear hl
  (simp only []; go_at_K)
  go_wp2_with fail
  refine bodyPost_ret (v := .bool fl) (by first | rfl | (simp [results, Try.results25, go_sem]; try rfl)) rfl ?_;exact ⟨fl, rfl, HB.out, fun h => HN.out HL.out h⟩
end
section
attribute [local go_sem ↓] Go.wp_at_zero Go.wp_at_succ
open Go.RowKit
def FlOk (v : Vl) : Prop := ∀ (k : Nat → Prop) (f : Nat) (a : Option Addr) (c : Nat) (a' : Option Addr) (c' : Nat) (w : World), IsR w k v (vcells v f a c a' c') →
 Calls Try.prog 45 #[va v f a c a' c'] w (fun e w' => ∃ b, e = .returned (.bool b) ∧ Below w.heap.size w w' ∧ (b = false → NoF v))
set_option maxHeartbeats 3200000 in
set_option maxRecDepth 100000 in
theorem floaty_step (v : Vl) (ih : ∀ x ∈ v.items, FlOk x) : FlOk v := by
 intro k f a c a' c' w hv;have IH := Lib.hid ih; have HV := Lib.hid hv;have hil : v.items.length ≤ 8796093021952 := hv.inv.2.1;clear ih hv;go_enter Try.func45, Try.ntmps45
 go_wp2_with fail
 refine forget (fun w' => Below w.heap.size w w' ∧ Lb w' w.heap.size (vcells v f a c a' c') 39) ?_ ?_
 ·exact ⟨by go_grown, Lb.new' _ _ _ rfl⟩
 intro W hW;have HW := Lib.hid hW;clear hW
 go_loopg [8] v.items.length (fun g i wr => ∃ q : Nat, i = .int .i64 q ∧ q + g = v.items.length ∧ Below w.heap.size w wr ∧ Lb wr w.heap.size (vcells v f a c a' c') 39 ∧ ∀ x ∈ v.items.take q, NoF x)
 case atStart => exact ⟨0, rfl, by omega, HW.out.1, HW.out.2, by simp⟩
 case round =>
  obtain ⟨q, rfl, hq, hB, hL, hN⟩ := hrel;clear HW;have HB := Lib.hid hB; have HL := Lib.hid hL; have HN := Lib.hid hN;have z0 := hL.lt;have r0 := hL.cell;unfold vcells at r0
  by_cases hlt : 0 < gk
  ·obtain ⟨g, rfl⟩ : ∃ g, gk = g + 1 := ⟨gk - 1, by omega⟩;have hql : q < v.items.length := (by omega);obtain ⟨x, hx⟩ : ∃ x, v.items[q]? = some x := ⟨v.items[q], by simp⟩;obtain ⟨_, _, _, _, ⟨its, hri, hsi⟩, hrk⟩ := HV.out.inv;obtain ⟨b, o, rfl⟩ := hri.some_of (hsi.ne hql);obtain ⟨hkb, hbs, f3, a3, c3, a4, c4, hX, h7⟩ := IsRs.cells hri hsi hx;have h7r := h7.ext (k := fun _ => False) (.of hB) hbs id;have d0 := h7r.c0; have d1 := h7r.c1; have d2 := h7r.c2; have d3 := h7r.c3; have d4 := h7r.c4; have d5 := h7r.c5; have d6 := h7r.c6;have hbr : b < wr.heap.size := Nat.lt_of_lt_of_le hbs hB.size;have zi0 : (0 : Int) ≤ (q : Int) := (by omega);have zi1 : (q : Int) < (v.items.length : Int) := (by omega);have HX := Lib.hid hX; have HXQ := Lib.hid hx;have IHx := Lib.hid (IH.out x (List.mem_of_getElem? hx));clear hX h7 h7r hx hri hsi hrk hB hL hN
   go_wp2_with fail
   go_at_call 45;apply Calls.mono
   ·exact IHx.out k _ _ _ _ _ _ ((HX.out.ext (.of HB.out) (Nat.le_refl _)).ext (k := k) ((Ext.refl _ _ _).alloc (Nat.le_refl _) _) (Nat.le_refl _))
   rintro e w5 ⟨is, rfl, hb5, hr5⟩;have HB5 := Lib.hid (show Below w.heap.size w w5 from (HB.out.alloc HB.out.size _).trans (hb5.mono (by have := HB.out.size; simp; omega)));have HL5 := Lib.hid ((HL.out.alloc _).below hb5 (by simp; omega));have HR5 := Lib.hid hr5;clear hb5 hr5 d0 d1 d2 d3 d4 d5 d6 r0;cases is with
   |true =>
    go_wp21;go_ret;exact ⟨true, rfl, HB5.out, fun h => by cases h⟩
   |false =>
    go_wp2_with fail
    go_roundg g
    case measure => omega
    case rel =>
     refine ⟨q + 1, by go_num, by omega, HB5.out, HL5.out, fun y hy => ?_⟩;rw [List.take_add_one, HXQ.out] at hy;rcases List.mem_append.1 hy with hy | hy
     ·exact HN.out y hy
     ·have : y = x := (by simpa using hy);rw [this]; exact HR5.out (by first | rfl | trivial)
  ·obtain rfl : gk = 0 := (by omega);obtain rfl : q = v.items.length := (by omega);clear hB hL hN;go_wp21;go_ret;exact ⟨v.kind == 2, rfl, HB.out, fun h => .mk v (by simpa using h) fun x hx => HN.out x (by rw [List.take_of_length_le (Nat.le_refl _)]; exact hx)⟩
mutual
theorem floaty_ok : (v : Vl) → FlOk v
 |⟨k, i, f, t, b, its, ks⟩ => floaty_step _ fun x hx => floatys_ok its x hx
theorem floatys_ok : (l : List Vl) → ∀ x ∈ l, FlOk x
 |[] => fun x h => by cases h
 |v :: l => fun x h => by
  rcases List.mem_cons.1 h with h | h
  ·rw [h]; exact floaty_ok v
  ·exact floatys_ok l x h
end
end
section
attribute [local go_sem ↓] Go.wp_at_zero Go.wp_at_succ
open Go.RowKit
def BlR (P : Prop) (w : World) (e : Ending) (w' : World) : Prop := ∃ b, e = .returned (.bool b) ∧ Below w.heap.size w w' ∧ (b = true → P)
set_option maxHeartbeats 6400000 in
set_option maxRecDepth 100000 in
theorem sumless_any (t : Tr) (k : Nat → Prop) (names : List (Nm × Vl)) (an : Option Addr) (cn : Nat) (ncs : List Value) (f : Nat) (a : Option Addr) (c : Nat) (a' : Option Addr) (c' : Nat) (p0 q0 : Int) (w : World) (hn : names.length ≤ most) (hr : Row w k an ncs) (hs : IsRn w k names ncs) (ht : IsT w k t (tcells t f a c a' c' p0 q0)) :
 Calls Try.prog 26 #[ta t f a c a' c' p0 q0, .slice an names.length cn] w (BlR (NoSum t ∨ ∀ p ∈ names, NoF p.2) w) := by
 have HT := Lib.hid ht; have HR := Lib.hid (And.intro hr hs);unfold most at hn;clear ht hr hs;go_enter Try.func26, Try.ntmps26
 go_wp2_with fail
 refine forget (fun w' => Below w.heap.size w w' ∧ Lb w' w.heap.size (tcells t f a c a' c' p0 q0) 25) ?_ ?_
 ·exact ⟨by go_grown, Lb.new' _ _ _ rfl⟩
 intro W hW;have HW := Lib.hid hW;clear hW
 go_loopg [9] names.length (fun g i wr => ∃ q : Nat, i = .int .i64 q ∧ q + g = names.length ∧ Below w.heap.size w wr ∧ Lb wr w.heap.size (tcells t f a c a' c' p0 q0) 25 ∧ ∀ p ∈ names.take q, NoF p.2)
 case atStart => exact ⟨0, rfl, by omega, HW.out.1, HW.out.2, fun p hp => by simp at hp⟩
 case round =>
  obtain ⟨q, rfl, hq, hB, hL, hP⟩ := hrel;have HB := Lib.hid hB; have HP := Lib.hid hP; have HL := Lib.hid hL;have z0 := hL.lt
  by_cases hlt : 0 < gk
  ·obtain ⟨g, rfl⟩ : ∃ g, gk = g + 1 := ⟨gk - 1, by omega⟩;have hql : q < names.length := (by omega);obtain ⟨p, hp⟩ : ∃ x, names[q]? = some x := ⟨names[q], by simp⟩;obtain ⟨b, o, rfl⟩ := HR.out.1.some_of (HR.out.2.ne hql);obtain ⟨hkb, hbs, hc, fv, av, cv, av', cv', hX, h7⟩ := IsRn.cells HR.out.1 HR.out.2 hp;have h7r := h7.ext (k := fun _ => False) (.of hB) hbs id;have dk : wr.cell? ⟨b, o + q * 8, none⟩ = some (.string (str p.1)) := (hB.cell (p := ⟨b, o + q * 8, none⟩) hbs).trans hc;have d0 := h7r.c0; have d1 := h7r.c1; have d2 := h7r.c2; have d3 := h7r.c3; have d4 := h7r.c4; have d5 := h7r.c5; have d6 := h7r.c6;have hbr : b < wr.heap.size := (by have := hB.size; omega);have zi0 : (0 : Int) ≤ (q : Int) := (by omega);have zi1 : (q : Int) < (names.length : Int) := (by omega);have HX := Lib.hid (show ∀ w', Below w.heap.size w w' → IsR w' k p.2 (vcells p.2 fv av cv av' cv') from fun w' hb => hX.ext (.of hb) (Nat.le_refl _))
   have HPQ := Lib.hid hp;clear hB hL hP hp hc hX h7 h7r HW
   go_wp2_with fail
   go_at_call 45;apply Calls.mono
   ·exact floaty_ok p.2 k fv av cv av' cv' _ (HX.out _ (HB.out.alloc HB.out.size _))
   rintro e w5 ⟨is, rfl, hb5, hr5⟩;have HB5 := Lib.hid (show Below w.heap.size w w5 from (HB.out.alloc HB.out.size _).trans (hb5.mono (by have := HB.out.size; simp; omega)));have HL5 := Lib.hid ((HL.out.alloc _).below hb5 (by simp; omega));have HR5 := Lib.hid hr5;clear hb5 hr5 d0 d1 d2 d3 d4 d5 d6 dk;cases is with
   |true =>
    have r0 := HL5.out.cell; have z5 := HL5.out.lt;unfold tcells at r0
    go_wp2_with fail
    go_at_call 46;apply Calls.mono
    ·exact sums_ok t k _ _ _ _ _ _ _ _ (HT.out.ext (.of HB5.out) (Nat.le_refl _))
    rintro e w6 ⟨b6, rfl, hb6, hr6⟩;have HB6 := Lib.hid (HB5.out.trans (hb6.mono HB5.out.size)); have HR6 := Lib.hid hr6;clear hb6 hr6
    (simp only []; go_at_K)
    go_wp2_with fail
    refine bodyPost_ret (v := .bool (!b6)) (by first | rfl | (simp [results, Try.results26, go_sem]; try rfl)) rfl ?_;exact ⟨!b6, rfl, HB6.out, fun h => .inl (HR6.out (by simpa using h))⟩
   |false =>
    go_wp2_with fail
    go_roundg g
    case measure => omega
    case rel =>
     refine ⟨q + 1, by go_num, by omega, HB5.out, HL5.out, fun y hy => ?_⟩;rw [List.take_add_one, HPQ.out] at hy;rcases List.mem_append.1 hy with hy | hy
     ·exact HP.out y hy
     ·have : y = p := (by simpa using hy);rw [this]; exact HR5.out (by first | rfl | trivial)
  ·obtain rfl : gk = 0 := (by omega);obtain rfl : q = names.length := (by omega);have r0 := hL.cell;unfold tcells at r0;clear hB hL hP HW
   go_wp2_with fail
   go_at_call 46;apply Calls.mono
   ·exact sums_ok t k _ _ _ _ _ _ _ _ (HT.out.ext (.of HB.out) (Nat.le_refl _))
   rintro e w6 ⟨b6, rfl, hb6, hr6⟩;have HB6 := Lib.hid (HB.out.trans (hb6.mono HB.out.size)); have HL6 := Lib.hid (HL.out.below hb6 HL.out.lt); have HR6 := Lib.hid hr6;clear hb6 hr6 r0;have r0 := HL6.out.cell; have z6 := HL6.out.lt;unfold tcells at r0;cases b6 with
   |false =>
    (simp only []; go_at_K)
    go_wp2_with fail
    refine bodyPost_ret (v := .bool true) (by first | rfl | (simp [results, Try.results26, go_sem]; try rfl)) rfl ?_;exact ⟨true, rfl, HB6.out, fun _ => .inl (HR6.out (by first | rfl | trivial))⟩
   |true =>
    (simp only []; go_at_K)
    go_wp2_with fail
    go_at_call 47;apply Calls.mono
    ·exact real_ok t k _ _ _ _ _ _ _ _ (HT.out.ext (.of HB6.out) (Nat.le_refl _))
    rintro e w7 ⟨b7, rfl, hb7, -⟩;have HB7 := Lib.hid (HB6.out.trans (hb7.mono HB6.out.size));clear hb7
    (simp only []; go_at_K)
    go_wp2_with fail
    refine bodyPost_ret (v := .bool (!b7)) (by first | rfl | (simp [results, Try.results26, go_sem]; try rfl)) rfl ?_;exact ⟨!b7, rfl, HB7.out, fun _ => .inr fun p hp => HP.out p (by rw [List.take_length]; exact hp)⟩
end
end Go.Proofs.Ytafhhdimjkgihaa.Mn
