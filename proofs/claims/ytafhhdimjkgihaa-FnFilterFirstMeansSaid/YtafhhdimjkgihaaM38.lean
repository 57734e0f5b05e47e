/- What the program does, function by function, and what trees mean: part 38. -/
import Derived.Deep.CutRange
import Derived.Test.YtafhhdimjkgihaaM37
import Derived.Test.YtafhhdimjkgihaaM23
set_option linter.unusedSimpArgs false
set_option linter.unusedVariables false
namespace Go.Proofs.Ytafhhdimjkgihaa.Mn
attribute [local go_sem ↓] Go.wp_at_zero Go.wp_at_succ
open Go.RowKit
theorem eval_pv {k : Nat → Prop} {wk : Nat} {env : Env} {m : Nat} {an : Option Addr} {cn : Nat} {ai : Option Addr} {ni ci : Nat} {left0 : Int} {over0 : Bool} {w W w' : World} {left : Int} {over : Bool} (hp : Pre k wk env m an cn ai ni ci left0 over0 w) (e0 : Ext (· = wk) w.heap.size w W) (h : Sv wk left over W w')
 (hm0 : over = false → over0 = false ∧ left ≤ left0) {t : Tr} (hok : EvalOk t) {f : Nat} {a : Option Addr} {c : Nat} {a' : Option Addr} {c' : Nat} {p q : Int} (ht : IsT w k t (tcells t f a c a' c' p q)) :
 Calls Try.prog 50 #[sa env.names.length wk an cn ai ni ci, ta t f a c a' c' p q] w' fun e w2 => ∃ x f a c a' c' ok left2 over2, e = .returned (.tuple #[va x f a c a' c', .bool ok]) ∧ Ext (· = wk) w'.heap.size w' w2 ∧ Work w2 wk left2 over2 ∧ (over2 = false → over = false ∧ left2 ≤ left) ∧
  IsV w2 (Xl k w.heap.size w'.heap.size) x (vcells x f a c a' c') ∧ (over2 = false → (D t).val env = if ok then some x else none) ∧ Sv wk left over W w2 := by
 obtain ⟨left', over', hw, hm⟩ := h.work;have e2 : Ext (· = wk) w.heap.size w w' := e0.trans (h.p.mono e0.size);have hz := e2.size;have hP : Pre (Xl k w.heap.size w'.heap.size) wk env m an cn ai ni ci left' over' w' := hp.next e2 (fun b h => .inl h) (fun b h => h.imp id (·.1)) (fun b h => by rcases h with h | h; (have := hp.lt b h; omega); exact h.2) hw (fun ho => by have h1 := hm ho; have h2 := hm0 h1.1; exact ⟨h2.1, by omega⟩)
 have hT : IsT w' (Xl k w.heap.size w'.heap.size) t (tcells t f a c a' c' p q) := (ht.other fun b h => h.imp id (·.1)).ext (e2.weak fun b hb => by rw [hb]; exact .inl hp.kw) (Nat.le_refl _);refine (hok.calls hP hT).mono ?_;rintro e w2 ⟨x, f4, a4, c4, a5, c5, ok, left2, over2, he, hE, hW2, hm2, hV, hr2⟩;have hm3 := mono_trans hm hm2;exact ⟨x, f4, a4, c4, a5, c5, ok, left2, over2, he, hE, hW2, hm3, hV, hr2, h.call hE hW2 hm3⟩
theorem pairs_nil (env : Env) (out : Vl) : pairs env out [] = some out := rfl
theorem pairs_cons (env : Env) (out : Vl) (d : Dn) (l : List Dn) : pairs env out (d :: l) = match d.pair with
 |none => .none
 |some (k, v) => (pr (k env) (v env)).bind fun p => if p.1.kind = 3 then pairs env (setV out p.1.text p.2) l else .none := rfl
theorem pair_none (t : Tr) (h : ¬ (t.kind = 23 ∧ t.kids.length = 2)) : (D t).pair = none := by
 rw [D_eq];show (if t.kind = 23 then twoOf (Ds t.kids) else none) = none
 by_cases h1 : t.kind = 23
 ·rw [if_pos h1, Ds_eq]
  match hk : t.kids with
  |[] => rfl
  |[a] => rfl
  |[a, b] => exact absurd ⟨h1, by rw [hk]; rfl⟩ h
  |a :: b :: c :: l => rfl
 ·rw [if_neg h1]
theorem pair_some (t t1 t2 : Tr) (h1 : t.kind = 23) (h2 : t.kids = [t1, t2]) : (D t).pair = some ((D t1).val, (D t2).val) := by
 rw [D_eq];show (if t.kind = 23 then twoOf (Ds t.kids) else none) = _;rw [if_pos h1, h2, Ds_eq]; rfl
theorem setV_len (v : Vl) (key : Nm) (x : Vl) (h : v.keys.length = v.items.length) : (setV v key x).keys.length = (setV v key x).items.length ∧ (setV v key x).items.length ≤ v.items.length + 1 := by
 rw [setV_eq v key x h]
 by_cases hk : key ∈ v.keys
 ·simp only [hk, if_true, List.append_nil, List.length_map, List.length_zip]; omega
 ·simp only [hk, if_false, List.length_append, List.length_map, List.length_zip, List.length_singleton]; omega
structure Ph (k : Nat → Prop) (wk : Nat) (env : Env) (sc tn : List Value) (ts : List Tr) (left : Int) (w : World) (q : Nat) (out : Vl) (fo : Nat) (ao : Option Addr) (co : Nat) (ao' : Option Addr) (co' : Nat) (left' : Int) (over' : Bool) (wr : World) : Prop where
 f : F3 w wk sc tn zcells 62 25 39 wr
 o : Lb wr (w.heap.size + 1 + 1 + 1) (vcells out fo ao co ao' co') 39
 work : Work wr wk left' over'
 mono : over' = false → left' ≤ left
 vo : IsV wr (fun b => k b ∨ b = w.heap.size + 1 + 1 ∨ b = w.heap.size + 1 + 1 + 1) out (vcells out fo ao co ao' co')
 len : out.keys.length = out.items.length
 nq : out.items.length ≤ q
 mean : over' = false → pairs env { kind := 6 } (Ds ts) = pairs env out (Ds (ts.drop q))
theorem Ph.ext {k : Nat → Prop} {wk : Nat} {env : Env} {sc tn : List Value} {ts : List Tr} {left : Int} {w : World} {q : Nat} {out : Vl} {fo : Nat} {ao : Option Addr} {co : Nat} {ao' : Option Addr} {co' : Nat} {left' : Int} {over' : Bool} {wr w1 : World} (h : Ph k wk env sc tn ts left w q out fo ao co ao' co' left' over' wr) (hk : k wk) (zk : wk < w.heap.size)
 (e : Ext (· = wk) wr.heap.size wr w1) {left2 : Int} {over2 : Bool} (hw : Work w1 wk left2 over2) (hm : over2 = false → over' = false ∧ left2 ≤ left') : Ph k wk env sc tn ts left w q out fo ao co ao' co' left2 over2 w1 where
 f := h.f.call e zk
 o := h.o.ext e h.o.lt (by omega)
 work := hw
 mono := fun ho => by have h1 := hm ho; have h2 := h.mono h1.1; omega
 vo := h.vo.ext (e.weak fun b hb => by rw [hb]; exact .inl hk) (Nat.le_refl _)
 len := h.len
 nq := h.nq
 mean := fun ho => h.mean (hm ho).1
set_option maxHeartbeats 6400000 in
set_option maxRecDepth 100000 in
theorem pairs_any (t : Tr) (hok : ∀ pt ∈ t.kids, ∀ t1 ∈ pt.kids, EvalOk t1) (k : Nat → Prop) (wk : Nat) (env : Env) (m : Nat) (an : Option Addr) (cn : Nat) (ai : Option Addr) (ni ci : Nat) (left : Int) (f : Nat) (a : Option Addr) (c : Nat) (a' : Option Addr) (c' : Nat) (p q0 : Int) (w : World)
 (hp : Pre k wk env m an cn ai ni ci left false w) (ht : IsT w k t (tcells t f a c a' c' p q0)) :
 Calls Try.prog 70 #[sa env.names.length wk an cn ai ni ci, ta t f a c a' c' p q0] w (Evd k wk left false (pairs env { kind := 6 } (Ds t.kids)) w) := by
 have zk : wk < w.heap.size := hp.lt wk hp.kw;have hn : t.kids.length ≤ 1172812402927 := ht.inv.2.2.2.2.2.1;have HP := Lib.hid hp; have HT := Lib.hid ht; have HOK := Lib.hid hok;clear hp ht hok;go_enter Try.func70, Try.ntmps70
 go_wp2_with fail
 refine forget (fun w' => Ph k wk env [.slice an env.names.length cn, .slice ai ni ci, .pointer (some ⟨wk, 0, none⟩)] (tcells t f a c a' c' p q0) t.kids left w 0 { kind := 6 } 0 none 0 none 0 left false w') ?_ ?_
 ·exact ⟨⟨.of (by go_grown), (((Lb.new _ _ _).alloc _).alloc _).alloc _, ((Lb.new' _ _ _ (by simp)).alloc _).alloc _, (Lb.new' _ _ _ (by simp)).alloc _⟩, Lb.new' _ _ _ (by simp), (((HP.out.work.alloc _).alloc _).alloc _).alloc _, fun _ => Int.le_refl _, IsV.flat _ _ _ _ cn_zero (show I64 6 from ⟨by omega, by omega⟩) .zero (by simp) rfl rfl, rfl, Nat.le_refl _, fun _ => rfl⟩
 intro W hW;have HW := Lib.hid hW;clear hW
 go_loopg [17] t.kids.length (fun g i wr => ∃ q : Nat, i = .int .i64 q ∧ q + g = t.kids.length ∧ ∃ out fo ao co ao' co' left' over', Ph k wk env [.slice an env.names.length cn, .slice ai ni ci, .pointer (some ⟨wk, 0, none⟩)] (tcells t f a c a' c' p q0) t.kids left w q out fo ao co ao' co' left' over' wr)
 case atStart => exact ⟨0, rfl, by omega, _, _, _, _, _, _, _, _, HW.out⟩
 case round =>
  obtain ⟨q, rfl, hq, out, fo, ao, co, ao', co', lr, ovr, hM⟩ := hrel;clear HW
  by_cases hlt : 0 < gk
  ·obtain ⟨g, rfl⟩ : ∃ g, gk = g + 1 := ⟨gk - 1, by omega⟩;have hql : q < t.kids.length := (by omega);obtain ⟨pt, hpt⟩ : ∃ x, t.kids[q]? = some x := ⟨t.kids[q], by simp⟩;obtain ⟨b, o, rfl, hkb, hbs, f3, a3, c3, a4, c4, p3, q3, hPT, h12⟩ := kid_at HT.out hpt;have hbk : ¬ b = wk := fun h => hkb (by rw [h]; exact HP.out.kw);have h12r := h12.ext hM.f.ext hbs hbk;have d0 := h12r.c0; have d1 := h12r.c1; have d2 := h12r.c2; have d3 := h12r.c3; have d4 := h12r.c4; have d5 := h12r.c5; have d6 := h12r.c6; have d7 := h12r.c7; have d8 := h12r.c8; have d9 := h12r.c9; have d10 := h12r.c10; have d11 := h12r.c11;have r1 := hM.f.b1.cell; have r2 := hM.f.b2.cell; have g2 := hM.f.b2.frozen;have x0 : w.heap.size + 1 + 1 < wr.heap.size := hM.f.size;have x1 : w.heap.size + 1 < wr.heap.size := (by omega);have x2 : w.heap.size < wr.heap.size := (by omega);have x3 := hM.o.lt;have xb : b < wr.heap.size := by omega
   have hqI0 : (0 : Int) ≤ (q : Int) := (by omega);have hqI1 : (q : Int) < (t.kids.length : Int) := (by omega);unfold zcells at r2;have HM := Lib.hid hM; have HPT := Lib.hid hPT; have HMEM := Lib.hid (List.mem_of_getElem? hpt); have HD := Lib.hid hpt;clear hM hPT h12 h12r hpt r1
   by_cases h23 : pt.kind = 23
   ·have k23 : (pt.kind != 23) = false := (by simpa using h23);have H23 := Lib.hid h23;clear h23
    go_wp2_with fail
    go_at_call 67;refine (kids_any _ _ _ _ _ _ _ _ _ _).mono ?_;rintro e w1 ⟨rfl, hb1⟩;have hM1 := HM.out.ext HP.out.kw zk (w1 := w1) (.of (Below.trans (by go_grown) (hb1.mono (by simp)))) ((HM.out.work.alloc _).below hb1 (by simp; omega)) mono_refl;have L8 : Lb w1 wr.heap.size (tcells pt f3 a3 c3 a4 c4 p3 q3) 25 := (Lb.new' _ _ _ rfl).below hb1 (by simp);have r2 := hM1.f.b2.cell; have g2 := hM1.f.b2.frozen;have x0 : w.heap.size + 1 + 1 < w1.heap.size := hM1.f.size;unfold zcells at r2;have HM1 := Lib.hid hM1; have HL8 := Lib.hid L8;clear hM1 L8 hb1 d0 d1 d2 d3 d4 d5 d6 d7 d8 d9 d10 d11
    by_cases h2 : pt.kids.length = 2
    ·have kl : ((pt.kids.length : Int) == 2) = true := (by rw [h2]; rfl);obtain ⟨t1, t2, hk⟩ : ∃ t1 t2, pt.kids = [t1, t2] := by
      match h : pt.kids, h2 with
      |[x, y], _ => exact ⟨x, y, rfl⟩
     have HK := Lib.hid hk;have hkl0 : 0 < pt.kids.length := (by omega);have hkl1 : (1 : Int) < (pt.kids.length : Int) := (by omega);obtain ⟨bk, ok0, rfl, hkb2, hbs2, u1, u2, u3, u4, u5, u6, u7, hT1, hc1⟩ := kid_at HPT.out (j := 0) (t1 := t1) (by rw [hk]; rfl);obtain ⟨hkb3, hbs3, v1, v2, v3, v4, v5, v6, v7, hT2, hc2⟩ := kid_in HPT.out (j := 1) (t1 := t2) (by rw [hk]; rfl);rw [Nat.zero_mul, Nat.add_zero] at hc1;replace hc2 : C12 w bk (ok0 + 12) t2 v1 v2 v3 v4 v5 v6 v7 := hc2;have hbk2 : ¬ bk = wk := fun h => hkb2 (by rw [h]; exact HP.out.kw);have HT1 := Lib.hid hT1; have HT2 := Lib.hid hT2; have HC1 := Lib.hid hc1; have HC2 := Lib.hid hc2;have HO1 := Lib.hid (HOK.out pt HMEM.out t1 (by rw [hk]; simp)); have HO2 := Lib.hid (HOK.out pt HMEM.out t2 (by rw [hk]; simp));clear hT1 hT2 hc1 hc2 hk h2 r2 g2 x0 x1 x2 x3 xb
     go_upto_region 7 with (fail)
     have hM1 := HM1.out;have hLx := HL8.out;have zkW : wk < w1.heap.size := (by have := hM1.f.size; omega);have z0 : w.heap.size < w1.heap.size := (by have := hM1.f.size; omega);have zx := hLx.lt;have zb2 : bk < w1.heap.size := (by omega);have z8 : wr.heap.size ≠ wk := (by have := HM.out.f.size; omega);have q1 := HC1.out.ext hM1.f.ext hbs2 hbk2;have KEEP := Lib.hid (show ∀ w', Sv wk lr ovr w1 w' → Sv wk lr ovr w1 w' ∧ w'.cell? ⟨w.heap.size, 0, none⟩ = some (.slice an env.names.length cn) ∧ w'.cell? ⟨w.heap.size, 1, none⟩ = some (.slice ai ni ci) ∧ w'.cell? ⟨w.heap.size, 2, none⟩ = some (.pointer (some ⟨wk, 0, none⟩)) ∧ w'.cell? ⟨wr.heap.size, 8, none⟩ = some (.slice (some ⟨bk, ok0, none⟩) pt.kids.length c3) ∧ w'.cell? ⟨bk, ok0, none⟩ = some (.int .i64 t1.kind) ∧ w'.cell? ⟨bk, ok0 + 1, none⟩ = some (.string (str t1.name)) ∧ w'.cell? ⟨bk, ok0 + 2, none⟩ = some (.int .i64 t1.int) ∧ w'.cell? ⟨bk, ok0 + 3, none⟩ = some (.float .f64 u1) ∧ w'.cell? ⟨bk, ok0 + 4, none⟩ = some (.bool t1.flag) ∧ w'.cell? ⟨bk, ok0 + 5, none⟩ = some (.bool t1.method) ∧ w'.cell? ⟨bk, ok0 + 6, none⟩ = some (.bool t1.limited) ∧ w'.cell? ⟨bk, ok0 + 7, none⟩ = some (.int .i64 t1.limit) ∧ w'.cell? ⟨bk, ok0 + 8, none⟩ = some (.slice u2 t1.kids.length u3) ∧ w'.cell? ⟨bk, ok0 + 9, none⟩ = some (.slice u4 t1.map.length u5) ∧ w'.cell? ⟨bk, ok0 + 10, none⟩ = some (.int .i64 u6) ∧ w'.cell? ⟨bk, ok0 + 11, none⟩ = some (.int .i64 u7) from fun w' h => ⟨h, h.cell z0 (by omega) (hM1.f.b0.cell 0), h.cell z0 (by omega) (hM1.f.b0.cell 1), h.cell z0 (by omega) (hM1.f.b0.cell 2), h.cell zx z8 (hLx.cell 8), h.cell zb2 hbk2 q1.c0, h.cell zb2 hbk2 q1.c1, h.cell zb2 hbk2 q1.c2, h.cell zb2 hbk2 q1.c3, h.cell zb2 hbk2 q1.c4, h.cell zb2 hbk2 q1.c5, h.cell zb2 hbk2 q1.c6, h.cell zb2 hbk2 q1.c7, h.cell zb2 hbk2 q1.c8, h.cell zb2 hbk2 q1.c9, h.cell zb2 hbk2 q1.c10, h.cell zb2 hbk2 q1.c11⟩)
     have hW : Sv wk lr ovr w1 w1 := ⟨Ext.refl _ _ _, lr, ovr, hM1.work, mono_refl⟩;have HE := Lib.hid (show Ext (· = wk) w.heap.size w w1 from hM1.f.ext);have HMO := Lib.hid (show ovr = false → false = false ∧ lr ≤ left from fun ho => ⟨rfl, hM1.mono ho⟩);clear hM1 hLx q1
     go_cut [9, 10] from 18 to 65 (fun s9 s10 wx => ∃ b6 x f8 a8 c8 a9 c9 ok left2 over2, s9 = .pointer (some ⟨b6, 0, none⟩) ∧ s10 = .bool ok ∧ GotW w wk k lr ovr ((D t1).val env) b6 x f8 a8 c8 a9 c9 ok left2 over2 w1 wx)
     case first =>
      go_region_held3 (fun w' => Sv wk lr ovr w1 w' ∧ w'.cell? ⟨w.heap.size, 0, none⟩ = some (.slice an env.names.length cn) ∧ w'.cell? ⟨w.heap.size, 1, none⟩ = some (.slice ai ni ci) ∧ w'.cell? ⟨w.heap.size, 2, none⟩ = some (.pointer (some ⟨wk, 0, none⟩)) ∧ w'.cell? ⟨wr.heap.size, 8, none⟩ = some (.slice (some ⟨bk, ok0, none⟩) pt.kids.length c3) ∧ w'.cell? ⟨bk, ok0, none⟩ = some (.int .i64 t1.kind) ∧ w'.cell? ⟨bk, ok0 + 1, none⟩ = some (.string (str t1.name)) ∧ w'.cell? ⟨bk, ok0 + 2, none⟩ = some (.int .i64 t1.int) ∧ w'.cell? ⟨bk, ok0 + 3, none⟩ = some (.float .f64 u1) ∧ w'.cell? ⟨bk, ok0 + 4, none⟩ = some (.bool t1.flag) ∧ w'.cell? ⟨bk, ok0 + 5, none⟩ = some (.bool t1.method) ∧ w'.cell? ⟨bk, ok0 + 6, none⟩ = some (.bool t1.limited) ∧ w'.cell? ⟨bk, ok0 + 7, none⟩ = some (.int .i64 t1.limit) ∧ w'.cell? ⟨bk, ok0 + 8, none⟩ = some (.slice u2 t1.kids.length u3) ∧ w'.cell? ⟨bk, ok0 + 9, none⟩ = some (.slice u4 t1.map.length u5) ∧ w'.cell? ⟨bk, ok0 + 10, none⟩ = some (.int .i64 u6) ∧ w'.cell? ⟨bk, ok0 + 11, none⟩ = some (.int .i64 u7))
       (first | with_reducible exact KEEP.out _ (Sv.drew hW) | with_reducible exact KEEP.out _ hsv2 | with_reducible exact KEEP.out _ (Sv.alloc hsv2 _) | with_reducible exact KEEP.out _ (Sv.allocD (Sv.drew hW) _) | with_reducible exact KEEP.out _ (Sv.s7 hsv2 zkW (Nat.le_refl _) _ _ _ _ _ _))
       (first | (go_at_call 50; apply Calls.mono; (focus (with_reducible exact eval_pv HP.out HE.out (And.left ‹Sv _ _ _ _ _ ∧ _›) HMO.out HO1.out HT1.out)); rintro e w2 ⟨x, f8, a8, c8, a9, c9, ok, left2, over2, rfl, hE, hW2, hm2, hV, hr2, hsv2⟩; (try (have L6 : Lb w2 w1.heap.size _ 39 := Lb.ext (Lb.drew (Lb.new' _ _ _ (by simp))) hE (by simp) (by omega); have r6 := L6.cell; have g6 := L6.frozen; have z6 := L6.lt))))
      all_goals
       go_wp21;go_meet
       case rel =>
        first |(have qq := GotW.there hsv2 zkW hW2 hm2 (Nat.le_refl _) hV (fun b h => h.imp id fun h => ⟨h.1, by simp; omega⟩) (.inr ⟨by omega, by simp⟩) hr2 L6; exact ⟨_, x, f8, a8, c8, a9, c9, ok, left2, over2, rfl, rfl, qq⟩) |(have qq := GotW.fresh (w0 := w) hsv2 hW2 hm2 hV (fun b h => h) hr2; exact ⟨_, x, f8, a8, c8, a9, c9, ok, left2, over2, rfl, rfl, qq⟩)
     case rest =>
      obtain ⟨b9, x, f8, a8, c8, a9, c9, ok1, left2, over2, rfl, rfl, hG⟩ := hcut;clear KEEP hW;have hM2 := HM1.out.ext HP.out.kw zk hG.p hG.work hG.mono;have L2 := HL8.out.ext hG.p zx z8;have HG := Lib.hid hG; have HM2 := Lib.hid hM2; have HL2 := Lib.hid L2;have y0 : w.heap.size < wc.heap.size := (by have := hM2.f.size; omega);have zkC : wk < wc.heap.size := (by omega);have yx := L2.lt;have yb2 : bk < wc.heap.size := (by omega);have q1 := HC2.out.ext hM2.f.ext hbs2 hbk2;have hLx := L2;have hM1 := hM2;have KEEP := Lib.hid (show ∀ w', Sv wk left2 over2 wc w' → Sv wk left2 over2 wc w' ∧ w'.cell? ⟨w.heap.size, 0, none⟩ = some (.slice an env.names.length cn) ∧ w'.cell? ⟨w.heap.size, 1, none⟩ = some (.slice ai ni ci) ∧ w'.cell? ⟨w.heap.size, 2, none⟩ = some (.pointer (some ⟨wk, 0, none⟩)) ∧ w'.cell? ⟨wr.heap.size, 8, none⟩ = some (.slice (some ⟨bk, ok0, none⟩) pt.kids.length c3) ∧ w'.cell? ⟨bk, ok0 + 12, none⟩ = some (.int .i64 t2.kind) ∧ w'.cell? ⟨bk, ok0 + 12 + 1, none⟩ = some (.string (str t2.name)) ∧ w'.cell? ⟨bk, ok0 + 12 + 2, none⟩ = some (.int .i64 t2.int) ∧ w'.cell? ⟨bk, ok0 + 12 + 3, none⟩ = some (.float .f64 v1) ∧ w'.cell? ⟨bk, ok0 + 12 + 4, none⟩ = some (.bool t2.flag) ∧ w'.cell? ⟨bk, ok0 + 12 + 5, none⟩ = some (.bool t2.method) ∧ w'.cell? ⟨bk, ok0 + 12 + 6, none⟩ = some (.bool t2.limited) ∧ w'.cell? ⟨bk, ok0 + 12 + 7, none⟩ = some (.int .i64 t2.limit) ∧ w'.cell? ⟨bk, ok0 + 12 + 8, none⟩ = some (.slice v2 t2.kids.length v3) ∧ w'.cell? ⟨bk, ok0 + 12 + 9, none⟩ = some (.slice v4 t2.map.length v5) ∧ w'.cell? ⟨bk, ok0 + 12 + 10, none⟩ = some (.int .i64 v6) ∧ w'.cell? ⟨bk, ok0 + 12 + 11, none⟩ = some (.int .i64 v7) from fun w' h => ⟨h, h.cell y0 (by omega) (hM1.f.b0.cell 0), h.cell y0 (by omega) (hM1.f.b0.cell 1), h.cell y0 (by omega) (hM1.f.b0.cell 2), h.cell yx z8 (hLx.cell 8), h.cell yb2 hbk2 q1.c0, h.cell yb2 hbk2 q1.c1, h.cell yb2 hbk2 q1.c2, h.cell yb2 hbk2 q1.c3, h.cell yb2 hbk2 q1.c4, h.cell yb2 hbk2 q1.c5, h.cell yb2 hbk2 q1.c6, h.cell yb2 hbk2 q1.c7, h.cell yb2 hbk2 q1.c8, h.cell yb2 hbk2 q1.c9, h.cell yb2 hbk2 q1.c10, h.cell yb2 hbk2 q1.c11⟩)
      have hW : Sv wk left2 over2 wc wc := ⟨Ext.refl _ _ _, left2, over2, hM2.work, mono_refl⟩;have HE2 := Lib.hid (show Ext (· = wk) w.heap.size w wc from hM2.f.ext);have HMO2 := Lib.hid (show over2 = false → false = false ∧ left2 ≤ left from fun ho => ⟨rfl, hM2.mono ho⟩);clear hG hM2 L2 q1 hLx hM1
      go_upto_region 8 with (fail)
      go_cut [11, 12] from 18 to 65 (fun s9 s10 wx => ∃ b6 x f8 a8 c8 a9 c9 ok left3 over3, s9 = .pointer (some ⟨b6, 0, none⟩) ∧ s10 = .bool ok ∧ GotW w wk k left2 over2 ((D t2).val env) b6 x f8 a8 c8 a9 c9 ok left3 over3 wc wx)
      case first =>
       go_region_held3 (fun w' => Sv wk left2 over2 wc w' ∧ w'.cell? ⟨w.heap.size, 0, none⟩ = some (.slice an env.names.length cn) ∧ w'.cell? ⟨w.heap.size, 1, none⟩ = some (.slice ai ni ci) ∧ w'.cell? ⟨w.heap.size, 2, none⟩ = some (.pointer (some ⟨wk, 0, none⟩)) ∧ w'.cell? ⟨wr.heap.size, 8, none⟩ = some (.slice (some ⟨bk, ok0, none⟩) pt.kids.length c3) ∧ w'.cell? ⟨bk, ok0 + 12, none⟩ = some (.int .i64 t2.kind) ∧ w'.cell? ⟨bk, ok0 + 12 + 1, none⟩ = some (.string (str t2.name)) ∧ w'.cell? ⟨bk, ok0 + 12 + 2, none⟩ = some (.int .i64 t2.int) ∧ w'.cell? ⟨bk, ok0 + 12 + 3, none⟩ = some (.float .f64 v1) ∧ w'.cell? ⟨bk, ok0 + 12 + 4, none⟩ = some (.bool t2.flag) ∧ w'.cell? ⟨bk, ok0 + 12 + 5, none⟩ = some (.bool t2.method) ∧ w'.cell? ⟨bk, ok0 + 12 + 6, none⟩ = some (.bool t2.limited) ∧ w'.cell? ⟨bk, ok0 + 12 + 7, none⟩ = some (.int .i64 t2.limit) ∧ w'.cell? ⟨bk, ok0 + 12 + 8, none⟩ = some (.slice v2 t2.kids.length v3) ∧ w'.cell? ⟨bk, ok0 + 12 + 9, none⟩ = some (.slice v4 t2.map.length v5) ∧ w'.cell? ⟨bk, ok0 + 12 + 10, none⟩ = some (.int .i64 v6) ∧ w'.cell? ⟨bk, ok0 + 12 + 11, none⟩ = some (.int .i64 v7))
        (first | with_reducible exact KEEP.out _ (Sv.drew hW) | with_reducible exact KEEP.out _ hsv2 | with_reducible exact KEEP.out _ (Sv.alloc hsv2 _) | with_reducible exact KEEP.out _ (Sv.allocD (Sv.drew hW) _) | with_reducible exact KEEP.out _ (Sv.s7 hsv2 zkC (Nat.le_refl _) _ _ _ _ _ _))
        (first | (go_at_call 50; apply Calls.mono; (focus (with_reducible exact eval_pv HP.out HE2.out (And.left ‹Sv _ _ _ _ _ ∧ _›) HMO2.out HO2.out HT2.out)); rintro e w2 ⟨x2, f8, a8, c8, a9, c9, ok2, left3, over3, rfl, hE, hW2, hm2, hV, hr2, hsv2⟩; (try (have L6 : Lb w2 wc.heap.size _ 39 := Lb.ext (Lb.drew (Lb.new' _ _ _ (by simp))) hE (by simp) (by omega); have r6 := L6.cell; have g6 := L6.frozen; have z6 := L6.lt))))
       all_goals
        go_wp21;go_meet
        case rel =>
         first |(have qq := GotW.there hsv2 zkC hW2 hm2 (Nat.le_refl _) hV (fun b h => h.imp id fun h => ⟨h.1, by simp; omega⟩) (.inr ⟨by omega, by simp⟩) hr2 L6; exact ⟨_, x2, f8, a8, c8, a9, c9, ok2, left3, over3, rfl, rfl, qq⟩) |(have qq := GotW.fresh (w0 := w) hsv2 hW2 hm2 hV (fun b h => h) hr2; exact ⟨_, x2, f8, a8, c8, a9, c9, ok2, left3, over3, rfl, rfl, qq⟩)
      case rest =>
       obtain ⟨b11, y, h8, i8, j8, i9, j9, ok2, left3, over3, rfl, rfl, hG2⟩ := hcut;clear KEEP hW;have hM3 := HM2.out.ext HP.out.kw zk hG2.p hG2.work hG2.mono;have L9 := HG.out.blk.ext hG2.p HG.out.blk.lt (by have := HG.out.at6; omega);have HG2 := Lib.hid hG2; have HM3 := Lib.hid hM3; have HL9 := Lib.hid L9;have r2 := hM3.f.b2.cell; have g2 := hM3.f.b2.frozen;have x0 : w.heap.size + 1 + 1 < wc.heap.size := hM3.f.size;have r9 := L9.cell; have x9 := L9.lt;have r11 := hG2.blk.cell; have x11 := hG2.blk.lt;have r6 := hM3.o.cell; have g6 := hM3.o.frozen; have x6 := hM3.o.lt;unfold zcells at r2;unfold vcells at r9 r11 r6;have HME := Lib.hid (show over3 = false → pairs env { kind := 6 } (Ds t.kids) = ((pr ((D t1).val env) ((D t2).val env)).bind fun p => if p.1.kind = 3 then pairs env (setV out p.1.text p.2) (Ds (t.kids.drop (q + 1))) else none) from fun ho => by
        rw [hM3.mean ho, drop_cons _ _ _ HD.out, Ds, pairs_cons, pair_some pt t1 t2 H23.out HK.out])
       have HV1 := Lib.hid (show over3 = false → (D t1).val env = if ok1 then some x else none from fun ho => HG.out.mean (hG2.mono ho).1);have HV2 := Lib.hid hG2.mean;clear hG2 hM3 L9;cases ok1 with
       |false =>
        go_wp21;refine bodyPost_ret (v := .tuple #[zero, .bool false]) (by simp [results, Try.results70, go_sem, r2, g2, x0]; try rfl) rfl ?_;exact Evd.end (x := {}) (ok := false) rfl HM3.out.f.ext HM3.out.work (fun ho => ⟨rfl, HM3.out.mono ho⟩) zk (by go_grown) (zeroV _ _) fun ho => by rw [HME.out ho, HV1.out ho, HV2.out ho]; rfl
       |true =>
        cases ok2 with
        |false =>
         go_wp21;refine bodyPost_ret (v := .tuple #[zero, .bool false]) (by simp [results, Try.results70, go_sem, r2, g2, x0]; try rfl) rfl ?_;exact Evd.end (x := {}) (ok := false) rfl HM3.out.f.ext HM3.out.work (fun ho => ⟨rfl, HM3.out.mono ho⟩) zk (by go_grown) (zeroV _ _) fun ho => by rw [HME.out ho, HV1.out ho, HV2.out ho]; rfl
        |true =>
         by_cases h3 : x.kind = 3
         ·have k3 : (x.kind != 3) = false := (by simpa using h3);have H3 := Lib.hid h3;clear h3;have hV9 : IsV wc (fun b => k b ∨ b = w.heap.size + 1 + 1 ∨ b = w.heap.size + 1 + 1 + 1) x (vcells x f8 a8 c8 a9 c9) := (HG.out.val.ext (HG2.out.p.weak fun b hb => by rw [hb]; exact .inl HP.out.kw) (Nat.le_refl _)).other fun b hb => .inl (by
           rcases hb with hb | hb | hb
           ·exact .inl hb
           ·exact .inr ⟨by omega, by have := HM1.out.o.lt; omega⟩
           ·exact .inr ⟨by omega, by have := HM1.out.o.lt; omega⟩)
          have hV11 : IsV wc (fun b => k b ∨ b = w.heap.size + 1 + 1 ∨ b = w.heap.size + 1 + 1 + 1) y (vcells y h8 i8 j8 i9 j9) := HG2.out.val.other fun b hb => .inl (by
           rcases hb with hb | hb | hb
           ·exact .inl hb
           ·exact .inr ⟨by omega, by have := HM2.out.o.lt; omega⟩
           ·exact .inr ⟨by omega, by have := HM2.out.o.lt; omega⟩)
          have HS := Lib.hid (fun (w' : World) (hb : Below wc.heap.size wc w') => set_any out y x.text (fun b => k b ∨ b = w.heap.size + 1 + 1 ∨ b = w.heap.size + 1 + 1 + 1) fo ao co ao' co' h8 i8 j8 i9 j9 w' HM3.out.len (by have := HM3.out.nq; unfold most; omega) (fun b hb2 => by
           have h1 := hb.size;rcases hb2 with h | h | h
           ·have := HP.out.lt b h; omega
           ·omega
           ·omega) (HM3.out.vo.ext (.of hb) (Nat.le_refl _)) (hV11.ext (.of hb) (Nat.le_refl _)))
          clear hV9 hV11
          go_wp2_with fail
          go_at_call 83;apply Calls.mono
          ·refine HS.out _ ?_
           go_grown
          rintro e w5 ⟨go', bo', do', bo2, do2, rfl, hb5, hV5⟩;have hM5 := HM3.out.ext HP.out.kw zk (.of hb5) (HM3.out.work.below hb5 (by omega)) mono_refl;have L5 := hM5.o;have r5 := L5.cell; have g5 := L5.frozen; have x5 := L5.lt;unfold vcells at r5;have HM5 := Lib.hid hM5; have HV5 := Lib.hid hV5;clear hM5 L5 hV5 r2 g2 r9 r11 r6 g6
          go_wp2_with fail
          go_roundg g
          case measure => omega
          case rel =>
           have hl := setV_len out x.text y HM5.out.len;refine ⟨q + 1, by go_num, by omega, setV out x.text y, go', bo', do', bo2, do2, left3, over3, ⟨⟨HM5.out.f.ext.s7 (.inr (by omega)) _ _ _ _ _ _, HM5.out.f.b0.s7o (by omega) _ _ _ _ _ _, HM5.out.f.b1.s7o (by omega) _ _ _ _ _ _, HM5.out.f.b2.s7o (by omega) _ _ _ _ _ _⟩, HM5.out.o.s7 _ _ _ _ _ _, ?_, HM5.out.mono, HV5.out.ext ((Ext.refl _ _ _).s7 (.inl (.inr (.inr rfl))) _ _ _ _ _ _) (Nat.le_refl _), hl.1, by have := HM5.out.nq; omega, fun ho => ?_⟩⟩
           ·exact ((((((HM5.out.work.set (p := ⟨w.heap.size + 1 + 1 + 1, 0, none⟩) (by show w.heap.size + 1 + 1 + 1 ≠ wk; omega) _).set (p := ⟨w.heap.size + 1 + 1 + 1, 1, none⟩) (by show w.heap.size + 1 + 1 + 1 ≠ wk; omega) _).set (p := ⟨w.heap.size + 1 + 1 + 1, 2, none⟩) (by show w.heap.size + 1 + 1 + 1 ≠ wk; omega) _).set (p := ⟨w.heap.size + 1 + 1 + 1, 3, none⟩) (by show w.heap.size + 1 + 1 + 1 ≠ wk; omega) _).set (p := ⟨w.heap.size + 1 + 1 + 1, 4, none⟩) (by show w.heap.size + 1 + 1 + 1 ≠ wk; omega) _).set (p := ⟨w.heap.size + 1 + 1 + 1, 5, none⟩) (by show w.heap.size + 1 + 1 + 1 ≠ wk; omega) _).set (p := ⟨w.heap.size + 1 + 1 + 1, 6, none⟩) (by show w.heap.size + 1 + 1 + 1 ≠ wk; omega) _
           ·rw [HME.out ho, HV1.out ho, HV2.out ho];simp only [if_true, pr, Option.bind_some, H3.out]
         ·have k3 : (x.kind != 3) = true := (by simpa using h3);have H3 := Lib.hid h3;clear h3;go_wp21;refine bodyPost_ret (v := .tuple #[zero, .bool false]) (by simp [results, Try.results70, go_sem, r2, g2, x0]; try rfl) rfl ?_;exact Evd.end (x := {}) (ok := false) rfl HM3.out.f.ext HM3.out.work (fun ho => ⟨rfl, HM3.out.mono ho⟩) zk (by go_grown) (zeroV _ _) fun ho => by rw [HME.out ho, HV1.out ho, HV2.out ho]; exact if_neg H3.out
    ·have kl : ((pt.kids.length : Int) == 2) = false := beq_eq_false_iff_ne.2 (by omega);have H2 := Lib.hid h2;clear h2;go_wp21;refine bodyPost_ret (v := .tuple #[zero, .bool false]) (by simp [results, Try.results70, go_sem, r2, g2, x0]; try rfl) rfl ?_;exact Evd.end (x := {}) (ok := false) rfl HM1.out.f.ext HM1.out.work (fun ho => ⟨rfl, HM1.out.mono ho⟩) zk (by go_grown) (zeroV _ _) fun ho => by rw [HM1.out.mean ho, drop_cons _ _ _ HD.out, Ds, pairs_cons, pair_none pt (fun h => H2.out h.2)]; rfl
   ·have k23 : (pt.kind != 23) = true := (by simpa using h23);have H23 := Lib.hid h23;clear h23;go_wp21;refine bodyPost_ret (v := .tuple #[zero, .bool false]) (by simp [results, Try.results70, go_sem, r2, g2, x0]; try rfl) rfl ?_;exact Evd.end (x := {}) (ok := false) rfl HM.out.f.ext HM.out.work (fun ho => ⟨rfl, HM.out.mono ho⟩) zk (by go_grown) (zeroV _ _) fun ho => by rw [HM.out.mean ho, drop_cons _ _ _ HD.out, Ds, pairs_cons, pair_none pt (fun h => H23.out h.1)]; rfl
  ·obtain rfl : gk = 0 := (by omega);obtain rfl : q = t.kids.length := (by omega);have r2 := hM.f.b2.cell; have g2 := hM.f.b2.frozen;have x0 : w.heap.size + 1 + 1 < wr.heap.size := hM.f.size;have r6 := hM.o.cell; have x6 := hM.o.lt;unfold zcells at r2;unfold vcells at r6;have HM := Lib.hid hM;clear hM;go_wp21;refine bodyPost_ret (v := .tuple #[va out fo ao co ao' co', .bool true]) (by simp [results, Try.results70, go_sem, r2, g2, x0]; try rfl) rfl ?_;exact Evd.end (x := out) (ok := true) rfl HM.out.f.ext HM.out.work (fun ho => ⟨rfl, HM.out.mono ho⟩) zk (by go_grown) (IsV.stored (HM.out.vo.other fun b hb => .inl (hb.imp id .inl)) out fo ao co ao' co') fun ho => by rw [HM.out.mean ho, List.drop_length, Ds, pairs_nil]; rfl
end Go.Proofs.Ytafhhdimjkgihaa.Mn
