/- What the program does, function by function, and what trees mean: part 39. -/
import Derived.Deep.Cut
import Derived.Test.YtafhhdimjkgihaaM27
import Derived.Test.YtafhhdimjkgihaaM36
import Derived.Test.YtafhhdimjkgihaaM38
set_option linter.unusedSimpArgs false
set_option linter.unusedVariables false
namespace Go.Proofs.Ytafhhdimjkgihaa.Mn
section
attribute [local go_sem ↓] Go.wp_at_zero Go.wp_at_succ
open Go.RowKit
set_option maxHeartbeats 3200000 in
set_option maxRecDepth 100000 in
theorem member_kids (t t1 t2 : Tr) (hk : t.kids = [t1, t2]) (hok1 : EvalOk t1) (hok2 : EvalOk t2) (hm : t.method = false) (k : Nat → Prop) (wk : Nat) (env : Env) (m : Nat) (an : Option Addr) (cn : Nat) (ai : Option Addr) (ni ci : Nat) (left : Int) (over : Bool) (f : Nat) (a : Option Addr) (c : Nat) (a' : Option Addr) (c' : Nat) (p q : Int) (w : World)
 (hp : Pre k wk env m an cn ai ni ci left over w) (ht : IsT w k t (tcells t f a c a' c' p q)) :
 Calls Try.prog 63 #[sa env.names.length wk an cn ai ni ci, ta t f a c a' c' p q] w (Evd k wk left over ((pr ((D t1).val env) ((D t2).val env)).bind fun p => element p.1 p.2) w) := by
 obtain ⟨b, o, rfl⟩ := kids_some ht (by rw [hk]; exact Nat.zero_lt_succ _);obtain ⟨hkb, hbs, f1, a1, c1, b1, e1, p1, q1, hT1, h121⟩ := kid_in ht (j := 0) (t1 := t1) (by rw [hk]; rfl);rw [Nat.zero_mul, Nat.add_zero] at h121;obtain ⟨hkb, hbs, f2, a2, c2, b2, e2, p2, q2, hT2, h122⟩ := kid_in ht (j := 1) (t1 := t2) (by rw [hk]; rfl);replace h122 : C12 w b (o + 12) t2 f2 a2 c2 b2 e2 p2 q2 := h122;have zk : wk < w.heap.size := hp.lt wk hp.kw;have hbk : ¬ b = wk := fun h => hkb (by rw [h]; exact hp.kw);have hkl : ((t.kids.length : Int) == 2) = true := by rw [hk]; rfl
 have hkl0 : 0 < t.kids.length := by rw [hk]; exact Nat.zero_lt_succ _
 have hkl1 : 1 < t.kids.length := by rw [hk]; simp
 have hki1 : (1 : Int) < (t.kids.length : Int) := by omega
 have HMT := Lib.hid hm;clear hm;have KEEP := Lib.hid (show ∀ w', St w wk [.slice an env.names.length cn, .slice ai ni ci, .pointer (some ⟨wk, 0, none⟩)] (tcells t f (some ⟨b, o, none⟩) c a' c' p q) zcells 62 25 39 left over w w' → St w wk [.slice an env.names.length cn, .slice ai ni ci, .pointer (some ⟨wk, 0, none⟩)] (tcells t f (some ⟨b, o, none⟩) c a' c' p q) zcells 62 25 39 left over w w' ∧ w'.cell? ⟨w.heap.size, 0, none⟩ = some (.slice an env.names.length cn) ∧ w'.cell? ⟨w.heap.size, 1, none⟩ = some (.slice ai ni ci) ∧ w'.cell? ⟨w.heap.size, 2, none⟩ = some (.pointer (some ⟨wk, 0, none⟩)) ∧ w'.cell? ⟨w.heap.size + 1, 8, none⟩ = some (.slice (some ⟨b, o, none⟩) t.kids.length c) ∧ w'.cell? ⟨b, o, none⟩ = some (.int .i64 t1.kind) ∧ w'.cell? ⟨b, o + 1, none⟩ = some (.string (str t1.name)) ∧ w'.cell? ⟨b, o + 2, none⟩ = some (.int .i64 t1.int) ∧ w'.cell? ⟨b, o + 3, none⟩ = some (.float .f64 f1) ∧ w'.cell? ⟨b, o + 4, none⟩ = some (.bool t1.flag) ∧ w'.cell? ⟨b, o + 5, none⟩ = some (.bool t1.method) ∧ w'.cell? ⟨b, o + 6, none⟩ = some (.bool t1.limited) ∧ w'.cell? ⟨b, o + 7, none⟩ = some (.int .i64 t1.limit) ∧ w'.cell? ⟨b, o + 8, none⟩ = some (.slice a1 t1.kids.length c1) ∧ w'.cell? ⟨b, o + 9, none⟩ = some (.slice b1 t1.map.length e1) ∧ w'.cell? ⟨b, o + 10, none⟩ = some (.int .i64 p1) ∧ w'.cell? ⟨b, o + 11, none⟩ = some (.int .i64 q1) from fun w' h => ⟨h, h.f.b0.cell 0, h.f.b0.cell 1, h.f.b0.cell 2, h.f.b1.cell 8, (h121.ext h.f.ext hbs hbk).c0, (h121.ext h.f.ext hbs hbk).c1, (h121.ext h.f.ext hbs hbk).c2, (h121.ext h.f.ext hbs hbk).c3, (h121.ext h.f.ext hbs hbk).c4, (h121.ext h.f.ext hbs hbk).c5, (h121.ext h.f.ext hbs hbk).c6, (h121.ext h.f.ext hbs hbk).c7, (h121.ext h.f.ext hbs hbk).c8, (h121.ext h.f.ext hbs hbk).c9, (h121.ext h.f.ext hbs hbk).c10, (h121.ext h.f.ext hbs hbk).c11⟩)
 have HM := Lib.hid (mono_refl (left := left) (over := over)); have HP := Lib.hid hp; have HK := Lib.hid hk;have HT1 := Lib.hid hT1; have HOK1 := Lib.hid hok1; have H121 := Lib.hid h121;have HT2 := Lib.hid hT2; have HOK2 := Lib.hid hok2; have H122 := Lib.hid h122;clear hp ht hk hT1 hok1 h121 hT2 hok2 h122;go_enter Try.func63, Try.ntmps63
 go_upto_region 3 with (first | (go_at_call 67; refine (kids_any _ _ _ _ _ _ _ _ _ _).mono ?_; rintro e w1 ⟨rfl, hb1⟩; have hm := HMT.out; have L1 : Lb w1 (w.heap.size + 1) _ 25 := ((Lb.new' _ _ _ (by simp)).alloc _).below hb1 (by simp); have n5 := L1.cell 5; have yy := L1.lt))
 clear hm n5 yy L1;refine forget (fun w' => St w wk [.slice an env.names.length cn, .slice ai ni ci, .pointer (some ⟨wk, 0, none⟩)] (tcells t f (some ⟨b, o, none⟩) c a' c' p q) zcells 62 25 39 left over w w') ?_ ?_
 ·exact ⟨.of (Below.trans (by go_grown) (hb1.mono (by first | omega | (simp; done) | (simp; omega)))), ⟨.of (Below.trans (by go_grown) (hb1.mono (by first | omega | (simp; done) | (simp; omega)))), (((Lb.new _ _ _).alloc _).alloc _).below hb1 (by first | omega | (simp; done) | (simp; omega)), ((Lb.new' _ _ _ (by simp)).alloc _).below hb1 (by first | omega | (simp; done) | (simp; omega)), (Lb.new' _ _ _ (by simp)).below hb1 (by first | omega | (simp; done) | (simp; omega))⟩, left, over, (((HP.out.work.alloc _).alloc _).alloc _).below hb1 (by first | omega | (simp; done) | (simp; omega)), fun h => ⟨h, Int.le_refl _⟩⟩
 clear hb1;intro W hW;have z0 : w.heap.size + 1 + 1 < W.heap.size := hW.f.size;have z1 : w.heap.size + 1 < W.heap.size := by omega
 have z2 : w.heap.size < W.heap.size := by omega
 have zp : w.heap.size ≤ W.heap.size := by omega
 go_cut [6, 7] from 10 (fun s6 s7 wx => ∃ b6 x f8 a8 c8 a9 c9 ok left2 over2, s6 = .pointer (some ⟨b6, 0, none⟩) ∧ s7 = .bool ok ∧ Got w wk [.slice an env.names.length cn, .slice ai ni ci, .pointer (some ⟨wk, 0, none⟩)] (tcells t f (some ⟨b, o, none⟩) c a' c' p q) zcells 62 25 39 k left over ((D t1).val env) b6 x f8 a8 c8 a9 c9 ok left2 over2 w wx)
 case first =>
  go_region_held3 (fun w' => St w wk [.slice an env.names.length cn, .slice ai ni ci, .pointer (some ⟨wk, 0, none⟩)] (tcells t f (some ⟨b, o, none⟩) c a' c' p q) zcells 62 25 39 left over w w' ∧ w'.cell? ⟨w.heap.size, 0, none⟩ = some (.slice an env.names.length cn) ∧ w'.cell? ⟨w.heap.size, 1, none⟩ = some (.slice ai ni ci) ∧ w'.cell? ⟨w.heap.size, 2, none⟩ = some (.pointer (some ⟨wk, 0, none⟩)) ∧ w'.cell? ⟨w.heap.size + 1, 8, none⟩ = some (.slice (some ⟨b, o, none⟩) t.kids.length c) ∧ w'.cell? ⟨b, o, none⟩ = some (.int .i64 t1.kind) ∧ w'.cell? ⟨b, o + 1, none⟩ = some (.string (str t1.name)) ∧ w'.cell? ⟨b, o + 2, none⟩ = some (.int .i64 t1.int) ∧ w'.cell? ⟨b, o + 3, none⟩ = some (.float .f64 f1) ∧ w'.cell? ⟨b, o + 4, none⟩ = some (.bool t1.flag) ∧ w'.cell? ⟨b, o + 5, none⟩ = some (.bool t1.method) ∧ w'.cell? ⟨b, o + 6, none⟩ = some (.bool t1.limited) ∧ w'.cell? ⟨b, o + 7, none⟩ = some (.int .i64 t1.limit) ∧ w'.cell? ⟨b, o + 8, none⟩ = some (.slice a1 t1.kids.length c1) ∧ w'.cell? ⟨b, o + 9, none⟩ = some (.slice b1 t1.map.length e1) ∧ w'.cell? ⟨b, o + 10, none⟩ = some (.int .i64 p1) ∧ w'.cell? ⟨b, o + 11, none⟩ = some (.int .i64 q1))
   (first | with_reducible exact KEEP.out _ (St.drew hW) | with_reducible exact KEEP.out _ hst | with_reducible exact KEEP.out _ (St.alloc hst _) | with_reducible exact KEEP.out _ (St.allocD (St.drew hW) _) | with_reducible exact KEEP.out _ (St.s7 hst zk z0 zp _ _ _ _ _ _))
   (first | (go_at_call 50; apply Calls.mono; (focus (with_reducible exact St.eval HP.out HM.out (And.left ‹St _ _ _ _ _ _ _ _ _ _ _ _ ∧ _›) HOK1.out HT1.out)); rintro e w2 ⟨x, f8, a8, c8, a9, c9, ok, left2, over2, rfl, hE, hW2, hm2, hV, hr2, hst⟩; (try (have L6 : Lb w2 W.heap.size _ 39 := Lb.ext (Lb.drew (Lb.new' _ _ _ (by simp))) hE (by simp) (by omega); have r6 := L6.cell; have g6 := L6.frozen; have z6 := L6.lt))))
  all_goals
   go_wp21;go_meet
   case rel =>
    first |(have qq := Got.there hst zk hW2 hm2 z0 zp (by simp) hV hr2 L6; exact ⟨_, x, f8, a8, c8, a9, c9, ok, left2, over2, rfl, rfl, qq⟩) |(have qq := Got.fresh hst hW2 hm2 (show _ < W.drew.heap.size from z0) hV hr2; exact ⟨_, x, f8, a8, c8, a9, c9, ok, left2, over2, rfl, rfl, qq⟩)
 case rest =>
  obtain ⟨b6, xa, fa, aa, ca, ab, cb, oka, lefta, overa, rfl, rfl, hG⟩ := hcut;have hW : St w wk [.slice an env.names.length cn, .slice ai ni ci, .pointer (some ⟨wk, 0, none⟩)] (tcells t f (some ⟨b, o, none⟩) c a' c' p q) zcells 62 25 39 lefta overa wc wc := ⟨Ext.refl _ _ _, hG.f, lefta, overa, hG.work, mono_refl⟩;have HM2 := Lib.hid hG.mono;have G := Lib.hid hG;have y0 : w.heap.size + 1 + 1 < wc.heap.size := hG.f.size;have y1 : w.heap.size + 1 < wc.heap.size := by omega
  have y2 : w.heap.size < wc.heap.size := by omega
  have h122 := H122.out;have KEEP2 := Lib.hid (show ∀ w', St w wk [.slice an env.names.length cn, .slice ai ni ci, .pointer (some ⟨wk, 0, none⟩)] (tcells t f (some ⟨b, o, none⟩) c a' c' p q) zcells 62 25 39 lefta overa wc w' → St w wk [.slice an env.names.length cn, .slice ai ni ci, .pointer (some ⟨wk, 0, none⟩)] (tcells t f (some ⟨b, o, none⟩) c a' c' p q) zcells 62 25 39 lefta overa wc w' ∧ w'.cell? ⟨w.heap.size, 0, none⟩ = some (.slice an env.names.length cn) ∧ w'.cell? ⟨w.heap.size, 1, none⟩ = some (.slice ai ni ci) ∧ w'.cell? ⟨w.heap.size, 2, none⟩ = some (.pointer (some ⟨wk, 0, none⟩)) ∧ w'.cell? ⟨w.heap.size + 1, 8, none⟩ = some (.slice (some ⟨b, o, none⟩) t.kids.length c) ∧ w'.cell? ⟨b, o + 12, none⟩ = some (.int .i64 t2.kind) ∧ w'.cell? ⟨b, o + 12 + 1, none⟩ = some (.string (str t2.name)) ∧ w'.cell? ⟨b, o + 12 + 2, none⟩ = some (.int .i64 t2.int) ∧ w'.cell? ⟨b, o + 12 + 3, none⟩ = some (.float .f64 f2) ∧ w'.cell? ⟨b, o + 12 + 4, none⟩ = some (.bool t2.flag) ∧ w'.cell? ⟨b, o + 12 + 5, none⟩ = some (.bool t2.method) ∧ w'.cell? ⟨b, o + 12 + 6, none⟩ = some (.bool t2.limited) ∧ w'.cell? ⟨b, o + 12 + 7, none⟩ = some (.int .i64 t2.limit) ∧ w'.cell? ⟨b, o + 12 + 8, none⟩ = some (.slice a2 t2.kids.length c2) ∧ w'.cell? ⟨b, o + 12 + 9, none⟩ = some (.slice b2 t2.map.length e2) ∧ w'.cell? ⟨b, o + 12 + 10, none⟩ = some (.int .i64 p2) ∧ w'.cell? ⟨b, o + 12 + 11, none⟩ = some (.int .i64 q2) from fun w' h => ⟨h, h.f.b0.cell 0, h.f.b0.cell 1, h.f.b0.cell 2, h.f.b1.cell 8, (h122.ext h.f.ext hbs hbk).c0, (h122.ext h.f.ext hbs hbk).c1, (h122.ext h.f.ext hbs hbk).c2, (h122.ext h.f.ext hbs hbk).c3, (h122.ext h.f.ext hbs hbk).c4, (h122.ext h.f.ext hbs hbk).c5, (h122.ext h.f.ext hbs hbk).c6, (h122.ext h.f.ext hbs hbk).c7, (h122.ext h.f.ext hbs hbk).c8, (h122.ext h.f.ext hbs hbk).c9, (h122.ext h.f.ext hbs hbk).c10, (h122.ext h.f.ext hbs hbk).c11⟩)
  clear h122;clear hG
  go_upto_region 4 with (fail)
  go_cut [8, 9] from 10 (fun s6 s7 wx => ∃ b6 x f8 a8 c8 a9 c9 ok left2 over2, s6 = .pointer (some ⟨b6, 0, none⟩) ∧ s7 = .bool ok ∧ Got w wk [.slice an env.names.length cn, .slice ai ni ci, .pointer (some ⟨wk, 0, none⟩)] (tcells t f (some ⟨b, o, none⟩) c a' c' p q) zcells 62 25 39 k lefta overa ((D t2).val env) b6 x f8 a8 c8 a9 c9 ok left2 over2 wc wx)
  case first =>
   go_region_held3 (fun w' => St w wk [.slice an env.names.length cn, .slice ai ni ci, .pointer (some ⟨wk, 0, none⟩)] (tcells t f (some ⟨b, o, none⟩) c a' c' p q) zcells 62 25 39 lefta overa wc w' ∧ w'.cell? ⟨w.heap.size, 0, none⟩ = some (.slice an env.names.length cn) ∧ w'.cell? ⟨w.heap.size, 1, none⟩ = some (.slice ai ni ci) ∧ w'.cell? ⟨w.heap.size, 2, none⟩ = some (.pointer (some ⟨wk, 0, none⟩)) ∧ w'.cell? ⟨w.heap.size + 1, 8, none⟩ = some (.slice (some ⟨b, o, none⟩) t.kids.length c) ∧ w'.cell? ⟨b, o + 12, none⟩ = some (.int .i64 t2.kind) ∧ w'.cell? ⟨b, o + 12 + 1, none⟩ = some (.string (str t2.name)) ∧ w'.cell? ⟨b, o + 12 + 2, none⟩ = some (.int .i64 t2.int) ∧ w'.cell? ⟨b, o + 12 + 3, none⟩ = some (.float .f64 f2) ∧ w'.cell? ⟨b, o + 12 + 4, none⟩ = some (.bool t2.flag) ∧ w'.cell? ⟨b, o + 12 + 5, none⟩ = some (.bool t2.method) ∧ w'.cell? ⟨b, o + 12 + 6, none⟩ = some (.bool t2.limited) ∧ w'.cell? ⟨b, o + 12 + 7, none⟩ = some (.int .i64 t2.limit) ∧ w'.cell? ⟨b, o + 12 + 8, none⟩ = some (.slice a2 t2.kids.length c2) ∧ w'.cell? ⟨b, o + 12 + 9, none⟩ = some (.slice b2 t2.map.length e2) ∧ w'.cell? ⟨b, o + 12 + 10, none⟩ = some (.int .i64 p2) ∧ w'.cell? ⟨b, o + 12 + 11, none⟩ = some (.int .i64 q2))
    (first | with_reducible exact KEEP2.out _ (St.drew hW) | with_reducible exact KEEP2.out _ hst | with_reducible exact KEEP2.out _ (St.alloc hst _) | with_reducible exact KEEP2.out _ (St.allocD (St.drew hW) _) | with_reducible exact KEEP2.out _ (St.s7 hst zk y0 (Nat.le_refl _) _ _ _ _ _ _))
    (first | (go_at_call 50; apply Calls.mono; (focus (with_reducible exact St.eval HP.out HM2.out (And.left ‹St _ _ _ _ _ _ _ _ _ _ _ _ ∧ _›) HOK2.out HT2.out)); rintro e w2 ⟨x, f8, a8, c8, a9, c9, ok, left2, over2, rfl, hE, hW2, hm2, hV, hr2, hst⟩; (try (have L6 : Lb w2 wc.heap.size _ 39 := Lb.ext (Lb.drew (Lb.new' _ _ _ (by simp))) hE (by simp) (by omega); have r6 := L6.cell; have g6 := L6.frozen; have z6 := L6.lt))))
   all_goals
    go_wp21;go_meet
    case rel =>
     first |(have qq := Got.there hst zk hW2 hm2 y0 (Nat.le_refl _) (by simp) hV hr2 L6; exact ⟨_, x, f8, a8, c8, a9, c9, ok, left2, over2, rfl, rfl, qq⟩) |(have qq := Got.fresh hst hW2 hm2 (show _ < wc.drew.heap.size from y0) hV hr2; exact ⟨_, x, f8, a8, c8, a9, c9, ok, left2, over2, rfl, rfl, qq⟩)
  case rest =>
   obtain ⟨b7, u, f7, a7, c7, a6, c6, ok2, left3, over3, rfl, rfl, hG2⟩ := hcut;have hG := G.out;have L6 := hG.blk.ext hG2.p hG.blk.lt (by have := hG.at6; omega);have hV1 := hG.val.ext (hG2.p.weak fun b hb => by rw [hb]; exact .inl HP.out.kw) (Nat.le_refl _);have hm3 := mono_trans hG.mono hG2.mono;have s1 := hG2.f.b0.cell; have n1 := hG2.f.b1.cell 1;have r2 := hG2.f.b2.cell; have g2 := hG2.f.b2.frozen;have r6 := L6.cell; have x6 := L6.lt;have r7 := hG2.blk.cell; have x7 := hG2.blk.lt;have x0 : w.heap.size + 1 + 1 < wc.heap.size := hG2.f.size;have x1 : w.heap.size + 1 < wc.heap.size := (by omega);have x2 : w.heap.size < wc.heap.size := (by omega);have G2 := Lib.hid (And.intro hG2 (And.intro hV1 hm3));simp only [tcells, List.getElem?_cons_succ, List.getElem?_cons_zero] at n1;unfold zcells at r2;unfold vcells at r6 r7;have h6 := hG.at6;have h7 := hG2.at6;clear hG hG2 hV1 hm3 L6;cases oka
   ·go_wp21;refine bodyPost_ret (v := .tuple #[zero, .bool false]) (by simp [results, Try.results63, go_sem, r2, g2, x0]; try rfl) rfl ?_;obtain ⟨hG2, hV1, hm3⟩ := G2.out;exact Evd.end (x := {}) (ok := false) rfl hG2.f.ext hG2.work hm3 zk (by go_grown) (zeroV _ _) fun ho => by rw [G.out.mean (hG2.mono ho).1, hG2.mean ho]; rfl
   ·cases ok2
    ·go_wp21;refine bodyPost_ret (v := .tuple #[zero, .bool false]) (by simp [results, Try.results63, go_sem, r2, g2, x0]; try rfl) rfl ?_;obtain ⟨hG2, hV1, hm3⟩ := G2.out;exact Evd.end (x := {}) (ok := false) rfl hG2.f.ext hG2.work hm3 zk (by go_grown) (zeroV _ _) fun ho => by rw [G.out.mean (hG2.mono ho).1, hG2.mean ho]; rfl
    ·have A := Lib.hid (fun w' (e : Below wc.heap.size wc w') => element_any (Xr k (w.heap.size + 1 + 1)) xa u fa aa ca ab cb f7 a7 c7 a6 c6 w' (G2.out.2.1.ext (.of e) (Nat.le_refl _)) (G2.out.1.val.ext (.of e) (Nat.le_refl _)))
     go_wp2_with fail
     go_at_call 77;apply Calls.mono
     ·with_reducible refine A.out _ ?_
      exact Below.refl _ _
     rintro e w5 ⟨y, f5, a5, c5, a4, c4, ok5, rfl, hb5, hV5, hr5⟩;have L2 := G2.out.1.f.b2.below hb5 (by omega);have HB := Lib.hid hb5; have HV := Lib.hid hV5; have HR := Lib.hid hr5;replace r2 := L2.cell; replace g2 := L2.frozen; have x5 := L2.lt;unfold zcells at r2;clear L2 hb5 hV5 hr5 A r6 r7 s1 n1;go_wp21;refine bodyPost_ret (v := .tuple #[va y f5 a5 c5 a4 c4, .bool ok5]) (by simp [results, Try.results63, go_sem, r2, g2, x5]; try rfl) rfl ?_;obtain ⟨hG2, hV1, hm3⟩ := G2.out;have hB5 := HB.out.mono (show w.heap.size ≤ wc.heap.size by omega);exact Evd.end (x := y) (ok := ok5) rfl (hG2.f.ext.trans (.of hB5)) (hG2.work.below hB5 zk) hm3 zk (by go_grown) (HV.out.stored y f5 a5 c5 a4 c4) fun ho => by rw [G.out.mean (hG2.mono ho).1, hG2.mean ho]; exact HR.out
end
section
attribute [local go_sem ↓] Go.wp_at_zero Go.wp_at_succ
open Go.RowKit
set_option maxHeartbeats 1600000 in
set_option maxRecDepth 100000 in
theorem blt_zero (t : Tr) (hk : t.kids = []) (k : Nat → Prop) (wk : Nat) (env : Env) (m : Nat) (an : Option Addr) (cn : Nat) (ai : Option Addr) (ni ci : Nat) (left : Int) (over : Bool) (f : Nat) (a : Option Addr) (c : Nat) (a' : Option Addr) (c' : Nat) (p q : Int) (w : World)
 (hp : Pre k wk env m an cn ai ni ci left over w) :
 Calls Try.prog 64 #[sa env.names.length wk an cn ai ni ci, ta t f a c a' c' p q] w (Evd k wk left over none w) := by
 have zk : wk < w.heap.size := hp.lt wk hp.kw;have hkz : ((t.kids.length : Int) == 0) = true := by rw [hk]; rfl
 have HP := Lib.hid hp;clear hp hk;go_enter Try.func64, Try.ntmps64
 go_wp2_with fail
 refine bodyPost_ret (v := .tuple #[zero, .bool false]) (by simp [results, Try.results64, go_sem]; try rfl) rfl ?_;exact Evd.end (x := {}) (ok := false) (w1 := w) rfl (Ext.refl _ _ _) HP.out.work mono_refl zk (by go_grown) (zeroV _ _) fun ho => rfl
mutual
def fine : Tr → Prop
 |⟨_, name, _, _, _, _, _, _, ks, ms⟩ => (ms = [] ∨ name = nm "filter" ∧ ∃ t1, ms = [t1]) ∧ fines ks ∧ fines ms
def fines : List Tr → Prop
 |[] => True
 |t :: l => fine t ∧ fines l
end
theorem fine_eq (t : Tr) : fine t ↔ (t.map = [] ∨ t.name = nm "filter" ∧ ∃ t1, t.map = [t1]) ∧ fines t.kids ∧ fines t.map := by cases t; rw [fine]
theorem fines_eq (l : List Tr) : fines l ↔ ∀ t ∈ l, fine t := by
 induction l with
 |nil => simp [fines]
 |cons a l ih => rw [fines, ih]; simp
theorem body_eq (t : Tr) : (D t).body = if t.kind = 16 then oneOf (Ds t.kids) else none := by rw [D_eq]; rfl
theorem oneOf_ne (l : List Tr) (h : l.length ≠ 1) : oneOf (Ds l) = none := by
 rw [Ds_eq]
 match l with
 |[] => rfl
 |[a] => exact absurd rfl h
 |a :: b :: r => rfl
theorem map_bind (o : Option (List Vl)) : (o.map fun l => ({ kind := 5, items := l } : Vl)) = o.bind fun l => some { kind := 5, items := l } := by cases o <;> rfl
theorem eval_node (t : Tr) (hk : ∀ t1 ∈ t.kids, EvalOk t1) (hk2 : ∀ t1 ∈ t.kids, ∀ t2 ∈ t1.kids, EvalOk t2) (hm : MapOk t) : EvalOk t := by
 show EvalAt t (D t).val;have hD : (D t).val = sem t (Ds t.kids) (Ds t.map) := by rw [D_eq]; rfl
 by_cases c1 : t.kind = 1
 ·rw [show (D t).val = fun _ => some {} from by rw [hD]; funext env; simp [sem, c1]]; exact eval_plan t _ (.c1 c1)
 by_cases c2 : t.kind = 2
 ·rw [show (D t).val = fun env => lookup env.names t.name from by rw [hD]; funext env; simp [sem, c2]]; exact eval_plan t _ (.n2 c2)
 by_cases c3 : t.kind = 3
 ·rw [show (D t).val = fun _ => some { kind := 1, int := t.int } from by rw [hD]; funext env; simp [sem, c3]]; exact eval_plan t _ (.c3 c3)
 by_cases c4 : t.kind = 4
 ·rw [show (D t).val = fun _ => some { kind := 2, flt := t.flt } from by rw [hD]; funext env; simp [sem, c4]]; exact eval_plan t _ (.c4 c4)
 by_cases c5 : t.kind = 5
 ·rw [show (D t).val = fun _ => some { kind := 4, bool := t.flag } from by rw [hD]; funext env; simp [sem, c5]]; exact eval_plan t _ (.c5 c5)
 by_cases c6 : t.kind = 6
 ·rw [show (D t).val = fun _ => some { kind := 3, text := t.name } from by rw [hD]; funext env; simp [sem, c6]]; exact eval_plan t _ (.c6 c6)
 by_cases c8 : t.kind = 8
 ·rw [show (D t).val = fun env => (list env (Ds t.kids)).map fun l => { kind := 5, items := l } from by rw [hD]; funext env; simp only [map_bind]; simp [sem, c8]]; exact eval_plan t _ (.l8 c8 hk)
 by_cases c21 : t.kind = 21
 ·rw [show (D t).val = fun env => (list env (Ds t.kids)).map fun l => { kind := 5, items := l } from by rw [hD]; funext env; simp only [map_bind]; simp [sem, c21]]; exact eval_plan t _ (.l21 c21 hk)
 by_cases c9 : t.kind = 9
 ·by_cases hl : t.kids.length = 1
  ·obtain ⟨t1, h1⟩ : ∃ t1, t.kids = [t1] := by
    match h : t.kids, hl with
    |[x], _ => exact ⟨x, rfl⟩
   rw [show (D t).val = fun env => ((D t1).val env).bind (unary t.name) from by rw [hD]; funext env; simp [sem, c9, h1, Ds]];exact eval_plan t _ <| .d9 c9 _ fun k wk env m an cn ai ni ci left f a c a' c' p q w hp hr ht => unary_kids t t1 h1 (hk t1 (by rw [h1]; simp)) k wk env m an cn ai ni ci left false f a c a' c' p q w hp ht
  ·rw [show (D t).val = fun env => none from by
    rw [hD]; funext env; simp only [sem, c9]; rw [Ds_eq]
    match h : t.kids with
    |[] => simp
    |[x] => rw [h] at hl; exact absurd rfl hl
    |x :: y :: r => simp]
   exact eval_plan t _ <| .d9 c9 _ fun k wk env m an cn ai ni ci left f a c a' c' p q w hp hr ht => unary_bad t hl k wk env m an cn ai ni ci left false f a c a' c' p q w hp
 by_cases c10 : t.kind = 10
 ·rw [show (D t).val = fun env => binary t.name env (Ds t.kids) from by rw [hD]; funext env; simp [sem, c10]];exact eval_plan t _ <| .d10 c10 _ fun k wk env m an cn ai ni ci left f a c a' c' p q w hp hr ht => binary_any t hk k wk env m an cn ai ni ci left false f a c a' c' p q w hp ht
 by_cases c12 : t.kind = 12
 ·by_cases hl : t.kids.length = 2
  ·obtain ⟨t1, t2, h1⟩ : ∃ t1 t2, t.kids = [t1, t2] := by
    match h : t.kids, hl with
    |[x, y], _ => exact ⟨x, y, rfl⟩
   cases hme : t.method with
   |false =>
    rw [show (D t).val = fun env => (pr ((D t1).val env) ((D t2).val env)).bind fun p => element p.1 p.2 from by rw [hD]; funext env; simp [sem, c12, h1, Ds, hme]];exact eval_plan t _ <| .d12 c12 _ fun k wk env m an cn ai ni ci left f a c a' c' p q w hp hr ht => member_kids t t1 t2 h1 (hk t1 (by rw [h1]; simp)) (hk t2 (by rw [h1]; simp)) hme k wk env m an cn ai ni ci left false f a c a' c' p q w hp ht
   |true =>
    rw [show (D t).val = fun env => none from by rw [hD]; funext env; simp [sem, c12, h1, Ds, hme]];exact eval_plan t _ <| .d12 c12 _ fun k wk env m an cn ai ni ci left f a c a' c' p q w hp hr ht => member_method t hl hme k wk env m an cn ai ni ci left false f a c a' c' p q w hp
  ·rw [show (D t).val = fun env => none from by
    rw [hD]; funext env; simp only [sem, c12]; rw [Ds_eq]
    match h : t.kids with
    |[] => simp
    |[x] => simp
    |[x, y] => rw [h] at hl; exact absurd rfl hl
    |x :: y :: z :: r => simp]
   exact eval_plan t _ <| .d12 c12 _ fun k wk env m an cn ai ni ci left f a c a' c' p q w hp hr ht => member_bad t hl k wk env m an cn ai ni ci left false f a c a' c' p q w hp
 by_cases c15 : t.kind = 15
 ·have hB : (D t).val = fun env => builtin { name := t.name, limited := t.limited, limit := t.limit, flag := t.flag, map := oneOf (Ds t.map) } env (Ds t.kids) := by rw [hD]; funext env; simp [sem, c15]
  rw [hB]
  match h : t.kids with
  |[] => exact eval_plan t _ <| .d15 c15 _ fun k wk env m an cn ai ni ci left f a c a' c' p q w hp hr ht => blt_zero t h k wk env m an cn ai ni ci left false f a c a' c' p q w hp
  |[t1] => exact eval_plan t _ <| .d15 c15 _ fun k wk env m an cn ai ni ci left f a c a' c' p q w hp hr ht => blt_one t t1 h (hk t1 (by rw [h]; simp)) k wk env m an cn ai ni ci left false f a c a' c' p q w hp (fun _ => hr) ht
  |t1 :: t2 :: r =>
   by_cases hg : r = [] ∧ t2.kind = 16 ∧ t2.kids.length = 1
   ·obtain ⟨rfl, h16, hl⟩ := hg;obtain ⟨t3, h3⟩ : ∃ t3, t2.kids = [t3] := by
     match h : t2.kids, hl with
     |[x], _ => exact ⟨x, rfl⟩
    rw [show (fun env => builtin { name := t.name, limited := t.limited, limit := t.limit, flag := t.flag, map := oneOf (Ds t.map) } env (Ds [t1, t2])) = fun env => ((D t1).val env).bind fun v => if v.kind = 5 then builtin2 { name := t.name, limited := t.limited, limit := t.limit, flag := t.flag, map := oneOf (Ds t.map) } (D t3).val env v else none from by
     funext env
     simp [Ds, builtin, body_eq, h16, h3, oneOf]]
    exact eval_plan t _ <| .d15 c15 _ fun k wk env m an cn ai ni ci left f a c a' c' p q w hp hr ht => blt_two t t1 t2 t3 h h16 h3 (hk t1 (by rw [h]; simp)) (hk2 t2 (by rw [h]; simp) t3 (by rw [h3]; simp)) hm k wk env m an cn ai ni ci left false f a c a' c' p q w hp (fun _ => hr) ht
   ·have hg2 : r ≠ [] ∨ ¬ (t2.kind = 16 ∧ t2.kids.length = 1) := by
     by_cases h1 : r = []
     ·exact .inr fun h2 => hg ⟨h1, h2⟩
     ·exact .inl h1
    rw [show (fun env => builtin { name := t.name, limited := t.limited, limit := t.limit, flag := t.flag, map := oneOf (Ds t.map) } env (Ds (t1 :: t2 :: r))) = fun env => ((D t1).val env).bind fun v => none from by
     funext env
     rw [Ds, Ds, builtin]
     congr 1
     funext v
     by_cases h1 : r = []
     ·subst h1;have hb : (D t2).body = none := by
       rw [body_eq]
       by_cases h2 : t2.kind = 16
       ·rw [if_pos h2]; exact oneOf_ne _ fun h3 => hg ⟨rfl, h2, h3⟩
       ·rw [if_neg h2]
      rw [hb, Ds]
     ·match r, h1 with
      |x :: r', _ => rw [Ds]]
    exact eval_plan t _ <| .d15 c15 _ fun k wk env m an cn ai ni ci left f a c a' c' p q w hp hr ht => blt_bad t t1 t2 r h (hk t1 (by rw [h]; simp)) hg2 k wk env m an cn ai ni ci left false f a c a' c' p q w hp (fun _ => hr) ht
 by_cases c17 : t.kind = 17
 ·rw [show (D t).val = pointer t.name from by rw [hD]; funext env; simp [sem, c17]]; exact eval_plan t _ (.p17 c17)
 by_cases c18 : t.kind = 18
 ·by_cases hl : t.kids.length = 3
  ·obtain ⟨t1, t2, t3, h1⟩ : ∃ t1 t2 t3, t.kids = [t1, t2, t3] := by
    match h : t.kids, hl with
    |[x, y, z], _ => exact ⟨x, y, z, rfl⟩
   rw [show (D t).val = fun env => (truth (D t1).val env).bind fun x => if x = true then (D t2).val env else (D t3).val env from by rw [hD]; funext env; simp [sem, c18, h1, Ds]];exact eval_plan t _ <| .d18 c18 _ fun k wk env m an cn ai ni ci left f a c a' c' p q w hp hr ht => condition_kids t t1 t2 t3 h1 (hk t1 (by rw [h1]; simp)) (hk t2 (by rw [h1]; simp)) (hk t3 (by rw [h1]; simp)) k wk env m an cn ai ni ci left false f a c a' c' p q w hp ht
  ·rw [show (D t).val = fun env => none from by
    rw [hD]; funext env; simp only [sem, c18]; rw [Ds_eq]
    match h : t.kids with
    |[] => simp
    |[x] => simp
    |[x, y] => simp
    |[x, y, z] => rw [h] at hl; exact absurd rfl hl
    |x :: y :: z :: u :: r => simp]
   exact eval_plan t _ <| .d18 c18 _ fun k wk env m an cn ai ni ci left f a c a' c' p q w hp hr ht => condition_bad t hl k wk env m an cn ai ni ci left false f a c a' c' p q w hp
 by_cases c19 : t.kind = 19
 ·by_cases hl : t.kids.length = 2
  ·obtain ⟨t1, t2, h1⟩ : ∃ t1 t2, t.kids = [t1, t2] := by
    match h : t.kids, hl with
    |[x, y], _ => exact ⟨x, y, rfl⟩
   rw [show (D t).val = fun env => ((D t1).val env).bind fun v => (D t2).val { env with names := env.names ++ [(t.name, v)] } from by rw [hD]; funext env; simp [sem, c19, h1, Ds]]
   exact eval_let t t1 t2 h1 c19 (hk t1 (by rw [h1]; simp)) (hk t2 (by rw [h1]; simp))
  ·rw [show (D t).val = fun env => none from by
    rw [hD]; funext env; simp only [sem, c19]; rw [Ds_eq]
    match h : t.kids with
    |[] => simp
    |[x] => simp
    |[x, y] => rw [h] at hl; exact absurd rfl hl
    |x :: y :: z :: r => simp]
   exact eval_let_bad t hl c19
 by_cases c20 : t.kind = 20
 ·rw [show (D t).val = fun env => (list env (Ds t.kids)).bind fun l => l.getLast? from by rw [hD]; funext env; simp [sem, c20]];exact eval_plan t _ <| .d20 c20 _ fun k wk env m an cn ai ni ci left f a c a' c' p q w hp hr ht => sequence_any t hk k wk env m an cn ai ni ci left false f a c a' c' p q w hp ht
 by_cases c22 : t.kind = 22
 ·rw [show (D t).val = fun env => pairs env { kind := 6 } (Ds t.kids) from by rw [hD]; funext env; simp [sem, c22]];exact eval_plan t _ <| .d22 c22 _ fun k wk env m an cn ai ni ci left f a c a' c' p q w hp hr ht => pairs_any t hk2 k wk env m an cn ai ni ci left f a c a' c' p q w hp ht
 ·rw [show (D t).val = fun _ => none from by rw [hD]; funext env; simp [sem, c1, c2, c3, c4, c5, c6, c8, c21, c9, c10, c12, c15, c17, c18, c19, c20, c22]];refine eval_plan t _ (.o ?_); exact fun c hc => by
   simp only [List.mem_cons, List.not_mem_nil, or_false] at hc;rcases hc with rfl | rfl | rfl | rfl | rfl | rfl | rfl | rfl | rfl | rfl | rfl | rfl | rfl | rfl | rfl | rfl | rfl <;> assumption
mutual
theorem eval_tree : (t : Tr) → fine t → EvalOk t ∧ ∀ t1 ∈ t.kids, EvalOk t1
 |⟨a, b, c, d, e, f, g, h, ks, ms⟩, hf => by
  obtain ⟨h1, h2, h3⟩ := (fine_eq _).1 hf;have hk := eval_trees ks h2;have hm := eval_trees ms h3;refine ⟨eval_node _ (fun t1 h => (hk t1 h).1) (fun t1 h => (hk t1 h).2) ?_, fun t1 h => (hk t1 h).1⟩;rcases h1 with h1 | ⟨h1, t1, h4⟩
  ·exact .inl h1
  ·exact .inr ⟨h1, t1, h4, (hm t1 (by show t1 ∈ ms; rw [show ms = [t1] from h4]; simp)).1⟩
theorem eval_trees : (l : List Tr) → fines l → ∀ t ∈ l, EvalOk t ∧ ∀ t1 ∈ t.kids, EvalOk t1
 |[], _ => fun t h => by cases h
 |t :: l, hf => fun t' h => by
  rw [fines] at hf;rcases List.mem_cons.1 h with h | h
  ·rw [h]; exact eval_tree t hf.1
  ·exact eval_trees l hf.2 t' h
end
end
section
attribute [local go_sem ↓] Go.wp_at_zero Go.wp_at_succ
open Go.RowKit
def Evl (k : Nat → Prop) (r : Option Vl) (w : World) (e : Ending) (w' : World) : Prop :=
 ∃ x f a c a' c' ok over, e = .returned (.tuple #[va x f a c a' c', .bool ok, .bool over]) ∧ (∃ w1, Ext (fun _ => False) w.heap.size w w1 ∧ Below w.heap.size w1 w') ∧ IsV w' k x (vcells x f a c a' c') ∧ (over = false → r = if ok then some x else none)
set_option maxHeartbeats 3200000 in
set_option maxRecDepth 100000 in
theorem eval_any (t : Tr) (hf : fine t) (k : Nat → Prop) (names : List (Nm × Vl)) (an : Option Addr) (cn : Nat) (ncs : List Value) (f : Nat) (a : Option Addr) (c : Nat) (a' : Option Addr) (c' : Nat) (p q : Int) (steps : Nat) (w : World)
 (hs : names.length + steps ≤ room) (hk : ∀ b, k b → b < w.heap.size) (hr : Row w k an ncs) (hn : IsNs w k names ncs) (ht : IsT w k t (tcells t f a c a' c' p q)) :
 Calls Try.prog 31 #[ta t f a c a' c' p q, .slice an names.length cn, .int .i64 steps] w (Evl k ((D t).val { names := names, item := none }) w) := by
 have HF := Lib.hid (eval_tree t hf).1;have HK := Lib.hid hk; have HR := Lib.hid hr; have HN := Lib.hid hn; have HT := Lib.hid ht;unfold room at hs;clear hf hk hr hn ht;go_enter Try.func31, Try.ntmps31
 go_wp2_with fail
 go_at_call 50;apply Calls.mono
 ·refine HF.out.calls (k := fun b => k b ∨ b = w.heap.size + 1 ∨ b = w.heap.size + 1 + 1) (wk := w.heap.size + 1 + 1) (env := { names := names, item := none }) (m := names.length) (ci := 0) (ni := 0) (ai := none) (left := (steps : Int)) (over := false) ⟨.inr (.inr rfl), ?_, ?_, ?_, ?_⟩ ?_
  ·intro b hb;simp;rcases hb with hb | hb | hb
   ·have := HK.out b hb; omega
   ·omega
   ·omega
  ·refine ⟨[], ncs, [], rfl, (HR.out.other (k' := fun b => k b ∨ b = w.heap.size + 1 ∨ b = w.heap.size + 1 + 1) ?_).ext (.of (by go_grown)) (Nat.le_refl _), (HN.out.other (k' := fun b => k b ∨ b = w.heap.size + 1 ∨ b = w.heap.size + 1 + 1) ?_).ext (.of (by go_grown)) (Nat.le_refl _), .inl rfl, .nil, rfl, Nat.le_refl _, Nat.zero_le _⟩
   ·intro b hb; rcases hb with hb | hb | hb; exact .inl hb; exact .inr (by omega); exact .inr (by omega)
   ·intro b hb; rcases hb with hb | hb | hb; exact .inl hb; exact .inr (by omega); exact .inr (by omega)
  ·exact ⟨((Lb.new' _ _ _ (by simp)).alloc _ : Lb _ (w.heap.size + 1 + 1) [.int .i64 steps, .bool false] 59), ⟨by omega, by omega⟩, fun _ => ⟨by omega, by omega⟩⟩
  ·intro _; unfold room; omega
  ·refine (HT.out.other ?_).ext (.of (by go_grown)) (Nat.le_refl _);intro b hb; rcases hb with hb | hb | hb; exact .inl hb; exact .inr (by omega); exact .inr (by omega)
 rintro e w2 ⟨x, f4, a4, c4, a5, c5, ok, left2, over2, rfl, hE, hW, hm, hV, hr2⟩;have L1 : Lb w2 (w.heap.size + 1) zcells 39 := Lb.ext (((Lb.new' _ _ _ (by simp)).alloc _).alloc _) hE (by simp; try omega) (by omega);have L3 : Lb w2 (w.heap.size + 1 + 1 + 1) _ 62 := Lb.ext (Lb.new' _ _ _ (by simp)) hE (by simp) (by omega);have HE := Lib.hid (show Below w.heap.size w w2 from Below.trans (by go_grown) ⟨hE.os, hE.tape, hE.output, hE.size, fun b hb => hE.block b (by simp; omega) (by omega)⟩);have hw2 : Lb w2 (w.heap.size + 1 + 1) [.int .i64 left2, .bool over2] 59 := hW.1;have r1 := L1.cell; have g1 := L1.frozen; have x1 := L1.lt;have x2 := hw2.lt;have H3 := Lib.hid (And.intro L1 (And.intro hw2 (And.intro L3 hV))); have HM := Lib.hid hr2;unfold zcells at r1;clear L1 L3 hE hW hm hV hr2 hw2
 go_upto_region 3 with (fail)
 refine forget (fun W => Below w.heap.size w W ∧ Lb W (w.heap.size + 1) (vcells x f4 a4 c4 a5 c5) 39 ∧ Lb W (w.heap.size + 1 + 1) [.int .i64 left2, .bool over2] 59 ∧ Lb W (w.heap.size + 1 + 1 + 1) [.slice an names.length cn, .slice none 0 0, .pointer (some ⟨w.heap.size + 1 + 1, 0, none⟩)] 62 ∧ IsV W (Xr k (w.heap.size + 1)) x (vcells x f4 a4 c4 a5 c5)) ?_ ?_
 ·obtain ⟨L1, L2, L3, hV⟩ := H3.out;refine ⟨?_, L1.s7 x f4 a4 c4 a5 c5, L2.s7o (by omega) x f4 a4 c4 a5 c5, L3.s7o (by omega) x f4 a4 c4 a5 c5, (hV.ext ((Ext.refl _ _ _).s7 (.inl (.inr (.inl rfl))) x f4 a4 c4 a5 c5) (Nat.le_refl _)).other fun b hb => .inl (hb.imp id .inl)⟩;have hb := HE.out
  go_grown
 clear r1 g1 x1 x2;rintro W ⟨hB, L1, L2, L3, hV⟩;have r1 := L1.cell; have g1 := L1.frozen; have x1 := L1.lt;have r2 := L2.cell; have x2 := L2.lt;have r3 := L3.cell; have x3 := L3.lt;have HB := Lib.hid hB; have HV := Lib.hid hV;unfold vcells at r1;clear L1 L2 L3 hB hV;cases ok with
 |false =>
  cases over2 with
  |false =>
   go_region
   all_goals
    go_wp21;refine bodyPost_ret (v := .tuple #[va x f4 a4 c4 a5 c5, .bool false, .bool false]) (by simp [results, Try.results31, go_sem, r1, g1, x1]; try rfl) rfl ?_;refine ⟨x, f4, a4, c4, a5, c5, false, false, rfl, ⟨_, .of HB.out, by go_grown⟩, (HV.out.stored x f4 a4 c4 a5 c5).ext ((Ext.refl _ _ _).drew) (Nat.le_refl _), fun ho => by simpa using HM.out⟩
  |true =>
   go_region
   all_goals
    go_wp21;refine bodyPost_ret (v := .tuple #[va x f4 a4 c4 a5 c5, .bool false, .bool true]) (by simp [results, Try.results31, go_sem, r1, g1, x1]; try rfl) rfl ?_;refine ⟨x, f4, a4, c4, a5, c5, false, true, rfl, ⟨_, .of HB.out, by go_grown⟩, (HV.out.stored x f4 a4 c4 a5 c5).ext ((Ext.refl _ _ _).drew) (Nat.le_refl _), fun ho => by cases ho⟩
 |true =>
  cases over2 with
  |false =>
   go_region
   all_goals
    go_wp21;refine bodyPost_ret (v := .tuple #[va x f4 a4 c4 a5 c5, .bool true, .bool false]) (by simp [results, Try.results31, go_sem, r1, g1, x1]; try rfl) rfl ?_;refine ⟨x, f4, a4, c4, a5, c5, true, false, rfl, ⟨_, .of HB.out, by go_grown⟩, (HV.out.stored x f4 a4 c4 a5 c5).ext ((Ext.refl _ _ _).drew) (Nat.le_refl _), fun ho => by simpa using HM.out⟩
  |true =>
   go_region
   all_goals
    go_wp21;refine bodyPost_ret (v := .tuple #[va x f4 a4 c4 a5 c5, .bool false, .bool true]) (by simp [results, Try.results31, go_sem, r1, g1, x1]; try rfl) rfl ?_;refine ⟨x, f4, a4, c4, a5, c5, false, true, rfl, ⟨_, .of HB.out, by go_grown⟩, (HV.out.stored x f4 a4 c4 a5 c5).ext ((Ext.refl _ _ _).drew) (Nat.le_refl _), fun ho => by cases ho⟩
end
end Go.Proofs.Ytafhhdimjkgihaa.Mn
