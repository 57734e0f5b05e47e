/- What the program does, function by function, and what trees mean: part 34. -/
import Derived.Deep.Cut
import Derived.Test.YtafhhdimjkgihaaM20
import Derived.Test.YtafhhdimjkgihaaM33
import Derived.Test.YtafhhdimjkgihaaM07
import Derived.Test.YtafhhdimjkgihaaM22
set_option linter.unusedSimpArgs false
set_option linter.unusedVariables false
namespace Go.Proofs.Ytafhhdimjkgihaa.Mn
section
attribute [local go_sem ↓] Go.wp_at_zero Go.wp_at_succ
open Go.RowKit
set_option maxHeartbeats 3200000 in
set_option maxRecDepth 100000 in
theorem binary_both (t t1 t2 : Tr) (hk : t.kids = [t1, t2]) (hok1 : EvalOk t1) (hok2 : EvalOk t2) (nn0 : (t.name == [97, 110, 100]) = false) (nn1 : (t.name == [38, 38]) = false) (nn2 : (t.name == [111, 114]) = false) (nn3 : (t.name == [124, 124]) = false) (nn4 : (t.name == [63, 63]) = false) (k : Nat → Prop) (wk : Nat) (env : Env) (m : Nat) (an : Option Addr) (cn : Nat) (ai : Option Addr) (ni ci : Nat) (left : Int) (over : Bool) (f : Nat) (a : Option Addr) (c : Nat) (a' : Option Addr) (c' : Nat) (p q : Int) (w : World)
 (hp : Pre k wk env m an cn ai ni ci left over w) (ht : IsT w k t (tcells t f a c a' c' p q)) :
 Calls Try.prog 62 #[sa env.names.length wk an cn ai ni ci, ta t f a c a' c' p q] w (Evd k wk left over ((pr ((D t1).val env) ((D t2).val env)).bind fun p => both t.name p.1 p.2) w) := by
 obtain ⟨b, o, rfl⟩ := kids_some ht (by rw [hk]; exact Nat.zero_lt_succ _);obtain ⟨hkb, hbs, f1, a1, c1, b1, e1, p1, q1, hT1, h121⟩ := kid_in ht (j := 0) (t1 := t1) (by rw [hk]; rfl);rw [Nat.zero_mul, Nat.add_zero] at h121;obtain ⟨hkb, hbs, f2, a2, c2, b2, e2, p2, q2, hT2, h122⟩ := kid_in ht (j := 1) (t1 := t2) (by rw [hk]; rfl);replace h122 : C12 w b (o + 12) t2 f2 a2 c2 b2 e2 p2 q2 := h122;have zk : wk < w.heap.size := hp.lt wk hp.kw;have hbk : ¬ b = wk := fun h => hkb (by rw [h]; exact hp.kw);have hkl : ((t.kids.length : Int) == 2) = true := by rw [hk]; rfl
 have hkl0 : 0 < t.kids.length := by rw [hk]; exact Nat.zero_lt_succ _
 have hkl1 : 1 < t.kids.length := by rw [hk]; simp
 have hki1 : (1 : Int) < (t.kids.length : Int) := by omega
 have KEEP := Lib.hid (show ∀ w', St w wk [.slice an env.names.length cn, .slice ai ni ci, .pointer (some ⟨wk, 0, none⟩)] (tcells t f (some ⟨b, o, none⟩) c a' c' p q) zcells 62 25 39 left over w w' → St w wk [.slice an env.names.length cn, .slice ai ni ci, .pointer (some ⟨wk, 0, none⟩)] (tcells t f (some ⟨b, o, none⟩) c a' c' p q) zcells 62 25 39 left over w w' ∧ w'.cell? ⟨w.heap.size, 0, none⟩ = some (.slice an env.names.length cn) ∧ w'.cell? ⟨w.heap.size, 1, none⟩ = some (.slice ai ni ci) ∧ w'.cell? ⟨w.heap.size, 2, none⟩ = some (.pointer (some ⟨wk, 0, none⟩)) ∧ w'.cell? ⟨w.heap.size + 1, 8, none⟩ = some (.slice (some ⟨b, o, none⟩) t.kids.length c) ∧ w'.cell? ⟨b, o, none⟩ = some (.int .i64 t1.kind) ∧ w'.cell? ⟨b, o + 1, none⟩ = some (.string (str t1.name)) ∧ w'.cell? ⟨b, o + 2, none⟩ = some (.int .i64 t1.int) ∧ w'.cell? ⟨b, o + 3, none⟩ = some (.float .f64 f1) ∧ w'.cell? ⟨b, o + 4, none⟩ = some (.bool t1.flag) ∧ w'.cell? ⟨b, o + 5, none⟩ = some (.bool t1.method) ∧ w'.cell? ⟨b, o + 6, none⟩ = some (.bool t1.limited) ∧ w'.cell? ⟨b, o + 7, none⟩ = some (.int .i64 t1.limit) ∧ w'.cell? ⟨b, o + 8, none⟩ = some (.slice a1 t1.kids.length c1) ∧ w'.cell? ⟨b, o + 9, none⟩ = some (.slice b1 t1.map.length e1) ∧ w'.cell? ⟨b, o + 10, none⟩ = some (.int .i64 p1) ∧ w'.cell? ⟨b, o + 11, none⟩ = some (.int .i64 q1) from fun w' h => ⟨h, h.f.b0.cell 0, h.f.b0.cell 1, h.f.b0.cell 2, h.f.b1.cell 8, (h121.ext h.f.ext hbs hbk).c0, (h121.ext h.f.ext hbs hbk).c1, (h121.ext h.f.ext hbs hbk).c2, (h121.ext h.f.ext hbs hbk).c3, (h121.ext h.f.ext hbs hbk).c4, (h121.ext h.f.ext hbs hbk).c5, (h121.ext h.f.ext hbs hbk).c6, (h121.ext h.f.ext hbs hbk).c7, (h121.ext h.f.ext hbs hbk).c8, (h121.ext h.f.ext hbs hbk).c9, (h121.ext h.f.ext hbs hbk).c10, (h121.ext h.f.ext hbs hbk).c11⟩)
 have HM := Lib.hid (mono_refl (left := left) (over := over)); have HP := Lib.hid hp; have HK := Lib.hid hk;have HT1 := Lib.hid hT1; have HOK1 := Lib.hid hok1; have H121 := Lib.hid h121;have HT2 := Lib.hid hT2; have HOK2 := Lib.hid hok2; have H122 := Lib.hid h122;clear hp ht hk hT1 hok1 h121 hT2 hok2 h122;go_enter Try.func62, Try.ntmps62
 go_upto_region 19 with (first | (go_at_call 67; refine (kids_any _ _ _ _ _ _ _ _ _ _).mono ?_; rintro e w1 ⟨rfl, hb1⟩; have L1 : Lb w1 (w.heap.size + 1) _ 25 := ((Lb.new' _ _ _ (by simp)).alloc _).below hb1 (by simp); have n1 := L1.cell 1; simp only [tcells, List.getElem?_cons_succ, List.getElem?_cons_zero] at n1; have yy := L1.lt))
 clear n1 yy L1;refine forget (fun w' => St w wk [.slice an env.names.length cn, .slice ai ni ci, .pointer (some ⟨wk, 0, none⟩)] (tcells t f (some ⟨b, o, none⟩) c a' c' p q) zcells 62 25 39 left over w w') ?_ ?_
 ·exact ⟨.of (Below.trans (by go_grown) (hb1.mono (by first | omega | (simp; done) | (simp; omega)))), ⟨.of (Below.trans (by go_grown) (hb1.mono (by first | omega | (simp; done) | (simp; omega)))), (((Lb.new _ _ _).alloc _).alloc _).below hb1 (by first | omega | (simp; done) | (simp; omega)), ((Lb.new' _ _ _ (by simp)).alloc _).below hb1 (by first | omega | (simp; done) | (simp; omega)), (Lb.new' _ _ _ (by simp)).below hb1 (by first | omega | (simp; done) | (simp; omega))⟩, left, over, (((HP.out.work.alloc _).alloc _).alloc _).below hb1 (by first | omega | (simp; done) | (simp; omega)), fun h => ⟨h, Int.le_refl _⟩⟩
 clear hb1;intro W hW;have z0 : w.heap.size + 1 + 1 < W.heap.size := hW.f.size;have z1 : w.heap.size + 1 < W.heap.size := by omega
 have z2 : w.heap.size < W.heap.size := by omega
 have zp : w.heap.size ≤ W.heap.size := by omega
 go_cut [12, 13] from 16 (fun s6 s7 wx => ∃ b6 x f8 a8 c8 a9 c9 ok left2 over2, s6 = .pointer (some ⟨b6, 0, none⟩) ∧ s7 = .bool ok ∧ Got w wk [.slice an env.names.length cn, .slice ai ni ci, .pointer (some ⟨wk, 0, none⟩)] (tcells t f (some ⟨b, o, none⟩) c a' c' p q) zcells 62 25 39 k left over ((D t1).val env) b6 x f8 a8 c8 a9 c9 ok left2 over2 w wx)
 case first =>
  go_region_held3 (fun w' => St w wk [.slice an env.names.length cn, .slice ai ni ci, .pointer (some ⟨wk, 0, none⟩)] (tcells t f (some ⟨b, o, none⟩) c a' c' p q) zcells 62 25 39 left over w w' ∧ w'.cell? ⟨w.heap.size, 0, none⟩ = some (.slice an env.names.length cn) ∧ w'.cell? ⟨w.heap.size, 1, none⟩ = some (.slice ai ni ci) ∧ w'.cell? ⟨w.heap.size, 2, none⟩ = some (.pointer (some ⟨wk, 0, none⟩)) ∧ w'.cell? ⟨w.heap.size + 1, 8, none⟩ = some (.slice (some ⟨b, o, none⟩) t.kids.length c) ∧ w'.cell? ⟨b, o, none⟩ = some (.int .i64 t1.kind) ∧ w'.cell? ⟨b, o + 1, none⟩ = some (.string (str t1.name)) ∧ w'.cell? ⟨b, o + 2, none⟩ = some (.int .i64 t1.int) ∧ w'.cell? ⟨b, o + 3, none⟩ = some (.float .f64 f1) ∧ w'.cell? ⟨b, o + 4, none⟩ = some (.bool t1.flag) ∧ w'.cell? ⟨b, o + 5, none⟩ = some (.bool t1.method) ∧ w'.cell? ⟨b, o + 6, none⟩ = some (.bool t1.limited) ∧ w'.cell? ⟨b, o + 7, none⟩ = some (.int .i64 t1.limit) ∧ w'.cell? ⟨b, o + 8, none⟩ = some (.slice a1 t1.kids.length c1) ∧ w'.cell? ⟨b, o + 9, none⟩ = some (.slice b1 t1.map.length e1) ∧ w'.cell? ⟨b, o + 10, none⟩ = some (.int .i64 p1) ∧ w'.cell? ⟨b, o + 11, none⟩ = some (.int .i64 q1))
   (first | with_reducible exact KEEP.out _ (St.drew hW) | with_reducible exact KEEP.out _ hst | with_reducible exact KEEP.out _ (St.alloc hst _) | with_reducible exact KEEP.out _ (St.allocD (St.drew hW) _) | with_reducible exact KEEP.out _ (St.s7 hst zk z0 zp _ _ _ _ _ _))
   (first | (go_at_call 50; apply Calls.mono; (focus (with_reducible exact St.eval HP.out HM.out (And.left ‹St _ _ _ _ _ _ _ _ _ _ _ _ ∧ _›) HOK1.out HT1.out)); rintro e w2 ⟨x, f8, a8, c8, a9, c9, ok, left2, over2, rfl, hE, hW2, hm2, hV, hr2, hst⟩; (try (have L6 : Lb w2 W.heap.size _ 39 := Lb.ext (Lb.drew (Lb.new' _ _ _ (by simp))) hE (by simp) (by omega); have r6 := L6.cell; have g6 := L6.frozen; have z6 := L6.lt))))
  all_goals
   go_wp21;go_meet
   case rel =>
    first |(have qq := Got.there hst zk hW2 hm2 z0 zp (by simp) hV hr2 L6; exact ⟨_, x, f8, a8, c8, a9, c9, ok, left2, over2, rfl, rfl, qq⟩) |(have qq := Got.fresh hst hW2 hm2 (show _ < W.drew.heap.size from z0) hV hr2; exact ⟨_, x, f8, a8, c8, a9, c9, ok, left2, over2, rfl, rfl, qq⟩)
 case rest =>
  obtain ⟨b6, xa, fa, aa, ca, ab, cb, oka, lefta, overa, rfl, rfl, hG⟩ := hcut;have hW : St w wk [.slice an env.names.length cn, .slice ai ni ci, .pointer (some ⟨wk, 0, none⟩)] (tcells t f (some ⟨b, o, none⟩) c a' c' p q) zcells 62 25 39 lefta overa wc wc := ⟨Ext.refl _ _ _, hG.f, lefta, overa, hG.work, mono_refl⟩;have HM2 := Lib.hid hG.mono;have G := Lib.hid hG;have y0 : w.heap.size + 1 + 1 < wc.heap.size := hG.f.size;have y1 : w.heap.size + 1 < wc.heap.size := by omega
  have y2 : w.heap.size < wc.heap.size := by omega
  have h122 := H122.out;have KEEP2 := Lib.hid (show ∀ w', St w wk [.slice an env.names.length cn, .slice ai ni ci, .pointer (some ⟨wk, 0, none⟩)] (tcells t f (some ⟨b, o, none⟩) c a' c' p q) zcells 62 25 39 lefta overa wc w' → St w wk [.slice an env.names.length cn, .slice ai ni ci, .pointer (some ⟨wk, 0, none⟩)] (tcells t f (some ⟨b, o, none⟩) c a' c' p q) zcells 62 25 39 lefta overa wc w' ∧ w'.cell? ⟨w.heap.size, 0, none⟩ = some (.slice an env.names.length cn) ∧ w'.cell? ⟨w.heap.size, 1, none⟩ = some (.slice ai ni ci) ∧ w'.cell? ⟨w.heap.size, 2, none⟩ = some (.pointer (some ⟨wk, 0, none⟩)) ∧ w'.cell? ⟨w.heap.size + 1, 8, none⟩ = some (.slice (some ⟨b, o, none⟩) t.kids.length c) ∧ w'.cell? ⟨b, o + 12, none⟩ = some (.int .i64 t2.kind) ∧ w'.cell? ⟨b, o + 12 + 1, none⟩ = some (.string (str t2.name)) ∧ w'.cell? ⟨b, o + 12 + 2, none⟩ = some (.int .i64 t2.int) ∧ w'.cell? ⟨b, o + 12 + 3, none⟩ = some (.float .f64 f2) ∧ w'.cell? ⟨b, o + 12 + 4, none⟩ = some (.bool t2.flag) ∧ w'.cell? ⟨b, o + 12 + 5, none⟩ = some (.bool t2.method) ∧ w'.cell? ⟨b, o + 12 + 6, none⟩ = some (.bool t2.limited) ∧ w'.cell? ⟨b, o + 12 + 7, none⟩ = some (.int .i64 t2.limit) ∧ w'.cell? ⟨b, o + 12 + 8, none⟩ = some (.slice a2 t2.kids.length c2) ∧ w'.cell? ⟨b, o + 12 + 9, none⟩ = some (.slice b2 t2.map.length e2) ∧ w'.cell? ⟨b, o + 12 + 10, none⟩ = some (.int .i64 p2) ∧ w'.cell? ⟨b, o + 12 + 11, none⟩ = some (.int .i64 q2) from fun w' h => ⟨h, h.f.b0.cell 0, h.f.b0.cell 1, h.f.b0.cell 2, h.f.b1.cell 8, (h122.ext h.f.ext hbs hbk).c0, (h122.ext h.f.ext hbs hbk).c1, (h122.ext h.f.ext hbs hbk).c2, (h122.ext h.f.ext hbs hbk).c3, (h122.ext h.f.ext hbs hbk).c4, (h122.ext h.f.ext hbs hbk).c5, (h122.ext h.f.ext hbs hbk).c6, (h122.ext h.f.ext hbs hbk).c7, (h122.ext h.f.ext hbs hbk).c8, (h122.ext h.f.ext hbs hbk).c9, (h122.ext h.f.ext hbs hbk).c10, (h122.ext h.f.ext hbs hbk).c11⟩)
  clear h122;clear hG
  go_upto_region 20 with (fail)
  go_cut [14, 15] from 16 (fun s6 s7 wx => ∃ b6 x f8 a8 c8 a9 c9 ok left2 over2, s6 = .pointer (some ⟨b6, 0, none⟩) ∧ s7 = .bool ok ∧ Got w wk [.slice an env.names.length cn, .slice ai ni ci, .pointer (some ⟨wk, 0, none⟩)] (tcells t f (some ⟨b, o, none⟩) c a' c' p q) zcells 62 25 39 k lefta overa ((D t2).val env) b6 x f8 a8 c8 a9 c9 ok left2 over2 wc wx)
  case first =>
   go_region_held3 (fun w' => St w wk [.slice an env.names.length cn, .slice ai ni ci, .pointer (some ⟨wk, 0, none⟩)] (tcells t f (some ⟨b, o, none⟩) c a' c' p q) zcells 62 25 39 lefta overa wc w' ∧ w'.cell? ⟨w.heap.size, 0, none⟩ = some (.slice an env.names.length cn) ∧ w'.cell? ⟨w.heap.size, 1, none⟩ = some (.slice ai ni ci) ∧ w'.cell? ⟨w.heap.size, 2, none⟩ = some (.pointer (some ⟨wk, 0, none⟩)) ∧ w'.cell? ⟨w.heap.size + 1, 8, none⟩ = some (.slice (some ⟨b, o, none⟩) t.kids.length c) ∧ w'.cell? ⟨b, o + 12, none⟩ = some (.int .i64 t2.kind) ∧ w'.cell? ⟨b, o + 12 + 1, none⟩ = some (.string (str t2.name)) ∧ w'.cell? ⟨b, o + 12 + 2, none⟩ = some (.int .i64 t2.int) ∧ w'.cell? ⟨b, o + 12 + 3, none⟩ = some (.float .f64 f2) ∧ w'.cell? ⟨b, o + 12 + 4, none⟩ = some (.bool t2.flag) ∧ w'.cell? ⟨b, o + 12 + 5, none⟩ = some (.bool t2.method) ∧ w'.cell? ⟨b, o + 12 + 6, none⟩ = some (.bool t2.limited) ∧ w'.cell? ⟨b, o + 12 + 7, none⟩ = some (.int .i64 t2.limit) ∧ w'.cell? ⟨b, o + 12 + 8, none⟩ = some (.slice a2 t2.kids.length c2) ∧ w'.cell? ⟨b, o + 12 + 9, none⟩ = some (.slice b2 t2.map.length e2) ∧ w'.cell? ⟨b, o + 12 + 10, none⟩ = some (.int .i64 p2) ∧ w'.cell? ⟨b, o + 12 + 11, none⟩ = some (.int .i64 q2))
    (first | with_reducible exact KEEP2.out _ (St.drew hW) | with_reducible exact KEEP2.out _ hst | with_reducible exact KEEP2.out _ (St.alloc hst _) | with_reducible exact KEEP2.out _ (St.allocD (St.drew hW) _) | with_reducible exact KEEP2.out _ (St.s7 hst zk y0 (Nat.le_refl _) _ _ _ _ _ _))
    (first | (go_at_call 50; apply Calls.mono; (focus (with_reducible exact St.eval HP.out HM2.out (And.left ‹St _ _ _ _ _ _ _ _ _ _ _ _ ∧ _›) HOK2.out HT2.out)); rintro e w2 ⟨x, f8, a8, c8, a9, c9, ok, left2, over2, rfl, hE, hW2, hm2, hV, hr2, hst⟩; (try (have L6 : Lb w2 wc.heap.size _ 39 := Lb.ext (Lb.drew (Lb.new' _ _ _ (by simp))) hE (by simp) (by omega); have r6 := L6.cell; have g6 := L6.frozen; have z6 := L6.lt))))
   all_goals
    go_wp21;go_meet
    case rel =>
     first |(have qq := Got.there hst zk hW2 hm2 y0 (Nat.le_refl _) (by simp) hV hr2 L6; exact ⟨_, x, f8, a8, c8, a9, c9, ok, left2, over2, rfl, rfl, qq⟩) |(have qq := Got.fresh hst hW2 hm2 (show _ < wc.drew.heap.size from y0) hV hr2; exact ⟨_, x, f8, a8, c8, a9, c9, ok, left2, over2, rfl, rfl, qq⟩)
  case rest =>
   obtain ⟨b7, u, f7, a7, c7, a6, c6, ok2, left3, over3, rfl, rfl, hG2⟩ := hcut;have hG := G.out;have L6 := hG.blk.ext hG2.p hG.blk.lt (by have := hG.at6; omega);have hV1 := hG.val.ext (hG2.p.weak fun b hb => by rw [hb]; exact .inl HP.out.kw) (Nat.le_refl _);have hm3 := mono_trans hG.mono hG2.mono;have s1 := hG2.f.b0.cell; have n1 := hG2.f.b1.cell 1;have r2 := hG2.f.b2.cell; have g2 := hG2.f.b2.frozen;have r6 := L6.cell; have x6 := L6.lt;have r7 := hG2.blk.cell; have x7 := hG2.blk.lt;have x0 : w.heap.size + 1 + 1 < wc.heap.size := hG2.f.size;have x1 : w.heap.size + 1 < wc.heap.size := (by omega);have x2 : w.heap.size < wc.heap.size := (by omega);have G2 := Lib.hid (And.intro hG2 (And.intro hV1 hm3));simp only [tcells, List.getElem?_cons_succ, List.getElem?_cons_zero] at n1;unfold zcells at r2;unfold vcells at r6 r7;have h6 := hG.at6;have h7 := hG2.at6;clear hG hG2 hV1 hm3 L6;cases oka
   ·go_wp21;refine bodyPost_ret (v := .tuple #[zero, .bool false]) (by simp [results, Try.results62, go_sem, r2, g2, x0]; try rfl) rfl ?_;obtain ⟨hG2, hV1, hm3⟩ := G2.out;exact Evd.end (x := {}) (ok := false) rfl hG2.f.ext hG2.work hm3 zk (by go_grown) (zeroV _ _) fun ho => by rw [G.out.mean (hG2.mono ho).1, hG2.mean ho]; rfl
   ·cases ok2
    ·go_wp21;refine bodyPost_ret (v := .tuple #[zero, .bool false]) (by simp [results, Try.results62, go_sem, r2, g2, x0]; try rfl) rfl ?_;obtain ⟨hG2, hV1, hm3⟩ := G2.out;exact Evd.end (x := {}) (ok := false) rfl hG2.f.ext hG2.work hm3 zk (by go_grown) (zeroV _ _) fun ho => by rw [G.out.mean (hG2.mono ho).1, hG2.mean ho]; rfl
    ·have ta := G2.out.2.1.inv.2.2.2.2.2.1;have tu := G2.out.1.val.inv.2.2.2.2.2.1;have hwr : IntKind.i64.wrap ((xa.text.length : Int) + (u.text.length : Int)) = (xa.text.length : Int) + (u.text.length : Int) := by rw [IntKind.wrap_i64]; omega
     go_wp2_with fail
     go_at_call 58;apply Calls.mono
     ·exact step_any wk left3 (((xa.text.length : Int) + (u.text.length : Int)) / 8) over3 _ G2.out.1.work (by omega)
     rintro e w5 ⟨left5, over5, rfl, hE5, hW5, hm5⟩;obtain ⟨hG2, hV1, hm3⟩ := G2.out;have zc : ∀ b, Xr k (w.heap.size + 1 + 1) b → b < wc.heap.size := fun b hb => by
      rcases hb with hb | hb
      ·have := HP.out.lt b hb; omega
      ·omega
     have kx : Xr k (w.heap.size + 1 + 1) wk := .inl HP.out.kw;have F5 := hG2.f.call hE5 zk;have V5 := hV1.ext (hE5.weak fun b hb => by rw [hb]; exact kx) (Nat.le_refl _);have U5 := hG2.val.ext (hE5.weak fun b hb => by rw [hb]; exact kx) (Nat.le_refl _);have M6 := hG2.blk.ext hE5 hG2.blk.lt (by omega);have M5 := (G.out.blk.ext hG2.p G.out.blk.lt (by omega)).ext hE5 x6 (by omega);have hm6 : over5 = false → over3 = false ∧ left5 ≤ left3 ∧ ((xa.text.length : Int) + (u.text.length : Int)) / 8 ≤ left3 := fun ho => (by have h1 := hm5 ho; have h2 := hW5.2.2 ho; exact ⟨h1.1, by omega, by omega⟩);have r2 := F5.b2.cell; have g2 := F5.b2.frozen;have s1 := F5.b0.cell; have n1 := F5.b1.cell 1;have r6 := M5.cell; have x6 := M5.lt;have r7 := M6.cell; have x7 := M6.lt;have x0 := F5.size;have x1 : w.heap.size + 1 < w5.heap.size := (by omega);have x2 : w.heap.size < w5.heap.size := (by omega);have hm7 := Lib.hid (mono_trans hm3 (fun ho => ⟨(hm6 ho).1, (hm6 ho).2.1⟩ : over5 = false → over3 = false ∧ left5 ≤ left3))
     simp only [tcells, List.getElem?_cons_succ, List.getElem?_cons_zero] at n1;unfold zcells at r2;unfold vcells at r6 r7;have HF5 := Lib.hid F5; have HW5 := Lib.hid hW5; have HV5 := Lib.hid V5; have HU5 := Lib.hid U5; have HM6 := Lib.hid hm6;have zE := hE5.size;clear hG2 hV1 hm3 F5 V5 U5 M6 M5 hm6 hm5 hE5;cases over5 with
     |true =>
      go_wp21;refine bodyPost_ret (v := .tuple #[zero, .bool false]) (by simp [results, Try.results62, go_sem, r2, g2, x0]; try rfl) rfl ?_;exact Evd.end (x := {}) (ok := false) rfl HF5.out.ext HW5.out hm7.out zk (by go_grown) (zeroV _ _) fun ho => by cases ho
     |false =>
      have hsum : xa.text.length + u.text.length ≤ 140737488355328 := (by have h1 := HM6.out rfl; have h2 := G2.out.1.work.2.2 h1.1; omega);have hm10 := Lib.hid (hm7.out rfl); have hm11 := Lib.hid (HM6.out rfl);clear hm7 HM6;have A := Lib.hid (both_any t.name (Xr k (w.heap.size + 1 + 1)) wk left5 false xa u fa aa ca ab cb f7 a7 c7 a6 c6 w5 kx (fun b hb => Nat.lt_of_lt_of_le (zc b hb) zE) HW5.out HV5.out HU5.out hsum)
      go_wp2_with fail
      go_at_call 76;apply Calls.mono
      ·with_reducible exact A.out
      rintro e w6 ⟨y, f5, a5, c5, a4, c4, ok5, left6, over6, rfl, hE6, hW6, hm8, hV6, hr6⟩;have F6 := HF5.out.call hE6 zk;have HB := Lib.hid F6; have HV := Lib.hid hV6; have HR := Lib.hid hr6; have HW6 := Lib.hid hW6; have HM9 := Lib.hid (mono_trans (fun _ => hm10.out) hm8);replace r2 := F6.b2.cell; replace g2 := F6.b2.frozen; have x9 := F6.size;unfold zcells at r2;clear hm8 F6 hE6 hV6 hr6 A r6 r7 s1 n1;go_wp21;refine bodyPost_ret (v := .tuple #[va y f5 a5 c5 a4 c4, .bool ok5]) (by simp [results, Try.results62, go_sem, r2, g2, x9]; try rfl) rfl ?_;exact Evd.end (x := y) (ok := ok5) rfl HB.out.ext HW6.out HM9.out zk (by go_grown) (HV.out.stored y f5 a5 c5 a4 c4) fun ho => by
       have o3 := hm11.out.1;rw [G.out.mean (G2.out.1.mono o3).1, G2.out.1.mean o3]; exact HR.out ho
end
section
attribute [local go_sem ↓] Go.wp_at_zero Go.wp_at_succ
open Go.RowKit
set_option maxHeartbeats 800000 in
set_option maxRecDepth 100000 in
theorem unary_bad (t : Tr) (hk : t.kids.length ≠ 1) (k : Nat → Prop) (wk : Nat) (env : Env) (m : Nat) (an : Option Addr) (cn : Nat) (ai : Option Addr) (ni ci : Nat) (left : Int) (over : Bool) (f : Nat) (a : Option Addr) (c : Nat) (a' : Option Addr) (c' : Nat) (p q : Int) (w : World)
 (hp : Pre k wk env m an cn ai ni ci left over w) :
 Calls Try.prog 61 #[sa env.names.length wk an cn ai ni ci, ta t f a c a' c' p q] w (Evd k wk left over none w) := by
 have zk : wk < w.heap.size := hp.lt wk hp.kw;have hkl : ((t.kids.length : Int) == 1) = false := by simp; omega
 have HP := Lib.hid hp;clear hp hk;go_enter Try.func61, Try.ntmps61
 go_wp2_with fail
 go_at_call 67;refine (kids_any _ _ _ _ _ _ _ _ _ _).mono ?_;rintro e w1 ⟨rfl, hb1⟩;have L2 : Lb w1 (w.heap.size + 1 + 1) _ 39 := (Lb.new' _ _ _ (by simp)).below hb1 (by simp);have L1 : Lb w1 (w.heap.size + 1) _ 25 := ((Lb.new' _ _ _ (by simp)).alloc _).below hb1 (by simp);have HB : Hid (Below w.heap.size w w1) := Lib.hid (Below.trans (by go_grown) (hb1.mono (by simp; omega)));have r2 := L2.cell; have g2 := L2.frozen; have y2 := L2.lt; have r1 := L1.cell; have y1 := L1.lt;clear hb1 L2 L1;go_wp21;refine bodyPost_ret (v := .tuple #[zero, .bool false]) (by simp [results, Try.results61, go_sem, r2, g2, y2]; try rfl) rfl ?_;have hb := HB.out;exact Evd.end (x := {}) (ok := false) rfl (.of hb) (HP.out.work.below hb zk) (fun h => ⟨h, Int.le_refl _⟩) zk (by go_grown) (zeroV _ _) fun ho => rfl
set_option maxHeartbeats 800000 in
set_option maxRecDepth 100000 in
theorem condition_bad (t : Tr) (hk : t.kids.length ≠ 3) (k : Nat → Prop) (wk : Nat) (env : Env) (m : Nat) (an : Option Addr) (cn : Nat) (ai : Option Addr) (ni ci : Nat) (left : Int) (over : Bool) (f : Nat) (a : Option Addr) (c : Nat) (a' : Option Addr) (c' : Nat) (p q : Int) (w : World)
 (hp : Pre k wk env m an cn ai ni ci left over w) :
 Calls Try.prog 66 #[sa env.names.length wk an cn ai ni ci, ta t f a c a' c' p q] w (Evd k wk left over none w) := by
 have zk : wk < w.heap.size := hp.lt wk hp.kw;have hkl : ((t.kids.length : Int) == 3) = false := by simp; omega
 have HP := Lib.hid hp;clear hp hk;go_enter Try.func66, Try.ntmps66
 go_wp2_with fail
 go_at_call 67;refine (kids_any _ _ _ _ _ _ _ _ _ _).mono ?_;rintro e w1 ⟨rfl, hb1⟩;have L2 : Lb w1 (w.heap.size + 1 + 1) _ 39 := (Lb.new' _ _ _ (by simp)).below hb1 (by simp);have L1 : Lb w1 (w.heap.size + 1) _ 25 := ((Lb.new' _ _ _ (by simp)).alloc _).below hb1 (by simp);have HB : Hid (Below w.heap.size w w1) := Lib.hid (Below.trans (by go_grown) (hb1.mono (by simp; omega)));have r2 := L2.cell; have g2 := L2.frozen; have y2 := L2.lt; have r1 := L1.cell; have y1 := L1.lt;clear hb1 L2 L1;go_wp21;refine bodyPost_ret (v := .tuple #[zero, .bool false]) (by simp [results, Try.results66, go_sem, r2, g2, y2]; try rfl) rfl ?_;have hb := HB.out;exact Evd.end (x := {}) (ok := false) rfl (.of hb) (HP.out.work.below hb zk) (fun h => ⟨h, Int.le_refl _⟩) zk (by go_grown) (zeroV _ _) fun ho => rfl
set_option maxHeartbeats 800000 in
set_option maxRecDepth 100000 in
theorem binary_bad (t : Tr) (hk : t.kids.length ≠ 2) (k : Nat → Prop) (wk : Nat) (env : Env) (m : Nat) (an : Option Addr) (cn : Nat) (ai : Option Addr) (ni ci : Nat) (left : Int) (over : Bool) (f : Nat) (a : Option Addr) (c : Nat) (a' : Option Addr) (c' : Nat) (p q : Int) (w : World)
 (hp : Pre k wk env m an cn ai ni ci left over w) :
 Calls Try.prog 62 #[sa env.names.length wk an cn ai ni ci, ta t f a c a' c' p q] w (Evd k wk left over none w) := by
 have zk : wk < w.heap.size := hp.lt wk hp.kw;have hkl : ((t.kids.length : Int) == 2) = false := by simp; omega
 have HP := Lib.hid hp;clear hp hk;go_enter Try.func62, Try.ntmps62
 go_wp2_with fail
 go_at_call 67;refine (kids_any _ _ _ _ _ _ _ _ _ _).mono ?_;rintro e w1 ⟨rfl, hb1⟩;have L2 : Lb w1 (w.heap.size + 1 + 1) _ 39 := (Lb.new' _ _ _ (by simp)).below hb1 (by simp);have L1 : Lb w1 (w.heap.size + 1) _ 25 := ((Lb.new' _ _ _ (by simp)).alloc _).below hb1 (by simp);have HB : Hid (Below w.heap.size w w1) := Lib.hid (Below.trans (by go_grown) (hb1.mono (by simp; omega)));have r2 := L2.cell; have g2 := L2.frozen; have y2 := L2.lt; have r1 := L1.cell; have y1 := L1.lt;clear hb1 L2 L1;go_wp21;refine bodyPost_ret (v := .tuple #[zero, .bool false]) (by simp [results, Try.results62, go_sem, r2, g2, y2]; try rfl) rfl ?_;have hb := HB.out;exact Evd.end (x := {}) (ok := false) rfl (.of hb) (HP.out.work.below hb zk) (fun h => ⟨h, Int.le_refl _⟩) zk (by go_grown) (zeroV _ _) fun ho => rfl
set_option maxHeartbeats 800000 in
set_option maxRecDepth 100000 in
theorem member_bad (t : Tr) (hk : t.kids.length ≠ 2) (k : Nat → Prop) (wk : Nat) (env : Env) (m : Nat) (an : Option Addr) (cn : Nat) (ai : Option Addr) (ni ci : Nat) (left : Int) (over : Bool) (f : Nat) (a : Option Addr) (c : Nat) (a' : Option Addr) (c' : Nat) (p q : Int) (w : World)
 (hp : Pre k wk env m an cn ai ni ci left over w) :
 Calls Try.prog 63 #[sa env.names.length wk an cn ai ni ci, ta t f a c a' c' p q] w (Evd k wk left over none w) := by
 have zk : wk < w.heap.size := hp.lt wk hp.kw;have hkl : ((t.kids.length : Int) == 2) = false := by simp; omega
 have HP := Lib.hid hp;clear hp hk;go_enter Try.func63, Try.ntmps63
 go_wp2_with fail
 go_at_call 67;refine (kids_any _ _ _ _ _ _ _ _ _ _).mono ?_;rintro e w1 ⟨rfl, hb1⟩;have L2 : Lb w1 (w.heap.size + 1 + 1) _ 39 := (Lb.new' _ _ _ (by simp)).below hb1 (by simp);have L1 : Lb w1 (w.heap.size + 1) _ 25 := ((Lb.new' _ _ _ (by simp)).alloc _).below hb1 (by simp);have HB : Hid (Below w.heap.size w w1) := Lib.hid (Below.trans (by go_grown) (hb1.mono (by simp; omega)));have r2 := L2.cell; have g2 := L2.frozen; have y2 := L2.lt; have r1 := L1.cell; have y1 := L1.lt;clear hb1 L2 L1
 go_wp2_with fail
 refine bodyPost_ret (v := .tuple #[zero, .bool false]) (by simp [results, Try.results63, go_sem, r2, g2, y2]; try rfl) rfl ?_;have hb := HB.out;exact Evd.end (x := {}) (ok := false) rfl (.of hb) (HP.out.work.below hb zk) (fun h => ⟨h, Int.le_refl _⟩) zk (by go_grown) (zeroV _ _) fun ho => rfl
set_option maxHeartbeats 800000 in
set_option maxRecDepth 100000 in
theorem member_method (t : Tr) (hk : t.kids.length = 2) (hm : t.method = true) (k : Nat → Prop) (wk : Nat) (env : Env) (m : Nat) (an : Option Addr) (cn : Nat) (ai : Option Addr) (ni ci : Nat) (left : Int) (over : Bool) (f : Nat) (a : Option Addr) (c : Nat) (a' : Option Addr) (c' : Nat) (p q : Int) (w : World)
 (hp : Pre k wk env m an cn ai ni ci left over w) :
 Calls Try.prog 63 #[sa env.names.length wk an cn ai ni ci, ta t f a c a' c' p q] w (Evd k wk left over none w) := by
 have zk : wk < w.heap.size := hp.lt wk hp.kw;have hkl : ((t.kids.length : Int) == 2) = true := by simp; omega
 have HMT := Lib.hid hm;clear hm;have HP := Lib.hid hp;clear hp hk;go_enter Try.func63, Try.ntmps63
 go_wp2_with fail
 go_at_call 67;refine (kids_any _ _ _ _ _ _ _ _ _ _).mono ?_;rintro e w1 ⟨rfl, hb1⟩;have L2 : Lb w1 (w.heap.size + 1 + 1) _ 39 := (Lb.new' _ _ _ (by simp)).below hb1 (by simp);have L1 : Lb w1 (w.heap.size + 1) _ 25 := ((Lb.new' _ _ _ (by simp)).alloc _).below hb1 (by simp);have HB : Hid (Below w.heap.size w w1) := Lib.hid (Below.trans (by go_grown) (hb1.mono (by simp; omega)));have r2 := L2.cell; have g2 := L2.frozen; have y2 := L2.lt; have r1 := L1.cell; have y1 := L1.lt;clear hb1 L2 L1;have hm := HMT.out
 go_wp2_with fail
 refine bodyPost_ret (v := .tuple #[zero, .bool false]) (by simp [results, Try.results63, go_sem, r2, g2, y2]; try rfl) rfl ?_;have hb := HB.out;exact Evd.end (x := {}) (ok := false) rfl (.of hb) (HP.out.work.below hb zk) (fun h => ⟨h, Int.le_refl _⟩) zk (by go_grown) (zeroV _ _) fun ho => rfl
end
section
open Go.RowKit
theorem binary_two (n : Nm) (env : Env) (a b : Dn) : binary n env [a, b] = if n = nm "and" ∨ n = nm "&&" ∨ n = nm "or" ∨ n = nm "||" then
 (truth a.val env).bind fun x => if x = decide (n = nm "or" ∨ n = nm "||") then .some (yes x) else (truth b.val env).bind fun y => .some (yes y)
 else if n = nm "??" then (a.val env).bind fun x => if x.kind ≠ 0 then .some x else b.val env
 else (pr (a.val env) (b.val env)).bind fun p => both n p.1 p.2 := rfl
theorem binary_any (t : Tr) (hok : ∀ t1 ∈ t.kids, EvalOk t1) (k : Nat → Prop) (wk : Nat) (env : Env) (m : Nat) (an : Option Addr) (cn : Nat) (ai : Option Addr) (ni ci : Nat) (left : Int) (over : Bool) (f : Nat) (a : Option Addr) (c : Nat) (a' : Option Addr) (c' : Nat) (p q : Int) (w : World)
 (hp : Pre k wk env m an cn ai ni ci left over w) (ht : IsT w k t (tcells t f a c a' c' p q)) :
 Calls Try.prog 62 #[sa env.names.length wk an cn ai ni ci, ta t f a c a' c' p q] w (Evd k wk left over (binary t.name env (Ds t.kids)) w) := by
 by_cases hl : t.kids.length = 2
 ·obtain ⟨t1, t2, hk⟩ : ∃ t1 t2, t.kids = [t1, t2] := by
   match h : t.kids, hl with
   |[x, y], _ => exact ⟨x, y, rfl⟩
  have h1 : EvalOk t1 := hok t1 (by rw [hk]; simp);have h2 : EvalOk t2 := hok t2 (by rw [hk]; simp);rw [hk, Ds, Ds, Ds, binary_two]
  by_cases n0 : t.name = nm "and"
  ·rw [if_pos (.inl n0), show decide (t.name = nm "or" ∨ t.name = nm "||") = false by rw [n0]; decide];have := binary_log t t1 t2 hk h1 h2 false (.inl ⟨n0, rfl⟩) k wk env m an cn ai ni ci left over f a c a' c' p q w hp ht;exact this
  by_cases n1 : t.name = nm "&&"
  ·rw [if_pos (.inr (.inl n1)), show decide (t.name = nm "or" ∨ t.name = nm "||") = false by rw [n1]; decide];have := binary_log t t1 t2 hk h1 h2 false (.inr (.inl ⟨n1, rfl⟩)) k wk env m an cn ai ni ci left over f a c a' c' p q w hp ht;exact this
  by_cases n2 : t.name = nm "or"
  ·rw [if_pos (.inr (.inr (.inl n2))), show decide (t.name = nm "or" ∨ t.name = nm "||") = true by rw [n2]; decide];have := binary_log t t1 t2 hk h1 h2 true (.inr (.inr (.inl ⟨n2, rfl⟩))) k wk env m an cn ai ni ci left over f a c a' c' p q w hp ht;exact this
  by_cases n3 : t.name = nm "||"
  ·rw [if_pos (.inr (.inr (.inr n3))), show decide (t.name = nm "or" ∨ t.name = nm "||") = true by rw [n3]; decide];have := binary_log t t1 t2 hk h1 h2 true (.inr (.inr (.inr ⟨n3, rfl⟩))) k wk env m an cn ai ni ci left over f a c a' c' p q w hp ht;exact this
  rw [if_neg (by rintro (h | h | h | h) <;> contradiction)]
  by_cases n4 : t.name = nm "??"
  ·rw [if_pos n4];exact binary_nil t t1 t2 hk h1 h2 n4 k wk env m an cn ai ni ci left over f a c a' c' p q w hp ht
  rw [if_neg n4];exact binary_both t t1 t2 hk h1 h2 (beq_eq_false_iff_ne.2 n0) (beq_eq_false_iff_ne.2 n1) (beq_eq_false_iff_ne.2 n2) (beq_eq_false_iff_ne.2 n3) (beq_eq_false_iff_ne.2 n4) k wk env m an cn ai ni ci left over f a c a' c' p q w hp ht
 ·have h : binary t.name env (Ds t.kids) = none := by
   unfold binary
   match h : t.kids, hl with
   |[], _ => rfl
   |[x], _ => rfl
   |x :: y :: z :: l, _ => rfl
  rw [h];exact binary_bad t hl k wk env m an cn ai ni ci left over f a c a' c' p q w hp
end
end Go.Proofs.Ytafhhdimjkgihaa.Mn
