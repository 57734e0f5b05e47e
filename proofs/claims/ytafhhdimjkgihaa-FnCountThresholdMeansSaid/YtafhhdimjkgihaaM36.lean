/- What the program does, function by function, and what trees mean: part 36. -/
import Derived.Deep.Cut
import Derived.Test.YtafhhdimjkgihaaM35
import Derived.Test.YtafhhdimjkgihaaM09
import Derived.Test.YtafhhdimjkgihaaM21
set_option linter.unusedSimpArgs false
set_option linter.unusedVariables false
namespace Go.Proofs.Ytafhhdimjkgihaa.Mn
section
attribute [local go_sem ↓] Go.wp_at_zero Go.wp_at_succ
open Go.RowKit
theorem let_with {k K : Nat → Prop} {wk : Nat} {env : Env} {m : Nat} {an : Option Addr} {cn : Nat} {ai : Option Addr} {ni ci : Nat} {left0 : Int} {over0 : Bool} {w w' : World} (hp : Pre k wk env m an cn ai ni ci left0 over0 w) (hm : m + 1 ≤ 1073741824) (e0 : Ext (· = wk) w.heap.size w w')
 (hK : ∀ b, k b → K b) (hK2 : ∀ b, K b → k b ∨ w.heap.size ≤ b) (hK3 : ∀ b, K b → b < w'.heap.size) {x : Vl} {f : Nat} {a : Option Addr} {c : Nat} {a' : Option Addr} {c' : Nat} (hV : IsV w' K x (vcells x f a c a' c')) (n : Nm) :
 Calls Try.prog 68 #[sa env.names.length wk an cn ai ni ci, .string (str n), va x f a c a' c'] w' fun e w2 => ∃ A cap, e = .returned (sa (env.names.length + 1) wk A cap ai ni ci) ∧ Below w'.heap.size w' w2 ∧ IsSc w2 K wk { env with names := env.names ++ [(n, x)] } (m + 1) A cap ai ni ci := by
 obtain ⟨items, ncs, ics, rfl, h1, h2, h3, h4, h5, h6, h7⟩ := hp.sc;have e1 : Ext K w.heap.size w w' := e0.weak fun b hb => by rw [hb]; exact hK _ hp.kw
 refine (with_any K n x f a c a' c' env.names an cn ai items.length ci (some ⟨wk, 0, none⟩) ncs w' (by omega) hK3 ((h1.other hK2).ext e1 (Nat.le_refl _)) ((h2.other hK2).ext e1 (Nat.le_refl _)) hV).mono ?_;rintro e w2 ⟨A, cap, cs, he, hb, hr, hs⟩;rw [List.length_append] at he;refine ⟨A, cap, he, hb, ⟨items, cs, ics, rfl, hr, hs, ((h3.other hK2).ext e1 (Nat.le_refl _)).ext (.of hb) (Nat.le_refl _), ((IsIs.other hK2 h4).ext e1 (Nat.le_refl _)).ext (.of hb) (Nat.le_refl _), h5, ?_, ?_⟩⟩
 ·show (env.names ++ [(n, x)]).length ≤ _;rw [List.length_append]; simp; omega
 ·omega
theorem let_eval {t : Tr} (h : EvalOk t) {k : Nat → Prop} {wk : Nat} {env : Env} {n : Nm} {x : Vl} {m : Nat} {an : Option Addr} {cn : Nat} {ai : Option Addr} {ni ci : Nat} {left : Int} {over : Bool} {f : Nat} {a : Option Addr} {c : Nat} {a' : Option Addr} {c' : Nat} {p q : Int} {w : World}
 (hp : Pre k wk { env with names := env.names ++ [(n, x)] } m an cn ai ni ci left over w) (ht : IsT w k t (tcells t f a c a' c' p q)) : Calls Try.prog 50 #[sa (env.names.length + 1) wk an cn ai ni ci, ta t f a c a' c' p q] w (Evd k wk left over ((D t).val { env with names := env.names ++ [(n, x)] }) w) := by
 have hl : (env.names ++ [(n, x)]).length = env.names.length + 1 := by simp
 rw [← hl];exact h.calls hp ht
structure StV (w0 : World) (wk : Nat) (l0 l1 : List Value) (t0 t1 t2 : TypeId) (left : Int) (over : Bool) (b6 : Nat) (cs : List Value) (w : World) : Prop where
 e : StE w0 wk l0 l1 t0 t1 t2 left over w
 h : w0.heap.size + 1 + 1 < b6
 v : Lb w b6 cs 39
section
variable {w0 w w1 : World} {wk : Nat} {l0 l1 : List Value} {t0 t1 t2 : TypeId} {left : Int} {over : Bool} {b6 : Nat} {cs : List Value}
theorem StV.drew (h : StV w0 wk l0 l1 t0 t1 t2 left over b6 cs w) : StV w0 wk l0 l1 t0 t1 t2 left over b6 cs w.drew := ⟨h.e.drew, h.h, h.v.drew⟩
theorem StV.s7r (h : StV w0 wk l0 l1 t0 t1 t2 left over b6 cs w) (hk : wk < w0.heap.size) (v : Vl) (f : Nat) (a : Option Addr) (c : Nat) (a' : Option Addr) (c' : Nat) : StV w0 wk l0 l1 t0 t1 t2 left over b6 cs (S7 w (w0.heap.size + 1 + 1) v f a c a' c') := ⟨h.e.s7r hk v f a c a' c', h.h, h.v.s7o (by have := h.h; omega) v f a c a' c'⟩
theorem StV.call (h : StV w0 wk l0 l1 t0 t1 t2 left over b6 cs w) (e : Ext (· = wk) w.heap.size w w1) (hk : wk < w0.heap.size) {left' : Int} {over' : Bool} (hw : Work w1 wk left' over') (hm : over' = false → over = false ∧ left' ≤ left) : StV w0 wk l0 l1 t0 t1 t2 left over b6 cs w1 := by
 obtain ⟨_, _, _, _, _, _, _, g⟩ := h.e.ex;exact ⟨.of (g.call e hk hw hm), h.h, h.v.ext e h.v.lt (by have := h.h; omega)⟩
theorem StV.r (h : StV w0 wk l0 l1 t0 t1 t2 left over b6 cs w) : ∃ y0 y1 y2 y3 y4 y5 y6, F3 w0 wk l0 l1 [y0, y1, y2, y3, y4, y5, y6] t0 t1 t2 w := by
 obtain ⟨y0, y1, y2, y3, y4, y5, y6, g⟩ := h.e.ex;exact ⟨y0, y1, y2, y3, y4, y5, y6, g.f⟩
end
set_option maxHeartbeats 3200000 in
set_option maxRecDepth 100000 in
theorem eval_let (t : Tr) (t1 t2 : Tr) (hk : t.kids = [t1, t2]) (hq : t.kind = 19) (hok1 : EvalOk t1) (hok2 : EvalOk t2) : EvalAt t (fun env => ((D t1).val env).bind fun v => (D t2).val { env with names := env.names ++ [(t.name, v)] }) := by
 intro k wk env m an cn ai ni ci left over f a c a' c' p q w hp ht;have zk : wk < w.heap.size := hp.lt wk hp.kw;have kk1 : (t.kind == 1) = false := by rw [hq]; rfl
 have kk2 : (t.kind == 2) = false := by rw [hq]; rfl
 have kk3 : (t.kind == 3) = false := by rw [hq]; rfl
 have kk4 : (t.kind == 4) = false := by rw [hq]; rfl
 have kk5 : (t.kind == 5) = false := by rw [hq]; rfl
 have kk6 : (t.kind == 6) = false := by rw [hq]; rfl
 have kk8 : (t.kind == 8) = false := by rw [hq]; rfl
 have kk21 : (t.kind == 21) = false := by rw [hq]; rfl
 have kk9 : (t.kind == 9) = false := by rw [hq]; rfl
 have kk10 : (t.kind == 10) = false := by rw [hq]; rfl
 have kk12 : (t.kind == 12) = false := by rw [hq]; rfl
 have kk15 : (t.kind == 15) = false := by rw [hq]; rfl
 have kk17 : (t.kind == 17) = false := by rw [hq]; rfl
 have kk18 : (t.kind == 18) = false := by rw [hq]; rfl
 have kk19 : (t.kind == 19) = true := by rw [hq]; rfl
 have kk20 : (t.kind == 20) = false := by rw [hq]; rfl
 have kk22 : (t.kind == 22) = false := by rw [hq]; rfl
 have HP := Lib.hid hp; have HT := Lib.hid ht; have HQ := Lib.hid hq;obtain ⟨b, o, rfl⟩ := kids_some ht (by rw [hk]; exact Nat.zero_lt_succ _);obtain ⟨hkb, hbs, f1, a1, c1, b1, e1, p1, q1, hT1, h121⟩ := kid_in ht (j := 0) (t1 := t1) (by rw [hk]; rfl);rw [Nat.zero_mul, Nat.add_zero] at h121;obtain ⟨hkb, hbs, f2, a2, c2, b2, e2, p2, q2, hT2, h122⟩ := kid_in ht (j := 1) (t1 := t2) (by rw [hk]; rfl);replace h122 : C12 w b (o + 12) t2 f2 a2 c2 b2 e2 p2 q2 := h122;have hbk : ¬ b = wk := fun h => hkb (by rw [h]; exact hp.kw);have hkl : ((t.kids.length : Int) == 2) = true := by rw [hk]; rfl
 have hkl0 : 0 < t.kids.length := by rw [hk]; exact Nat.zero_lt_succ _
 have hkl1 : 1 < t.kids.length := by rw [hk]; simp
 have hki1 : (1 : Int) < (t.kids.length : Int) := by omega
 have HT1 := Lib.hid hT1; have HT2 := Lib.hid hT2; have H121 := Lib.hid h121; have H122 := Lib.hid h122; have HOK1 := Lib.hid hok1; have HOK2 := Lib.hid hok2;clear hT1 hT2 h121 h122 hok1 hok2 hk;clear hp ht hq;go_enter Try.func50, Try.ntmps50
 go_wp2_with fail
 go_at_call 58;apply Calls.mono
 ·exact step_any wk left 1 over _ (((HP.out.work.alloc _).alloc _).alloc _) (by omega)
 rintro e w5 ⟨left5, over5, rfl, hE5, hW5, hm5⟩;have F5 := (show F3 w wk [.slice an env.names.length cn, .slice ai ni ci, .pointer (some ⟨wk, 0, none⟩)] (tcells t f (some ⟨b, o, none⟩) c a' c' p q) zcells 62 25 39 _ from ⟨.of (by go_grown), ((Lb.new _ _ _).alloc _).alloc _, (Lb.new' _ _ _ (by simp)).alloc _, Lb.new' _ _ _ (by simp)⟩).call hE5 zk;have s1 := F5.b0.cell; have rt := F5.b1.cell; have r2 := F5.b2.cell; have g2 := F5.b2.frozen;have x0 : w.heap.size + 1 + 1 < w5.heap.size := F5.size;have x1 : w.heap.size + 1 < w5.heap.size := by omega
 have x2 : w.heap.size < w5.heap.size := by omega
 unfold tcells at rt;unfold zcells at r2;have HF5 := Lib.hid F5; have HW5 := Lib.hid hW5; have HM5 := Lib.hid hm5;clear F5 hW5 hm5 hE5
 by_cases hov : over5 = true
 ·subst hov;go_wp21;refine bodyPost_ret (v := .tuple #[zero, .bool false]) (by simp [results, Try.results50, go_sem, r2, g2, x0]; try rfl) rfl ?_;exact Evd.end (x := {}) (ok := false) rfl HF5.out.ext HW5.out (fun ho => by cases ho) zk (by go_grown) (zeroV _ _) fun ho => by cases ho
 ·have HMM := Lib.hid (show over5 = false → over = false ∧ left5 ≤ left ∧ (m : Int) + 1 + left5 ≤ room from fun ho => by
   have h1 := HM5.out ho; have h2 := HP.out.room h1.1; exact ⟨h1.1, by omega, by omega⟩)
  have hov : over5 = false := by simpa using hov
  go_upto_region 34 with (first | (go_at_call 67; refine (kids_any _ _ _ _ _ _ _ _ _ _).mono ?_; rintro e w1 ⟨rfl, hb1⟩))
  have HOV := Lib.hid hov;clear hov;refine forget (fun w' => St w wk [.slice an env.names.length cn, .slice ai ni ci, .pointer (some ⟨wk, 0, none⟩)] (tcells t f (some ⟨b, o, none⟩) c a' c' p q) zcells 62 25 39 left5 over5 w w') ?_ ?_
  ·have F6 := HF5.out.calls hb1 zk;exact ⟨F6.ext, F6, left5, over5, HW5.out.below hb1 (by omega), mono_refl⟩
  clear hb1 s1 rt r2 g2 x0 x1 x2;intro W hW;have z0 : w.heap.size + 1 + 1 < W.heap.size := hW.f.size;have z1 : w.heap.size + 1 < W.heap.size := by omega
  have z2 : w.heap.size < W.heap.size := by omega
  have zp : w.heap.size ≤ W.heap.size := by omega
  have h121 := H121.out;have KEEP := Lib.hid (show ∀ w', St w wk [.slice an env.names.length cn, .slice ai ni ci, .pointer (some ⟨wk, 0, none⟩)] (tcells t f (some ⟨b, o, none⟩) c a' c' p q) zcells 62 25 39 left5 over5 w w' → St w wk [.slice an env.names.length cn, .slice ai ni ci, .pointer (some ⟨wk, 0, none⟩)] (tcells t f (some ⟨b, o, none⟩) c a' c' p q) zcells 62 25 39 left5 over5 w w' ∧ w'.cell? ⟨w.heap.size, 0, none⟩ = some (.slice an env.names.length cn) ∧ w'.cell? ⟨w.heap.size, 1, none⟩ = some (.slice ai ni ci) ∧ w'.cell? ⟨w.heap.size, 2, none⟩ = some (.pointer (some ⟨wk, 0, none⟩)) ∧ w'.cell? ⟨w.heap.size + 1, 8, none⟩ = some (.slice (some ⟨b, o, none⟩) t.kids.length c) ∧ w'.cell? ⟨b, o, none⟩ = some (.int .i64 t1.kind) ∧ w'.cell? ⟨b, o + 1, none⟩ = some (.string (str t1.name)) ∧ w'.cell? ⟨b, o + 2, none⟩ = some (.int .i64 t1.int) ∧ w'.cell? ⟨b, o + 3, none⟩ = some (.float .f64 f1) ∧ w'.cell? ⟨b, o + 4, none⟩ = some (.bool t1.flag) ∧ w'.cell? ⟨b, o + 5, none⟩ = some (.bool t1.method) ∧ w'.cell? ⟨b, o + 6, none⟩ = some (.bool t1.limited) ∧ w'.cell? ⟨b, o + 7, none⟩ = some (.int .i64 t1.limit) ∧ w'.cell? ⟨b, o + 8, none⟩ = some (.slice a1 t1.kids.length c1) ∧ w'.cell? ⟨b, o + 9, none⟩ = some (.slice b1 t1.map.length e1) ∧ w'.cell? ⟨b, o + 10, none⟩ = some (.int .i64 p1) ∧ w'.cell? ⟨b, o + 11, none⟩ = some (.int .i64 q1) from fun w' h => ⟨h, h.f.b0.cell 0, h.f.b0.cell 1, h.f.b0.cell 2, h.f.b1.cell 8, (h121.ext h.f.ext hbs hbk).c0, (h121.ext h.f.ext hbs hbk).c1, (h121.ext h.f.ext hbs hbk).c2, (h121.ext h.f.ext hbs hbk).c3, (h121.ext h.f.ext hbs hbk).c4, (h121.ext h.f.ext hbs hbk).c5, (h121.ext h.f.ext hbs hbk).c6, (h121.ext h.f.ext hbs hbk).c7, (h121.ext h.f.ext hbs hbk).c8, (h121.ext h.f.ext hbs hbk).c9, (h121.ext h.f.ext hbs hbk).c10, (h121.ext h.f.ext hbs hbk).c11⟩)
  have HM := Lib.hid (show over5 = false → over = false ∧ left5 ≤ left from fun ho => ⟨(HMM.out ho).1, (HMM.out ho).2.1⟩);clear h121
  go_cut [6, 7] from 8 (fun s6 s7 wx => ∃ b6 x f8 a8 c8 a9 c9 ok left2 over2, s6 = .pointer (some ⟨b6, 0, none⟩) ∧ s7 = .bool ok ∧ Got w wk [.slice an env.names.length cn, .slice ai ni ci, .pointer (some ⟨wk, 0, none⟩)] (tcells t f (some ⟨b, o, none⟩) c a' c' p q) zcells 62 25 39 k left5 over5 ((D t1).val env) b6 x f8 a8 c8 a9 c9 ok left2 over2 w wx)
  case first =>
   go_region_held3 (fun w' => St w wk [.slice an env.names.length cn, .slice ai ni ci, .pointer (some ⟨wk, 0, none⟩)] (tcells t f (some ⟨b, o, none⟩) c a' c' p q) zcells 62 25 39 left5 over5 w w' ∧ w'.cell? ⟨w.heap.size, 0, none⟩ = some (.slice an env.names.length cn) ∧ w'.cell? ⟨w.heap.size, 1, none⟩ = some (.slice ai ni ci) ∧ w'.cell? ⟨w.heap.size, 2, none⟩ = some (.pointer (some ⟨wk, 0, none⟩)) ∧ w'.cell? ⟨w.heap.size + 1, 8, none⟩ = some (.slice (some ⟨b, o, none⟩) t.kids.length c) ∧ w'.cell? ⟨b, o, none⟩ = some (.int .i64 t1.kind) ∧ w'.cell? ⟨b, o + 1, none⟩ = some (.string (str t1.name)) ∧ w'.cell? ⟨b, o + 2, none⟩ = some (.int .i64 t1.int) ∧ w'.cell? ⟨b, o + 3, none⟩ = some (.float .f64 f1) ∧ w'.cell? ⟨b, o + 4, none⟩ = some (.bool t1.flag) ∧ w'.cell? ⟨b, o + 5, none⟩ = some (.bool t1.method) ∧ w'.cell? ⟨b, o + 6, none⟩ = some (.bool t1.limited) ∧ w'.cell? ⟨b, o + 7, none⟩ = some (.int .i64 t1.limit) ∧ w'.cell? ⟨b, o + 8, none⟩ = some (.slice a1 t1.kids.length c1) ∧ w'.cell? ⟨b, o + 9, none⟩ = some (.slice b1 t1.map.length e1) ∧ w'.cell? ⟨b, o + 10, none⟩ = some (.int .i64 p1) ∧ w'.cell? ⟨b, o + 11, none⟩ = some (.int .i64 q1))
    (first | with_reducible exact KEEP.out _ (St.drew hW) | with_reducible exact KEEP.out _ hst | with_reducible exact KEEP.out _ (St.alloc hst _) | with_reducible exact KEEP.out _ (St.allocD (St.drew hW) _) | with_reducible exact KEEP.out _ (St.s7 hst zk z0 zp _ _ _ _ _ _))
    (first | (go_at_call 50; apply Calls.mono; (focus (with_reducible exact St.eval HP.out HM.out (And.left ‹St _ _ _ _ _ _ _ _ _ _ _ _ ∧ _›) HOK1.out HT1.out)); rintro e w2 ⟨x, f8, a8, c8, a9, c9, ok, left2, over2, rfl, hE, hW2, hm2, hV, hr2, hst⟩; (try (have L6 : Lb w2 W.heap.size _ 39 := Lb.ext (Lb.drew (Lb.new' _ _ _ (by simp))) hE (by simp) (by omega); have r6 := L6.cell; have g6 := L6.frozen; have z6 := L6.lt))))
   all_goals
    go_wp21;go_meet
    case rel =>
     first |(have qq := Got.there hst zk hW2 hm2 z0 zp (by simp) hV hr2 L6; exact ⟨_, x, f8, a8, c8, a9, c9, ok, left2, over2, rfl, rfl, qq⟩) |(have qq := Got.fresh hst hW2 hm2 (show _ < W.drew.heap.size from z0) hV hr2; exact ⟨_, x, f8, a8, c8, a9, c9, ok, left2, over2, rfl, rfl, qq⟩)
  case rest =>
   obtain ⟨b6, x, f8, a8, c8, a9, c9, ok, left2, over2, rfl, rfl, hG⟩ := hcut;have G := Lib.hid hG;have h6 := hG.at6;have r2 := hG.f.b2.cell; have g2 := hG.f.b2.frozen;have x0 : w.heap.size + 1 + 1 < wc.heap.size := hG.f.size;unfold zcells at r2;clear hW KEEP;cases ok with
   |false =>
    clear hG;go_wp21;refine bodyPost_ret (v := .tuple #[zero, .bool false]) (by simp [results, Try.results50, go_sem, r2, g2, x0]; try rfl) rfl ?_;exact Evd.end (x := {}) (ok := false) rfl G.out.f.ext G.out.work (mono_trans HM.out G.out.mono) zk (by go_grown) (zeroV _ _) fun ho => by rw [G.out.mean ho]; rfl
   |true =>
    have y6 := hG.blk.lt;have h122 := H122.out;have hW : StV w wk [.slice an env.names.length cn, .slice ai ni ci, .pointer (some ⟨wk, 0, none⟩)] (tcells t f (some ⟨b, o, none⟩) c a' c' p q) 62 25 39 left2 over2 b6 (vcells x f8 a8 c8 a9 c9) wc := ⟨.of ⟨hG.f.ext, hG.f, left2, over2, hG.work, mono_refl⟩, hG.at6, hG.blk⟩;have KEEP2 := Lib.hid (show ∀ w', StV w wk [.slice an env.names.length cn, .slice ai ni ci, .pointer (some ⟨wk, 0, none⟩)] (tcells t f (some ⟨b, o, none⟩) c a' c' p q) 62 25 39 left2 over2 b6 (vcells x f8 a8 c8 a9 c9) w' → StV w wk [.slice an env.names.length cn, .slice ai ni ci, .pointer (some ⟨wk, 0, none⟩)] (tcells t f (some ⟨b, o, none⟩) c a' c' p q) 62 25 39 left2 over2 b6 (vcells x f8 a8 c8 a9 c9) w' ∧ w'.cell? ⟨w.heap.size, 0, none⟩ = some (.slice an env.names.length cn) ∧ w'.cell? ⟨w.heap.size, 1, none⟩ = some (.slice ai ni ci) ∧ w'.cell? ⟨w.heap.size, 2, none⟩ = some (.pointer (some ⟨wk, 0, none⟩)) ∧ w'.cell? ⟨w.heap.size + 1, 1, none⟩ = some (.string (str t.name)) ∧ w'.cell? ⟨w.heap.size + 1, 8, none⟩ = some (.slice (some ⟨b, o, none⟩) t.kids.length c) ∧ w'.cell? ⟨b6, 0, none⟩ = some (.int .i64 x.kind) ∧ w'.cell? ⟨b6, 1, none⟩ = some (.int .i64 x.int) ∧ w'.cell? ⟨b6, 2, none⟩ = some (.float .f64 f8) ∧ w'.cell? ⟨b6, 3, none⟩ = some (.string (str x.text)) ∧ w'.cell? ⟨b6, 4, none⟩ = some (.bool x.bool) ∧ w'.cell? ⟨b6, 5, none⟩ = some (.slice a8 x.items.length c8) ∧ w'.cell? ⟨b6, 6, none⟩ = some (.slice a9 x.keys.length c9) ∧ w'.cell? ⟨b, o + 12, none⟩ = some (.int .i64 t2.kind) ∧ w'.cell? ⟨b, o + 12 + 1, none⟩ = some (.string (str t2.name)) ∧ w'.cell? ⟨b, o + 12 + 2, none⟩ = some (.int .i64 t2.int) ∧ w'.cell? ⟨b, o + 12 + 3, none⟩ = some (.float .f64 f2) ∧ w'.cell? ⟨b, o + 12 + 4, none⟩ = some (.bool t2.flag) ∧ w'.cell? ⟨b, o + 12 + 5, none⟩ = some (.bool t2.method) ∧ w'.cell? ⟨b, o + 12 + 6, none⟩ = some (.bool t2.limited) ∧ w'.cell? ⟨b, o + 12 + 7, none⟩ = some (.int .i64 t2.limit) ∧ w'.cell? ⟨b, o + 12 + 8, none⟩ = some (.slice a2 t2.kids.length c2) ∧ w'.cell? ⟨b, o + 12 + 9, none⟩ = some (.slice b2 t2.map.length e2) ∧ w'.cell? ⟨b, o + 12 + 10, none⟩ = some (.int .i64 p2) ∧ w'.cell? ⟨b, o + 12 + 11, none⟩ = some (.int .i64 q2) from fun w' h => ⟨h, h.e.f.2.1.cell 0, h.e.f.2.1.cell 1, h.e.f.2.1.cell 2, h.e.f.2.2.cell 1, h.e.f.2.2.cell 8, h.v.cell 0, h.v.cell 1, h.v.cell 2, h.v.cell 3, h.v.cell 4, h.v.cell 5, h.v.cell 6, (h122.ext h.e.f.1 hbs hbk).c0, (h122.ext h.e.f.1 hbs hbk).c1, (h122.ext h.e.f.1 hbs hbk).c2, (h122.ext h.e.f.1 hbs hbk).c3, (h122.ext h.e.f.1 hbs hbk).c4, (h122.ext h.e.f.1 hbs hbk).c5, (h122.ext h.e.f.1 hbs hbk).c6, (h122.ext h.e.f.1 hbs hbk).c7, (h122.ext h.e.f.1 hbs hbk).c8, (h122.ext h.e.f.1 hbs hbk).c9, (h122.ext h.e.f.1 hbs hbk).c10, (h122.ext h.e.f.1 hbs hbk).c11⟩)
    have x1 : w.heap.size + 1 < wc.heap.size := (by omega);have x2 : w.heap.size < wc.heap.size := (by omega);have x3 : b < wc.heap.size := (by omega);have hmm : over2 = false → (m : Int) + 1 + left2 ≤ room := fun ho => (by have h1 := hG.mono ho; have h2 := HMM.out h1.1; omega);have hm1 : m + 1 ≤ 1073741824 := (by have h1 := HMM.out HOV.out; have h2 := HW5.out.2.2 HOV.out; unfold room at h1; omega);have HMR := Lib.hid hmm;have HVx := Lib.hid (show IsV wc.drew (Xr k (w.heap.size + 1 + 1)) x (vcells x f8 a8 c8 a9 c9) from hG.val.ext ((Ext.refl _ _ _).drew) (Nat.le_refl _));have HE := Lib.hid (show Ext (· = wk) w.heap.size w wc.drew from hG.f.ext.drew);have HK1 := Lib.hid (show ∀ b, k b → Xr k (w.heap.size + 1 + 1) b from fun b h => .inl h);have HK2 := Lib.hid (show ∀ b, Xr k (w.heap.size + 1 + 1) b → k b ∨ w.heap.size ≤ b from fun b h => h.imp id fun h => by omega);have HK3 := Lib.hid (show ∀ b, Xr k (w.heap.size + 1 + 1) b → b < wc.drew.heap.size from fun b h => by
     show b < wc.heap.size;rcases h with h | h
     ·have := HP.out.lt b h; omega
     ·omega)
    have HWC := Lib.hid hG.work;clear hG h122 hmm r2 g2;go_wp21
    go_region_held3 (fun w' => StV w wk [.slice an env.names.length cn, .slice ai ni ci, .pointer (some ⟨wk, 0, none⟩)] (tcells t f (some ⟨b, o, none⟩) c a' c' p q) 62 25 39 left2 over2 b6 (vcells x f8 a8 c8 a9 c9) w' ∧ w'.cell? ⟨w.heap.size, 0, none⟩ = some (.slice an env.names.length cn) ∧ w'.cell? ⟨w.heap.size, 1, none⟩ = some (.slice ai ni ci) ∧ w'.cell? ⟨w.heap.size, 2, none⟩ = some (.pointer (some ⟨wk, 0, none⟩)) ∧ w'.cell? ⟨w.heap.size + 1, 1, none⟩ = some (.string (str t.name)) ∧ w'.cell? ⟨w.heap.size + 1, 8, none⟩ = some (.slice (some ⟨b, o, none⟩) t.kids.length c) ∧ w'.cell? ⟨b6, 0, none⟩ = some (.int .i64 x.kind) ∧ w'.cell? ⟨b6, 1, none⟩ = some (.int .i64 x.int) ∧ w'.cell? ⟨b6, 2, none⟩ = some (.float .f64 f8) ∧ w'.cell? ⟨b6, 3, none⟩ = some (.string (str x.text)) ∧ w'.cell? ⟨b6, 4, none⟩ = some (.bool x.bool) ∧ w'.cell? ⟨b6, 5, none⟩ = some (.slice a8 x.items.length c8) ∧ w'.cell? ⟨b6, 6, none⟩ = some (.slice a9 x.keys.length c9) ∧ w'.cell? ⟨b, o + 12, none⟩ = some (.int .i64 t2.kind) ∧ w'.cell? ⟨b, o + 12 + 1, none⟩ = some (.string (str t2.name)) ∧ w'.cell? ⟨b, o + 12 + 2, none⟩ = some (.int .i64 t2.int) ∧ w'.cell? ⟨b, o + 12 + 3, none⟩ = some (.float .f64 f2) ∧ w'.cell? ⟨b, o + 12 + 4, none⟩ = some (.bool t2.flag) ∧ w'.cell? ⟨b, o + 12 + 5, none⟩ = some (.bool t2.method) ∧ w'.cell? ⟨b, o + 12 + 6, none⟩ = some (.bool t2.limited) ∧ w'.cell? ⟨b, o + 12 + 7, none⟩ = some (.int .i64 t2.limit) ∧ w'.cell? ⟨b, o + 12 + 8, none⟩ = some (.slice a2 t2.kids.length c2) ∧ w'.cell? ⟨b, o + 12 + 9, none⟩ = some (.slice b2 t2.map.length e2) ∧ w'.cell? ⟨b, o + 12 + 10, none⟩ = some (.int .i64 p2) ∧ w'.cell? ⟨b, o + 12 + 11, none⟩ = some (.int .i64 q2))
     (first | with_reducible exact KEEP2.out _ (StV.drew hW) | with_reducible exact KEEP2.out _ hsv3 | with_reducible exact KEEP2.out _ hsv4 | with_reducible exact KEEP2.out _ hsv5)
     (first
       |(go_at_call 68; apply Calls.mono; (focus (with_reducible exact let_with HP.out hm1 HE.out HK1.out HK2.out HK3.out HVx.out _)); rintro e w3 ⟨A, cap, rfl, hb3, hsc3⟩; have hsv3 := StV.call (StV.drew hW) (.of hb3) zk (Work.below (Work.drew HWC.out) hb3 (by show wk < wc.heap.size; omega)) mono_refl)
       |(go_at_call 50; apply Calls.mono; (focus (refine let_eval HOK2.out (⟨.inl HP.out.kw, fun b h => Nat.lt_of_lt_of_le (HK3.out b h) hb3.size, hsc3, Work.below (Work.drew HWC.out) hb3 (by show wk < wc.heap.size; omega), fun ho => by have := HMR.out ho; omega⟩) (((HT2.out.other HK2.out).ext (HE.out.weak fun b hb => by rw [hb]; exact .inl HP.out.kw) (Nat.le_refl _)).ext (.of hb3) (Nat.le_refl _)))); rintro e w4 ⟨y, f4, a4, c4, a5, c5, ok4, left4, over4, rfl, hE4, hW4, hm4, hV4, hr4⟩; have hsv4 := StV.call hsv3 hE4 zk hW4 hm4; have hsv5 := StV.s7r hsv4 zk y f4 a4 c4 a5 c5; obtain ⟨y0, y1, y2, y3, y4, y5, y6, hF4⟩ := hsv4.r; have r2 := hF4.b2.cell; have g2 := hF4.b2.frozen; have n2 := hF4.size))
    go_wp21;refine bodyPost_ret (v := .tuple #[va y f4 a4 c4 a5 c5, .bool ok4]) (by simp [results, Try.results50, go_sem, r2, g2, n2]; try rfl) rfl ?_;exact Evd.end (x := y) (ok := ok4) rfl hF4.ext hW4 (mono_trans (mono_trans HM.out G.out.mono) hm4) zk (by go_grown) (hV4.stored y f4 a4 c4 a5 c5) fun ho => by rw [G.out.mean (hm4 ho).1]; exact hr4 ho
set_option maxHeartbeats 3200000 in
set_option maxRecDepth 100000 in
theorem eval_let_bad (t : Tr) (hk : t.kids.length ≠ 2) (hq : t.kind = 19) : EvalAt t (fun _ => none) := by
 intro k wk env m an cn ai ni ci left over f a c a' c' p q w hp ht;have zk : wk < w.heap.size := hp.lt wk hp.kw;have kk1 : (t.kind == 1) = false := by rw [hq]; rfl
 have kk2 : (t.kind == 2) = false := by rw [hq]; rfl
 have kk3 : (t.kind == 3) = false := by rw [hq]; rfl
 have kk4 : (t.kind == 4) = false := by rw [hq]; rfl
 have kk5 : (t.kind == 5) = false := by rw [hq]; rfl
 have kk6 : (t.kind == 6) = false := by rw [hq]; rfl
 have kk8 : (t.kind == 8) = false := by rw [hq]; rfl
 have kk21 : (t.kind == 21) = false := by rw [hq]; rfl
 have kk9 : (t.kind == 9) = false := by rw [hq]; rfl
 have kk10 : (t.kind == 10) = false := by rw [hq]; rfl
 have kk12 : (t.kind == 12) = false := by rw [hq]; rfl
 have kk15 : (t.kind == 15) = false := by rw [hq]; rfl
 have kk17 : (t.kind == 17) = false := by rw [hq]; rfl
 have kk18 : (t.kind == 18) = false := by rw [hq]; rfl
 have kk19 : (t.kind == 19) = true := by rw [hq]; rfl
 have kk20 : (t.kind == 20) = false := by rw [hq]; rfl
 have kk22 : (t.kind == 22) = false := by rw [hq]; rfl
 have HP := Lib.hid hp; have HT := Lib.hid ht; have HQ := Lib.hid hq;have hkl : ((t.kids.length : Int) == 2) = false := beq_eq_false_iff_ne.2 (by omega);clear hk;clear hp ht hq;go_enter Try.func50, Try.ntmps50
 go_wp2_with fail
 go_at_call 58;apply Calls.mono
 ·exact step_any wk left 1 over _ (((HP.out.work.alloc _).alloc _).alloc _) (by omega)
 rintro e w5 ⟨left5, over5, rfl, hE5, hW5, hm5⟩;have F5 := (show F3 w wk [.slice an env.names.length cn, .slice ai ni ci, .pointer (some ⟨wk, 0, none⟩)] (tcells t f a c a' c' p q) zcells 62 25 39 _ from ⟨.of (by go_grown), ((Lb.new _ _ _).alloc _).alloc _, (Lb.new' _ _ _ (by simp)).alloc _, Lb.new' _ _ _ (by simp)⟩).call hE5 zk;have s1 := F5.b0.cell; have rt := F5.b1.cell; have r2 := F5.b2.cell; have g2 := F5.b2.frozen;have x0 : w.heap.size + 1 + 1 < w5.heap.size := F5.size;have x1 : w.heap.size + 1 < w5.heap.size := by omega
 have x2 : w.heap.size < w5.heap.size := by omega
 unfold tcells at rt;unfold zcells at r2;have HF5 := Lib.hid F5; have HW5 := Lib.hid hW5; have HM5 := Lib.hid hm5;clear F5 hW5 hm5 hE5;cases over5 with
 |true =>
  go_wp21;refine bodyPost_ret (v := .tuple #[zero, .bool false]) (by simp [results, Try.results50, go_sem, r2, g2, x0]; try rfl) rfl ?_;exact Evd.end (x := {}) (ok := false) rfl HF5.out.ext HW5.out (fun ho => by cases ho) zk (by go_grown) (zeroV _ _) fun ho => by cases ho
 |false =>
  have HMM := Lib.hid (show over = false ∧ left5 ≤ left ∧ (m : Int) + 1 + left5 ≤ room from by
   have h1 := HM5.out rfl; have h2 := HP.out.room h1.1; exact ⟨h1.1, by omega, by omega⟩)
  go_wp2_with fail
  go_at_call 67;refine (kids_any _ _ _ _ _ _ _ _ _ _).mono ?_;rintro e w6 ⟨rfl, hb6⟩;have F6 := HF5.out.calls hb6 zk;have HW6 := Lib.hid (HW5.out.below hb6 (by omega));clear s1 rt r2 g2 x0 x1 x2;have r2 := F6.b2.cell; have g2 := F6.b2.frozen; have x0 := F6.size;unfold zcells at r2;have HF6 := Lib.hid F6;clear F6;go_wp21;refine bodyPost_ret (v := .tuple #[zero, .bool false]) (by simp [results, Try.results50, go_sem, r2, g2, x0]; try rfl) rfl ?_;exact Evd.end (x := {}) (ok := false) rfl HF6.out.ext HW6.out (fun ho => ⟨HMM.out.1, HMM.out.2.1⟩) zk (by go_grown) (zeroV _ _) fun ho => rfl
end
section
open Go.RowKit
def upd (key : Nm) (x : Vl) (p : Nm × Vl) : Vl := if p.1 = key then x else p.2
theorem setV_eq (v : Vl) (key : Nm) (x : Vl) (h : v.keys.length = v.items.length) :
 setV v key x = { kind := 6, items := (v.keys.zip v.items).map (upd key x) ++ (if key ∈ v.keys then [] else [x]), keys := v.keys ++ (if key ∈ v.keys then [] else [key]) } := by
 have h1 : ((v.keys.zip v.items).map fun p => if p.1 = key then (p.1, x) else p).map (·.1) = v.keys := by
  rw [List.map_map];have : ((fun p : Nm × Vl => p.1) ∘ fun p : Nm × Vl => if p.1 = key then (p.1, x) else p) = fun p => p.1 := by
   funext p; simp only [Function.comp]; split <;> rfl
  rw [this];exact List.map_fst_zip (by omega)
 have h2 : ((v.keys.zip v.items).map fun p => if p.1 = key then (p.1, x) else p).map (·.2) = (v.keys.zip v.items).map (upd key x) := by
  rw [List.map_map]
  congr 1
  funext p; simp only [Function.comp, upd]; split <;> rfl
 unfold setV set_
 by_cases hk : key ∈ v.keys
 ·simp only [hk, if_true, List.append_nil, h1, h2]
 ·simp only [hk, if_false, List.map_append, h1, h2]; rfl
theorem zip_take_succ (v : Vl) (q : Nat) (kq : Nm) (yq : Vl) (h1 : v.keys[q]? = some kq) (h2 : v.items[q]? = some yq) (key : Nm) (x : Vl) :
 ((v.keys.zip v.items).take (q + 1)).map (upd key x) = ((v.keys.zip v.items).take q).map (upd key x) ++ [if kq = key then x else yq] ∧ v.keys.take (q + 1) = v.keys.take q ++ [kq] := by
 constructor
 ·have : (v.keys.zip v.items)[q]? = some (kq, yq) := by rw [List.getElem?_zip_eq_some]; exact ⟨h1, h2⟩
  rw [List.take_add_one, this];simp [upd]
 ·rw [List.take_add_one, h1]; rfl
theorem kcells_append (l m : List Nm) : kcells (l ++ m) = kcells l ++ kcells m := by unfold kcells; rw [List.map_append]
def ocells (A : Option Addr) (n cap : Nat) (A' : Option Addr) (n' cap' : Nat) : List Value := [.int .i64 6, .int .i64 0, .float .f64 0, .string ⟨#[]⟩, .bool false, .slice A n cap, .slice A' n' cap']
theorem own_lt {w : World} {B e size n c : Nat} {A : Option Addr} {xs : List Value} (h : w.ownsRow B e size (.slice A n c) n xs) : ∀ a, A = some a → B ≤ a.block ∧ a.block < w.heap.size := own_base h
theorem own_ne {w : World} {B B' e e' size size' n c n' c' : Nat} {A A' : Option Addr} {xs xs' : List Value} (h : w.ownsRow B e size (.slice A n c) n xs) (h' : w.ownsRow B' e' size' (.slice A' n' c') n' xs') (he : e ≠ e') : ∀ a a', A = some a → A' = some a' → a.block ≠ a'.block := by
 rintro a a' rfl rfl hb;rcases h.2 with ⟨h1, _⟩ | ⟨g, cap, cur, h1, _, h3, _⟩
 ·cases h1
 ·rcases h'.2 with ⟨g1, _⟩ | ⟨g', cap', cur', g1, _, g3, _⟩
  ·cases g1
  ·cases h1; cases g1;simp only at hb;rw [← hb, h3] at g3;simp only [Option.some.injEq, Obj.cells.injEq] at g3;exact he g3.2.1
theorem own_grown {w w' : World} {B e size n c : Nat} {A A' : Option Addr} {xs : List Value} (h : w.ownsRow B e size (.slice A n c) n xs) (g : w.grownBy w' (A'.map (·.block))) (hne : ∀ a a', A = some a → A' = some a' → a.block ≠ a'.block) : w'.ownsRow B e size (.slice A n c) n xs := by
 rcases h with ⟨h1, h2 | ⟨gb, cap, cur, h2, h3, h4, h5⟩⟩
 ·exact ⟨h1, .inl h2⟩
 ·have hl := (Array.getElem?_eq_some_iff.1 h4).1;refine ⟨h1, .inr ⟨gb, cap, cur, h2, h3, (g.block gb hl ?_).trans h4, h5⟩⟩;cases h2;cases A' with
  |none => intro h; cases h
  |some a' => have := hne _ a' rfl rfl; simp only at this; simpa using this
theorem xs_swap {k : Nat → Prop} {A A' : Option Addr} {b : Nat} (h : Xs (Xs k A) A' b) : Xs (Xs k A') A b := by
 rcases h with (h | h) | h
 ·exact .inl (.inl h)
 ·exact .inr h
 ·exact .inl (.inr h)
structure Rws (k : Nat → Prop) (w0 : World) (l0 l1 : List Value) (yb : Nat) (yc : List Value) (u : Vl) (A : Option Addr) (n cap : Nat) (cs : List Value) (ys : List Vl) (A' : Option Addr) (n' cap' : Nat) (ks : List Value) (s5 s6 : Value) (w : World) : Prop where
 b : Below w0.heap.size w0 w
 c0 : Lb w w0.heap.size l0 39
 c1 : Lb w (w0.heap.size + 1) l1 39
 c2 : Lb w (w0.heap.size + 1 + 1) zcells 39
 c3 : Lb w (w0.heap.size + 1 + 1 + 1) [.int .i64 6, .int .i64 0, .float .f64 0, .string ⟨#[]⟩, .bool false, s5, s6] 39
 hy : w0.heap.size + 1 + 1 + 1 ≠ yb
 cy : Lb w yb yc 39
 own : w.ownsRow (w0.heap.size + 1 + 1 + 1 + 1) 39 7 (.slice A n cap) n cs
 own' : w.ownsRow (w0.heap.size + 1 + 1 + 1 + 1) 9 1 (.slice A' n' cap') n' ks
 ny : ∀ a, A = some a → a.block ≠ yb
 vs : IsVs w (Xs (Xs (fun b => k b ∨ b = w0.heap.size + 1 + 1 ∨ b = w0.heap.size + 1 + 1 + 1) A) A') ys cs
 vu : IsV w (Xs (Xs (fun b => k b ∨ b = w0.heap.size + 1 + 1 ∨ b = w0.heap.size + 1 + 1 + 1) A) A') u yc
section
variable {k : Nat → Prop} {w0 w w3 : World} {l0 l1 : List Value} {yb : Nat} {yc : List Value} {u : Vl} {A : Option Addr} {n cap : Nat} {cs : List Value} {ys : List Vl} {A' : Option Addr} {n' cap' : Nat} {ks : List Value} {s5 s6 : Value}
theorem Rws.drew (h : Rws k w0 l0 l1 yb yc u A n cap cs ys A' n' cap' ks s5 s6 w) : Rws k w0 l0 l1 yb yc u A n cap cs ys A' n' cap' ks s5 s6 w.drew where
 b := h.b.drew
 c0 := h.c0
 c1 := h.c1
 c2 := h.c2
 c3 := h.c3
 hy := h.hy
 cy := h.cy
 own := h.own
 own' := h.own'
 ny := h.ny
 vs := h.vs.ext ((Ext.refl _ _ _).drew) (Nat.le_refl _)
 vu := h.vu.ext ((Ext.refl _ _ _).drew) (Nat.le_refl _)
theorem Rws.alloc (h : Rws k w0 l0 l1 yb yc u A n cap cs ys A' n' cap' ks s5 s6 w) (o : Obj) : Rws k w0 l0 l1 yb yc u A n cap cs ys A' n' cap' ks s5 s6 (w.alloc o) where
 b := h.b.alloc h.b.size o
 c0 := h.c0.alloc o
 c1 := h.c1.alloc o
 c2 := h.c2.alloc o
 c3 := h.c3.alloc o
 hy := h.hy
 cy := h.cy.alloc o
 own := h.own.alloc o
 own' := h.own'.alloc o
 ny := h.ny
 vs := h.vs.ext ((Ext.refl _ _ _).alloc (Nat.le_refl _) o) (Nat.le_refl _)
 vu := h.vu.ext ((Ext.refl _ _ _).alloc (Nat.le_refl _) o) (Nat.le_refl _)
theorem Rws.low (h : Rws k w0 l0 l1 yb yc u A n cap cs ys A' n' cap' ks s5 s6 w) : (∀ b, b ≤ w0.heap.size + 1 + 1 + 1 → some b ≠ A.map (·.block)) ∧ (∀ b, b ≤ w0.heap.size + 1 + 1 + 1 → some b ≠ A'.map (·.block)) := by
 refine ⟨fun b hb he => ?_, fun b hb he => ?_⟩
 ·cases A with
  |none => cases he
  |some a => have := (own_base h.own a rfl).1; simp at he; omega
 ·cases A' with
  |none => cases he
  |some a => have := (own_base h.own' a rfl).1; simp at he; omega
theorem Rws.growK (h : Rws k w0 l0 l1 yb yc u A n cap cs ys A' n' cap' ks s5 s6 w) (h'y : ∀ a, A' = some a → a.block ≠ yb) {A3 : Option Addr} {n3 cap3 : Nat} {ks3 : List Value} (hown : w3.ownsRow (w0.heap.size + 1 + 1 + 1 + 1) 9 1 (.slice A3 n3 cap3) n3 ks3) (g : w.grownBy w3 (A'.map (·.block))) (hat : A3 = A' ∨ A3 = some ⟨w.heap.size, 0, none⟩) :
 Rws k w0 l0 l1 yb yc u A n cap cs ys A3 n3 cap3 ks3 s5 s6 w3 where
 b := h.b.trans ⟨g.os, g.tape, g.output, g.size, fun b hb => g.block b (Nat.lt_of_lt_of_le hb h.b.size) (h.low.2 b (by omega))⟩
 c0 := h.c0.grown g (h.low.2 _ (by omega))
 c1 := h.c1.grown g (h.low.2 _ (by omega))
 c2 := h.c2.grown g (h.low.2 _ (by omega))
 c3 := h.c3.grown g (h.low.2 _ (by omega))
 hy := h.hy
 cy := h.cy.grown g (by
  cases A' with
  |none => intro h; cases h
  |some a => have := h'y a rfl; simp only [Option.map_some, ne_eq, Option.some.injEq]; omega)
 own := own_grown h.own g (own_ne h.own h.own' (by decide))
 own' := hown
 ny := h.ny
 vs := IsVs.grown g hat h.vs
 vu := IsV.grown g hat h.vu
theorem Rws.growI (h : Rws k w0 l0 l1 yb yc u A n cap cs ys A' n' cap' ks s5 s6 w) {A3 : Option Addr} {n3 cap3 : Nat} (hown : w3.ownsRow (w0.heap.size + 1 + 1 + 1 + 1) 39 7 (.slice A3 n3 cap3) n3 (cs ++ yc)) (g : w.grownBy w3 (A.map (·.block))) (hat : A3 = A ∨ A3 = some ⟨w.heap.size, 0, none⟩) :
 Rws k w0 l0 l1 yb yc u A3 n3 cap3 (cs ++ yc) (ys ++ [u]) A' n' cap' ks s5 s6 w3 where
 b := h.b.trans ⟨g.os, g.tape, g.output, g.size, fun b hb => g.block b (Nat.lt_of_lt_of_le hb h.b.size) (h.low.1 b (by omega))⟩
 c0 := h.c0.grown g (h.low.1 _ (by omega))
 c1 := h.c1.grown g (h.low.1 _ (by omega))
 c2 := h.c2.grown g (h.low.1 _ (by omega))
 c3 := h.c3.grown g (h.low.1 _ (by omega))
 hy := h.hy
 cy := h.cy.grown g (by
  cases A with
  |none => intro h; cases h
  |some a => have := h.ny a rfl; simp only [Option.map_some, ne_eq, Option.some.injEq]; omega)
 own := hown
 own' := own_grown h.own' g (fun a a' h1 h2 h3 => own_ne h.own h.own' (by decide) a' a h2 h1 h3.symm)
 ny := fun a ha => by
  rcases hat with rfl | rfl
  ·exact h.ny a ha
  ·cases ha; have := h.cy.lt; simp only; omega
 vs := by
  have h1 := (h.vs.other (k' := Xs (Xs (fun b => k b ∨ b = w0.heap.size + 1 + 1 ∨ b = w0.heap.size + 1 + 1 + 1) A') A) fun b hb => .inl (xs_swap hb));have h2 := (h.vu.other (k' := Xs (Xs (fun b => k b ∨ b = w0.heap.size + 1 + 1 ∨ b = w0.heap.size + 1 + 1 + 1) A') A) fun b hb => .inl (xs_swap hb));exact ((IsVs.grown g hat h1).append (.one (IsV.grown g hat h2))).other fun b hb => .inl (xs_swap hb)
 vu := (IsV.grown g hat (h.vu.other (k' := Xs (Xs (fun b => k b ∨ b = w0.heap.size + 1 + 1 ∨ b = w0.heap.size + 1 + 1 + 1) A') A) fun b hb => .inl (xs_swap hb))).other fun b hb => .inl (xs_swap hb)
theorem Rws.set3 (h : Rws k w0 l0 l1 yb yc u A n cap cs ys A' n' cap' ks s5 s6 w) {i : Nat} {x t5 t6 : Value} (he : ([.int .i64 6, .int .i64 0, .float .f64 0, .string ⟨#[]⟩, .bool false, s5, s6] : List Value).set i x = [.int .i64 6, .int .i64 0, .float .f64 0, .string ⟨#[]⟩, .bool false, t5, t6]) :
 Rws k w0 l0 l1 yb yc u A n cap cs ys A' n' cap' ks t5 t6 (w.setCell ⟨w0.heap.size + 1 + 1 + 1, i, none⟩ x) where
 b := h.b.setCell (show w0.heap.size ≤ w0.heap.size + 1 + 1 + 1 by omega) x
 c0 := h.c0.other _ _ (show w0.heap.size + 1 + 1 + 1 ≠ _ by omega)
 c1 := h.c1.other _ _ (show w0.heap.size + 1 + 1 + 1 ≠ _ by omega)
 c2 := h.c2.other _ _ (show w0.heap.size + 1 + 1 + 1 ≠ _ by omega)
 c3 := by rw [← he]; exact h.c3.set i x
 hy := h.hy
 cy := h.cy.other _ _ h.hy
 own := own_set h.own (by show w0.heap.size + 1 + 1 + 1 < _; omega) x
 own' := own_set h.own' (by show w0.heap.size + 1 + 1 + 1 < _; omega) x
 ny := h.ny
 vs := h.vs.ext ((Ext.refl _ _ _).setCell (.inl (.inl (.inl (.inr (.inr rfl))))) x) (Nat.le_refl _)
 vu := h.vu.ext ((Ext.refl _ _ _).setCell (.inl (.inl (.inl (.inr (.inr rfl))))) x) (Nat.le_refl _)
end
end
end Go.Proofs.Ytafhhdimjkgihaa.Mn
