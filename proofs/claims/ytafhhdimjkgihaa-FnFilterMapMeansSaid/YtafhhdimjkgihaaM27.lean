/- What the program does, function by function, and what trees mean: part 27. -/
import Derived.Deep.CutRange
import Derived.Test.YtafhhdimjkgihaaM24
import Derived.Test.YtafhhdimjkgihaaM25
import Derived.Test.YtafhhdimjkgihaaM26
import Derived.Test.YtafhhdimjkgihaaM07
import Derived.Test.YtafhhdimjkgihaaM22
set_option linter.unusedSimpArgs false
set_option linter.unusedVariables false
namespace Go.Proofs.Ytafhhdimjkgihaa.Mn
section
attribute [local go_sem ↓] Go.wp_at_zero Go.wp_at_succ
open Go.RowKit
set_option maxHeartbeats 6400000 in
set_option maxRecDepth 100000 in
theorem chosen_filterM (l : List Vl) (tn t : Tr) (hq : tn.name = nm "filter") (t1 : Tr) (hmap : tn.map = [t1]) (hok1 : EvalOk t1) (hok : EvalOk t) (k : Nat → Prop) (wk : Nat) (env : Env) (m : Nat) (an : Option Addr) (cn : Nat) (ai : Option Addr) (ni ci : Nat) (left : Int) (a : Option Addr) (c : Nat) (cs : List Value)
 (f0 : Nat) (b1 : Option Addr) (d1 : Nat) (b2 : Option Addr) (d2 : Nat) (p0 q0 : Int) (f : Nat) (a1 : Option Addr) (c1 : Nat) (a2 : Option Addr) (c2 : Nat) (p p' : Int) (w : World)
 (hp : Pre k wk env m an cn ai ni ci left false w) (hroom : (m : Int) + 1 + left ≤ room) (hn : l.length ≤ most) (hr : Row w k a cs) (hs : IsVs w k l cs) (htn : IsT w k tn (tcells tn f0 b1 d1 b2 d2 p0 q0)) (ht : IsT w k t (tcells t f a1 c1 a2 c2 p p')) :
 Calls Try.prog 82 #[sa env.names.length wk an cn ai ni ci, ta tn f0 b1 d1 b2 d2 p0 q0, .slice a l.length c, ta t f a1 c1 a2 c2 p p'] w (Evd k wk left false (chosen { name := tn.name, limited := tn.limited, limit := tn.limit, flag := tn.flag, map := oneOf (Ds tn.map) } (D t).val env (order tn.name (zipIdx l)) [] 0) w) := by
 have zk : wk < w.heap.size := hp.lt wk hp.kw;have hm1 : m + 1 ≤ 1073741824 := by have hl0 := hp.work.2.2 rfl; unfold room at hroom; omega
 obtain ⟨bm, om, rfl, hkm, hbm, u1, u2, u3, u4, u5, u6, u7, hT1, hM12⟩ := map_at htn (j := 0) (t1 := t1) (by rw [hmap]; rfl);rw [Nat.zero_mul, Nat.add_zero] at hM12;have HT1 := Lib.hid hT1; have HM12 := Lib.hid hM12; have HOK1 := Lib.hid hok1;clear hT1 hM12 hok1;have HRM := Lib.hid hroom; have HP := Lib.hid hp; have HT := Lib.hid ht; have HTN := Lib.hid htn; have HOK := Lib.hid hok; have HI := Lib.hid (And.intro hr hs);clear hp ht hok hr hs hroom htn;unfold most at hn;have nn0 : (tn.name == [97, 108, 108]) = false := by rw [hq]; decide
 have nn1 : (tn.name == [97, 110, 121]) = false := by rw [hq]; decide
 have nn2 : (tn.name == [110, 111, 110, 101]) = false := by rw [hq]; decide
 have nn3 : (tn.name == [102, 105, 110, 100]) = false := by rw [hq]; decide
 have nn4 : (tn.name == [102, 105, 110, 100, 76, 97, 115, 116]) = false := by rw [hq]; decide
 have nn5 : (tn.name == [102, 105, 110, 100, 73, 110, 100, 101, 120]) = false := by rw [hq]; decide
 have nn6 : (tn.name == [102, 105, 110, 100, 76, 97, 115, 116, 73, 110, 100, 101, 120]) = false := by rw [hq]; decide
 have nn7 : (tn.name == [99, 111, 117, 110, 116]) = false := by rw [hq]; decide
 have nn8 : (tn.name == [111, 110, 101]) = false := by rw [hq]; decide
 have nn9 : (tn.name == [102, 105, 108, 116, 101, 114]) = true := by rw [hq]; decide
 have hbk : backs tn.name = false := by rw [hq]; decide
 have HNM := Lib.hid (show tn.name = nm "filter" ∧ nm "filter" ≠ nm "all" ∧ nm "filter" ≠ nm "any" ∧ nm "filter" ≠ nm "none" ∧ nm "filter" ≠ nm "find" ∧ nm "filter" ≠ nm "findLast" ∧ nm "filter" ≠ nm "findIndex" ∧ nm "filter" ≠ nm "findLastIndex" ∧ nm "filter" ≠ nm "count" ∧ nm "filter" ≠ nm "one" from by rw [hq]; decide);have hm0 : ((tn.map.length : Int) == 1) = true := by rw [hmap]; rfl
 have hml : 0 < tn.map.length := by rw [hmap]; exact Nat.zero_lt_succ _
 have HMP := Lib.hid (show oneOf (Ds tn.map) = some (D t1).val by rw [hmap]; rfl);clear hq hmap;go_enter Try.func82, Try.ntmps82
 go_upto_region 2 with (fail)
 refine forget (fun w' => Cr k wk env [.slice an env.names.length cn, .slice ai ni ci, .pointer (some ⟨wk, 0, none⟩)] (tcells tn f0 b1 d1 (some ⟨bm, om, none⟩) d2 p0 q0) (tcells t f a1 c1 a2 c2 p p') { name := tn.name, limited := tn.limited, limit := tn.limit, flag := tn.flag, map := oneOf (Ds tn.map) } l (D t).val left w 0 none 0 0 [] [] 0 left false w') ?_ ?_
 ·refine ⟨⟨.of (by go_grown), ((((Lb.new _ _ _).alloc _).alloc _).alloc _).alloc _, (((Lb.new' _ _ _ (by simp)).alloc _).alloc _).alloc _, ((Lb.new' _ _ _ (by simp)).alloc _).alloc _⟩, (Lb.new' _ _ _ (by simp)).alloc _, Lb.new' _ _ _ (by simp), (((((HP.out.work.alloc _).alloc _).alloc _).alloc _).alloc _), fun _ => Int.le_refl _, World.ownsRow_nil _ _ _ _, .nil, rfl, Nat.le_refl _, Nat.le_refl _, fun _ => rfl⟩
 intro W hC
 go_cut [12] from 19 (fun s12 wx => s12 = .bool false ∧ wx = W)
 case first =>
  have n1 := hC.f.b1.cell 1;simp only [tcells, List.getElem?_cons_succ, List.getElem?_cons_zero] at n1;have z1 : w.heap.size + 1 < W.heap.size := hC.f.b1.lt;have HC := Lib.hid hC;clear hC;go_wp21;go_meet
  case rel => exact ⟨rfl, rfl⟩
 case rest =>
  obtain ⟨rfl, rfl⟩ := hcut;have HC := Lib.hid hC;clear hC
  go_wp2_with fail
  go_loopg [11, 30] l.length (fun g s11 s30 wr => ∃ q many : Nat, s11 = .int .i64 many ∧ s30 = .int .i64 q ∧ q + g = l.length ∧ ∃ A n cap ocs ys left' over', Cr k wk env [.slice an env.names.length cn, .slice ai ni ci, .pointer (some ⟨wk, 0, none⟩)] (tcells tn f0 b1 d1 (some ⟨bm, om, none⟩) d2 p0 q0) (tcells t f a1 c1 a2 c2 p p') { name := tn.name, limited := tn.limited, limit := tn.limit, flag := tn.flag, map := oneOf (Ds tn.map) } l (D t).val left w q A n cap ocs ys many left' over' wr)
  case atStart => exact ⟨0, 0, rfl, rfl, by omega, none, 0, 0, [], [], left, false, HC.out⟩
  case round =>
   obtain ⟨q, many, rfl, rfl, hq, A, n, cap, ocs, ys, lr, ovr, hM⟩ := hrel;clear HC
   by_cases hlt : 0 < gk
   ·obtain ⟨g, rfl⟩ : ∃ g, gk = g + 1 := ⟨gk - 1, by omega⟩;have hql : q < l.length := (by omega);obtain ⟨x, hx, hox⟩ := order_get tn.name l q hql;obtain ⟨P, hP⟩ : ∃ P, place tn.name l q = P := ⟨_, rfl⟩;rw [hP] at hx hox;have hPl : P < l.length := (List.getElem?_eq_some_iff.1 hx).1;obtain ⟨b, o, rfl⟩ := HI.out.1.some_of (HI.out.2.ne hql);obtain ⟨hkb, hbs, f3, a3, c3, a4, c4, hX, h7⟩ := IsVs.cells HI.out.1 HI.out.2 hx;have HM := Lib.hid hM; have H7 := Lib.hid h7; have HX := Lib.hid hX; have HOX := Lib.hid hox; have HXP := Lib.hid hx;clear hM h7 hX hox hx;have hPq : q = P := (by rw [← hP, place, hbk]; rfl);clear hP
    go_upto_region 9 with (fail)
    subst hPq;have HE := Lib.hid (show Ext (· = wk) w.heap.size w wr from HM.out.f.ext);have HQ := Lib.hid (show I64 (q : Int) from ⟨by omega, by omega⟩);have hbk2 : ¬ b = wk := fun h => hkb (by rw [h]; exact HP.out.kw);have h7r := H7.out.ext HE.out hbs hbk2;have zkw : wk < wr.heap.size := (by have := HE.out.size; omega);have zb : b < wr.heap.size := (by have := HE.out.size; omega);have z0 : w.heap.size < wr.heap.size := HM.out.f.b0.lt;have hW : Sv wk lr ovr wr wr := ⟨Ext.refl _ _ _, lr, ovr, HM.out.work, mono_refl⟩;have KEEP := Lib.hid (show ∀ w', Sv wk lr ovr wr w' → Sv wk lr ovr wr w' ∧ w'.cell? ⟨w.heap.size, 0, none⟩ = some (.slice an env.names.length cn) ∧ w'.cell? ⟨w.heap.size, 1, none⟩ = some (.slice ai ni ci) ∧ w'.cell? ⟨w.heap.size, 2, none⟩ = some (.pointer (some ⟨wk, 0, none⟩)) ∧ w'.cell? ⟨b, o + q * 7, none⟩ = some (.int .i64 x.kind) ∧ w'.cell? ⟨b, o + q * 7 + 1, none⟩ = some (.int .i64 x.int) ∧ w'.cell? ⟨b, o + q * 7 + 2, none⟩ = some (.float .f64 f3) ∧ w'.cell? ⟨b, o + q * 7 + 3, none⟩ = some (.string (str x.text)) ∧ w'.cell? ⟨b, o + q * 7 + 4, none⟩ = some (.bool x.bool) ∧ w'.cell? ⟨b, o + q * 7 + 5, none⟩ = some (.slice a3 x.items.length c3) ∧ w'.cell? ⟨b, o + q * 7 + 6, none⟩ = some (.slice a4 x.keys.length c4) from fun w' h => ⟨h, h.cell z0 (by omega) (HM.out.f.b0.cell 0), h.cell z0 (by omega) (HM.out.f.b0.cell 1), h.cell z0 (by omega) (HM.out.f.b0.cell 2), h.cell zb hbk2 h7r.c0, h.cell zb hbk2 h7r.c1, h.cell zb hbk2 h7r.c2, h.cell zb hbk2 h7r.c3, h.cell zb hbk2 h7r.c4, h.cell zb hbk2 h7r.c5, h.cell zb hbk2 h7r.c6⟩)
    clear h7r;have hP0 : (0 : Int) ≤ (q : Int) := (by omega);have hP1 : (q : Int) < (l.length : Int) := by omega
    go_cut [15] from 31 to 150 (fun s15 wx => ∃ bh A1 cap1 K, s15 = .pointer (some ⟨bh, 0, none⟩) ∧ GotH w wk k lr ovr (here env x q) (m + 1) an env.names.length cn bh A1 (ni + 1) cap1 K wr wx)
    case first =>
     go_region_held3 (fun w' => Sv wk lr ovr wr w' ∧ w'.cell? ⟨w.heap.size, 0, none⟩ = some (.slice an env.names.length cn) ∧ w'.cell? ⟨w.heap.size, 1, none⟩ = some (.slice ai ni ci) ∧ w'.cell? ⟨w.heap.size, 2, none⟩ = some (.pointer (some ⟨wk, 0, none⟩)) ∧ w'.cell? ⟨b, o + q * 7, none⟩ = some (.int .i64 x.kind) ∧ w'.cell? ⟨b, o + q * 7 + 1, none⟩ = some (.int .i64 x.int) ∧ w'.cell? ⟨b, o + q * 7 + 2, none⟩ = some (.float .f64 f3) ∧ w'.cell? ⟨b, o + q * 7 + 3, none⟩ = some (.string (str x.text)) ∧ w'.cell? ⟨b, o + q * 7 + 4, none⟩ = some (.bool x.bool) ∧ w'.cell? ⟨b, o + q * 7 + 5, none⟩ = some (.slice a3 x.items.length c3) ∧ w'.cell? ⟨b, o + q * 7 + 6, none⟩ = some (.slice a4 x.keys.length c4))
      (first | with_reducible exact KEEP.out _ (Sv.drew hW) | with_reducible exact KEEP.out _ hsv1 | with_reducible exact KEEP.out _ (Sv.alloc hsv1 _) | with_reducible exact KEEP.out _ (Sv.allocD (Sv.drew hW) _) | with_reducible exact KEEP.out _ (Sv.s3 hsv1 zkw (Nat.le_refl _) _ _ _) | with_reducible exact KEEP.out _ (Sv.s3 (Sv.alloc hsv1 _) zkw hsv1.p.size _ _ _))
      (first
        |(go_at_call 90; apply Calls.mono; (focus (with_reducible exact within_sv HP.out HE.out (And.left ‹Sv _ _ _ _ _ ∧ _›) HX.out HQ.out hm1)); rintro e w1 ⟨A1, cap1, rfl, hb1, hsc, hsv1, hk1, hz1⟩; (try (have L5 : Lb w1 wr.heap.size _ 62 := Lb.below (Lb.drew (Lb.new' _ _ _ (by simp))) hb1 (by simp); have r5 := L5.cell; have g5 := L5.frozen; have z5 := L5.lt))))
     all_goals
      go_wp21;go_meet
      case rel =>
       first |exact ⟨_, A1, cap1, _, rfl, GotH.there hsv1 zkw hsc (fun b h => .inl h) (fun b h => h.imp id (·.1)) hk1 (fun b h1 h2 => .inr ⟨h1, by first | exact h2 | (simp; omega)⟩) (Nat.le_refl _) (.inr ⟨by omega, by simp⟩) L5⟩ |exact ⟨_, A1, cap1, _, rfl, GotH.fresh hsv1 hsc (fun b h => .inl h) (fun b h => h.imp id (·.1)) hk1 (fun b h1 h2 => .inr ⟨h1, by first | exact h2 | (simp; omega)⟩)⟩
    case rest =>
     obtain ⟨bh, A1, cap1, K, rfl, hG⟩ := hcut;obtain ⟨l1, ov1, hw1', hmm1⟩ := hG.sv.work;have hM := HM.out.ext HP.out.kw zk hG.sv.p hw1' hmm1;have y4 := hM.o.lt;have y3 := hM.r.lt;have y2 := hM.f.size;have y1 : w.heap.size + 1 < wc.heap.size := (by omega);have y0 : w.heap.size < wc.heap.size := (by omega);have yh := hG.blk.lt;have rh := hG.blk.cell;have rt := hM.f.b2.cell;have HR2 := Lib.hid (show ovr = false → ((m + 1 : Nat) : Int) + lr ≤ room from fun ho => by have h1 := HM.out.mono ho; have h2 := HRM.out; omega);have HG := Lib.hid hG; have HM3 := Lib.hid hM;clear hG hM KEEP hW hmm1 hw1';unfold tcells at rt
     go_wp2_with fail
     go_at_call 74;apply Calls.mono
     ·refine truth_sv HP.out HE.out HG.out.sv HR2.out HG.out.sub HG.out.back HG.out.lt HG.out.sc (Below.refl _ _) ?_ HOK.out HT.out;omega
     rintro e w2 ⟨is, ok, left2, over2, rfl, hE2, hW2, hm2, hr2, hsv2⟩;have M2 := HM.out.ext HP.out.kw zk hsv2.p hW2 hm2;have B2 := HG.out.blk.ext hE2 yh (by have := HG.out.ath; omega);have x4 := M2.o.lt;have x3 := M2.r.lt;have x2 := M2.f.size;have x1 : w.heap.size + 1 < w2.heap.size := (by omega);have x0 : w.heap.size < w2.heap.size := (by omega);have r3 := M2.r.cell; have g3 := M2.r.frozen;have n1 := M2.f.b1.cell 1; have n4 := M2.f.b1.cell 4; have n6 := M2.f.b1.cell 6; have n7 := M2.f.b1.cell 7; have n9 := M2.f.b1.cell 9;simp only [tcells, List.getElem?_cons_succ, List.getElem?_cons_zero] at n1 n4 n6 n7 n9;have HS := Lib.hid (HG.out.sc.ext (hE2.weak fun b hb => by rw [hb]; exact HG.out.sub _ HP.out.kw) (Nat.le_refl _));have HME := Lib.hid (show over2 = false → chosen { name := tn.name, limited := tn.limited, limit := tn.limit, flag := tn.flag, map := oneOf (Ds tn.map) } (D t).val env (order tn.name (zipIdx l)) [] 0 = chosen { name := tn.name, limited := tn.limited, limit := tn.limit, flag := tn.flag, map := oneOf (Ds tn.map) } (D t).val env ((x, (q : Int)) :: (order tn.name (zipIdx l)).drop (q + 1)) ys many from fun ho => (M2.mean ho).trans (by rw [drop_cons _ _ _ HOX.out]))
     have HTR := Lib.hid hr2;have HE3 := Lib.hid hE2; have HSV := Lib.hid hsv2;have HN := Lib.hid (And.intro M2.nq M2.mq);have HM2 := Lib.hid M2; have HB2 := Lib.hid B2;clear M2 B2 hE2 hW2 hm2 hr2 hsv2 rh rt y0 y1 y2 y3 y4 yh;unfold zcells at r3;cases ok with
     |false =>
      go_wp21;refine bodyPost_ret (v := .tuple #[zero, .bool false]) (by simp [results, Try.results82, go_sem, r3, g3, x3]; try rfl) rfl ?_;exact Evd.end (x := {}) (ok := false) rfl HM2.out.f.ext HM2.out.work (fun ho => ⟨rfl, HM2.out.mono ho⟩) zk (by go_grown) (zeroV _ _) fun ho => by rw [HME.out ho, chosen_cons, HTR.out ho]; rfl
     |true =>
      cases is with
      |false =>
       go_wp2_with fail
       go_roundg g
       case measure => omega
       case rel => exact ⟨q + 1, many, rfl, by go_num, by omega, A, n, cap, ocs, ys, left2, over2, HM2.out.next fun ho => by rw [drop_cons _ _ _ HOX.out, chosen_cons, HTR.out ho]; simp [HNM.out]⟩
      |true =>
       have q7 := H7.out.ext HM2.out.f.ext hbs hbk2;have e0 := q7.c0; have e1 := q7.c1; have e2 := q7.c2; have e3 := q7.c3; have e4 := q7.c4; have e5 := q7.c5; have e6 := q7.c6;have zb2 : b < w2.heap.size := (by have := HM2.out.f.ext.size; omega);have hnq := HN.out.1; have hmq := HN.out.2;clear q7
       go_upto_region 35 with (fail)
       refine forget (fun W => Below w2.heap.size w2 W ∧ Lb W w2.heap.size (vcells x f3 a3 c3 a4 c4) 39) ?_ ?_
       ·exact ⟨by go_grown, Lb.new' _ _ _ rfl⟩
       rintro W ⟨hbW, hLW⟩;have zW := hLW.lt;have zk2 : wk < w2.heap.size := (by omega);have zm2 : bm < w2.heap.size := (by have := HM2.out.f.ext.size; omega);have hbmk : bm ≠ wk := fun h => hkm (by rw [h]; exact HP.out.kw);have hSW : Sv wk left2 over2 w2 W := ⟨.of hbW, left2, over2, HM2.out.work.below hbW (by omega), mono_refl⟩;have qm := HM12.out.ext HM2.out.f.ext hbm hbmk;have B2l := HB2.out.lt;have hbhk : bh ≠ wk := (by have := HG.out.ath; omega);have KEEP2 := Lib.hid (show ∀ w', Sv wk left2 over2 w2 w' → Sv wk left2 over2 w2 w' ∧ w'.cell? ⟨bh, 0, none⟩ = some (.slice an env.names.length cn) ∧ w'.cell? ⟨bh, 1, none⟩ = some (.slice A1 (ni + 1) cap1) ∧ w'.cell? ⟨bh, 2, none⟩ = some (.pointer (some ⟨wk, 0, none⟩)) ∧ w'.cell? ⟨w.heap.size + 1, 9, none⟩ = some (.slice (some ⟨bm, om, none⟩) tn.map.length d2) ∧ w'.cell? ⟨bm, om, none⟩ = some (.int .i64 t1.kind) ∧ w'.cell? ⟨bm, om + 1, none⟩ = some (.string (str t1.name)) ∧ w'.cell? ⟨bm, om + 2, none⟩ = some (.int .i64 t1.int) ∧ w'.cell? ⟨bm, om + 3, none⟩ = some (.float .f64 u1) ∧ w'.cell? ⟨bm, om + 4, none⟩ = some (.bool t1.flag) ∧ w'.cell? ⟨bm, om + 5, none⟩ = some (.bool t1.method) ∧ w'.cell? ⟨bm, om + 6, none⟩ = some (.bool t1.limited) ∧ w'.cell? ⟨bm, om + 7, none⟩ = some (.int .i64 t1.limit) ∧ w'.cell? ⟨bm, om + 8, none⟩ = some (.slice u2 t1.kids.length u3) ∧ w'.cell? ⟨bm, om + 9, none⟩ = some (.slice u4 t1.map.length u5) ∧ w'.cell? ⟨bm, om + 10, none⟩ = some (.int .i64 u6) ∧ w'.cell? ⟨bm, om + 11, none⟩ = some (.int .i64 u7) from fun w' h => ⟨h, h.cell B2l hbhk (HB2.out.cell 0), h.cell B2l hbhk (HB2.out.cell 1), h.cell B2l hbhk (HB2.out.cell 2), h.cell x1 (by omega) (HM2.out.f.b1.cell 9), h.cell zm2 hbmk qm.c0, h.cell zm2 hbmk qm.c1, h.cell zm2 hbmk qm.c2, h.cell zm2 hbmk qm.c3, h.cell zm2 hbmk qm.c4, h.cell zm2 hbmk qm.c5, h.cell zm2 hbmk qm.c6, h.cell zm2 hbmk qm.c7, h.cell zm2 hbmk qm.c8, h.cell zm2 hbmk qm.c9, h.cell zm2 hbmk qm.c10, h.cell zm2 hbmk qm.c11⟩)
       have HE2W := Lib.hid (show Ext (· = wk) w.heap.size w w2 from HM2.out.f.ext);have HR3 := Lib.hid (show over2 = false → ((m + 1 : Nat) : Int) + left2 ≤ room from fun ho => by have h1 := HM2.out.mono ho; have h2 := HRM.out; omega);have HK3 := Lib.hid (show ∀ b, K b → b < w2.heap.size from fun b h => by have h1 := HG.out.lt b h; have h2 := HE3.out.size; omega);have hz2 : w.heap.size ≤ w2.heap.size := (by omega);have HLW := Lib.hid hLW;clear qm hLW e0 e1 e2 e3 e4 e5 e6
       go_region_held3 (fun w' => Sv wk left2 over2 w2 w' ∧ w'.cell? ⟨bh, 0, none⟩ = some (.slice an env.names.length cn) ∧ w'.cell? ⟨bh, 1, none⟩ = some (.slice A1 (ni + 1) cap1) ∧ w'.cell? ⟨bh, 2, none⟩ = some (.pointer (some ⟨wk, 0, none⟩)) ∧ w'.cell? ⟨w.heap.size + 1, 9, none⟩ = some (.slice (some ⟨bm, om, none⟩) tn.map.length d2) ∧ w'.cell? ⟨bm, om, none⟩ = some (.int .i64 t1.kind) ∧ w'.cell? ⟨bm, om + 1, none⟩ = some (.string (str t1.name)) ∧ w'.cell? ⟨bm, om + 2, none⟩ = some (.int .i64 t1.int) ∧ w'.cell? ⟨bm, om + 3, none⟩ = some (.float .f64 u1) ∧ w'.cell? ⟨bm, om + 4, none⟩ = some (.bool t1.flag) ∧ w'.cell? ⟨bm, om + 5, none⟩ = some (.bool t1.method) ∧ w'.cell? ⟨bm, om + 6, none⟩ = some (.bool t1.limited) ∧ w'.cell? ⟨bm, om + 7, none⟩ = some (.int .i64 t1.limit) ∧ w'.cell? ⟨bm, om + 8, none⟩ = some (.slice u2 t1.kids.length u3) ∧ w'.cell? ⟨bm, om + 9, none⟩ = some (.slice u4 t1.map.length u5) ∧ w'.cell? ⟨bm, om + 10, none⟩ = some (.int .i64 u6) ∧ w'.cell? ⟨bm, om + 11, none⟩ = some (.int .i64 u7))
        (first | with_reducible exact KEEP2.out _ (Sv.drew hSW) | with_reducible exact KEEP2.out _ hsv4 | with_reducible exact KEEP2.out _ (Sv.s7 hsv4 zk2 (Nat.le_refl _) _ _ _ _ _ _))
        (first | (go_at_call 50; apply Calls.mono; (focus (refine eval_sv HP.out HE2W.out (And.left ‹Sv _ _ _ _ _ ∧ _›) HR3.out HG.out.sub HG.out.back HK3.out HS.out ?_ hz2 HOK1.out HT1.out; first | exact hbW.drew | go_grown)); rintro e w4 ⟨y, f8, a8, c8, a9, c9, ok, left4, over4, rfl, hE4, hW4, hm4, hV4, hr4, hsv4⟩; have L18 : Lb w4 w2.heap.size _ 39 := Lb.ext (Lb.drew HLW.out) hE4 (by simpa using zW) (by omega); have r18 := L18.cell; have g18 := L18.frozen; have z18 := L18.lt; unfold vcells at r18))
       have hM5 := HM2.out.ext HP.out.kw zk (Sv.s7 hsv4 zk2 (Nat.le_refl _) y f8 a8 c8 a9 c9).p (hW4.s7 (by omega) y f8 a8 c8 a9 c9) hm4;have L5 := L18.s7 y f8 a8 c8 a9 c9;have HV := Lib.hid (show IsV (S7 w4 w2.heap.size y f8 a8 c8 a9 c9) (Xs (fun b => k b ∨ b = w.heap.size + 1 + 1 + 1 ∨ b = w.heap.size + 1 + 1 + 1 + 1) A) y (vcells y f8 a8 c8 a9 c9) from (hV4.ext ((Ext.refl _ _ _).s7 (.inl (.inr ⟨Nat.le_refl _, by simpa using zW⟩)) y f8 a8 c8 a9 c9) (Nat.le_refl _)).other fun b hb => by
        rcases hb with (h | h | h) | ⟨a, h, rfl⟩
        ·exact .inl (.inl (HG.out.sub _ h))
        ·exact .inl (.inl (HG.out.mid _ (by omega) (by have := HM.out.r.lt; omega)))
        ·exact .inl (.inl (HG.out.mid _ (by omega) (by have := HM.out.o.lt; omega)))
        ·have := own_base HM.out.own a h; exact .inl (.inl (HG.out.mid _ (by omega) this.2)))
       obtain ⟨w5, hw5⟩ : ∃ w5, S7 w4 w2.heap.size y f8 a8 c8 a9 c9 = w5 := ⟨_, rfl⟩;rw [hw5] at hM5 L5 HV;have HM5 := Lib.hid hM5; have HR4 := Lib.hid hr4; have HMM := Lib.hid hm4; have HL5 := Lib.hid L5;unfold S7 at hw5;rw [hw5];have r5 := HL5.out.cell; have z5 := HL5.out.lt;have r3 := hM5.r.cell; have g3 := hM5.r.frozen; have x3 := hM5.r.lt;have x4 := hM5.o.lt;have x2 := hM5.f.size;have x1 : w.heap.size + 1 < w5.heap.size := (by omega);have x0 : w.heap.size < w5.heap.size := (by omega);unfold zcells at r3;unfold vcells at r5;clear hM5 L5 hw5 L18 r18 g18 z18 hE4 hW4 hm4 hV4 hr4 hsv4 hSW hbW n1 n4 n6 n7 n9;cases ok with
       |false =>
        go_wp21;refine bodyPost_ret (v := .tuple #[zero, .bool false]) (by simp [results, Try.results82, go_sem, r3, g3, x3]; try rfl) rfl ?_;exact Evd.end (x := {}) (ok := false) rfl HM5.out.f.ext HM5.out.work (fun ho => ⟨rfl, HM5.out.mono ho⟩) zk (by go_grown) (zeroV _ _) fun ho => by rw [HME.out (HMM.out ho).1, chosen_cons, HTR.out (HMM.out ho).1]; simp [HNM.out, HMP.out, HR4.out ho]
       |true =>
        have hob := own_base HM5.out.own;have r6 := HM5.out.o.cell; have g6 := HM5.out.o.frozen;have hne : ∀ b, b ≤ w.heap.size + 1 + 1 + 1 + 1 → some b ≠ A.map (·.block) := fun b hb he => by
         cases A with
         |none => cases he
         |some a => have := (hob a rfl).1; simp at he; omega
        unfold lcells at r6
        go_wp2_with ((at_builtin; refine wpList_append_o el36 rfl (.tmp 145) (.tmp 147) rfl (w.heap.size + 1 + 1 + 1 + 1 + 1) A n cap ocs (by rfl) (HM5.out.own.alloc _) _ 1 1 (vcells y f8 a8 c8 a9 c9) (by rfl) (by rfl) (Laid.of_lb (Lb.new' _ _ _ (by simp))) (ones_v _ _ _ _ _ _) (n + 1) rfl (by omega) (by simp; omega) ?_); intro A3 cap3 w3 hown3 hgr3 hat3; have qq := HM5.out.append zk HV.out (by go_grown) hown3 hgr3 hat3 (fun ho => by rw [drop_cons _ _ _ HOX.out, chosen_cons, HTR.out (HMM.out ho).1]; simp [HNM.out, HMP.out, HR4.out ho]); have HQQ := Lib.hid qq; clear qq; have l7 := (Lb.below HM5.out.o (w1 := w5.alloc _) (by go_grown) x4).grown hgr3 (hne _ (Nat.le_refl _)); have r7 := l7.cell; have z7 := l7.lt; have g7 := l7.frozen; unfold lcells at r7)
        go_roundg g
        case measure => omega
        case rel => exact ⟨q + 1, many + 1, by go_num, by go_num, by omega, A3, n + 1, cap3, _, ys ++ [y], left4, over4, HQQ.out⟩
   ·obtain rfl : gk = 0 := (by omega);obtain rfl : q = l.length := (by omega);have y0 : w.heap.size < wr.heap.size := hM.f.b0.lt;have y1 : w.heap.size + 1 < wr.heap.size := hM.f.b1.lt;have y3 := hM.r.lt;have y4 := hM.o.lt;have r3 := hM.r.cell; have g3 := hM.r.frozen;have n1 := hM.f.b1.cell 1; have n4 := hM.f.b1.cell 4;simp only [tcells, List.getElem?_cons_succ, List.getElem?_cons_zero] at n1 n4;have HME := Lib.hid (show ovr = false → chosen { name := tn.name, limited := tn.limited, limit := tn.limit, flag := tn.flag, map := oneOf (Ds tn.map) } (D t).val env (order tn.name (zipIdx l)) [] 0 = Ch.done { name := tn.name, limited := tn.limited, limit := tn.limit, flag := tn.flag, map := oneOf (Ds tn.map) } ys many from fun ho => (hM.mean ho).trans (by rw [List.drop_eq_nil_of_le (by rw [order_length]; exact Nat.le_refl _)]; rfl));have HN := Lib.hid (And.intro hM.nq hM.mq);have HM := Lib.hid hM
    clear hM;unfold zcells at r3;have r2 := HM.out.o.cell;unfold lcells at r2;go_wp21;refine bodyPost_ret (v := .tuple #[.agg #[.int .i64 5, .int .i64 0, .float .f64 0, .string ⟨#[]⟩, .bool false, .slice A n cap, .slice none 0 0], .bool true]) (by simp [results, Try.results82, go_sem, r3, g3, y3]; try rfl) rfl ?_;refine Evd.end (x := { kind := 5, items := ys }) (f := 0) (a := A) (c := cap) (a' := none) (c' := 0) (ok := true) (by rw [← HM.out.len]; rfl) HM.out.f.ext HM.out.work (fun ho => ⟨rfl, HM.out.mono ho⟩) zk (by go_grown) (isV_list HM.out.own HM.out.vs (by rw [HM.out.len]; unfold most; have := HN.out.1; omega) HP.out.lt (fun b h => .inl h) ?_ ?_ (by omega)) fun ho => ?_
    ·refine ((((((((Ext.refl _ _ _).setCell (.inl ?_) _).setCell (.inl ?_) _).setCell (.inl ?_) _).setCell (.inl ?_) _).setCell (.inl ?_) _).setCell (.inl ?_) _).setCell (.inl ?_) _)
     all_goals exact .inl (.inr (.inl rfl))
    ·refine ((((((((Ext.refl _ _ _).setCell (.inl ?_) _).setCell (.inl ?_) _).setCell (.inl ?_) _).setCell (.inl ?_) _).setCell (.inl ?_) _).setCell (.inl ?_) _).setCell (.inl ?_) _)
     all_goals (show w.heap.size + 1 + 1 + 1 < _; omega)
    ·rw [HME.out ho]; simp [Ch.done, HNM.out]
end
section
open Go.RowKit
def MapOk (tn : Tr) : Prop := tn.map = [] ∨ tn.name = nm "filter" ∧ ∃ t1, tn.map = [t1] ∧ EvalOk t1
theorem chosen_names (l : List Vl) (tn t : Tr) (hc : isChosen tn.name = true) (hm : MapOk tn) (hok : EvalOk t) (k : Nat → Prop) (wk : Nat) (env : Env) (m : Nat) (an : Option Addr) (cn : Nat) (ai : Option Addr) (ni ci : Nat) (left : Int) (a : Option Addr) (c : Nat) (cs : List Value)
 (f0 : Nat) (b1 : Option Addr) (d1 : Nat) (b2 : Option Addr) (d2 : Nat) (p0 q0 : Int) (f : Nat) (a1 : Option Addr) (c1 : Nat) (a2 : Option Addr) (c2 : Nat) (p p' : Int) (w : World)
 (hp : Pre k wk env m an cn ai ni ci left false w) (hroom : (m : Int) + 1 + left ≤ room) (hn : l.length ≤ most) (hr : Row w k a cs) (hs : IsVs w k l cs) (htn : IsT w k tn (tcells tn f0 b1 d1 b2 d2 p0 q0)) (ht : IsT w k t (tcells t f a1 c1 a2 c2 p p')) :
 Calls Try.prog 82 #[sa env.names.length wk an cn ai ni ci, ta tn f0 b1 d1 b2 d2 p0 q0, .slice a l.length c, ta t f a1 c1 a2 c2 p p'] w (Evd k wk left false (chosen { name := tn.name, limited := tn.limited, limit := tn.limit, flag := tn.flag, map := oneOf (Ds tn.map) } (D t).val env (order tn.name (zipIdx l)) [] 0) w) := by
 rcases hm with hm | ⟨hq, t1, hm, hok1⟩
 ·simp only [isChosen, List.mem_cons, List.not_mem_nil, or_false, decide_eq_true_eq] at hc;rcases hc with h | h | h | h | h | h | h | h | h | h
  ·exact chosen_fwd l tn t (.inr (.inr (.inl h))) hm hok k wk env m an cn ai ni ci left a c cs f0 b1 d1 b2 d2 p0 q0 f a1 c1 a2 c2 p p' w hp hroom hn hr hs htn ht
  ·exact chosen_fwd l tn t (.inr (.inr (.inr (.inr (.inr (.inr (.inr h))))))) hm hok k wk env m an cn ai ni ci left a c cs f0 b1 d1 b2 d2 p0 q0 f a1 c1 a2 c2 p p' w hp hroom hn hr hs htn ht
  ·exact chosen_fwd l tn t (.inl h) hm hok k wk env m an cn ai ni ci left a c cs f0 b1 d1 b2 d2 p0 q0 f a1 c1 a2 c2 p p' w hp hroom hn hr hs htn ht
  ·exact chosen_fwd l tn t (.inr (.inr (.inr (.inl h)))) hm hok k wk env m an cn ai ni ci left a c cs f0 b1 d1 b2 d2 p0 q0 f a1 c1 a2 c2 p p' w hp hroom hn hr hs htn ht
  ·exact chosen_fwd l tn t (.inr (.inr (.inr (.inr (.inl h))))) hm hok k wk env m an cn ai ni ci left a c cs f0 b1 d1 b2 d2 p0 q0 f a1 c1 a2 c2 p p' w hp hroom hn hr hs htn ht
  ·exact chosen_fwd l tn t (.inr (.inl h)) hm hok k wk env m an cn ai ni ci left a c cs f0 b1 d1 b2 d2 p0 q0 f a1 c1 a2 c2 p p' w hp hroom hn hr hs htn ht
  ·exact chosen_fwd l tn t (.inr (.inr (.inr (.inr (.inr (.inl h)))))) hm hok k wk env m an cn ai ni ci left a c cs f0 b1 d1 b2 d2 p0 q0 f a1 c1 a2 c2 p p' w hp hroom hn hr hs htn ht
  ·exact chosen_fwd l tn t (.inr (.inr (.inr (.inr (.inr (.inr (.inl h))))))) hm hok k wk env m an cn ai ni ci left a c cs f0 b1 d1 b2 d2 p0 q0 f a1 c1 a2 c2 p p' w hp hroom hn hr hs htn ht
  ·exact chosen_bwd l tn t (.inl h) hm hok k wk env m an cn ai ni ci left a c cs f0 b1 d1 b2 d2 p0 q0 f a1 c1 a2 c2 p p' w hp hroom hn hr hs htn ht
  ·exact chosen_bwd l tn t (.inr h) hm hok k wk env m an cn ai ni ci left a c cs f0 b1 d1 b2 d2 p0 q0 f a1 c1 a2 c2 p p' w hp hroom hn hr hs htn ht
 ·exact chosen_filterM l tn t hq t1 hm hok1 hok k wk env m an cn ai ni ci left a c cs f0 b1 d1 b2 d2 p0 q0 f a1 c1 a2 c2 p p' w hp hroom hn hr hs htn ht
end
section
open Go.RowKit
def Fnd (k : Nat → Prop) (r : Option Vl) (w : World) (e : Ending) (w' : World) : Prop :=
 ∃ x f a c a' c' ok, e = .returned (.tuple #[va x f a c a' c', .bool ok]) ∧ Below w.heap.size w w' ∧ IsV w' k x (vcells x f a c a' c') ∧ r = if ok then some x else none
theorem Found.fnd {k : Nat → Prop} {r : Option Vl} {w w' : World} {e : Ending} (h : Found k r w e w') : Fnd k r w e w' := by
 obtain ⟨v, f, a, c, a', c', ok, he, hb, h1, h2⟩ := h;cases ok with
 |true => obtain ⟨h3, h4⟩ := h1 rfl; exact ⟨v, f, a, c, a', c', true, he, hb, h3, h4⟩
 |false => obtain ⟨h3, h4⟩ := h2 rfl; exact ⟨v, f, a, c, a', c', false, he, hb, h3, h4⟩
theorem Gave.fnd {k : Nat → Prop} {x : Vl} {w w' : World} {e : Ending} (h : Gave k x true w e w') : Fnd k (some x) w e w' := by
 obtain ⟨f, a, c, a', c', he, hb, h1⟩ := h;exact ⟨x, f, a, c, a', c', true, he, hb, h1, rfl⟩
theorem Fnd.zero {k : Nat → Prop} {r : Option Vl} {w w' : World} {e : Ending} (he : e = .returned (.tuple #[zero, .bool false])) (hb : Below w.heap.size w w') (hr : r = none) : Fnd k r w e w' :=
 ⟨{}, 0, none, 0, none, 0, false, he, hb, zeroV _ _, hr⟩
set_option maxHeartbeats 800000 in
set_option maxRecDepth 100000 in
theorem element_none (k : Nat → Prop) (v u : Vl) (f : Nat) (a : Option Addr) (c : Nat) (a' : Option Addr) (c' : Nat) (f2 : Nat) (a2 : Option Addr) (c2 : Nat) (a2' : Option Addr) (c2' : Nat) (w : World) (h1 : (v.kind == 5) = false ∨ ((v.kind == 5) = true ∧ (v.kind == 6) = false ∧ (u.kind == 1) = false)) (h2 : (v.kind == 6) = false ∨ ((v.kind == 6) = true ∧ (u.kind == 3) = false)) :
 Calls Try.prog 77 #[va v f a c a' c', va u f2 a2 c2 a2' c2'] w (Fnd k none w) := by
 rcases h1 with b1 | ⟨b1, b0, b2⟩ <;> rcases h2 with b3 | ⟨b3, b4⟩
 all_goals first | (rw [b0] at b3; cases b3; done) | skip
 all_goals
  go_enter Try.func77, Try.ntmps77;go_wp2
  go_returns
  exact Fnd.zero rfl (by go_grown) rfl
theorem element_any (k : Nat → Prop) (v u : Vl) (f : Nat) (a : Option Addr) (c : Nat) (a' : Option Addr) (c' : Nat) (f2 : Nat) (a2 : Option Addr) (c2 : Nat) (a2' : Option Addr) (c2' : Nat) (w : World) (hV : IsV w k v (vcells v f a c a' c')) (hU : IsV w k u (vcells u f2 a2 c2 a2' c2')) :
 Calls Try.prog 77 #[va v f a c a' c', va u f2 a2 c2 a2' c2'] w (Fnd k (element v u) w) := by
 by_cases h5 : v.kind = 5 ∧ u.kind = 1
 ·exact (element_list k v u f a c a' c' f2 a2 c2 a2' c2' w hV hU.inv.2.2.1 h5 _ rfl _ rfl).mono fun _ _ h => h.fnd
 ·by_cases h6 : v.kind = 6 ∧ u.kind = 3
  ·have : element v u = some ((at_ v.keys v.items u.text).getD {}) := (by unfold element; rw [if_neg h5, if_pos h6]);rw [this];exact (element_map k v u f a c a' c' f2 a2 c2 a2' c2' w _ hV h6 rfl).mono fun _ _ h => h.fnd
  ·have : element v u = none := (by unfold element; rw [if_neg h5, if_neg h6]);rw [this];refine element_none k v u f a c a' c' f2 a2 c2 a2' c2' w ?_ ?_
   ·by_cases x : v.kind = 5
    ·right;refine ⟨eq_bool x, ne_of_bool (by omega), ne_of_bool fun y => h5 ⟨x, y⟩⟩
    ·exact .inl (ne_of_bool x)
   ·by_cases x : v.kind = 6
    ·exact .inr ⟨eq_bool x, ne_of_bool fun y => h6 ⟨x, y⟩⟩
    ·exact .inl (ne_of_bool x)
end
section
open Go.RowKit
theorem span_kind {v u : Vl} (h : v.kind ≠ 1 ∨ u.kind ≠ 1) : span v u = none := by unfold span; rw [if_pos h]
theorem span_rev {v u : Vl} (h1 : v.kind = 1) (h2 : u.kind = 1) (h3 : ¬ (v.int > far ∨ u.int < -far)) (h4 : v.int > u.int) : span v u = some { kind := 5 } := by
 unfold span; rw [if_neg (by omega), if_neg h3, if_pos h4]
theorem span_ok {v u : Vl} (h1 : v.kind = 1) (h2 : u.kind = 1) (h3 : ¬ (v.int > far ∨ u.int < -far)) (h4 : ¬ v.int > u.int) (h5 : ¬ (v.int < -far ∨ u.int > far ∨ u.int - v.int > 1000)) : span v u = some { kind := 5, items := ints v.int (u.int - v.int + 1).toNat } := by
 unfold span; rw [if_neg (by omega), if_neg h3, if_neg h4, if_neg h5]
theorem I64.five5 : I64 5 := ⟨by omega, by omega⟩
theorem work_over {w : World} {wk : Nat} {left : Int} {over : Bool} (h : Work w wk left over) : Work (w.setCell ⟨wk, 1, none⟩ (.bool true)) wk left true :=
 ⟨by rw [heap_set _ _ _ _ _ _ h.1]; rfl, h.2.1, fun h => by cases h⟩
set_option maxHeartbeats 1600000 in
set_option maxRecDepth 100000 in
theorem span_short (k : Nat → Prop) (wk : Nat) (left : Int) (over : Bool) (v u : Vl) (f : Nat) (a : Option Addr) (c : Nat) (a' : Option Addr) (c' : Nat) (f2 : Nat) (a2 : Option Addr) (c2 : Nat) (a2' : Option Addr) (c2' : Nat) (w : World)
 (hW : Work w wk left over) (hv : I64 v.int) (hu : I64 u.int) (h : v.kind ≠ 1 ∨ u.kind ≠ 1 ∨ (v.int > far ∨ u.int < -far) ∨ v.int > u.int ∨ v.int < -far ∨ u.int > far ∨ u.int - v.int > 1000) :
 Calls Try.prog 88 #[.pointer (some ⟨wk, 0, none⟩), va v f a c a' c', va u f2 a2 c2 a2' c2'] w (Evd k wk left over (span v u) w) := by
 have zk : wk < w.heap.size := hW.lt;have zk1 : wk < w.heap.size + 1 := by omega
 have zk2 : wk < w.heap.size + 1 + 1 := by omega
 have k1 : w.cell? ⟨wk, 1, none⟩ = some (.bool over) := by simp [World.cell?, hW.1]
 have f1 : w.frozen? ⟨wk, 1, none⟩ = false := by simp [World.frozen?, hW.1]
 have HW := Lib.hid hW;unfold I64 at hv hu
 by_cases h1 : v.kind = 1
 ·have b1 : (v.kind != 1) = false := by simpa using h1
  by_cases h2 : u.kind = 1
  ·have b2 : (u.kind != 1) = false := by simpa using h2
   by_cases h3 : v.int > far ∨ u.int < -far
   ·have HZ := Lib.hid h3;rcases (show 1099511627776 < v.int ∨ (v.int ≤ 1099511627776 ∧ u.int < -1099511627776) by unfold far at h3; omega) with x1 | ⟨x1, x2⟩
    all_goals
     clear hW h h1 h2 h3;go_enter Try.func88, Try.ntmps88
     go_wp2_with fail
     refine bodyPost_ret (v := .tuple #[zero, .bool false]) (by simp [results, Try.results88, go_sem]; try rfl) rfl ?_;refine ⟨{}, 0, none, 0, none, 0, false, left, true, rfl, ?_, ?_, fun h => (by cases h), zeroV _ _, fun h => (by cases h)⟩
     ·exact ((Ext.refl (· = wk) _ w).setCell (.inl rfl) _).trans (.of (by go_grown))
     ·exact (((work_over HW.out).alloc _).alloc _).alloc _
   ·by_cases h4 : v.int > u.int
    ·have E := Lib.hid (span_rev h1 h2 h3 h4);have x1 : v.int ≤ 1099511627776 := (by unfold far at h3; omega);have x2 : -1099511627776 ≤ u.int := (by unfold far at h3; omega);clear hW h h1 h2 h3;go_enter Try.func88, Try.ntmps88
     go_wp2_with fail
     refine bodyPost_ret (v := .tuple #[va { kind := 5 } 0 none 0 none 0, .bool true]) (by simp [results, Try.results88, go_sem]; try rfl) rfl ?_;exact Evd.end (x := { kind := 5 }) (ok := true) rfl (Ext.refl _ _ _) HW.out mono_refl zk (by go_grown) (IsV.flat _ _ _ _ cn_zero I64.five5 .zero (by simp) rfl rfl) fun ho => E.out
    ·have x1 : v.int ≤ 1099511627776 := (by unfold far at h3; omega);have x2 : -1099511627776 ≤ u.int := (by unfold far at h3; omega);rcases (show v.int < -1099511627776 ∨ (-1099511627776 ≤ v.int ∧ 1099511627776 < u.int) ∨ (-1099511627776 ≤ v.int ∧ u.int ≤ 1099511627776 ∧ 1000 < u.int - v.int) by unfold far at h h3; omega) with x3 | ⟨x3, x4⟩ | ⟨x3, x4, x5⟩
     all_goals
      clear hW h h1 h2 h3;go_enter Try.func88, Try.ntmps88
      go_wp2_with fail
      refine bodyPost_ret (v := .tuple #[zero, .bool false]) (by simp [results, Try.results88, go_sem]; try rfl) rfl ?_;refine ⟨{}, 0, none, 0, none, 0, false, left, true, rfl, ?_, ?_, fun h => (by cases h), zeroV _ _, fun h => (by cases h)⟩
      ·exact ((Ext.refl (· = wk) _ w).setCell (.inl rfl) _).trans (.of (by go_grown))
      ·exact (((work_over HW.out).alloc _).alloc _).alloc _
  ·have b2 : (u.kind != 1) = true := (by simpa using h2);have E := Lib.hid (span_kind (v := v) (.inr h2));clear h1 h2 h hW;go_enter Try.func88, Try.ntmps88
   go_wp2_with fail
   refine bodyPost_ret (v := .tuple #[zero, .bool false]) (by simp [results, Try.results88, go_sem]; try rfl) rfl ?_;exact Evd.end (x := {}) (ok := false) rfl (Ext.refl _ _ _) HW.out mono_refl zk (by go_grown) (zeroV _ _) fun ho => E.out
 ·have b1 : (v.kind != 1) = true := by simpa using h1
  have E := Lib.hid (span_kind (u := u) (.inl h1));clear h1 h hW;go_enter Try.func88, Try.ntmps88
  go_wp2_with fail
  refine bodyPost_ret (v := .tuple #[zero, .bool false]) (by simp [results, Try.results88, go_sem]; try rfl) rfl ?_;exact Evd.end (x := {}) (ok := false) rfl (Ext.refl _ _ _) HW.out mono_refl zk (by go_grown) (zeroV _ _) fun ho => E.out
end
end Go.Proofs.Ytafhhdimjkgihaa.Mn
