/- What the program does, function by function, and what trees mean: part 25. -/
import Derived.Deep.CutRange
import Derived.Test.YtafhhdimjkgihaaM24
set_option linter.unusedSimpArgs false
set_option linter.unusedVariables false
namespace Go.Proofs.Ytafhhdimjkgihaa.Mn
attribute [local go_sem ↓] Go.wp_at_zero Go.wp_at_succ
open Go.RowKit
set_option maxHeartbeats 25600000 in
set_option maxRecDepth 100000 in
theorem chosen_fwd (l : List Vl) (tn t : Tr) (hq : tn.name = nm "all" ∨ tn.name = nm "one" ∨ tn.name = nm "filter" ∨ tn.name = nm "any" ∨ tn.name = nm "none" ∨ tn.name = nm "find" ∨ tn.name = nm "findIndex" ∨ tn.name = nm "count") (hmap : tn.map = []) (hok : EvalOk t) (k : Nat → Prop) (wk : Nat) (env : Env) (m : Nat) (an : Option Addr) (cn : Nat) (ai : Option Addr) (ni ci : Nat) (left : Int) (a : Option Addr) (c : Nat) (cs : List Value)
 (f0 : Nat) (b1 : Option Addr) (d1 : Nat) (b2 : Option Addr) (d2 : Nat) (p0 q0 : Int) (f : Nat) (a1 : Option Addr) (c1 : Nat) (a2 : Option Addr) (c2 : Nat) (p p' : Int) (w : World)
 (hp : Pre k wk env m an cn ai ni ci left false w) (hroom : (m : Int) + 1 + left ≤ room) (hn : l.length ≤ most) (hr : Row w k a cs) (hs : IsVs w k l cs) (htn : IsT w k tn (tcells tn f0 b1 d1 b2 d2 p0 q0)) (ht : IsT w k t (tcells t f a1 c1 a2 c2 p p')) :
 Calls Try.prog 82 #[sa env.names.length wk an cn ai ni ci, ta tn f0 b1 d1 b2 d2 p0 q0, .slice a l.length c, ta t f a1 c1 a2 c2 p p'] w (Evd k wk left false (chosen { name := tn.name, limited := tn.limited, limit := tn.limit, flag := tn.flag, map := oneOf (Ds tn.map) } (D t).val env (order tn.name (zipIdx l)) [] 0) w) := by
 have zk : wk < w.heap.size := hp.lt wk hp.kw;have hm1 : m + 1 ≤ 1073741824 := by have hl0 := hp.work.2.2 rfl; unfold room at hroom; omega
 have HRM := Lib.hid hroom; have HP := Lib.hid hp; have HT := Lib.hid ht; have HTN := Lib.hid htn; have HOK := Lib.hid hok; have HI := Lib.hid (And.intro hr hs);clear hp ht hok hr hs hroom htn;unfold most at hn;have hbk : backs tn.name = false := by rcases hq with hq | hq | hq | hq | hq | hq | hq | hq <;> (rw [hq]; decide)
 have HQD := Lib.hid hq;have nn4 : (tn.name == [102, 105, 110, 100, 76, 97, 115, 116]) = false := by rcases hq with hq | hq | hq | hq | hq | hq | hq | hq <;> (rw [hq]; decide)
 have nn6 : (tn.name == [102, 105, 110, 100, 76, 97, 115, 116, 73, 110, 100, 101, 120]) = false := by rcases hq with hq | hq | hq | hq | hq | hq | hq | hq <;> (rw [hq]; decide)
 have hm0 : ((tn.map.length : Int) == 1) = false := by rw [hmap]; rfl
 have HMP := Lib.hid (show oneOf (Ds tn.map) = none by rw [hmap]; rfl);clear hq hmap;go_enter Try.func82, Try.ntmps82
 go_upto_region 2 with (fail)
 refine forget (fun w' => Cr k wk env [.slice an env.names.length cn, .slice ai ni ci, .pointer (some ⟨wk, 0, none⟩)] (tcells tn f0 b1 d1 b2 d2 p0 q0) (tcells t f a1 c1 a2 c2 p p') { name := tn.name, limited := tn.limited, limit := tn.limit, flag := tn.flag, map := oneOf (Ds tn.map) } l (D t).val left w 0 none 0 0 [] [] 0 left false w') ?_ ?_
 ·refine ⟨⟨.of (by go_grown), ((((Lb.new _ _ _).alloc _).alloc _).alloc _).alloc _, (((Lb.new' _ _ _ (by simp)).alloc _).alloc _).alloc _, ((Lb.new' _ _ _ (by simp)).alloc _).alloc _⟩, (Lb.new' _ _ _ (by simp)).alloc _, Lb.new' _ _ _ (by simp), (((((HP.out.work.alloc _).alloc _).alloc _).alloc _).alloc _), fun _ => Int.le_refl _, World.ownsRow_nil _ _ _ _, .nil, rfl, Nat.le_refl _, Nat.le_refl _, fun _ => rfl⟩
 intro W hC
 go_cut [12] from 19 (fun s12 wx => s12 = .bool false ∧ wx = W)
 case first =>
  have n1 := hC.f.b1.cell 1;simp only [tcells, List.getElem?_cons_succ, List.getElem?_cons_zero] at n1;have z1 : w.heap.size + 1 < W.heap.size := hC.f.b1.lt;have HC := Lib.hid hC;clear hC;go_wp21;go_meet
  case rel => exact ⟨rfl, rfl⟩
 case rest =>
  obtain ⟨rfl, rfl⟩ := hcut;have HC := Lib.hid hC;clear hC
  go_wp2_with fail
  go_loopg [11, 30] l.length (fun g s11 s30 wr => ∃ q many : Nat, s11 = .int .i64 many ∧ s30 = .int .i64 q ∧ q + g = l.length ∧ ∃ A n cap ocs ys left' over', Cr k wk env [.slice an env.names.length cn, .slice ai ni ci, .pointer (some ⟨wk, 0, none⟩)] (tcells tn f0 b1 d1 b2 d2 p0 q0) (tcells t f a1 c1 a2 c2 p p') { name := tn.name, limited := tn.limited, limit := tn.limit, flag := tn.flag, map := oneOf (Ds tn.map) } l (D t).val left w q A n cap ocs ys many left' over' wr)
  case atStart => exact ⟨0, 0, rfl, rfl, by omega, none, 0, 0, [], [], left, false, HC.out⟩
  case round =>
   obtain ⟨q, many, rfl, rfl, hq, A, n, cap, ocs, ys, lr, ovr, hM⟩ := hrel;clear HC
   by_cases hlt : 0 < gk
   ·obtain ⟨g, rfl⟩ : ∃ g, gk = g + 1 := ⟨gk - 1, by omega⟩;have hql : q < l.length := (by omega);obtain ⟨x, hx, hox⟩ := order_get tn.name l q hql;obtain ⟨P, hP⟩ : ∃ P, place tn.name l q = P := ⟨_, rfl⟩;rw [hP] at hx hox;have hPl : P < l.length := (List.getElem?_eq_some_iff.1 hx).1;obtain ⟨b, o, rfl⟩ := HI.out.1.some_of (HI.out.2.ne hql);obtain ⟨hkb, hbs, f3, a3, c3, a4, c4, hX, h7⟩ := IsVs.cells HI.out.1 HI.out.2 hx;have HM := Lib.hid hM; have H7 := Lib.hid h7; have HX := Lib.hid hX; have HOX := Lib.hid hox; have HXP := Lib.hid hx;clear hM h7 hX hox hx;have hPq : q = P := (by rw [← hP, place, hbk]; rfl);clear hP
    go_upto_region 9 with (fail)
    subst hPq;have HE := Lib.hid (show Ext (· = wk) w.heap.size w wr from HM.out.f.ext);have HQ := Lib.hid (show I64 (q : Int) from ⟨by omega, by omega⟩);have hbk2 : ¬ b = wk := fun h => hkb (by rw [h]; exact HP.out.kw);have h7r := H7.out.ext HE.out hbs hbk2;have zkw : wk < wr.heap.size := (by have := HE.out.size; omega);have zb : b < wr.heap.size := (by have := HE.out.size; omega);have z0 : w.heap.size < wr.heap.size := HM.out.f.b0.lt;have hW : Sv wk lr ovr wr wr := ⟨Ext.refl _ _ _, lr, ovr, HM.out.work, mono_refl⟩;have KEEP := Lib.hid (show ∀ w', Sv wk lr ovr wr w' → Sv wk lr ovr wr w' ∧ w'.cell? ⟨w.heap.size, 0, none⟩ = some (.slice an env.names.length cn) ∧ w'.cell? ⟨w.heap.size, 1, none⟩ = some (.slice ai ni ci) ∧ w'.cell? ⟨w.heap.size, 2, none⟩ = some (.pointer (some ⟨wk, 0, none⟩)) ∧ w'.cell? ⟨b, o + q * 7, none⟩ = some (.int .i64 x.kind) ∧ w'.cell? ⟨b, o + q * 7 + 1, none⟩ = some (.int .i64 x.int) ∧ w'.cell? ⟨b, o + q * 7 + 2, none⟩ = some (.float .f64 f3) ∧ w'.cell? ⟨b, o + q * 7 + 3, none⟩ = some (.string (str x.text)) ∧ w'.cell? ⟨b, o + q * 7 + 4, none⟩ = some (.bool x.bool) ∧ w'.cell? ⟨b, o + q * 7 + 5, none⟩ = some (.slice a3 x.items.length c3) ∧ w'.cell? ⟨b, o + q * 7 + 6, none⟩ = some (.slice a4 x.keys.length c4) from fun w' h => ⟨h, h.cell z0 (by omega) (HM.out.f.b0.cell 0), h.cell z0 (by omega) (HM.out.f.b0.cell 1), h.cell z0 (by omega) (HM.out.f.b0.cell 2), h.cell zb hbk2 h7r.c0, h.cell zb hbk2 h7r.c1, h.cell zb hbk2 h7r.c2, h.cell zb hbk2 h7r.c3, h.cell zb hbk2 h7r.c4, h.cell zb hbk2 h7r.c5, h.cell zb hbk2 h7r.c6⟩)
    clear h7r;have hP0 : (0 : Int) ≤ (q : Int) := (by omega);have hP1 : (q : Int) < (l.length : Int) := by omega
    go_cut [15] from 31 to 150 (fun s15 wx => ∃ bh A1 cap1 K, s15 = .pointer (some ⟨bh, 0, none⟩) ∧ GotH w wk k lr ovr (here env x q) (m + 1) an env.names.length cn bh A1 (ni + 1) cap1 K wr wx)
    case first =>
     go_region_held3 (fun w' => Sv wk lr ovr wr w' ∧ w'.cell? ⟨w.heap.size, 0, none⟩ = some (.slice an env.names.length cn) ∧ w'.cell? ⟨w.heap.size, 1, none⟩ = some (.slice ai ni ci) ∧ w'.cell? ⟨w.heap.size, 2, none⟩ = some (.pointer (some ⟨wk, 0, none⟩)) ∧ w'.cell? ⟨b, o + q * 7, none⟩ = some (.int .i64 x.kind) ∧ w'.cell? ⟨b, o + q * 7 + 1, none⟩ = some (.int .i64 x.int) ∧ w'.cell? ⟨b, o + q * 7 + 2, none⟩ = some (.float .f64 f3) ∧ w'.cell? ⟨b, o + q * 7 + 3, none⟩ = some (.string (str x.text)) ∧ w'.cell? ⟨b, o + q * 7 + 4, none⟩ = some (.bool x.bool) ∧ w'.cell? ⟨b, o + q * 7 + 5, none⟩ = some (.slice a3 x.items.length c3) ∧ w'.cell? ⟨b, o + q * 7 + 6, none⟩ = some (.slice a4 x.keys.length c4))
      (first | with_reducible exact KEEP.out _ (Sv.drew hW) | with_reducible exact KEEP.out _ hsv1 | with_reducible exact KEEP.out _ (Sv.alloc hsv1 _) | with_reducible exact KEEP.out _ (Sv.allocD (Sv.drew hW) _) | with_reducible exact KEEP.out _ (Sv.s3 hsv1 zkw (Nat.le_refl _) _ _ _) | with_reducible exact KEEP.out _ (Sv.s3 (Sv.alloc hsv1 _) zkw hsv1.p.size _ _ _))
      (first
        |(go_at_call 90; apply Calls.mono; (focus (with_reducible exact within_sv HP.out HE.out (And.left ‹Sv _ _ _ _ _ ∧ _›) HX.out HQ.out hm1)); rintro e w1 ⟨A1, cap1, rfl, hb1, hsc, hsv1, hk1, hz1⟩; (try (have L5 : Lb w1 wr.heap.size _ 62 := Lb.below (Lb.drew (Lb.new' _ _ _ (by simp))) hb1 (by simp); have r5 := L5.cell; have g5 := L5.frozen; have z5 := L5.lt))))
     all_goals
      go_wp21;go_meet
      case rel =>
       first |exact ⟨_, A1, cap1, _, rfl, GotH.there hsv1 zkw hsc (fun b h => .inl h) (fun b h => h.imp id (·.1)) hk1 (fun b h1 h2 => .inr ⟨h1, by first | exact h2 | (simp; omega)⟩) (Nat.le_refl _) (.inr ⟨by omega, by simp⟩) L5⟩ |exact ⟨_, A1, cap1, _, rfl, GotH.fresh hsv1 hsc (fun b h => .inl h) (fun b h => h.imp id (·.1)) hk1 (fun b h1 h2 => .inr ⟨h1, by first | exact h2 | (simp; omega)⟩)⟩
    case rest =>
     obtain ⟨bh, A1, cap1, K, rfl, hG⟩ := hcut;obtain ⟨l1, ov1, hw1', hmm1⟩ := hG.sv.work;have hM := HM.out.ext HP.out.kw zk hG.sv.p hw1' hmm1;have y4 := hM.o.lt;have y3 := hM.r.lt;have y2 := hM.f.size;have y1 : w.heap.size + 1 < wc.heap.size := (by omega);have y0 : w.heap.size < wc.heap.size := (by omega);have yh := hG.blk.lt;have rh := hG.blk.cell;have rt := hM.f.b2.cell;have HR2 := Lib.hid (show ovr = false → ((m + 1 : Nat) : Int) + lr ≤ room from fun ho => by have h1 := HM.out.mono ho; have h2 := HRM.out; omega);have HG := Lib.hid hG; have HM3 := Lib.hid hM;clear hG hM KEEP hW hmm1 hw1';unfold tcells at rt
     go_wp2_with fail
     go_at_call 74;apply Calls.mono
     ·refine truth_sv HP.out HE.out HG.out.sv HR2.out HG.out.sub HG.out.back HG.out.lt HG.out.sc (Below.refl _ _) ?_ HOK.out HT.out;omega
     rintro e w2 ⟨is, ok, left2, over2, rfl, hE2, hW2, hm2, hr2, hsv2⟩;have M2 := HM.out.ext HP.out.kw zk hsv2.p hW2 hm2;have B2 := HG.out.blk.ext hE2 yh (by have := HG.out.ath; omega);have x4 := M2.o.lt;have x3 := M2.r.lt;have x2 := M2.f.size;have x1 : w.heap.size + 1 < w2.heap.size := (by omega);have x0 : w.heap.size < w2.heap.size := (by omega);have r3 := M2.r.cell; have g3 := M2.r.frozen;have n1 := M2.f.b1.cell 1; have n4 := M2.f.b1.cell 4; have n6 := M2.f.b1.cell 6; have n7 := M2.f.b1.cell 7; have n9 := M2.f.b1.cell 9;simp only [tcells, List.getElem?_cons_succ, List.getElem?_cons_zero] at n1 n4 n6 n7 n9;have HS := Lib.hid (HG.out.sc.ext (hE2.weak fun b hb => by rw [hb]; exact HG.out.sub _ HP.out.kw) (Nat.le_refl _));have HME := Lib.hid (show over2 = false → chosen { name := tn.name, limited := tn.limited, limit := tn.limit, flag := tn.flag, map := oneOf (Ds tn.map) } (D t).val env (order tn.name (zipIdx l)) [] 0 = chosen { name := tn.name, limited := tn.limited, limit := tn.limit, flag := tn.flag, map := oneOf (Ds tn.map) } (D t).val env ((x, (q : Int)) :: (order tn.name (zipIdx l)).drop (q + 1)) ys many from fun ho => (M2.mean ho).trans (by rw [drop_cons _ _ _ HOX.out]))
     have HTR := Lib.hid hr2;have HE3 := Lib.hid hE2; have HSV := Lib.hid hsv2;have HN := Lib.hid (And.intro M2.nq M2.mq);have HM2 := Lib.hid M2; have HB2 := Lib.hid B2;clear M2 B2 hE2 hW2 hm2 hr2 hsv2 rh rt y0 y1 y2 y3 y4 yh;unfold zcells at r3;cases ok with
     |false =>
      go_wp21;refine bodyPost_ret (v := .tuple #[zero, .bool false]) (by simp [results, Try.results82, go_sem, r3, g3, x3]; try rfl) rfl ?_;exact Evd.end (x := {}) (ok := false) rfl HM2.out.f.ext HM2.out.work (fun ho => ⟨rfl, HM2.out.mono ho⟩) zk (by go_grown) (zeroV _ _) fun ho => by rw [HME.out ho, chosen_cons, HTR.out ho]; rfl
     |true =>
      cases is with
      |false =>
       rcases HQD.out with hq | hq | hq | hq | hq | hq | hq | hq
       all_goals
        have HNM := Lib.hid (And.intro hq nmne)
        first |have nn0 : (tn.name == [97, 108, 108]) = true := by rw [hq]; decide |have nn0 : (tn.name == [97, 108, 108]) = false := by rw [hq]; decide
        first |have nn1 : (tn.name == [97, 110, 121]) = true := by rw [hq]; decide |have nn1 : (tn.name == [97, 110, 121]) = false := by rw [hq]; decide
        first |have nn2 : (tn.name == [110, 111, 110, 101]) = true := by rw [hq]; decide |have nn2 : (tn.name == [110, 111, 110, 101]) = false := by rw [hq]; decide
        first |have nn3 : (tn.name == [102, 105, 110, 100]) = true := by rw [hq]; decide |have nn3 : (tn.name == [102, 105, 110, 100]) = false := by rw [hq]; decide
        first |have nn5 : (tn.name == [102, 105, 110, 100, 73, 110, 100, 101, 120]) = true := by rw [hq]; decide |have nn5 : (tn.name == [102, 105, 110, 100, 73, 110, 100, 101, 120]) = false := by rw [hq]; decide
        first |have nn7 : (tn.name == [99, 111, 117, 110, 116]) = true := by rw [hq]; decide |have nn7 : (tn.name == [99, 111, 117, 110, 116]) = false := by rw [hq]; decide
        first |have nn8 : (tn.name == [111, 110, 101]) = true := by rw [hq]; decide |have nn8 : (tn.name == [111, 110, 101]) = false := by rw [hq]; decide
        first |have nn9 : (tn.name == [102, 105, 108, 116, 101, 114]) = true := by rw [hq]; decide |have nn9 : (tn.name == [102, 105, 108, 116, 101, 114]) = false := by rw [hq]; decide
        clear hq
       ·go_wp2_with fail
        go_at_call 75;refine (yes_v _ _).mono ?_;rintro e w5 ⟨rfl, hb5⟩;have hM5 := HM2.out.ext HP.out.kw zk (.of hb5) (HM2.out.work.below hb5 (by omega)) mono_refl;have HB := Lib.hid hM5;have r3 := hM5.r.cell; have g3 := hM5.r.frozen; have x5 := hM5.r.lt;unfold zcells at r3;clear hM5 hb5;go_wp21;refine bodyPost_ret (v := .tuple #[yv false, .bool true]) (by simp [results, Try.results82, go_sem, r3, g3, x5]; try rfl) rfl ?_;exact Evd.end (x := yes false) (ok := true) rfl HB.out.f.ext HB.out.work (fun ho => ⟨rfl, HB.out.mono ho⟩) zk (by go_grown) (yesV _ _ _) fun ho => by rw [HME.out ho, chosen_cons, HTR.out ho]; simp [HNM.out]
       all_goals
        go_wp2_with fail
        go_roundg g
        case measure => omega
        case rel => exact ⟨q + 1, many, rfl, by go_num, by omega, A, n, cap, ocs, ys, left2, over2, HM2.out.next fun ho => by rw [drop_cons _ _ _ HOX.out, chosen_cons, HTR.out ho]; simp [HNM.out]⟩
      |true =>
       rcases HQD.out with hq | hq | hq | hq | hq | hq | hq | hq
       all_goals
        have HNM := Lib.hid (And.intro hq nmne)
        first |have nn0 : (tn.name == [97, 108, 108]) = true := by rw [hq]; decide |have nn0 : (tn.name == [97, 108, 108]) = false := by rw [hq]; decide
        first |have nn1 : (tn.name == [97, 110, 121]) = true := by rw [hq]; decide |have nn1 : (tn.name == [97, 110, 121]) = false := by rw [hq]; decide
        first |have nn2 : (tn.name == [110, 111, 110, 101]) = true := by rw [hq]; decide |have nn2 : (tn.name == [110, 111, 110, 101]) = false := by rw [hq]; decide
        first |have nn3 : (tn.name == [102, 105, 110, 100]) = true := by rw [hq]; decide |have nn3 : (tn.name == [102, 105, 110, 100]) = false := by rw [hq]; decide
        first |have nn5 : (tn.name == [102, 105, 110, 100, 73, 110, 100, 101, 120]) = true := by rw [hq]; decide |have nn5 : (tn.name == [102, 105, 110, 100, 73, 110, 100, 101, 120]) = false := by rw [hq]; decide
        first |have nn7 : (tn.name == [99, 111, 117, 110, 116]) = true := by rw [hq]; decide |have nn7 : (tn.name == [99, 111, 117, 110, 116]) = false := by rw [hq]; decide
        first |have nn8 : (tn.name == [111, 110, 101]) = true := by rw [hq]; decide |have nn8 : (tn.name == [111, 110, 101]) = false := by rw [hq]; decide
        first |have nn9 : (tn.name == [102, 105, 108, 116, 101, 114]) = true := by rw [hq]; decide |have nn9 : (tn.name == [102, 105, 108, 116, 101, 114]) = false := by rw [hq]; decide
        clear hq
       iterate 3 focus
        have q7 := H7.out.ext HM2.out.f.ext hbs hbk2;have e0 := q7.c0; have e1 := q7.c1; have e2 := q7.c2; have e3 := q7.c3; have e4 := q7.c4; have e5 := q7.c5; have e6 := q7.c6;have zb2 : b < w2.heap.size := (by have := HM2.out.f.ext.size; omega);have hob := own_base HM2.out.own;have r6 := HM2.out.o.cell; have g6 := HM2.out.o.frozen;have HV := Lib.hid (show IsV w2 (Xs (fun b => k b ∨ b = w.heap.size + 1 + 1 + 1 ∨ b = w.heap.size + 1 + 1 + 1 + 1) A) x (vcells x f3 a3 c3 a4 c4) from (HX.out.other (fun b h => by
         rcases h with (h | h | h) | ⟨a, h, rfl⟩
         ·exact .inl h
         ·exact .inr (by omega)
         ·exact .inr (by omega)
         ·have := hob a h; exact .inr (by omega))).ext (HM2.out.f.ext.weak (fun b hb => by rw [hb]; exact .inl (.inl HP.out.kw))) (Nat.le_refl _))
        have hne : ∀ b, b ≤ w.heap.size + 1 + 1 + 1 + 1 → some b ≠ A.map (·.block) := fun b hb he => by
         cases A with
         |none => cases he
         |some a => have := (hob a rfl).1; simp at he; omega
        have hnq := HN.out.1; have hmq := HN.out.2;clear q7;unfold lcells at r6
        go_wp2_with ((at_builtin; refine wpList_append_o el36 rfl (.tmp 145) (.tmp 147) rfl (w.heap.size + 1 + 1 + 1 + 1 + 1) A n cap ocs (by rfl) ((HM2.out.own.alloc _).alloc _) _ 1 1 (vcells x f3 a3 c3 a4 c4) (by rfl) (by rfl) (Laid.of_lb (Lb.new' _ _ _ (by simp))) (ones_v _ _ _ _ _ _) (n + 1) rfl (by omega) (by simp; omega) ?_); intro A3 cap3 w3 hown3 hgr3 hat3; have qq := HM2.out.append zk HV.out (by go_grown) hown3 hgr3 hat3 (fun ho => by rw [drop_cons _ _ _ HOX.out, chosen_cons, HTR.out ho]; simp [HNM.out, HMP.out]); have HQQ := Lib.hid qq; clear qq; have l7 := (Lb.below HM2.out.o (w1 := (w2.alloc _).alloc _) (by go_grown) x4).grown hgr3 (hne _ (Nat.le_refl _)); have r7 := l7.cell; have z7 := l7.lt; have g7 := l7.frozen; unfold lcells at r7)
        go_roundg g
        case measure => omega
        case rel => exact ⟨q + 1, many + 1, by go_num, by go_num, by omega, A3, n + 1, cap3, _, ys ++ [x], left2, over2, HQQ.out⟩
       ·go_wp2_with fail
        go_at_call 75;refine (yes_v _ _).mono ?_;rintro e w5 ⟨rfl, hb5⟩;have hM5 := HM2.out.ext HP.out.kw zk (.of hb5) (HM2.out.work.below hb5 (by omega)) mono_refl;have HB := Lib.hid hM5;have r3 := hM5.r.cell; have g3 := hM5.r.frozen; have x5 := hM5.r.lt;unfold zcells at r3;clear hM5 hb5;go_wp21;refine bodyPost_ret (v := .tuple #[yv true, .bool true]) (by simp [results, Try.results82, go_sem, r3, g3, x5]; try rfl) rfl ?_;exact Evd.end (x := yes true) (ok := true) rfl HB.out.f.ext HB.out.work (fun ho => ⟨rfl, HB.out.mono ho⟩) zk (by go_grown) (yesV _ _ _) fun ho => by rw [HME.out ho, chosen_cons, HTR.out ho]; simp [HNM.out]
       ·go_wp2_with fail
        go_at_call 75;refine (yes_v _ _).mono ?_;rintro e w5 ⟨rfl, hb5⟩;have hM5 := HM2.out.ext HP.out.kw zk (.of hb5) (HM2.out.work.below hb5 (by omega)) mono_refl;have HB := Lib.hid hM5;have r3 := hM5.r.cell; have g3 := hM5.r.frozen; have x5 := hM5.r.lt;unfold zcells at r3;clear hM5 hb5;go_wp21;refine bodyPost_ret (v := .tuple #[yv false, .bool true]) (by simp [results, Try.results82, go_sem, r3, g3, x5]; try rfl) rfl ?_;exact Evd.end (x := yes false) (ok := true) rfl HB.out.f.ext HB.out.work (fun ho => ⟨rfl, HB.out.mono ho⟩) zk (by go_grown) (yesV _ _ _) fun ho => by rw [HME.out ho, chosen_cons, HTR.out ho]; simp [HNM.out]
       ·have q7 := H7.out.ext HM2.out.f.ext hbs hbk2;have e0 := q7.c0; have e1 := q7.c1; have e2 := q7.c2; have e3 := q7.c3; have e4 := q7.c4; have e5 := q7.c5; have e6 := q7.c6;have zb2 : b < w2.heap.size := (by have := HM2.out.f.ext.size; omega);have HVX := Lib.hid (show IsV w2 (Xr k (w.heap.size + 1 + 1 + 1)) x (vcells x f3 a3 c3 a4 c4) from (HX.out.other (fun b h => h.elim .inl (fun h => .inr (by omega)))).ext (HM2.out.f.ext.weak (fun b hb => by rw [hb]; exact .inl HP.out.kw)) (Nat.le_refl _));clear q7;go_wp21;refine bodyPost_ret (v := .tuple #[va x f3 a3 c3 a4 c4, .bool true]) (by simp [results, Try.results82, go_sem, r3, g3, x3]; try rfl) rfl ?_;exact Evd.end (x := x) (ok := true) rfl HM2.out.f.ext HM2.out.work (fun ho => ⟨rfl, HM2.out.mono ho⟩) zk (by go_grown) (IsV.stored HVX.out x f3 a3 c3 a4 c4) fun ho => by rw [HME.out ho, chosen_cons, HTR.out ho]; simp [HNM.out, HMP.out]
       ·go_wp21;refine bodyPost_ret (v := .tuple #[.agg #[.int .i64 1, .int .i64 (q : Int), .float .f64 0, .string ⟨#[]⟩, .bool false, .slice none 0 0, .slice none 0 0], .bool true]) (by simp [results, Try.results82, go_sem, r3, g3, x3]; try rfl) rfl ?_;exact Evd.end (x := { kind := 1, int := (q : Int) }) (f := 0) (a := none) (c := 0) (a' := none) (c' := 0) (ok := true) rfl HM2.out.f.ext HM2.out.work (fun ho => ⟨rfl, HM2.out.mono ho⟩) zk (by go_grown) (IsV.flat _ _ _ _ cn_zero .one (show I64 (q : Int) from ⟨by omega, by omega⟩) (by simp) rfl rfl) fun ho => by rw [HME.out ho, chosen_cons, HTR.out ho]; simp [HNM.out, HMP.out]
       ·have hwm : IntKind.i64.wrap ((many : Int) + 1) = (many : Int) + 1 := by rw [IntKind.wrap_i64]; have := HN.out.2; omega
        by_cases hcl : tn.limited = true ∧ tn.limit ≤ (many : Int) + 1
        ·have hlm := hcl.1; have hge := hcl.2;rw [hlm] at n6;have hmq := HN.out.2;have hge2 : decide (tn.limit ≤ (many : Int) + 1) = true := decide_eq_true hge;clear hcl;go_wp21;refine bodyPost_ret (v := .tuple #[.agg #[.int .i64 1, .int .i64 ((many : Int) + 1), .float .f64 0, .string ⟨#[]⟩, .bool false, .slice none 0 0, .slice none 0 0], .bool true]) (by simp [results, Try.results82, go_sem, r3, g3, x3]; try rfl) rfl ?_;exact Evd.end (x := { kind := 1, int := ((many : Int) + 1) }) (f := 0) (a := none) (c := 0) (a' := none) (c' := 0) (ok := true) rfl HM2.out.f.ext HM2.out.work (fun ho => ⟨rfl, HM2.out.mono ho⟩) zk (by go_grown) (IsV.flat _ _ _ _ cn_zero .one (show I64 ((many : Int) + 1) from ⟨by omega, by omega⟩) (by simp) rfl rfl) fun ho => by rw [HME.out ho, chosen_cons, HTR.out ho]; simp [HNM.out, HMP.out, hlm, hge]
        ·have HCL := Lib.hid (show (tn.limited = true ∧ tn.limit ≤ (many : Int) + 1) = False from eq_false hcl);have hlc : tn.limited = false ∨ tn.limited = true ∧ decide (tn.limit ≤ (many : Int) + 1) = false := by
          cases hlm : tn.limited with
          |false => exact .inl rfl
          |true => exact .inr ⟨rfl, decide_eq_false fun h => hcl ⟨hlm, h⟩⟩
         clear hcl;rcases hlc with hlm | ⟨hlm, hge2⟩
         all_goals
          rw [hlm] at n6;clear hlm;have q7 := H7.out.ext HM2.out.f.ext hbs hbk2;have e0 := q7.c0; have e1 := q7.c1; have e2 := q7.c2; have e3 := q7.c3; have e4 := q7.c4; have e5 := q7.c5; have e6 := q7.c6;have zb2 : b < w2.heap.size := (by have := HM2.out.f.ext.size; omega);have hob := own_base HM2.out.own;have r6 := HM2.out.o.cell; have g6 := HM2.out.o.frozen;have HV := Lib.hid (show IsV w2 (Xs (fun b => k b ∨ b = w.heap.size + 1 + 1 + 1 ∨ b = w.heap.size + 1 + 1 + 1 + 1) A) x (vcells x f3 a3 c3 a4 c4) from (HX.out.other (fun b h => by
           rcases h with (h | h | h) | ⟨a, h, rfl⟩
           ·exact .inl h
           ·exact .inr (by omega)
           ·exact .inr (by omega)
           ·have := hob a h; exact .inr (by omega))).ext (HM2.out.f.ext.weak (fun b hb => by rw [hb]; exact .inl (.inl HP.out.kw))) (Nat.le_refl _))
          have hne : ∀ b, b ≤ w.heap.size + 1 + 1 + 1 + 1 → some b ≠ A.map (·.block) := fun b hb he => by
           cases A with
           |none => cases he
           |some a => have := (hob a rfl).1; simp at he; omega
          have hnq := HN.out.1; have hmq := HN.out.2;clear q7;unfold lcells at r6
          go_wp2_with ((at_builtin; refine wpList_append_o el36 rfl (.tmp 145) (.tmp 147) rfl (w.heap.size + 1 + 1 + 1 + 1 + 1) A n cap ocs (by rfl) ((HM2.out.own.alloc _).alloc _) _ 1 1 (vcells x f3 a3 c3 a4 c4) (by rfl) (by rfl) (Laid.of_lb (Lb.new' _ _ _ (by simp))) (ones_v _ _ _ _ _ _) (n + 1) rfl (by omega) (by simp; omega) ?_); intro A3 cap3 w3 hown3 hgr3 hat3; have qq := HM2.out.append zk HV.out (by go_grown) hown3 hgr3 hat3 (fun ho => by rw [drop_cons _ _ _ HOX.out, chosen_cons, HTR.out ho]; simp [HNM.out, HMP.out, HCL.out]); have HQQ := Lib.hid qq; clear qq; have l7 := (Lb.below HM2.out.o (w1 := (w2.alloc _).alloc _) (by go_grown) x4).grown hgr3 (hne _ (Nat.le_refl _)); have r7 := l7.cell; have z7 := l7.lt; have g7 := l7.frozen; unfold lcells at r7)
          go_roundg g
          case measure => omega
          case rel => exact ⟨q + 1, many + 1, by go_num, by go_num, by omega, A3, n + 1, cap3, _, ys ++ [x], left2, over2, HQQ.out⟩
   ·obtain rfl : gk = 0 := (by omega);obtain rfl : q = l.length := (by omega);have y0 : w.heap.size < wr.heap.size := hM.f.b0.lt;have y1 : w.heap.size + 1 < wr.heap.size := hM.f.b1.lt;have y3 := hM.r.lt;have y4 := hM.o.lt;have r3 := hM.r.cell; have g3 := hM.r.frozen;have n1 := hM.f.b1.cell 1; have n4 := hM.f.b1.cell 4;simp only [tcells, List.getElem?_cons_succ, List.getElem?_cons_zero] at n1 n4;have HME := Lib.hid (show ovr = false → chosen { name := tn.name, limited := tn.limited, limit := tn.limit, flag := tn.flag, map := oneOf (Ds tn.map) } (D t).val env (order tn.name (zipIdx l)) [] 0 = Ch.done { name := tn.name, limited := tn.limited, limit := tn.limit, flag := tn.flag, map := oneOf (Ds tn.map) } ys many from fun ho => (hM.mean ho).trans (by rw [List.drop_eq_nil_of_le (by rw [order_length]; exact Nat.le_refl _)]; rfl));have HN := Lib.hid (And.intro hM.nq hM.mq);have HM := Lib.hid hM
    clear hM;unfold zcells at r3;rcases HQD.out with hq | hq | hq | hq | hq | hq | hq | hq
    all_goals
     have HNM := Lib.hid (And.intro hq nmne)
     first |have nn0 : (tn.name == [97, 108, 108]) = true := by rw [hq]; decide |have nn0 : (tn.name == [97, 108, 108]) = false := by rw [hq]; decide
     first |have nn1 : (tn.name == [97, 110, 121]) = true := by rw [hq]; decide |have nn1 : (tn.name == [97, 110, 121]) = false := by rw [hq]; decide
     first |have nn2 : (tn.name == [110, 111, 110, 101]) = true := by rw [hq]; decide |have nn2 : (tn.name == [110, 111, 110, 101]) = false := by rw [hq]; decide
     first |have nn3 : (tn.name == [102, 105, 110, 100]) = true := by rw [hq]; decide |have nn3 : (tn.name == [102, 105, 110, 100]) = false := by rw [hq]; decide
     first |have nn5 : (tn.name == [102, 105, 110, 100, 73, 110, 100, 101, 120]) = true := by rw [hq]; decide |have nn5 : (tn.name == [102, 105, 110, 100, 73, 110, 100, 101, 120]) = false := by rw [hq]; decide
     first |have nn7 : (tn.name == [99, 111, 117, 110, 116]) = true := by rw [hq]; decide |have nn7 : (tn.name == [99, 111, 117, 110, 116]) = false := by rw [hq]; decide
     first |have nn8 : (tn.name == [111, 110, 101]) = true := by rw [hq]; decide |have nn8 : (tn.name == [111, 110, 101]) = false := by rw [hq]; decide
     first |have nn9 : (tn.name == [102, 105, 108, 116, 101, 114]) = true := by rw [hq]; decide |have nn9 : (tn.name == [102, 105, 108, 116, 101, 114]) = false := by rw [hq]; decide
     clear hq
    ·go_wp2_with fail
     go_at_call 75;refine (yes_v _ _).mono ?_;rintro e w5 ⟨rfl, hb5⟩;have hM5 := HM.out.ext HP.out.kw zk (.of hb5) (HM.out.work.below hb5 (by omega)) mono_refl;have HB := Lib.hid hM5;have r3 := hM5.r.cell; have g3 := hM5.r.frozen; have x5 := hM5.r.lt;unfold zcells at r3;clear hM5 hb5;go_wp21;refine bodyPost_ret (v := .tuple #[yv true, .bool true]) (by simp [results, Try.results82, go_sem, r3, g3, x5]; try rfl) rfl ?_;exact Evd.end (x := yes true) (ok := true) rfl HB.out.f.ext HB.out.work (fun ho => ⟨rfl, HB.out.mono ho⟩) zk (by go_grown) (yesV _ _ _) fun ho => by rw [HME.out ho]; simp [Ch.done, HNM.out]
    ·have hone : ((many : Int) == 1) = decide ((many : Int) = 1) := rfl
     go_wp2_with fail
     go_at_call 75;refine (yes_v _ _).mono ?_;rintro e w5 ⟨rfl, hb5⟩;have hM5 := HM.out.ext HP.out.kw zk (.of hb5) (HM.out.work.below hb5 (by omega)) mono_refl;have HB := Lib.hid hM5;have r3 := hM5.r.cell; have g3 := hM5.r.frozen; have x5 := hM5.r.lt;unfold zcells at r3;clear hM5 hb5;go_wp21;refine bodyPost_ret (v := .tuple #[yv (decide ((many : Int) = 1)), .bool true]) (by simp [results, Try.results82, go_sem, r3, g3, x5]; try rfl) rfl ?_;exact Evd.end (x := yes (decide ((many : Int) = 1))) (ok := true) rfl HB.out.f.ext HB.out.work (fun ho => ⟨rfl, HB.out.mono ho⟩) zk (by go_grown) (yesV _ _ _) fun ho => by rw [HME.out ho]; simp [Ch.done, HNM.out]
    ·have r2 := HM.out.o.cell;unfold lcells at r2;go_wp21;refine bodyPost_ret (v := .tuple #[.agg #[.int .i64 5, .int .i64 0, .float .f64 0, .string ⟨#[]⟩, .bool false, .slice A n cap, .slice none 0 0], .bool true]) (by simp [results, Try.results82, go_sem, r3, g3, y3]; try rfl) rfl ?_;refine Evd.end (x := { kind := 5, items := ys }) (f := 0) (a := A) (c := cap) (a' := none) (c' := 0) (ok := true) (by rw [← HM.out.len]; rfl) HM.out.f.ext HM.out.work (fun ho => ⟨rfl, HM.out.mono ho⟩) zk (by go_grown) (isV_list HM.out.own HM.out.vs (by rw [HM.out.len]; unfold most; have := HN.out.1; omega) HP.out.lt (fun b h => .inl h) ?_ ?_ (by omega)) fun ho => ?_
     ·refine ((((((((Ext.refl _ _ _).setCell (.inl ?_) _).setCell (.inl ?_) _).setCell (.inl ?_) _).setCell (.inl ?_) _).setCell (.inl ?_) _).setCell (.inl ?_) _).setCell (.inl ?_) _)
      all_goals exact .inl (.inr (.inl rfl))
     ·refine ((((((((Ext.refl _ _ _).setCell (.inl ?_) _).setCell (.inl ?_) _).setCell (.inl ?_) _).setCell (.inl ?_) _).setCell (.inl ?_) _).setCell (.inl ?_) _).setCell (.inl ?_) _)
      all_goals (show w.heap.size + 1 + 1 + 1 < _; omega)
     ·rw [HME.out ho]; simp [Ch.done, HNM.out]
    ·go_wp2_with fail
     go_at_call 75;refine (yes_v _ _).mono ?_;rintro e w5 ⟨rfl, hb5⟩;have hM5 := HM.out.ext HP.out.kw zk (.of hb5) (HM.out.work.below hb5 (by omega)) mono_refl;have HB := Lib.hid hM5;have r3 := hM5.r.cell; have g3 := hM5.r.frozen; have x5 := hM5.r.lt;unfold zcells at r3;clear hM5 hb5;go_wp21;refine bodyPost_ret (v := .tuple #[yv false, .bool true]) (by simp [results, Try.results82, go_sem, r3, g3, x5]; try rfl) rfl ?_;exact Evd.end (x := yes false) (ok := true) rfl HB.out.f.ext HB.out.work (fun ho => ⟨rfl, HB.out.mono ho⟩) zk (by go_grown) (yesV _ _ _) fun ho => by rw [HME.out ho]; simp [Ch.done, HNM.out]
    ·go_wp2_with fail
     go_at_call 75;refine (yes_v _ _).mono ?_;rintro e w5 ⟨rfl, hb5⟩;have hM5 := HM.out.ext HP.out.kw zk (.of hb5) (HM.out.work.below hb5 (by omega)) mono_refl;have HB := Lib.hid hM5;have r3 := hM5.r.cell; have g3 := hM5.r.frozen; have x5 := hM5.r.lt;unfold zcells at r3;clear hM5 hb5;go_wp21;refine bodyPost_ret (v := .tuple #[yv true, .bool true]) (by simp [results, Try.results82, go_sem, r3, g3, x5]; try rfl) rfl ?_;exact Evd.end (x := yes true) (ok := true) rfl HB.out.f.ext HB.out.work (fun ho => ⟨rfl, HB.out.mono ho⟩) zk (by go_grown) (yesV _ _ _) fun ho => by rw [HME.out ho]; simp [Ch.done, HNM.out]
    ·cases hfl : tn.flag with
     |false =>
      rw [hfl] at n4;go_wp21;go_region
      all_goals
       go_wp21;refine bodyPost_ret (v := .tuple #[zero, .bool true]) (by simp [results, Try.results82, go_sem, r3, g3, y3]; try rfl) rfl ?_;exact Evd.end (x := {}) (ok := true) rfl HM.out.f.ext HM.out.work (fun ho => ⟨rfl, HM.out.mono ho⟩) zk (by go_grown) (zeroV _ _) fun ho => by rw [HME.out ho]; simp [Ch.done, HNM.out, hfl]
     |true =>
      rw [hfl] at n4;go_wp21;go_region
      all_goals
       go_wp21;refine bodyPost_ret (v := .tuple #[zero, .bool false]) (by simp [results, Try.results82, go_sem, r3, g3, y3]; try rfl) rfl ?_;exact Evd.end (x := {}) (ok := false) rfl HM.out.f.ext HM.out.work (fun ho => ⟨rfl, HM.out.mono ho⟩) zk (by go_grown) (zeroV _ _) fun ho => by rw [HME.out ho]; simp [Ch.done, HNM.out, hfl]
    ·cases hfl : tn.flag with
     |false =>
      rw [hfl] at n4;go_wp21;go_region
      all_goals
       go_wp21;refine bodyPost_ret (v := .tuple #[zero, .bool false]) (by simp [results, Try.results82, go_sem, r3, g3, y3]; try rfl) rfl ?_;exact Evd.end (x := {}) (ok := false) rfl HM.out.f.ext HM.out.work (fun ho => ⟨rfl, HM.out.mono ho⟩) zk (by go_grown) (zeroV _ _) fun ho => by rw [HME.out ho]; simp [Ch.done, HNM.out, hfl]
     |true =>
      rw [hfl] at n4;go_wp21;go_region
      all_goals
       go_wp21;refine bodyPost_ret (v := .tuple #[zero, .bool false]) (by simp [results, Try.results82, go_sem, r3, g3, y3]; try rfl) rfl ?_;exact Evd.end (x := {}) (ok := false) rfl HM.out.f.ext HM.out.work (fun ho => ⟨rfl, HM.out.mono ho⟩) zk (by go_grown) (zeroV _ _) fun ho => by rw [HME.out ho]; simp [Ch.done, HNM.out, hfl]
    ·go_wp21;refine bodyPost_ret (v := .tuple #[.agg #[.int .i64 1, .int .i64 many, .float .f64 0, .string ⟨#[]⟩, .bool false, .slice none 0 0, .slice none 0 0], .bool true]) (by simp [results, Try.results82, go_sem, r3, g3, y3]; try rfl) rfl ?_;exact Evd.end (x := { kind := 1, int := many }) (f := 0) (a := none) (c := 0) (a' := none) (c' := 0) (ok := true) rfl HM.out.f.ext HM.out.work (fun ho => ⟨rfl, HM.out.mono ho⟩) zk (by go_grown) (IsV.flat _ _ _ _ cn_zero .one (show I64 (many : Int) from ⟨by have := HN.out.2; omega, by have := HN.out.2; omega⟩) (by simp) rfl rfl) fun ho => by rw [HME.out ho]; simp [Ch.done, HNM.out]
end Go.Proofs.Ytafhhdimjkgihaa.Mn
