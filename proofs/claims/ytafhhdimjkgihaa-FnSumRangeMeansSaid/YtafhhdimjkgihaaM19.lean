/- What the program does, function by function, and what trees mean: part 19. -/
import Derived.Deep.Cut
import Derived.Test.YtafhhdimjkgihaaM18
import Derived.Test.YtafhhdimjkgihaaM07
set_option linter.unusedSimpArgs false
set_option linter.unusedVariables false
namespace Go.Proofs.Ytafhhdimjkgihaa.Mn
section
attribute [local go_sem ↓] Go.wp_at_zero Go.wp_at_succ
open Go.RowKit
theorem taken_step (t : Tr) (ih : ∀ x ∈ t.kids, TkOk x) (ihm : ∀ x ∈ t.map, TkOk x) : TkOk t := by
 intro v fp w k hk' hA;have key : t.kind = 8 ∨ listy t.kind = true ∨ ∃ n, ari t.kind = some n := by
  cases hA with
  |node t b f p q vs fs ha => exact .inr (.inr ⟨_, ha⟩)
  |const t b f p q a c vs rb ha => exact .inl ha
  |list t b f p q a c vs fs rb ms gs th ft ha => exact .inr (.inl ha)
 rcases key with h | h | ⟨n, h⟩
 ·exact taken_8 t h v fp w k hk' hA
 ·simp only [listy, Bool.or_eq_true, decide_eq_true_eq] at h;rcases h with ((h | h) | h) | h
  ·exact taken_15 t 100 ⟨h, rfl⟩ ih ihm v fp w k hk' hA
  ·exact taken_list t 111 (.inl ⟨h, rfl⟩) ih v fp w k hk' hA
  ·exact taken_list t 114 (.inr (.inl ⟨h, rfl⟩)) ih v fp w k hk' hA
  ·exact taken_list t 116 (.inr (.inr ⟨h, rfl⟩)) ih v fp w k hk' hA
 ·unfold ari at h
  split at h
  ·rename_i hk
   rcases hk with h | h | h | h | h | h | h <;> exact taken_leaf t (pty t.kind) (by simp [h, pty]) v fp w k hk' hA
  ·split at h
   ·rename_i hk
    rcases hk with h | h
    ·exact taken_9 t h ih v fp w k hk' hA
    ·exact taken_16 t h ih v fp w k hk' hA
   ·split at h
    ·rename_i hk
     rcases hk with h | h | h | h
     ·exact taken_10 t h ih v fp w k hk' hA
     ·exact taken_12 t h ih v fp w k hk' hA
     ·exact taken_19 t h ih v fp w k hk' hA
     ·exact taken_23 t h ih v fp w k hk' hA
    ·split at h
     ·rename_i hk
      exact taken_18 t hk ih v fp w k hk' hA
     ·cases h
mutual
theorem taken_ok : (t : Tr) → TkOk t
 |⟨a, b, c, d, e, f, g, h, ks, ms⟩ => taken_step _ (fun x hx => takens_ok ks x hx) (fun x hx => takens_ok ms x hx)
theorem takens_ok : (l : List Tr) → ∀ x ∈ l, TkOk x
 |[] => fun x h => by cases h
 |v :: l => fun x h => by
  rcases List.mem_cons.1 h with h | h
  ·rw [h]; exact taken_ok v
  ·exact takens_ok l x h
end
end
section
attribute [local go_sem ↓] Go.wp_at_zero Go.wp_at_succ
open Go.RowKit
@[go_sem] theorem run_neg_float (w : World) (f : Nat) : (Op.unary .neg (.float .f64 f)).run Try.prog w = .ok (.float .f64 (Op.negFloat .f64 f)) w := by
 simp [Op.unary]
theorem I64.four : I64 4 := ⟨by omega, by omega⟩
theorem I64.five : I64 5 := ⟨by omega, by omega⟩
theorem un_not {n : Nm} {v : Vl} (h : n = [33] ∨ n = [110, 111, 116]) (hk : (v.kind == 4) = true) : unary n v = some (yes (!v.bool)) := by
 unfold unary; rw [if_pos ⟨h, by simpa using hk⟩]
theorem un_neg {n : Nm} {v : Vl} (h : n = [45]) (hk : (v.kind == 1) = true) : unary n v = some { kind := 1, int := wrap (-v.int) } := by
 have hk' : v.kind = 1 := by simpa using hk
 unfold unary; rw [if_neg (by rintro ⟨_, h⟩; omega), if_pos ⟨h, hk'⟩]
theorem un_negf {n : Nm} {v : Vl} (h : n = [45]) (hk : (v.kind == 2) = true) : unary n v = some { kind := 2, flt := fneg v.flt } := by
 have hk' : v.kind = 2 := by simpa using hk
 unfold unary; rw [if_neg (by rintro ⟨_, h⟩; omega), if_neg (by rintro ⟨_, h⟩; omega), if_pos ⟨h, hk'⟩]
theorem un_plus {n : Nm} {v : Vl} (h : n = [43]) (hk : v.kind = 1 ∨ v.kind = 2) : unary n v = some v := by
 subst h;unfold unary; rw [if_neg (by rintro ⟨_, h⟩; omega), if_neg (by rintro ⟨h, _⟩; exact absurd h (by decide)), if_neg (by rintro ⟨h, _⟩; exact absurd h (by decide)), if_pos ⟨by decide, hk⟩]
theorem un_none1 {n : Nm} {v : Vl} (h : n = [33] ∨ n = [110, 111, 116]) (hk : (v.kind == 4) = false) : unary n v = none := by
 have hk' : ¬ v.kind = 4 := by simpa using hk
 have h1 : ¬ n = nm "-" := by rcases h with rfl | rfl <;> decide
 have h2 : ¬ n = nm "+" := by rcases h with rfl | rfl <;> decide
 unfold unary; rw [if_neg (fun h => hk' h.2), if_neg (fun h => h1 h.1), if_neg (fun h => h1 h.1), if_neg (fun h => h2 h.1)]
theorem un_none2 {n : Nm} {v : Vl} (h : n = [45]) (hk : (v.kind == 1) = false) (hk2 : (v.kind == 2) = false) : unary n v = none := by
 have hk' : ¬ v.kind = 1 := by simpa using hk
 have hk2' : ¬ v.kind = 2 := by simpa using hk2
 subst h;unfold unary; rw [if_neg (by rintro ⟨h, _⟩; revert h; decide), if_neg (fun h => hk' h.2), if_neg (fun h => hk2' h.2), if_neg (by rintro ⟨h, _⟩; exact absurd h (by decide))]
theorem un_none3 {n : Nm} {v : Vl} (h : n = [43]) (hk : (v.kind == 1) = false ∧ (v.kind == 2) = false) : unary n v = none := by
 have hk' : ¬ v.kind = 1 := by simpa using hk.1
 have hk2' : ¬ v.kind = 2 := by simpa using hk.2
 subst h;unfold unary; rw [if_neg (by rintro ⟨h, _⟩; revert h; decide), if_neg (fun h => hk' h.2), if_neg (fun h => hk2' h.2), if_neg (fun h => h.2.elim hk' hk2')]
theorem un_none4 {n : Nm} {v : Vl} (h1 : ¬ n = [33]) (h2 : ¬ n = [110, 111, 116]) (h3 : ¬ n = [45]) (h4 : ¬ n = [43]) : unary n v = none := by
 unfold unary; rw [if_neg (fun h => h.1.elim h1 h2), if_neg (fun h => h3 h.1), if_neg (fun h => h3 h.1), if_neg (fun h => h4 h.1)]
set_option maxHeartbeats 3200000 in
set_option maxRecDepth 100000 in
theorem unary_kids (t t1 : Tr) (hk : t.kids = [t1]) (hok1 : EvalOk t1) (k : Nat → Prop) (wk : Nat) (env : Env) (m : Nat) (an : Option Addr) (cn : Nat) (ai : Option Addr) (ni ci : Nat) (left : Int) (over : Bool) (f : Nat) (a : Option Addr) (c : Nat) (a' : Option Addr) (c' : Nat) (p q : Int) (w : World)
 (hp : Pre k wk env m an cn ai ni ci left over w) (ht : IsT w k t (tcells t f a c a' c' p q)) :
 Calls Try.prog 61 #[sa env.names.length wk an cn ai ni ci, ta t f a c a' c' p q] w (Evd k wk left over (((D t1).val env).bind (unary t.name)) w) := by
 obtain ⟨b, o, rfl⟩ := kids_some ht (by rw [hk]; exact Nat.zero_lt_succ _);obtain ⟨hkb, hbs, f1, a1, c1, b1, e1, p1, q1, hT1, h121⟩ := kid_in ht (j := 0) (t1 := t1) (by rw [hk]; rfl);rw [Nat.zero_mul, Nat.add_zero] at h121;have zk : wk < w.heap.size := hp.lt wk hp.kw;have hbk : ¬ b = wk := fun h => hkb (by rw [h]; exact hp.kw);have hkl : ((t.kids.length : Int) == 1) = true := by rw [hk]; rfl
 have hkl0 : 0 < t.kids.length := by rw [hk]; exact Nat.zero_lt_succ _
 have KEEP := Lib.hid (show ∀ w', St w wk [.slice an env.names.length cn, .slice ai ni ci, .pointer (some ⟨wk, 0, none⟩)] (tcells t f (some ⟨b, o, none⟩) c a' c' p q) zcells 62 25 39 left over w w' → St w wk [.slice an env.names.length cn, .slice ai ni ci, .pointer (some ⟨wk, 0, none⟩)] (tcells t f (some ⟨b, o, none⟩) c a' c' p q) zcells 62 25 39 left over w w' ∧ w'.cell? ⟨w.heap.size, 0, none⟩ = some (.slice an env.names.length cn) ∧ w'.cell? ⟨w.heap.size, 1, none⟩ = some (.slice ai ni ci) ∧ w'.cell? ⟨w.heap.size, 2, none⟩ = some (.pointer (some ⟨wk, 0, none⟩)) ∧ w'.cell? ⟨w.heap.size + 1, 8, none⟩ = some (.slice (some ⟨b, o, none⟩) t.kids.length c) ∧ w'.cell? ⟨b, o, none⟩ = some (.int .i64 t1.kind) ∧ w'.cell? ⟨b, o + 1, none⟩ = some (.string (str t1.name)) ∧ w'.cell? ⟨b, o + 2, none⟩ = some (.int .i64 t1.int) ∧ w'.cell? ⟨b, o + 3, none⟩ = some (.float .f64 f1) ∧ w'.cell? ⟨b, o + 4, none⟩ = some (.bool t1.flag) ∧ w'.cell? ⟨b, o + 5, none⟩ = some (.bool t1.method) ∧ w'.cell? ⟨b, o + 6, none⟩ = some (.bool t1.limited) ∧ w'.cell? ⟨b, o + 7, none⟩ = some (.int .i64 t1.limit) ∧ w'.cell? ⟨b, o + 8, none⟩ = some (.slice a1 t1.kids.length c1) ∧ w'.cell? ⟨b, o + 9, none⟩ = some (.slice b1 t1.map.length e1) ∧ w'.cell? ⟨b, o + 10, none⟩ = some (.int .i64 p1) ∧ w'.cell? ⟨b, o + 11, none⟩ = some (.int .i64 q1) from fun w' h => ⟨h, h.f.b0.cell 0, h.f.b0.cell 1, h.f.b0.cell 2, h.f.b1.cell 8, (h121.ext h.f.ext hbs hbk).c0, (h121.ext h.f.ext hbs hbk).c1, (h121.ext h.f.ext hbs hbk).c2, (h121.ext h.f.ext hbs hbk).c3, (h121.ext h.f.ext hbs hbk).c4, (h121.ext h.f.ext hbs hbk).c5, (h121.ext h.f.ext hbs hbk).c6, (h121.ext h.f.ext hbs hbk).c7, (h121.ext h.f.ext hbs hbk).c8, (h121.ext h.f.ext hbs hbk).c9, (h121.ext h.f.ext hbs hbk).c10, (h121.ext h.f.ext hbs hbk).c11⟩)
 have HM := Lib.hid (mono_refl (left := left) (over := over)); have HP := Lib.hid hp; have HK := Lib.hid hk;have HT1 := Lib.hid hT1; have HOK1 := Lib.hid hok1; have H121 := Lib.hid h121;clear hp ht hk hT1 hok1 h121;go_enter Try.func61, Try.ntmps61
 go_upto_region 3 with (first | (go_at_call 67; refine (kids_any _ _ _ _ _ _ _ _ _ _).mono ?_; rintro e w1 ⟨rfl, hb1⟩))
 refine forget (fun w' => St w wk [.slice an env.names.length cn, .slice ai ni ci, .pointer (some ⟨wk, 0, none⟩)] (tcells t f (some ⟨b, o, none⟩) c a' c' p q) zcells 62 25 39 left over w w') ?_ ?_
 ·exact ⟨.of (Below.trans (by go_grown) (hb1.mono (by first | omega | (simp; done) | (simp; omega)))), ⟨.of (Below.trans (by go_grown) (hb1.mono (by first | omega | (simp; done) | (simp; omega)))), (((Lb.new _ _ _).alloc _).alloc _).below hb1 (by first | omega | (simp; done) | (simp; omega)), ((Lb.new' _ _ _ (by simp)).alloc _).below hb1 (by first | omega | (simp; done) | (simp; omega)), (Lb.new' _ _ _ (by simp)).below hb1 (by first | omega | (simp; done) | (simp; omega))⟩, left, over, (((HP.out.work.alloc _).alloc _).alloc _).below hb1 (by first | omega | (simp; done) | (simp; omega)), fun h => ⟨h, Int.le_refl _⟩⟩
 clear hb1;intro W hW;have z0 : w.heap.size + 1 + 1 < W.heap.size := hW.f.size;have z1 : w.heap.size + 1 < W.heap.size := by omega
 have z2 : w.heap.size < W.heap.size := by omega
 have zp : w.heap.size ≤ W.heap.size := by omega
 go_cut [6, 7] from 8 (fun s6 s7 wx => ∃ b6 x f8 a8 c8 a9 c9 ok left2 over2, s6 = .pointer (some ⟨b6, 0, none⟩) ∧ s7 = .bool ok ∧ Got w wk [.slice an env.names.length cn, .slice ai ni ci, .pointer (some ⟨wk, 0, none⟩)] (tcells t f (some ⟨b, o, none⟩) c a' c' p q) zcells 62 25 39 k left over ((D t1).val env) b6 x f8 a8 c8 a9 c9 ok left2 over2 w wx)
 case first =>
  go_region_held3 (fun w' => St w wk [.slice an env.names.length cn, .slice ai ni ci, .pointer (some ⟨wk, 0, none⟩)] (tcells t f (some ⟨b, o, none⟩) c a' c' p q) zcells 62 25 39 left over w w' ∧ w'.cell? ⟨w.heap.size, 0, none⟩ = some (.slice an env.names.length cn) ∧ w'.cell? ⟨w.heap.size, 1, none⟩ = some (.slice ai ni ci) ∧ w'.cell? ⟨w.heap.size, 2, none⟩ = some (.pointer (some ⟨wk, 0, none⟩)) ∧ w'.cell? ⟨w.heap.size + 1, 8, none⟩ = some (.slice (some ⟨b, o, none⟩) t.kids.length c) ∧ w'.cell? ⟨b, o, none⟩ = some (.int .i64 t1.kind) ∧ w'.cell? ⟨b, o + 1, none⟩ = some (.string (str t1.name)) ∧ w'.cell? ⟨b, o + 2, none⟩ = some (.int .i64 t1.int) ∧ w'.cell? ⟨b, o + 3, none⟩ = some (.float .f64 f1) ∧ w'.cell? ⟨b, o + 4, none⟩ = some (.bool t1.flag) ∧ w'.cell? ⟨b, o + 5, none⟩ = some (.bool t1.method) ∧ w'.cell? ⟨b, o + 6, none⟩ = some (.bool t1.limited) ∧ w'.cell? ⟨b, o + 7, none⟩ = some (.int .i64 t1.limit) ∧ w'.cell? ⟨b, o + 8, none⟩ = some (.slice a1 t1.kids.length c1) ∧ w'.cell? ⟨b, o + 9, none⟩ = some (.slice b1 t1.map.length e1) ∧ w'.cell? ⟨b, o + 10, none⟩ = some (.int .i64 p1) ∧ w'.cell? ⟨b, o + 11, none⟩ = some (.int .i64 q1))
   (first | with_reducible exact KEEP.out _ (St.drew hW) | with_reducible exact KEEP.out _ hst | with_reducible exact KEEP.out _ (St.alloc hst _) | with_reducible exact KEEP.out _ (St.allocD (St.drew hW) _) | with_reducible exact KEEP.out _ (St.s7 hst zk z0 zp _ _ _ _ _ _))
   (first | (go_at_call 50; apply Calls.mono; (focus (with_reducible exact St.eval HP.out HM.out (And.left ‹St _ _ _ _ _ _ _ _ _ _ _ _ ∧ _›) HOK1.out HT1.out)); rintro e w2 ⟨x, f8, a8, c8, a9, c9, ok, left2, over2, rfl, hE, hW2, hm2, hV, hr2, hst⟩; (try (have L6 : Lb w2 W.heap.size _ 39 := Lb.ext (Lb.drew (Lb.new' _ _ _ (by simp))) hE (by simp) (by omega); have r6 := L6.cell; have g6 := L6.frozen; have z6 := L6.lt))))
  all_goals
   go_wp21;go_meet
   case rel =>
    first |(have qq := Got.there hst zk hW2 hm2 z0 zp (by simp) hV hr2 L6; exact ⟨_, x, f8, a8, c8, a9, c9, ok, left2, over2, rfl, rfl, qq⟩) |(have qq := Got.fresh hst hW2 hm2 (show _ < W.drew.heap.size from z0) hV hr2; exact ⟨_, x, f8, a8, c8, a9, c9, ok, left2, over2, rfl, rfl, qq⟩)
 case rest =>
  obtain ⟨b6, x, f8, a8, c8, a9, c9, ok, left2, over2, rfl, rfl, hG⟩ := hcut;have n0 := hG.f.b1.cell 0; have n1 := hG.f.b1.cell 1; have n5 := hG.f.b1.cell 5; have n8 := hG.f.b1.cell 8; have n9 := hG.f.b1.cell 9;have r2 := hG.f.b2.cell; have g2 := hG.f.b2.frozen;have r6 := hG.blk.cell; have y6 := hG.blk.lt;have y0 : w.heap.size + 1 + 1 < wc.heap.size := hG.f.size;have y1 : w.heap.size + 1 < wc.heap.size := by omega
  have G := Lib.hid hG;simp only [tcells, List.getElem?_cons_succ, List.getElem?_cons_zero] at n0 n1 n5 n8 n9;unfold zcells at r2;unfold vcells at r6;have h6 := hG.at6;clear hG hW;cases ok with
  |false =>
   go_wp21;refine bodyPost_ret (v := .tuple #[zero, .bool false]) (by simp [results, Try.results61, go_sem, r2, g2, y0]; try rfl) rfl ?_;have hG := G.out;exact Evd.end (x := {}) (ok := false) rfl hG.f.ext hG.work hG.mono zk (by go_grown) (zeroV _ _) fun ho => by rw [hG.mean ho]; rfl
  |true =>
   by_cases hn : t.name = [43]
   ·have m1 : (t.name == [33]) = false := (by rw [hn]; decide);have m2 : (t.name == [110, 111, 116]) = false := (by rw [hn]; decide);have m3 : (t.name == [45]) = false := (by rw [hn]; decide);have m4 : (t.name == [43]) = true := (by rw [hn]; decide);have HN := Lib.hid hn;clear hn;rcases Bool.eq_false_or_eq_true (x.kind == 1) with k1 | k1
    ·go_wp21
     ·refine bodyPost_ret (v := .tuple #[va x f8 a8 c8 a9 c9, .bool true]) (by simp [results, Try.results61, go_sem, r2, g2, y0]; try rfl) rfl ?_;have hG := G.out;exact Evd.end (x := x) (ok := true) rfl hG.f.ext hG.work hG.mono zk (by go_grown) ((hG.val.ext (((Ext.refl _ _ _).s7 (.inl (.inr rfl)) x f8 a8 c8 a9 c9)) (Nat.le_refl _)).other fun b hb => .inl (.inl hb)) fun ho => by rw [hG.mean ho]; exact un_plus HN.out (.inl (by simpa using k1))
    rcases Bool.eq_false_or_eq_true (x.kind == 2) with k2 | k2
    ·go_wp21
     ·refine bodyPost_ret (v := .tuple #[va x f8 a8 c8 a9 c9, .bool true]) (by simp [results, Try.results61, go_sem, r2, g2, y0]; try rfl) rfl ?_;have hG := G.out;exact Evd.end (x := x) (ok := true) rfl hG.f.ext hG.work hG.mono zk (by go_grown) ((hG.val.ext (((Ext.refl _ _ _).s7 (.inl (.inr rfl)) x f8 a8 c8 a9 c9)) (Nat.le_refl _)).other fun b hb => .inl (.inl hb)) fun ho => by rw [hG.mean ho]; exact un_plus HN.out (.inr (by simpa using k2))
    ·go_wp21
     ·refine bodyPost_ret (v := .tuple #[zero, .bool false]) (by simp [results, Try.results61, go_sem, r2, g2, y0]; try rfl) rfl ?_;have hG := G.out;exact Evd.end (x := {}) (ok := false) rfl hG.f.ext hG.work hG.mono zk (by go_grown) (zeroV _ _) fun ho => by rw [hG.mean ho]; exact un_none3 HN.out ⟨k1, k2⟩
   ·have m4 : (t.name == [43]) = false := (by simpa using hn);have HN := Lib.hid hn;clear hn;go_wp21
    ·refine bodyPost_ret (v := .tuple #[.agg #[.int .i64 4, .int .i64 0, .float .f64 0, .string ⟨#[]⟩, .bool (!x.bool), .slice none 0 0, .slice none 0 0], .bool true]) (by simp [results, Try.results61, go_sem, r2, g2, y0]; try rfl) rfl ?_;have hG := G.out;exact Evd.end (x := yes (!x.bool)) (ok := true) rfl hG.f.ext hG.work hG.mono zk (by go_grown) (IsV.flat _ _ _ _ cn_zero I64.four .zero (by simp [yes]) rfl rfl) fun ho => by rw [hG.mean ho]; exact un_not (by first | exact .inl ‹t.name = [33]› | exact .inr ‹t.name = [110, 111, 116]›) ‹_›
    ·refine bodyPost_ret (v := .tuple #[zero, .bool false]) (by simp [results, Try.results61, go_sem, r2, g2, y0]; try rfl) rfl ?_;have hG := G.out;exact Evd.end (x := {}) (ok := false) rfl hG.f.ext hG.work hG.mono zk (by go_grown) (zeroV _ _) fun ho => by rw [hG.mean ho]; exact un_none1 (by first | exact .inl ‹t.name = [33]› | exact .inr ‹t.name = [110, 111, 116]›) ‹_›
    ·refine bodyPost_ret (v := .tuple #[.agg #[.int .i64 4, .int .i64 0, .float .f64 0, .string ⟨#[]⟩, .bool (!x.bool), .slice none 0 0, .slice none 0 0], .bool true]) (by simp [results, Try.results61, go_sem, r2, g2, y0]; try rfl) rfl ?_;have hG := G.out;exact Evd.end (x := yes (!x.bool)) (ok := true) rfl hG.f.ext hG.work hG.mono zk (by go_grown) (IsV.flat _ _ _ _ cn_zero I64.four .zero (by simp [yes]) rfl rfl) fun ho => by rw [hG.mean ho]; exact un_not (by first | exact .inl ‹t.name = [33]› | exact .inr ‹t.name = [110, 111, 116]›) ‹_›
    ·refine bodyPost_ret (v := .tuple #[zero, .bool false]) (by simp [results, Try.results61, go_sem, r2, g2, y0]; try rfl) rfl ?_;have hG := G.out;exact Evd.end (x := {}) (ok := false) rfl hG.f.ext hG.work hG.mono zk (by go_grown) (zeroV _ _) fun ho => by rw [hG.mean ho]; exact un_none1 (by first | exact .inl ‹t.name = [33]› | exact .inr ‹t.name = [110, 111, 116]›) ‹_›
    ·refine bodyPost_ret (v := .tuple #[va { kind := 1, int := wrap64 (-x.int) } 0 none 0 none 0, .bool true]) (by simp [results, Try.results61, go_sem, r2, g2, y0]; try rfl) rfl ?_;have hG := G.out;exact Evd.end (x := { kind := 1, int := wrap64 (-x.int) }) (ok := true) rfl hG.f.ext hG.work hG.mono zk (by go_grown) (IsV.flat _ _ _ _ cn_zero .one (wrap_in _) (by simp) rfl rfl) fun ho => by rw [hG.mean ho]; exact un_neg ‹_› ‹_›
    ·refine bodyPost_ret (v := .tuple #[va { kind := 2, flt := fneg x.flt } (Op.negFloat .f64 f8) none 0 none 0, .bool true]) (by simp [results, Try.results61, go_sem, r2, g2, y0]; try rfl) rfl ?_;have hG := G.out;exact Evd.end (x := { kind := 2, flt := fneg x.flt }) (ok := true) rfl hG.f.ext hG.work hG.mono zk (by go_grown) (IsV.flat _ _ _ _ (by rw [neg_cn, hG.val.inv.1]) .two .zero (by simp) rfl rfl) fun ho => by rw [hG.mean ho]; exact un_negf ‹_› ‹(x.kind == 2) = true›
    ·refine bodyPost_ret (v := .tuple #[zero, .bool false]) (by simp [results, Try.results61, go_sem, r2, g2, y0]; try rfl) rfl ?_;have hG := G.out;exact Evd.end (x := {}) (ok := false) rfl hG.f.ext hG.work hG.mono zk (by go_grown) (zeroV _ _) fun ho => by rw [hG.mean ho]; exact un_none2 ‹_› ‹_› ‹_›
    ·refine bodyPost_ret (v := .tuple #[zero, .bool false]) (by simp [results, Try.results61, go_sem, r2, g2, y0]; try rfl) rfl ?_;have hG := G.out;exact Evd.end (x := {}) (ok := false) rfl hG.f.ext hG.work hG.mono zk (by go_grown) (zeroV _ _) fun ho => by rw [hG.mean ho]; exact un_none4 ‹_› ‹_› ‹_› HN.out
end
end Go.Proofs.Ytafhhdimjkgihaa.Mn
