/- FilterMap: what belongs to this law alone: part 3. -/
import Derived.Test.YtafhhdimjkgihaaM40
import Derived.Test.YtafhhdimjkgihaaM42
import Derived.Test.YtafhhdimjkgihaaKFilterMap2
set_option linter.unusedSimpArgs false
set_option linter.unusedVariables false
namespace Go.Proofs.Ytafhhdimjkgihaa.Mn
attribute [local go_sem ↓] Go.wp_at_zero Go.wp_at_succ
open Go.RowKit
set_option maxHeartbeats 1600000 in
set_option maxRecDepth 100000 in
theorem zz_filterMap (t : Tr) : ZzOk 41 stFilterMap2 t := by
 intro v fp pb po cs Tp w hP;have HP := Lib.hid hP;clear hP;go_enter Try.func41, Try.ntmps41
 go_wp2_with fail
 apply Calls.mono
 ·exact walk_tree (door_filterMap w.heap.size) (visit_filterMap w.heap.size) (fun k hk => ⟨by unfold stFilterMap2; rw [if_neg (by omega)], rfl⟩) (fun _ => True) (fun _ _ _ _ => trivial) (fun _ _ => trivial) t trivial _ _ _ _ _ _ _ false (HP.out.below (by go_grown)) trivial
 rintro e1 w1 h1;obtain ⟨x1, rfl⟩ := h1.1;have H1 := Lib.hid h1;clear h1;go_wp21;refine bodyPost_end (v := .tuple #[]) (by first | rfl | (simp [results, Try.results41, go_sem]; try rfl)) rfl ?_;have g := Wd.after (w := w) (turn_below (by go_grown)) (fun b hb => .inl hb) H1.out;exact ⟨⟨_, rfl⟩, g.2⟩
set_option maxHeartbeats 3200000 in
set_option maxRecDepth 100000 in
theorem impl_filterMap (t : Tr) (hz : ZzOk 41 stFilterMap2 (nrm t)) : ImplOk 22 stFilterMap2 t := by
 intro hW k f a c a' c' p q w hk ht;have HW := Lib.hid hW; have HK := Lib.hid hk; have HT := Lib.hid ht; have HZ := Lib.hid hz;clear hW hk ht hz;go_enter Try.func22, Try.ntmps22
 go_wp2_with fail
 apply Calls.mono
 ·exact made_ok t HW.out k f a c a' c' p q _ (HT.out.ext (.of (by go_grown)) (Nat.le_refl _))
 rintro e1 w1 ⟨ty, pv, fp, rfl, hb1, hi1, hn1, hg1⟩;have HB1 := Lib.hid (show Below w.heap.size w w1 from Below.trans (by go_grown) (hb1.mono (by simp; omega)));have HR1 := Lib.hid ((Lb.new' (w.alloc (.cells (tcells t f a c a' c' p q).toArray 25)) ztcells 25 (n := w.heap.size + 1) (by simp)).below hb1 (by simp));have hg2 : ∀ y ∈ fp, w.heap.size + 1 < y := fun y hy => by have := hg1 y hy; simp at this; omega
 have HG := Lib.hid hg2; have HI1 := Lib.hid hi1; have HN1 := Lib.hid hn1;have zr := HR1.out.lt;clear hb1 hi1 hn1 hg1 hg2
 go_wp2_with fail
 apply Calls.mono
 ·exact HZ.out (.iface ty pv) fp w1.heap.size 0 [.iface ty pv] 45 _ ⟨Lb.new' _ _ _ rfl, rfl, HI1.out.same fun y hy => heap_alloc_old w1 _ (HI1.out.lt y hy), HN1.out, fun h => by have := HI1.out.lt _ h; omega, fun b hb => hb.elim⟩
 rintro e2 w2 ⟨⟨x2, rfl⟩, v2, fp2, hT2, hL2, hi2, hn2, hf2, -⟩;have hR2 : Lb w2 (w.heap.size + 1) ztcells 25 := (hT2.block _ (by simp; omega) (by omega) (fun h => by have := HG.out _ h; omega) id).trans (HR1.out.alloc _);have HB2 := Lib.hid (show Below w.heap.size w w2 from (HB1.out.alloc HB1.out.size (.cells #[.iface ty pv] 45)).trans ⟨hT2.os, hT2.tape, hT2.output, hT2.size, fun b hb => hT2.block b (by have := HB1.out.size; simp; omega) (by have := HB1.out.size; omega) (fun h => by have := HG.out _ h; omega) id⟩);obtain ⟨ty2, pv2, rfl⟩ := hi2.iface;have HR2 := Lib.hid hR2; have HI2 := Lib.hid hi2;simp only [List.set_cons_zero] at hL2;have l0 := hL2.cell; have lz := hL2.lt;clear hT2 hL2 hi2 hR2
 go_wp2_with fail
 apply Calls.mono
 ·refine taken_ok _ _ fp2 _ (fun b => k b ∨ b = w.heap.size + 1) ?_ HI2.out;rintro b (hb | rfl)
  ·exact Nat.lt_of_lt_of_le (HK.out b hb) HB2.out.size
  ·exact HR2.out.lt
 rintro e3 w3 ⟨f3, a3, c3, a4, c4, p3, q3, rfl, hb3, hT3⟩;have hR3 := HR2.out.below hb3 HR2.out.lt;have c0 := hR3.cell; have c1 := hR3.frozen; have zc := hR3.lt;unfold ztcells at c0;have HB3 := Lib.hid (HB2.out.trans (hb3.mono HB2.out.size)); have HT3 := Lib.hid hT3;clear hb3 hT3 hR3 l0 lz;go_wp21;refine bodyPost_ret (v := ta (T stFilterMap2 (nrm t)) f3 a3 c3 a4 c4 p3 q3) (by simp [results, Try.results22, go_sem, c0, c1, zc]; try rfl) rfl ?_;refine ⟨f3, a3, c3, a4, c4, p3, q3, rfl, ?_, ?_⟩
 ·have hE := (Ext.refl (fun _ => False) w.heap.size w3).s12 (b := w.heap.size + 1) (.inr (by omega)) 0 (.int .i64 (T stFilterMap2 (nrm t)).kind) (.string (str (T stFilterMap2 (nrm t)).name)) (.int .i64 (T stFilterMap2 (nrm t)).int) (.float .f64 f3) (.bool (T stFilterMap2 (nrm t)).flag) (.bool (T stFilterMap2 (nrm t)).method) (.bool (T stFilterMap2 (nrm t)).limited) (.int .i64 (T stFilterMap2 (nrm t)).limit) (.slice a3 (T stFilterMap2 (nrm t)).kids.length c3) (.slice a4 (T stFilterMap2 (nrm t)).map.length c4) (.int .i64 p3) (.int .i64 q3);exact HB3.out.trans ⟨hE.os, hE.tape, hE.output, hE.size, fun b hb => hE.block b hb id⟩
 ·exact (HT3.out.ext ((Ext.refl (fun b => k b ∨ b = w.heap.size + 1) _ _).s12 (.inl (.inr rfl)) 0 _ _ _ _ _ _ _ _ _ _ _ _) (Nat.le_refl _)).other fun b hb => .inl (.inl hb)
set_option maxHeartbeats 6400000 in
set_option maxRecDepth 100000 in
theorem law_filterMap (t : Tr) (st : Tr → Tr) (hi : ImplOk 22 st t) (names : List (Nm × Vl)) (hq : WholeT t → Asks false t (T st (nrm t)) names ∧ fine t ∧ fine (T st (nrm t))) (k : Nat → Prop) (an : Option Addr) (cn : Nat) (ncs : List Value) (f : Nat) (a : Option Addr) (c : Nat) (a' : Option Addr) (c' : Nat) (p q : Int) (w : World)
 (hk : ∀ b, k b → b < w.heap.size) (hr : Row w k an ncs) (hs : IsRn w k names ncs) (ht : IsT w k t (tcells t f a c a' c' p q)) :
 Calls Try.prog 8 #[ta t f a c a' c' p q, .slice an names.length cn] w (Yes w) := by
 have HI := Lib.hid hi; have HQ := Lib.hid hq; have HK := Lib.hid hk; have HR := Lib.hid hr; have HS := Lib.hid hs; have HT := Lib.hid ht;clear hi hq hk hr hs ht
 by_cases hn : (2147483647 : Int) < (names.length : Int)
 ·have d1 : decide ((2147483647 : Int) < (names.length : Int)) = true := decide_eq_true hn;go_enter Try.func8, Try.ntmps8
  go_wp2_with fail
  apply Calls.mono
  ·exact fits_any t f a c a' c' p q _
  rintro e1 w1 ⟨b1, rfl, hb1⟩;have HB1 := Lib.hid (show Below w.heap.size w w1 from Below.trans (by go_grown) (hb1.mono (by simp)));clear hb1;cases b1 <;> (go_wp2_with fail; go_ret; exact ⟨rfl, HB1.out⟩)
 have d1 : decide ((2147483647 : Int) < (names.length : Int)) = false := decide_eq_false hn;have hnm : names.length ≤ most := by unfold most; omega
 have HNM := Lib.hid hnm;clear hn hnm;go_enter Try.func8, Try.ntmps8
 go_wp2_with fail
 apply Calls.mono
 ·exact fits_any t f a c a' c' p q _
 rintro e1 w1 ⟨b1, rfl, hb1⟩;have HB1 := Lib.hid (show Below w.heap.size w w1 from Below.trans (by go_grown) (hb1.mono (by simp)));have L1 := (Lb.new' w (tcells t f a c a' c' p q) 25 rfl).below hb1 (by simp);have HL1 := Lib.hid L1;clear hb1 L1;cases b1 with
 |false =>
  go_wp2_with fail
  go_ret;exact ⟨rfl, HB1.out⟩
 |true =>
 go_wp2_with fail
 refine AnyL.start (S := fun w' => Lb w' w.heap.size (tcells t f a c a' c' p q) 25) (late := fun j => [].contains j) (by kernel_rfl) ?_;have hs0 := HL1.out.drew; have hB0 := HB1.out.drew;refine AnyL.tk [] [] 0 ?_ rfl (by kernel_rfl) (by rfl) ?_ hs0 ?_;rotate_left
 ·intro w' hw';have r0 := (show Lb _ _ _ _ from hw').cell; have z0 := (show Lb _ _ _ _ from hw').lt;unfold tcells at r0;go_simp
  try (with_reducible rfl)
 try simp only [Act.put, sb0, sb1, sb2]
 refine AnyL.one 1 (by kernel_rfl) rfl fun K hK => ?_;go_simp;apply Calls.mono
 ·exact Whole_any t k f a c a' c' p q _ (fun b hb => Nat.lt_of_lt_of_le (HK.out b hb) hB0.size) (HT.out.ext (.of hB0) (Nat.le_refl _))
 rintro e2 w2 ⟨b2, rfl, hb2, hw2⟩;have hs2 := hs0.below hb2 hs0.lt; have hB2 := hB0.trans (hb2.mono hB0.size)
 (try go_wp2_with fail)
 refine hK.out _ _ (fun _ => hs2) ?_;clear hK K
 try simp only [Act.put, sb0, sb1, sb2]
 cases b2 with
 |false =>
  clear hw2;refine AnyL.tk [] [] 2 ?_ rfl (by kernel_rfl) (by rfl) ?_ hs2 (AnyL.tk [] [] 3 ?_ rfl (by kernel_rfl) (by rfl) ?_ hs2 ?_)
  iterate 2
   rotate_left
   ·intro w' hw'; (try simp only [Act.put, sb0, sb1, sb2]);have r0 := (show Lb _ _ _ _ from hw').cell; have z0 := (show Lb _ _ _ _ from hw').lt;unfold tcells at r0;go_simp
    try (with_reducible rfl)
  try simp only [Act.put, sb0, sb1, sb2]
  refine AnyL.tk0 [] [] 4 rfl (by kernel_rfl) (by rfl) hs2 ?_
  try simp only [Act.put, sb0, sb1, sb2]
  refine AnyL.tk0 [] [] 5 rfl (by kernel_rfl) (by rfl) hs2 ?_
  try simp only [Act.put, sb0, sb1, sb2]
  refine AnyL.tk0 [] [] 8 rfl (by kernel_rfl) (by rfl) hs2 ?_
  try simp only [Act.put, sb0, sb1, sb2]
  refine AnyL.one 6 (by kernel_rfl) rfl fun K hK => ?_;go_simp;refine hK.out _ _ (fun _ => hs2) ?_;clear hK K
  try simp only [Act.put, sb0, sb1, sb2]
  refine AnyL.one 7 (by kernel_rfl) rfl fun K hK => ?_;go_simp;refine hK.out _ _ (fun _ => hs2) ?_;clear hK K
  try simp only [Act.put, sb0, sb1, sb2]
  refine AnyL.one 9 (by kernel_rfl) rfl fun K hK => ?_;go_simp;refine hK.out _ _ (fun _ => hs2) ?_;clear hK K
  try simp only [Act.put, sb0, sb1, sb2]
  refine AnyL.one 10 (by kernel_rfl) rfl fun K hK => ?_;go_simp;refine hK.out _ _ (fun _ => hs2) ?_;clear hK K
  try simp only [Act.put, sb0, sb1, sb2]
  refine AnyL.one 11 (by kernel_rfl) rfl fun K hK => ?_;go_simp;refine hK.out _ _ (fun _ => hs2) ?_;clear hK K
  try simp only [Act.put, sb0, sb1, sb2]
  refine AnyL.done (by kernel_rfl) ?_ _;clear hs0 hB0 hs2;have HB2 := Lib.hid hB2;clear hB2 hb2;go_wp21;go_ret;exact ⟨rfl, HB2.out⟩
 |true =>
  have hWt := hw2 rfl;have HWt := Lib.hid hWt;clear hw2 hWt;refine AnyL.tk [] [] 2 ?_ rfl (by kernel_rfl) (by rfl) ?_ hs2 (AnyL.tk [] [] 3 ?_ rfl (by kernel_rfl) (by rfl) ?_ hs2 ?_)
  iterate 2
   rotate_left
   ·intro w' hw'; (try simp only [Act.put, sb0, sb1, sb2]);have r0 := (show Lb _ _ _ _ from hw').cell; have z0 := (show Lb _ _ _ _ from hw').lt;unfold tcells at r0;go_simp
    try (with_reducible rfl)
  try simp only [Act.put, sb0, sb1, sb2]
  refine AnyL.tk [] [] 4 ?_ rfl (by kernel_rfl) (by rfl) ?_ hs2 (AnyL.tk [] [] 5 ?_ rfl (by kernel_rfl) (by rfl) ?_ hs2 (AnyL.tk [] [] 8 ?_ rfl (by kernel_rfl) (by rfl) ?_ hs2 ?_))
  iterate 3
   rotate_left
   ·intro w' hw'; (try simp only [Act.put, sb0, sb1, sb2]);have r0 := (show Lb _ _ _ _ from hw').cell; have z0 := (show Lb _ _ _ _ from hw').lt;unfold tcells at r0
    (go_simp)
    try (with_reducible rfl)
  try simp only [Act.put, sb0, sb1, sb2]
  refine AnyL.one 6 (by kernel_rfl) rfl fun K hK => ?_;go_simp;apply Calls.mono
  ·exact copy_ok t HWt.out k f a c a' c' p q _ (fun b hb => Nat.lt_of_lt_of_le (HK.out b hb) hB2.size) (HT.out.ext (.of hB2) (Nat.le_refl _))
  rintro e3 w3 ⟨f3, a3, c3, a3', c3', p3, q3, rfl, hb3, hT3⟩;have hs3 := hs2.below hb3 hs2.lt; have hB3 := hB2.trans (hb3.mono hB2.size)
  (try go_wp2_with fail)
  refine hK.out _ _ (fun _ => hs3) ?_;clear hK K
  try simp only [Act.put, sb0, sb1, sb2]
  refine AnyL.one 7 (by kernel_rfl) rfl fun K hK => ?_;go_simp;apply Calls.mono
  ·exact HI.out HWt.out k f3 a3 c3 a3' c3' p3 q3 _ (fun b hb => Nat.lt_of_lt_of_le (HK.out b hb) hB3.size) hT3
  rintro e4 w4 ⟨f4, a4, c4, a4', c4', p4, q4, rfl, hb4, hT4⟩;have hs4 := hs3.below hb4 hs3.lt; have hB4 := hB3.trans (hb4.mono hB3.size)
  (try go_wp2_with fail)
  refine hK.out _ _ (fun _ => hs4) ?_;clear hK K
  try simp only [Act.put, sb0, sb1, sb2]
  refine AnyL.one 9 (by kernel_rfl) rfl fun K hK => ?_;go_simp;apply Calls.mono
  ·exact means_any t (T st (nrm t)) (HQ.out HWt.out).2.1 (HQ.out HWt.out).2.2 k names an cn ncs _ _ _ _ _ _ _ _ _ _ _ _ _ _ _ HNM.out (fun b hb => Nat.lt_of_lt_of_le (HK.out b hb) hB4.size) (HR.out.ext (.of hB4) (Nat.le_refl _)) (HS.out.ext (.of hB4) (Nat.le_refl _)) (HT.out.ext (.of hB4) (Nat.le_refl _)) hT4 (HQ.out HWt.out).1
  rintro e5 w5 ⟨rfl, hb5⟩;have hs5 := hs4.below hb5 hs4.lt; have hB5 := hB4.trans (hb5.mono hB4.size)
  (try go_wp2_with fail)
  refine hK.out _ _ (fun _ => hs5) ?_;clear hK K
  try simp only [Act.put, sb0, sb1, sb2]
  refine AnyL.one 10 (by kernel_rfl) rfl fun K hK => ?_;go_simp;refine hK.out _ _ (fun _ => hs5) ?_;clear hK K
  try simp only [Act.put, sb0, sb1, sb2]
  refine AnyL.one 11 (by kernel_rfl) rfl fun K hK => ?_;go_simp;refine hK.out _ _ (fun _ => hs5) ?_;clear hK K
  try simp only [Act.put, sb0, sb1, sb2]
  refine AnyL.done (by kernel_rfl) ?_ _;have HB5 := Lib.hid hB5;clear hs0 hB0 hs2 hs3 hs4 hs5 hB2 hB3 hB4 hB5 hb2 hb3 hb4 hb5 hT3 hT4;go_wp21;go_ret;exact ⟨rfl, HB5.out⟩
theorem fine_mkM {f q : Tr} (h : fines f.kids) (hq : fine q) : fine (mkM f q) := by
 rw [fine_eq];refine ⟨.inr ⟨rfl, q, rfl⟩, h, ?_⟩;show fines [q];rw [fines, fines]; exact ⟨hq, trivial⟩
theorem asks_filterMap (names : List (Nm × Vl)) (t : Tr) (hW : WholeT t) : Asks false t (T stFilterMap2 (nrm t)) names ∧ fine t ∧ fine (T stFilterMap2 (nrm t)) := by
 refine asks_of (fun t h => ?_) (fun t h => ?_) names t hW
 ·unfold stFilterMap2
  split
  ·split
   ·rename_i f p hk
    split
    ·split
     ·rename_i q hq
      exact fine_mkM (fine_kids (fine_kid h (x := f) (by rw [hk]; simp))) (fine_kid (fine_kid h (x := p) (by rw [hk]; simp)) (by rw [hq]; simp))
     ·exact h
    ·exact h
   ·exact h
  ·exact h
 ·rw [T_eq]; exact filterMap2_ok _
end Go.Proofs.Ytafhhdimjkgihaa.Mn
