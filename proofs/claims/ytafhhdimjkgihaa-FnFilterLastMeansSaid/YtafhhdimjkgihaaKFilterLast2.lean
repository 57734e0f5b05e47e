/- FilterLast: what belongs to this law alone: part 2. -/
import Derived.Test.YtafhhdimjkgihaaKFilterLast1
import Derived.Test.YtafhhdimjkgihaaM42
import Derived.Test.YtafhhdimjkgihaaM09
import Derived.Test.YtafhhdimjkgihaaM40
set_option linter.unusedSimpArgs false
set_option linter.unusedVariables false
namespace Go.Proofs.Ytafhhdimjkgihaa.Mn
section
attribute [local go_sem ↓] Go.wp_at_zero Go.wp_at_succ
open Go.RowKit
theorem door_filterLast (b : Nat) : Door 126 (.pointer (some ⟨b, 0, none⟩)) 129 := ⟨fun n w => by kernel_rfl, fun args w => by kernel_rfl⟩
set_option maxHeartbeats 12800000 in
set_option maxRecDepth 100000 in
theorem visit_filterLast (rb0 : Nat) : VisOk 129 (.pointer (some ⟨rb0, 0, none⟩)) stFilterLast (fun _ => false) (fun _ => False) (fun _ _ => True) Bare := by
 intro t hPt v fp pb po cs Tp w s hP _;have r0 : w.cell? ⟨pb, po, none⟩ = some v := by rw [hP.lb.cell]; exact hP.get
 have g0 := hP.lb.frozen; have z0 := hP.lb.lt;have HP := Lib.hid hP
 by_cases hk : t.kind = 12
 ·obtain ⟨b, f, p, q, vs, fs, rfl, hx, hb, hks, hl, rfl⟩ := hP.tree.fields (n := 2) (by rw [hk]; rfl);obtain ⟨c, i, hkx⟩ : ∃ c i, t.kids = [c, i] := by
   match hq : t.kids, hl with
   |[y, z], _ => exact ⟨y, z, rfl⟩
  rw [hkx] at hks;obtain ⟨vc, fc, vi, fi, rfl, rfl, hic, hii⟩ : ∃ vc fc vi fi, vs = [vc, vi] ∧ fs = [fc, fi] ∧ IsA w c vc fc ∧ IsA w i vi fi := by
   cases hks with | cons h hl => cases hl with | cons h2 hl => cases hl; exact ⟨_, _, _, _, rfl, rfl, h, h2⟩
  rw [show acells t f p q [vc, vi] .nilIface (.pointer none) = [.int .i64 p, .int .i64 q, vc, vi, .bool t.flag, .bool t.method] by simp [acells, headC, tailC, named, hk], show sty t.kind = 93 by rw [hk]; rfl] at hb;rw [show nv t.kind b = .iface 91 (.pointer (some ⟨b, 0, none⟩)) by rw [hk]; rfl] at r0 HP hP;have n0 := hb.cell; have zn := hb.lt;clear hl hx;cases hfl : t.flag with
  |true =>
   obtain ⟨bc, rfl⟩ := hic.ptr;obtain ⟨bi, rfl⟩ := hii.ptr;rw [hfl] at n0;have HS := Lib.hid (show stFilterLast t = t from by unfold stFilterLast stEnd; (repeat' split) <;> simp_all (decide := true) [nm]);clear hP hb hks hic hii;go_enter Try.func129, Try.ntmps129
   go_wp2_with fail
   refine bodyPost_end (v := .tuple #[]) (by first | rfl | (simp [results, Try.results129, go_sem]; try rfl)) rfl ?_;rw [HS.out];exact Wd.same HP.out (Below.refl _ _) trivial _
  |false =>
   rw [hfl] at n0
   by_cases hik : i.kind = 3
   ·obtain ⟨bi, f3, pi, qi, vsi, fsi, rfl, hxi, hbi, hksi, hli, rfl⟩ := hii.fields (n := 0) (by rw [hik]; rfl);obtain rfl : vsi = [] := List.eq_nil_of_length_eq_zero (by rw [hksi.len.1, hli]);rw [show acells i f3 pi qi [] .nilIface (.pointer none) = [.int .i64 pi, .int .i64 qi, .int .i64 i.int] by simp [acells, headC, tailC, named, hik], show sty i.kind = 149 by rw [hik]; rfl] at hbi;rw [show nv i.kind bi = .iface 147 (.pointer (some ⟨bi, 0, none⟩)) by rw [hik]; rfl] at n0 hb hii;have l0 := hbi.cell; have zl := hbi.lt;clear hli hxi
    by_cases hiv : i.int = (-1)
    ·have d1 : (i.int == (-1)) = true := by simpa using hiv
     by_cases hck : c.kind = 15
     ·obtain ⟨bc, ffc, pc, qc, ac, cc, vsc, fsc, rbc, msc, gsc, thc, ftc, rfl, hxc, hbc, hrc, hksc, h1c, hmc, htc, rfl⟩ := hic.b15 hck;have m0 := hbc.cell; have zm := hbc.lt
      by_cases hcn : (c.name == [102, 105, 108, 116, 101, 114]) = true
      ·by_cases hcl : c.kids.length = 2
       ·have hcm : c.map = [] := (hPt.kids c (by rw [hkx]; simp)).map;obtain rfl : msc = [] := (by rw [hcm] at hmc; cases hmc; rfl);have HX := Lib.hid (show ∀ w1 bn, Below w.heap.size w w1 → Lb w1 bn [.int .i64 0, .int .i64 0, .string (str (nm "findLast")), .slice ac c.kids.length cc, .bool true, .nilIface, .pointer none] 102 → IsA w1 (mkF (nm "findLast") true c) (.iface 100 (.pointer (some ⟨bn, 0, none⟩))) ((bn :: rbc) ++ fsc.flatten ++ []) from fun w1 bn hb1 hL1 => by
         rw [show mkF (nm "findLast") true c = { mkB (nm "findLast") c.kids with flag := true } by unfold mkF mkB; rw [hcm]]
         exact IsA.ofArgs (vf := .nilIface) (ff := []) (bf := 0) hxc hrc hksc (nm "findLast") (by decide) true hb1 hL1)
        have HS := Lib.hid (show stFilterLast t = mkF (nm "findLast") true c from by unfold stFilterLast stEnd; rw [if_pos hk, hkx]; simp only; rw [if_pos]; refine ⟨hfl, hik, hiv, hck, ?_, hcl⟩; simpa (decide := true) [nm] using hcn);have HCL := Lib.hid hcl;have FR := Lib.hid (fresh hP (L := rbc ++ fsc.flatten) (sub_args.trans (sub_kid (i := 0) rfl)));rw [hcl] at m0;have s3 := m0 3; have s5 := m0 5;simp only [List.getElem?_cons_succ, List.getElem?_cons_zero, List.headD_nil] at s3 s5;clear hP hb hks hbc hrc hksc h1c hmc htc hic hii hxc hbi hksi hkx hk hck hcl hik hiv hfl hPt hcm;go_enter Try.func129, Try.ntmps129
        go_upto_region 6 with (fail)
        clear r0 n0 m0 l0;refine AnyL.start (S := fun w' => w'.cell? ⟨bc, 3, none⟩ = some (.slice ac 2 cc) ∧ w'.cell? ⟨bc, 5, none⟩ = some .nilIface) (late := fun j => [12].contains j) (by kernel_rfl) ?_;have hs0 : (fun w' : World => w'.cell? ⟨bc, 3, none⟩ = some (.slice ac 2 cc) ∧ w'.cell? ⟨bc, 5, none⟩ = some .nilIface) w.drew := ⟨s3, s5⟩;refine AnyL.tk [12] [12] 0 ?_ rfl (by kernel_rfl) (by rfl) ?_ hs0 (AnyL.tk [12] [2, 3, 4, 9, 10, 11, 12] 1 ?_ rfl (by kernel_rfl) (by rfl) ?_ hs0 (AnyL.tk [12] [3, 4, 9, 10, 11, 12] 2 ?_ rfl (by kernel_rfl) (by rfl) ?_ hs0 (AnyL.tk [12] [4, 9, 10, 11, 12] 3 ?_ rfl (by kernel_rfl) (by rfl) ?_ hs0 (AnyL.tk [12] [9, 10, 11, 12] 4 ?_ rfl (by kernel_rfl) (by rfl) ?_ hs0 (AnyL.tk [12] [6, 7, 8, 9, 10, 11, 12] 5 ?_ rfl (by kernel_rfl) (by rfl) ?_ hs0 (AnyL.tk [12] [7, 8, 9, 10, 11, 12] 6 ?_ rfl (by kernel_rfl) (by rfl) ?_ hs0 (AnyL.tk [12] [8, 9, 10, 11, 12] 7 ?_ rfl (by kernel_rfl) (by rfl) ?_ hs0 (AnyL.tk [12] [9, 10, 11, 12] 8 ?_ rfl (by kernel_rfl) (by rfl) ?_ hs0 (AnyL.tk [12] [10, 11, 12] 9 ?_ rfl (by kernel_rfl) (by rfl) ?_ hs0 ?_)))))))))
        iterate 10
         rotate_left
         ·intro w' hw'
          (try simp only [Act.put, sb0, sb1, sb2])
          (try dsimp only at hw')
          obtain ⟨q0, q1⟩ := hw';go_simp
          try (with_reducible rfl)
        try simp only [Act.put, sb0, sb1, sb2]
        have hBn : Below w.heap.size w (w.drew.alloc (.cells ([.int .i64 0, .int .i64 0, .string (str (nm "findLast")), .slice ac 2 cc, .bool true, .nilIface, .pointer none]).toArray 102)) := ((Below.refl w.heap.size w).drew).alloc (Nat.le_refl _) _;have hs1 : (fun w' : World => w'.cell? ⟨bc, 3, none⟩ = some (.slice ac 2 cc) ∧ w'.cell? ⟨bc, 5, none⟩ = some .nilIface) (w.drew.alloc (.cells ([.int .i64 0, .int .i64 0, .string (str (nm "findLast")), .slice ac 2 cc, .bool true, .nilIface, .pointer none]).toArray 102)) := ⟨by
         rw [World.cell?_of_block (w := w.drew) (a := ⟨bc, 3, none⟩) (heap_alloc_old w.drew _ zm)]; exact hs0.1, by
         rw [World.cell?_of_block (w := w.drew) (a := ⟨bc, 5, none⟩) (heap_alloc_old w.drew _ zm)]; exact hs0.2⟩
        refine AnyL.one 10 (by kernel_rfl) rfl fun K hK => ?_;go_simp;refine hK.out _ _ (fun _ => hs1) ?_;clear hK K
        try simp only [Act.put, sb0, sb1, sb2]
        refine AnyL.one 11 (by kernel_rfl) rfl fun K hK => ?_;go_simp;refine hK.out _ _ (fun _ => hs1) ?_;clear hK K
        try simp only [Act.put, sb0, sb1, sb2]
        refine AnyL.one 12 (by kernel_rfl) rfl fun K hK => ?_;go_simp;apply Calls.mono
        ·refine patch108 pb po cs Tp _ _ t (mkF (nm "findLast") true c) _ ((w.heap.size :: rbc) ++ fsc.flatten ++ []) _ (HP.out.lb.below hBn HP.out.lb.lt) HP.out.get (HP.out.tree.same fun y hy => hBn.block y (HP.out.tree.lt y hy)) HP.out.nd (HX.out _ _ hBn (by rw [HCL.out]; exact Lb.new' _ _ _ (by simp))) ?_ ?_ HP.out.out
         ·simpa using FR.out.1
         ·simpa using FR.out.2.1
        rintro e2 w2 h2;obtain ⟨x2, rfl⟩ := h2.1;have H2 := Lib.hid h2;clear h2
        (try go_wp2_with fail)
        refine hK.out _ _ (fun h => by cases h) ?_;clear hK K
        try simp only [Act.put, sb0, sb1, sb2]
        refine AnyL.done (by kernel_rfl) ?_ _;obtain ⟨b2, f2, p2, q2, a2, c2, vs2, fs2, rb2, ms2, gs2, th2, ft2, hv2, hx2, hb2, -⟩ := H2.out.2.2.2.b15 rfl;obtain rfl : w.heap.size = b2 := (by simpa using hv2);have r0 : w2.cell? ⟨pb, po, none⟩ = some (.iface 100 (.pointer (some ⟨w.heap.size, 0, none⟩))) := by
         rw [H2.out.2.2.1.cell]; exact List.getElem?_set_self (List.getElem?_eq_some_iff.1 HP.out.get).1
        have u0 := hb2.cell; have zu := hb2.lt;have nf : ((mkF (nm "findLast") true c).name == [108, 97, 115, 116]) = false := (by show (nm "findLast" == _) = false; decide);clear hs0 hs1 s3 s5 hx2 hb2 hv2;go_wp21;refine bodyPost_end (v := .tuple #[]) (by first | rfl | (simp [results, Try.results129, go_sem]; try rfl)) rfl ?_;rw [HS.out];exact Wd.patched HP.out hBn H2.out (by simpa using FR.out.2.2) (by simpa using FR.out.1) trivial _
       ·have HS := Lib.hid (show stFilterLast t = t from by unfold stFilterLast stEnd; (repeat' split) <;> simp_all (decide := true) [nm]);clear hP hb hks hbc hrc hksc h1c hmc htc hic hii hxc hbi hksi;go_enter Try.func129, Try.ntmps129
        go_wp2_with fail
        refine bodyPost_end (v := .tuple #[]) (by first | rfl | (simp [results, Try.results129, go_sem]; try rfl)) rfl ?_;rw [HS.out];exact Wd.same HP.out (Below.refl _ _) trivial _
      ·have HS := Lib.hid (show stFilterLast t = t from by unfold stFilterLast stEnd; (repeat' split) <;> simp_all (decide := true) [nm]);clear hP hb hks hbc hrc hksc h1c hmc htc hic hii hxc hbi hksi;go_enter Try.func129, Try.ntmps129
       go_wp2_with fail
       refine bodyPost_end (v := .tuple #[]) (by first | rfl | (simp [results, Try.results129, go_sem]; try rfl)) rfl ?_;rw [HS.out];exact Wd.same HP.out (Below.refl _ _) trivial _
     ·obtain ⟨bc, rfl⟩ := hic.ptr;have hpc : ¬ pty c.kind = 100 := fun h => hck ((pty_eq hic.okk).1.1 h);have HS := Lib.hid (show stFilterLast t = t from by unfold stFilterLast stEnd; (repeat' split) <;> simp_all (decide := true) [nm]);clear hP hb hks hbi hksi hic hii;go_enter Try.func129, Try.ntmps129
      go_wp2_with fail
      refine bodyPost_end (v := .tuple #[]) (by first | rfl | (simp [results, Try.results129, go_sem]; try rfl)) rfl ?_;rw [HS.out];exact Wd.same HP.out (Below.refl _ _) trivial _
    ·obtain ⟨bc, rfl⟩ := hic.ptr;have d1 : (i.int == (-1)) = false := (by simpa using hiv);have HS := Lib.hid (show stFilterLast t = t from by unfold stFilterLast stEnd; (repeat' split) <;> simp_all (decide := true) [nm]);clear hP hb hks hbi hksi hic hii;go_enter Try.func129, Try.ntmps129
     go_wp2_with fail
     refine bodyPost_end (v := .tuple #[]) (by first | rfl | (simp [results, Try.results129, go_sem]; try rfl)) rfl ?_;rw [HS.out];exact Wd.same HP.out (Below.refl _ _) trivial _
   ·obtain ⟨bc, rfl⟩ := hic.ptr;obtain ⟨bi, rfl⟩ := hii.ptr;have hpi : ¬ pty i.kind = 147 := fun h => hik ((pty_eq hii.okk).2.2.1.1 h);have HS := Lib.hid (show stFilterLast t = t from by unfold stFilterLast stEnd; (repeat' split) <;> simp_all (decide := true) [nm]);clear hP hb hks hic hii;go_enter Try.func129, Try.ntmps129
    go_wp2_with fail
    refine bodyPost_end (v := .tuple #[]) (by first | rfl | (simp [results, Try.results129, go_sem]; try rfl)) rfl ?_;rw [HS.out];exact Wd.same HP.out (Below.refl _ _) trivial _
 by_cases hk5 : t.kind = 15
 ·obtain ⟨b, f, p, q, a, c0, vs, fs, rb, ms, gs, th, ft, rfl, hx, hb, hr, hks, h1, hm, ht, rfl⟩ := hP.tree.b15 hk5;have n0 := hb.cell; have zn := hb.lt
  by_cases hnm : (t.name == [108, 97, 115, 116]) = true
  ·by_cases hl : t.kids.length = 1
   ·obtain ⟨c, hkx⟩ : ∃ c, t.kids = [c] := by
     match hq : t.kids, hl with
     |[y], _ => exact ⟨y, rfl⟩
    rw [hkx] at hks;obtain ⟨vc, fc, rfl, rfl, hic⟩ : ∃ vc fc, vs = [vc] ∧ fs = [fc] ∧ IsA w c vc fc := by
     cases hks with | cons h hl => cases hl; exact ⟨_, _, rfl, rfl, h⟩
    obtain ⟨r, sp, R, rfl, rfl, hr2⟩ : ∃ r sp R, a = some ⟨r, 0, none⟩ ∧ rb = [r] ∧ Lb w r ([vc] ++ sp) R := by
     rcases hr with ⟨h, _⟩ | h
     ·cases h
     ·exact h
    have d0 : w.cell? ⟨r, 0, none⟩ = some vc := (by rw [hr2.cell]; rfl);have zr := hr2.lt
    by_cases hck : c.kind = 15
    ·obtain ⟨bc, ffc, pc, qc, ac, cc, vsc, fsc, rbc, msc, gsc, thc, ftc, rfl, hxc, hbc, hrc, hksc, h1c, hmc, htc, rfl⟩ := hic.b15 hck;have m0 := hbc.cell; have zm := hbc.lt
     by_cases hcn : (c.name == [102, 105, 108, 116, 101, 114]) = true
     ·by_cases hcl : c.kids.length = 2
      ·rw [hkx] at n0;have hcm : c.map = [] := (hPt.kids c (by rw [hkx]; simp)).map;obtain rfl : msc = [] := (by rw [hcm] at hmc; cases hmc; rfl);have HX := Lib.hid (show ∀ w1 bn, Below w.heap.size w w1 → Lb w1 bn [.int .i64 0, .int .i64 0, .string (str (nm "findLast")), .slice ac c.kids.length cc, .bool false, .nilIface, .pointer none] 102 → IsA w1 (mkF (nm "findLast") false c) (.iface 100 (.pointer (some ⟨bn, 0, none⟩))) ((bn :: rbc) ++ fsc.flatten ++ []) from fun w1 bn hb1 hL1 => by
        rw [show mkF (nm "findLast") false c = { mkB (nm "findLast") c.kids with flag := false } by unfold mkF mkB; rw [hcm]]
        exact IsA.ofArgs (vf := .nilIface) (ff := []) (bf := 0) hxc hrc hksc (nm "findLast") (by decide) false hb1 hL1)
       have HS := Lib.hid (show stFilterLast t = mkF (nm "findLast") false c from by unfold stFilterLast stEnd; rw [if_neg hk, if_pos ⟨hk5, by simpa (decide := true) [nm] using hnm⟩, hkx]; simp only; rw [if_pos]; refine ⟨hck, ?_, hcl⟩; simpa (decide := true) [nm] using hcn);have HCL := Lib.hid hcl;have FR := Lib.hid (fresh hP (L := rbc ++ fsc.flatten) (sub_args.trans (sub_kid (i := 0) rfl)));rw [hcl] at m0;have s3 := m0 3; have s5 := m0 5;simp only [List.getElem?_cons_succ, List.getElem?_cons_zero, List.headD_nil] at s3 s5;clear hP hx hb hr hks h1 hm ht hr2 hic hbc hrc hksc h1c hmc htc hxc hkx hl hk hk5 hck hcl hPt hcm;go_enter Try.func129, Try.ntmps129
       go_upto_region 11 with (fail)
       clear r0 n0 m0 d0;refine AnyL.start (S := fun w' => w'.cell? ⟨bc, 3, none⟩ = some (.slice ac 2 cc) ∧ w'.cell? ⟨bc, 5, none⟩ = some .nilIface) (late := fun j => [12].contains j) (by kernel_rfl) ?_;have hs0 : (fun w' : World => w'.cell? ⟨bc, 3, none⟩ = some (.slice ac 2 cc) ∧ w'.cell? ⟨bc, 5, none⟩ = some .nilIface) w.drew := ⟨s3, s5⟩;refine AnyL.tk [12] [12] 0 ?_ rfl (by kernel_rfl) (by rfl) ?_ hs0 (AnyL.tk [12] [2, 3, 4, 9, 10, 11, 12] 1 ?_ rfl (by kernel_rfl) (by rfl) ?_ hs0 (AnyL.tk [12] [3, 4, 9, 10, 11, 12] 2 ?_ rfl (by kernel_rfl) (by rfl) ?_ hs0 (AnyL.tk [12] [4, 9, 10, 11, 12] 3 ?_ rfl (by kernel_rfl) (by rfl) ?_ hs0 (AnyL.tk [12] [9, 10, 11, 12] 4 ?_ rfl (by kernel_rfl) (by rfl) ?_ hs0 (AnyL.tk [12] [6, 7, 8, 9, 10, 11, 12] 5 ?_ rfl (by kernel_rfl) (by rfl) ?_ hs0 (AnyL.tk [12] [7, 8, 9, 10, 11, 12] 6 ?_ rfl (by kernel_rfl) (by rfl) ?_ hs0 (AnyL.tk [12] [8, 9, 10, 11, 12] 7 ?_ rfl (by kernel_rfl) (by rfl) ?_ hs0 (AnyL.tk [12] [9, 10, 11, 12] 8 ?_ rfl (by kernel_rfl) (by rfl) ?_ hs0 (AnyL.tk [12] [10, 11, 12] 9 ?_ rfl (by kernel_rfl) (by rfl) ?_ hs0 ?_)))))))))
       iterate 10
        rotate_left
        ·intro w' hw'
         (try simp only [Act.put, sb0, sb1, sb2])
         (try dsimp only at hw')
         obtain ⟨q0, q1⟩ := hw';go_simp
         try (with_reducible rfl)
       try simp only [Act.put, sb0, sb1, sb2]
       have hBn : Below w.heap.size w (w.drew.alloc (.cells ([.int .i64 0, .int .i64 0, .string (str (nm "findLast")), .slice ac 2 cc, .bool false, .nilIface, .pointer none]).toArray 102)) := ((Below.refl w.heap.size w).drew).alloc (Nat.le_refl _) _;have hs1 : (fun w' : World => w'.cell? ⟨bc, 3, none⟩ = some (.slice ac 2 cc) ∧ w'.cell? ⟨bc, 5, none⟩ = some .nilIface) (w.drew.alloc (.cells ([.int .i64 0, .int .i64 0, .string (str (nm "findLast")), .slice ac 2 cc, .bool false, .nilIface, .pointer none]).toArray 102)) := ⟨by
        rw [World.cell?_of_block (w := w.drew) (a := ⟨bc, 3, none⟩) (heap_alloc_old w.drew _ zm)]; exact hs0.1, by
        rw [World.cell?_of_block (w := w.drew) (a := ⟨bc, 5, none⟩) (heap_alloc_old w.drew _ zm)]; exact hs0.2⟩
       refine AnyL.one 10 (by kernel_rfl) rfl fun K hK => ?_;go_simp;refine hK.out _ _ (fun _ => hs1) ?_;clear hK K
       try simp only [Act.put, sb0, sb1, sb2]
       refine AnyL.one 11 (by kernel_rfl) rfl fun K hK => ?_;go_simp;refine hK.out _ _ (fun _ => hs1) ?_;clear hK K
       try simp only [Act.put, sb0, sb1, sb2]
       refine AnyL.one 12 (by kernel_rfl) rfl fun K hK => ?_;go_simp;apply Calls.mono
       ·refine patch108 pb po cs Tp _ _ t (mkF (nm "findLast") false c) _ ((w.heap.size :: rbc) ++ fsc.flatten ++ []) _ (HP.out.lb.below hBn HP.out.lb.lt) HP.out.get (HP.out.tree.same fun y hy => hBn.block y (HP.out.tree.lt y hy)) HP.out.nd (HX.out _ _ hBn (by rw [HCL.out]; exact Lb.new' _ _ _ (by simp))) ?_ ?_ HP.out.out
        ·simpa using FR.out.1
        ·simpa using FR.out.2.1
       rintro e2 w2 h2;obtain ⟨x2, rfl⟩ := h2.1;have H2 := Lib.hid h2;clear h2
       (try go_wp2_with fail)
       refine hK.out _ _ (fun h => by cases h) ?_;clear hK K
       try simp only [Act.put, sb0, sb1, sb2]
       refine AnyL.done (by kernel_rfl) ?_ _;go_wp21;refine bodyPost_end (v := .tuple #[]) (by first | rfl | (simp [results, Try.results129, go_sem]; try rfl)) rfl ?_;rw [HS.out];exact Wd.patched HP.out hBn H2.out (by simpa using FR.out.2.2) (by simpa using FR.out.1) trivial _
      ·have HS := Lib.hid (show stFilterLast t = t from by unfold stFilterLast stEnd; (repeat' split) <;> simp_all (decide := true) [nm]);clear hP hx hb hr hks h1 hm ht hr2 hic hbc hrc hksc h1c hmc htc hxc;go_enter Try.func129, Try.ntmps129
       go_wp2_with fail
       refine bodyPost_end (v := .tuple #[]) (by first | rfl | (simp [results, Try.results129, go_sem]; try rfl)) rfl ?_;rw [HS.out];exact Wd.same HP.out (Below.refl _ _) trivial _
     ·have HS := Lib.hid (show stFilterLast t = t from by unfold stFilterLast stEnd; (repeat' split) <;> simp_all (decide := true) [nm]);clear hP hx hb hr hks h1 hm ht hr2 hic hbc hrc hksc h1c hmc htc hxc;go_enter Try.func129, Try.ntmps129
      go_wp2_with fail
      refine bodyPost_end (v := .tuple #[]) (by first | rfl | (simp [results, Try.results129, go_sem]; try rfl)) rfl ?_;rw [HS.out];exact Wd.same HP.out (Below.refl _ _) trivial _
    ·obtain ⟨bc, rfl⟩ := hic.ptr;have hpc : ¬ pty c.kind = 100 := fun h => hck ((pty_eq hic.okk).1.1 h);have HS := Lib.hid (show stFilterLast t = t from by unfold stFilterLast stEnd; (repeat' split) <;> simp_all (decide := true) [nm]);clear hP hx hb hr hks h1 hm ht hr2 hic hck;go_enter Try.func129, Try.ntmps129
     go_wp2_with fail
     refine bodyPost_end (v := .tuple #[]) (by first | rfl | (simp [results, Try.results129, go_sem]; try rfl)) rfl ?_;rw [HS.out];exact Wd.same HP.out (Below.refl _ _) trivial _
   ·have HS := Lib.hid (show stFilterLast t = t from by unfold stFilterLast stEnd; (repeat' split) <;> simp_all (decide := true) [nm]);clear hP hx hb hr hks h1 hm ht;go_enter Try.func129, Try.ntmps129
    go_wp2_with fail
    refine bodyPost_end (v := .tuple #[]) (by first | rfl | (simp [results, Try.results129, go_sem]; try rfl)) rfl ?_;rw [HS.out];exact Wd.same HP.out (Below.refl _ _) trivial _
  ·have HS := Lib.hid (show stFilterLast t = t from by unfold stFilterLast stEnd; (repeat' split) <;> simp_all (decide := true) [nm]);clear hP hx hb hr hks h1 hm ht;go_enter Try.func129, Try.ntmps129
   go_wp2_with fail
   refine bodyPost_end (v := .tuple #[]) (by first | rfl | (simp [results, Try.results129, go_sem]; try rfl)) rfl ?_;rw [HS.out];exact Wd.same HP.out (Below.refl _ _) trivial _
 ·obtain ⟨b, rfl⟩ := hP.tree.ptr;have hpt : ¬ pty t.kind = 91 := fun h => hk ((pty_eq hP.tree.okk).2.2.2.1.1 h);have hpu : ¬ pty t.kind = 100 := fun h => hk5 ((pty_eq hP.tree.okk).1.1 h);have HS := Lib.hid (show stFilterLast t = t from by unfold stFilterLast stEnd; (repeat' split) <;> simp_all (decide := true) [nm]);clear hP hk hk5;go_enter Try.func129, Try.ntmps129
  go_wp2_with fail
  refine bodyPost_end (v := .tuple #[]) (by first | rfl | (simp [results, Try.results129, go_sem]; try rfl)) rfl ?_;rw [HS.out];exact Wd.same HP.out (Below.refl _ _) trivial _
end
section
attribute [local go_sem ↓] Go.wp_at_zero Go.wp_at_succ
open Go.RowKit
theorem bare_mkF {n : Nm} {b : Bool} {f : Tr} (h : Bare f) : Bare (mkF n b f) := .mk _ h.map h.kids
theorem bare_filterLast (t : Tr) (h : Bare t) : Bare (stFilterLast t) := by
 unfold stFilterLast stEnd
 split
 ·split
  ·rename_i f i hk
   split
   ·exact bare_mkF (h.kids f (by rw [hk]; simp))
   ·exact h
  ·exact h
 ·split
  ·split
   ·rename_i f hk
    split
    ·exact bare_mkF (h.kids f (by rw [hk]; simp))
    ·exact h
   ·exact h
  ·exact h
set_option maxHeartbeats 1600000 in
set_option maxRecDepth 100000 in
theorem zz_filterLast (t : Tr) (hB : Bare t) : ZzOk 39 stFilterLast t := by
 intro v fp pb po cs Tp w hP;have HP := Lib.hid hP;clear hP;go_enter Try.func39, Try.ntmps39
 go_wp2_with fail
 apply Calls.mono
 ·exact walk_tree (door_filterLast w.heap.size) (visit_filterLast w.heap.size) (fun k hk => ⟨by unfold stFilterLast stEnd; rw [if_neg (by omega), if_neg (by rintro ⟨h, _⟩; omega)], rfl⟩) Bare (fun _ h => h.kids) (fun t h => .mk _ h.map (Bare_Ts bare_filterLast _ h.kids)) t hB _ _ _ _ _ _ _ false (HP.out.below (by go_grown)) trivial
 rintro e1 w1 h1;obtain ⟨x1, rfl⟩ := h1.1;have H1 := Lib.hid h1;clear h1;go_wp21;refine bodyPost_end (v := .tuple #[]) (by first | rfl | (simp [results, Try.results39, go_sem]; try rfl)) rfl ?_;have g := Wd.after (w := w) (turn_below (by go_grown)) (fun b hb => .inl hb) H1.out;exact ⟨⟨_, rfl⟩, g.2⟩
set_option maxHeartbeats 3200000 in
set_option maxRecDepth 100000 in
theorem impl_filterLast (t : Tr) (hz : WholeT t → ZzOk 39 stFilterLast (nrm t)) : ImplOk 19 stFilterLast t := by
 intro hW k f a c a' c' p q w hk ht;have HW := Lib.hid hW; have HK := Lib.hid hk; have HT := Lib.hid ht; have HZ := Lib.hid hz;clear hW hk ht hz;go_enter Try.func19, Try.ntmps19
 go_wp2_with fail
 apply Calls.mono
 ·exact made_ok t HW.out k f a c a' c' p q _ (HT.out.ext (.of (by go_grown)) (Nat.le_refl _))
 rintro e1 w1 ⟨ty, pv, fp, rfl, hb1, hi1, hn1, hg1⟩;have HB1 := Lib.hid (show Below w.heap.size w w1 from Below.trans (by go_grown) (hb1.mono (by simp; omega)));have HR1 := Lib.hid ((Lb.new' (w.alloc (.cells (tcells t f a c a' c' p q).toArray 25)) ztcells 25 (n := w.heap.size + 1) (by simp)).below hb1 (by simp));have hg2 : ∀ y ∈ fp, w.heap.size + 1 < y := fun y hy => by have := hg1 y hy; simp at this; omega
 have HG := Lib.hid hg2; have HI1 := Lib.hid hi1; have HN1 := Lib.hid hn1;have zr := HR1.out.lt;clear hb1 hi1 hn1 hg1 hg2
 go_wp2_with fail
 apply Calls.mono
 ·exact HZ.out HW.out (.iface ty pv) fp w1.heap.size 0 [.iface ty pv] 45 _ ⟨Lb.new' _ _ _ rfl, rfl, HI1.out.same fun y hy => heap_alloc_old w1 _ (HI1.out.lt y hy), HN1.out, fun h => by have := HI1.out.lt _ h; omega, fun b hb => hb.elim⟩
 rintro e2 w2 ⟨⟨x2, rfl⟩, v2, fp2, hT2, hL2, hi2, hn2, hf2, -⟩;have hR2 : Lb w2 (w.heap.size + 1) ztcells 25 := (hT2.block _ (by simp; omega) (by omega) (fun h => by have := HG.out _ h; omega) id).trans (HR1.out.alloc _);have HB2 := Lib.hid (show Below w.heap.size w w2 from (HB1.out.alloc HB1.out.size (.cells #[.iface ty pv] 45)).trans ⟨hT2.os, hT2.tape, hT2.output, hT2.size, fun b hb => hT2.block b (by have := HB1.out.size; simp; omega) (by have := HB1.out.size; omega) (fun h => by have := HG.out _ h; omega) id⟩);obtain ⟨ty2, pv2, rfl⟩ := hi2.iface;have HR2 := Lib.hid hR2; have HI2 := Lib.hid hi2;simp only [List.set_cons_zero] at hL2;have l0 := hL2.cell; have lz := hL2.lt;clear hT2 hL2 hi2 hR2
 go_wp2_with fail
 apply Calls.mono
 ·refine taken_ok _ _ fp2 _ (fun b => k b ∨ b = w.heap.size + 1) ?_ HI2.out;rintro b (hb | rfl)
  ·exact Nat.lt_of_lt_of_le (HK.out b hb) HB2.out.size
  ·exact HR2.out.lt
 rintro e3 w3 ⟨f3, a3, c3, a4, c4, p3, q3, rfl, hb3, hT3⟩;have hR3 := HR2.out.below hb3 HR2.out.lt;have c0 := hR3.cell; have c1 := hR3.frozen; have zc := hR3.lt;unfold ztcells at c0;have HB3 := Lib.hid (HB2.out.trans (hb3.mono HB2.out.size)); have HT3 := Lib.hid hT3;clear hb3 hT3 hR3 l0 lz;go_wp21;refine bodyPost_ret (v := ta (T stFilterLast (nrm t)) f3 a3 c3 a4 c4 p3 q3) (by simp [results, Try.results19, go_sem, c0, c1, zc]; try rfl) rfl ?_;refine ⟨f3, a3, c3, a4, c4, p3, q3, rfl, ?_, ?_⟩
 ·have hE := (Ext.refl (fun _ => False) w.heap.size w3).s12 (b := w.heap.size + 1) (.inr (by omega)) 0 (.int .i64 (T stFilterLast (nrm t)).kind) (.string (str (T stFilterLast (nrm t)).name)) (.int .i64 (T stFilterLast (nrm t)).int) (.float .f64 f3) (.bool (T stFilterLast (nrm t)).flag) (.bool (T stFilterLast (nrm t)).method) (.bool (T stFilterLast (nrm t)).limited) (.int .i64 (T stFilterLast (nrm t)).limit) (.slice a3 (T stFilterLast (nrm t)).kids.length c3) (.slice a4 (T stFilterLast (nrm t)).map.length c4) (.int .i64 p3) (.int .i64 q3);exact HB3.out.trans ⟨hE.os, hE.tape, hE.output, hE.size, fun b hb => hE.block b hb id⟩
 ·exact (HT3.out.ext ((Ext.refl (fun b => k b ∨ b = w.heap.size + 1) _ _).s12 (.inl (.inr rfl)) 0 _ _ _ _ _ _ _ _ _ _ _ _) (Nat.le_refl _)).other fun b hb => .inl (.inl hb)
set_option maxHeartbeats 6400000 in
set_option maxRecDepth 100000 in
theorem law_filterLast (t : Tr) (st : Tr → Tr) (hi : ImplOk 19 st t) (names : List (Nm × Vl)) (hq : WholeT t → Asks true t (T st (nrm t)) names ∧ fine t ∧ fine (T st (nrm t))) (k : Nat → Prop) (an : Option Addr) (cn : Nat) (ncs : List Value) (f : Nat) (a : Option Addr) (c : Nat) (a' : Option Addr) (c' : Nat) (p q : Int) (w : World)
 (hk : ∀ b, k b → b < w.heap.size) (hr : Row w k an ncs) (hs : IsRn w k names ncs) (ht : IsT w k t (tcells t f a c a' c' p q)) :
 Calls Try.prog 6 #[ta t f a c a' c' p q, .slice an names.length cn] w (Yes w) := by
 have HI := Lib.hid hi; have HQ := Lib.hid hq; have HK := Lib.hid hk; have HR := Lib.hid hr; have HS := Lib.hid hs; have HT := Lib.hid ht;clear hi hq hk hr hs ht
 by_cases hn : (2147483647 : Int) < (names.length : Int)
 ·have d1 : decide ((2147483647 : Int) < (names.length : Int)) = true := decide_eq_true hn;go_enter Try.func6, Try.ntmps6
  go_wp2_with fail
  apply Calls.mono
  ·exact fits_any t f a c a' c' p q _
  rintro e1 w1 ⟨b1, rfl, hb1⟩;have HB1 := Lib.hid (show Below w.heap.size w w1 from Below.trans (by go_grown) (hb1.mono (by simp)));clear hb1;cases b1 <;> (go_wp2_with fail; go_ret; exact ⟨rfl, HB1.out⟩)
 have d1 : decide ((2147483647 : Int) < (names.length : Int)) = false := decide_eq_false hn;have hnm : names.length ≤ most := by unfold most; omega
 have HNM := Lib.hid hnm;clear hn hnm;go_enter Try.func6, Try.ntmps6
 go_wp2_with fail
 apply Calls.mono
 ·exact fits_any t f a c a' c' p q _
 rintro e1 w1 ⟨b1, rfl, hb1⟩;have HB1 := Lib.hid (show Below w.heap.size w w1 from Below.trans (by go_grown) (hb1.mono (by simp)));have L1 := (Lb.new' w (tcells t f a c a' c' p q) 25 rfl).below hb1 (by simp);have HL1 := Lib.hid L1;clear hb1 L1;cases b1 with
 |false =>
  go_wp2_with fail
  go_ret;exact ⟨rfl, HB1.out⟩
 |true =>
 go_wp2_with fail
 refine AnyL.start (S := fun w' => Lb w' w.heap.size (tcells t f a c a' c' p q) 25) (late := fun j => [].contains j) (by kernel_rfl) ?_;have hs0 := HL1.out.drew; have hB0 := HB1.out.drew;refine AnyL.tk [] [] 0 ?_ rfl (by kernel_rfl) (by rfl) ?_ hs0 ?_;rotate_left
 ·intro w' hw';have r0 := (show Lb _ _ _ _ from hw').cell; have z0 := (show Lb _ _ _ _ from hw').lt;unfold tcells at r0;go_simp
  try (with_reducible rfl)
 try simp only [Act.put, sb0, sb1, sb2]
 refine AnyL.one 1 (by kernel_rfl) rfl fun K hK => ?_;go_simp;apply Calls.mono
 ·exact Whole_any t k f a c a' c' p q _ (fun b hb => Nat.lt_of_lt_of_le (HK.out b hb) hB0.size) (HT.out.ext (.of hB0) (Nat.le_refl _))
 rintro e2 w2 ⟨b2, rfl, hb2, hw2⟩;have hs2 := hs0.below hb2 hs0.lt; have hB2 := hB0.trans (hb2.mono hB0.size)
 (try go_wp2_with fail)
 refine hK.out _ _ (fun _ => hs2) ?_;clear hK K
 try simp only [Act.put, sb0, sb1, sb2]
 cases b2 with
 |false =>
  clear hw2;refine AnyL.tk [] [] 2 ?_ rfl (by kernel_rfl) (by rfl) ?_ hs2 (AnyL.tk [] [] 3 ?_ rfl (by kernel_rfl) (by rfl) ?_ hs2 ?_)
  iterate 2
   rotate_left
   ·intro w' hw'; (try simp only [Act.put, sb0, sb1, sb2]);have r0 := (show Lb _ _ _ _ from hw').cell; have z0 := (show Lb _ _ _ _ from hw').lt;unfold tcells at r0;go_simp
    try (with_reducible rfl)
  try simp only [Act.put, sb0, sb1, sb2]
  refine AnyL.tk0 [] [] 4 rfl (by kernel_rfl) (by rfl) hs2 ?_
  try simp only [Act.put, sb0, sb1, sb2]
  refine AnyL.tk0 [] [] 5 rfl (by kernel_rfl) (by rfl) hs2 ?_
  try simp only [Act.put, sb0, sb1, sb2]
  refine AnyL.tk0 [] [] 8 rfl (by kernel_rfl) (by rfl) hs2 ?_
  try simp only [Act.put, sb0, sb1, sb2]
  refine AnyL.one 6 (by kernel_rfl) rfl fun K hK => ?_;go_simp;refine hK.out _ _ (fun _ => hs2) ?_;clear hK K
  try simp only [Act.put, sb0, sb1, sb2]
  refine AnyL.one 7 (by kernel_rfl) rfl fun K hK => ?_;go_simp;refine hK.out _ _ (fun _ => hs2) ?_;clear hK K
  try simp only [Act.put, sb0, sb1, sb2]
  refine AnyL.one 9 (by kernel_rfl) rfl fun K hK => ?_;go_simp;refine hK.out _ _ (fun _ => hs2) ?_;clear hK K
  try simp only [Act.put, sb0, sb1, sb2]
  refine AnyL.one 10 (by kernel_rfl) rfl fun K hK => ?_;go_simp;refine hK.out _ _ (fun _ => hs2) ?_;clear hK K
  try simp only [Act.put, sb0, sb1, sb2]
  refine AnyL.one 11 (by kernel_rfl) rfl fun K hK => ?_;go_simp;refine hK.out _ _ (fun _ => hs2) ?_;clear hK K
  try simp only [Act.put, sb0, sb1, sb2]
  refine AnyL.done (by kernel_rfl) ?_ _;clear hs0 hB0 hs2;have HB2 := Lib.hid hB2;clear hB2 hb2;go_wp21;go_ret;exact ⟨rfl, HB2.out⟩
 |true =>
  have hWt := hw2 rfl;have HWt := Lib.hid hWt;clear hw2 hWt;refine AnyL.tk [] [] 2 ?_ rfl (by kernel_rfl) (by rfl) ?_ hs2 (AnyL.tk [] [] 3 ?_ rfl (by kernel_rfl) (by rfl) ?_ hs2 ?_)
  iterate 2
   rotate_left
   ·intro w' hw'; (try simp only [Act.put, sb0, sb1, sb2]);have r0 := (show Lb _ _ _ _ from hw').cell; have z0 := (show Lb _ _ _ _ from hw').lt;unfold tcells at r0;go_simp
    try (with_reducible rfl)
  try simp only [Act.put, sb0, sb1, sb2]
  refine AnyL.tk [] [] 4 ?_ rfl (by kernel_rfl) (by rfl) ?_ hs2 (AnyL.tk [] [] 5 ?_ rfl (by kernel_rfl) (by rfl) ?_ hs2 (AnyL.tk [] [] 8 ?_ rfl (by kernel_rfl) (by rfl) ?_ hs2 ?_))
  iterate 3
   rotate_left
   ·intro w' hw'; (try simp only [Act.put, sb0, sb1, sb2]);have r0 := (show Lb _ _ _ _ from hw').cell; have z0 := (show Lb _ _ _ _ from hw').lt;unfold tcells at r0
    (go_simp)
    try (with_reducible rfl)
  try simp only [Act.put, sb0, sb1, sb2]
  refine AnyL.one 6 (by kernel_rfl) rfl fun K hK => ?_;go_simp;apply Calls.mono
  ·exact copy_ok t HWt.out k f a c a' c' p q _ (fun b hb => Nat.lt_of_lt_of_le (HK.out b hb) hB2.size) (HT.out.ext (.of hB2) (Nat.le_refl _))
  rintro e3 w3 ⟨f3, a3, c3, a3', c3', p3, q3, rfl, hb3, hT3⟩;have hs3 := hs2.below hb3 hs2.lt; have hB3 := hB2.trans (hb3.mono hB2.size)
  (try go_wp2_with fail)
  refine hK.out _ _ (fun _ => hs3) ?_;clear hK K
  try simp only [Act.put, sb0, sb1, sb2]
  refine AnyL.one 7 (by kernel_rfl) rfl fun K hK => ?_;go_simp;apply Calls.mono
  ·exact HI.out HWt.out k f3 a3 c3 a3' c3' p3 q3 _ (fun b hb => Nat.lt_of_lt_of_le (HK.out b hb) hB3.size) hT3
  rintro e4 w4 ⟨f4, a4, c4, a4', c4', p4, q4, rfl, hb4, hT4⟩;have hs4 := hs3.below hb4 hs3.lt; have hB4 := hB3.trans (hb4.mono hB3.size)
  (try go_wp2_with fail)
  refine hK.out _ _ (fun _ => hs4) ?_;clear hK K
  try simp only [Act.put, sb0, sb1, sb2]
  refine AnyL.one 9 (by kernel_rfl) rfl fun K hK => ?_;go_simp;apply Calls.mono
  ·exact keeps_any t (T st (nrm t)) (HQ.out HWt.out).2.1 (HQ.out HWt.out).2.2 k names an cn ncs _ _ _ _ _ _ _ _ _ _ _ _ _ _ _ HNM.out (fun b hb => Nat.lt_of_lt_of_le (HK.out b hb) hB4.size) (HR.out.ext (.of hB4) (Nat.le_refl _)) (HS.out.ext (.of hB4) (Nat.le_refl _)) (HT.out.ext (.of hB4) (Nat.le_refl _)) hT4 (HQ.out HWt.out).1
  rintro e5 w5 ⟨rfl, hb5⟩;have hs5 := hs4.below hb5 hs4.lt; have hB5 := hB4.trans (hb5.mono hB4.size)
  (try go_wp2_with fail)
  refine hK.out _ _ (fun _ => hs5) ?_;clear hK K
  try simp only [Act.put, sb0, sb1, sb2]
  refine AnyL.one 10 (by kernel_rfl) rfl fun K hK => ?_;go_simp;refine hK.out _ _ (fun _ => hs5) ?_;clear hK K
  try simp only [Act.put, sb0, sb1, sb2]
  refine AnyL.one 11 (by kernel_rfl) rfl fun K hK => ?_;go_simp;refine hK.out _ _ (fun _ => hs5) ?_;clear hK K
  try simp only [Act.put, sb0, sb1, sb2]
  refine AnyL.done (by kernel_rfl) ?_ _;have HB5 := Lib.hid hB5;clear hs0 hB0 hs2 hs3 hs4 hs5 hB2 hB3 hB4 hB5 hb2 hb3 hb4 hb5 hT3 hT4;go_wp21;go_ret;exact ⟨rfl, HB5.out⟩
theorem asks_filterLast (names : List (Nm × Vl)) (t : Tr) (hW : WholeT t) : Asks true t (T stFilterLast (nrm t)) names ∧ fine t ∧ fine (T stFilterLast (nrm t)) := by
 refine asks_bare bare_filterLast (fun t h => ?_) names t hW;rw [T_eq]; exact filterLast_ok _
end
end Go.Proofs.Ytafhhdimjkgihaa.Mn
