/- FilterMap: what belongs to this law alone: part 3. -/
import Derived.Test.YtafhhdimjkgihaaKFilterMap2
import Derived.Test.YtafhhdimjkgihaaJ40
import Derived.Test.YtafhhdimjkgihaaJ42
set_option linter.unusedSimpArgs false
set_option linter.unusedVariables false
namespace Go.Proofs.Ytafhhdimjkgihaa.Mn
section
attribute [local go_sem ↓] Go.wp_at_zero Go.wp_at_succ
open Go.RowKit
theorem IsA.ofMap {w w1 : World} {f q : Tr} {ff2 : Nat} {pf qf : Int} {af : Option Addr} {cf : Nat} {vs : List Value} {fs : List (List Nat)} {rb : List Nat} {vq : Value} {fq : List Nat} (hx : Hx f ff2 pf qf) (hr : Rw w af vs rb) (hk : IsAs w f.kids vs fs) (hq : IsA w q vq fq) (hb : Below w.heap.size w w1) {bn : Nat}
 (hL : Lb w1 bn [.int .i64 0, .int .i64 0, .string (str (nm "filter")), .slice af f.kids.length cf, .bool false, vq, .pointer none] 102) : IsA w1 (mkM f q) (.iface 100 (.pointer (some ⟨bn, 0, none⟩))) ((bn :: rb) ++ fs.flatten ++ (fq ++ [])) := by
 have z : I64 0 := by unfold I64; omega
 have := IsA.list (w := w1) (mkM f q) bn 0 0 0 af cf vs fs rb [vq] [fq] (.pointer none) [] rfl ⟨rfl, cn_zero, z, z, z, z, by show (nm "filter").length ≤ _; decide, hx.hk⟩ hL (hr.same fun y hy => hb.block y (hr.lt y hy)) (hk.same fun y hy => hb.block y (hk.lt y hy)) (by simp [mkM]) (.cons (hq.same fun y hy => hb.block y (hq.lt y hy)) .nil) (.inl ⟨rfl, rfl, rfl⟩);rw [show ([fq].flatten ++ [] : List Nat) = fq ++ [] by simp] at this;exact this
theorem Pos.below' {w w1 : World} {pb po : Nat} {cs : List Value} {Tp : TypeId} {v : Value} {t : Tr} {fp : List Nat} (h : Pos w pb po cs Tp v t fp (fun _ => False)) (hb : Below w.heap.size w w1) : Pos w1 pb po cs Tp v t fp (fun _ => False) :=
 ⟨h.lb.below hb h.lb.lt, h.get, h.tree.same fun b hx => hb.block b (h.tree.lt b hx), h.nd, h.out, fun b hb => hb.elim⟩
theorem door_filterMap (b : Nat) : Door 130 (.pointer (some ⟨b, 0, none⟩)) 131 := ⟨fun n w => by kernel_rfl, fun args w => by kernel_rfl⟩
set_option maxHeartbeats 12800000 in
set_option maxRecDepth 100000 in
theorem visit_filterMap (rb0 : Nat) : VisOk 131 (.pointer (some ⟨rb0, 0, none⟩)) stFilterMap2 (fun _ => false) (fun _ => False) (fun _ _ => True) (fun _ => True) := by
 intro t _ v fp pb po cs Tp w s hP _;have r0 : w.cell? ⟨pb, po, none⟩ = some v := by rw [hP.lb.cell]; exact hP.get
 have g0 := hP.lb.frozen; have z0 := hP.lb.lt;have HP := Lib.hid hP
 by_cases hk5 : t.kind = 15
 ·obtain ⟨b, f, p, q, a, c0, vs, fs, rb, ms, gs, th, ft, rfl, hx, hb, hr, hks, h1, hm, ht, rfl⟩ := hP.tree.b15 hk5;have n0 := hb.cell; have zn := hb.lt
  by_cases hnm : (t.name == [109, 97, 112]) = true
  ·by_cases hl : t.kids.length = 2
   ·obtain ⟨c, i, hkx⟩ : ∃ c i, t.kids = [c, i] := by
     match hq : t.kids, hl with
     |[y, z], _ => exact ⟨y, z, rfl⟩
    rw [hkx] at hks;obtain ⟨vc, fc, vi, fi, rfl, rfl, hic, hii⟩ : ∃ vc fc vi fi, vs = [vc, vi] ∧ fs = [fc, fi] ∧ IsA w c vc fc ∧ IsA w i vi fi := by
     cases hks with | cons h hl => cases hl with | cons h2 hl => cases hl; exact ⟨_, _, _, _, rfl, rfl, h, h2⟩
    obtain ⟨r, sp, R, rfl, rfl, hr2⟩ : ∃ r sp R, a = some ⟨r, 0, none⟩ ∧ rb = [r] ∧ Lb w r ([vc, vi] ++ sp) R := by
     rcases hr with ⟨h, _⟩ | h
     ·cases h
     ·exact h
    have d0 : w.cell? ⟨r, 0, none⟩ = some vc := (by rw [hr2.cell]; rfl);have d1 : w.cell? ⟨r, 1, none⟩ = some vi := (by rw [hr2.cell]; rfl);have zr := hr2.lt;rw [hkx] at n0 hb;have hfi : fi.Nodup := (sub_kid (A := b :: [r]) (C := gs.flatten ++ ft) (fs := [fc, fi]) (i := 1) rfl).nodup hP.nd;obtain ⟨tyi, pvi, rfl⟩ : ∃ ty pv, vi = .iface ty pv := (by obtain ⟨x, hx⟩ := hii.ptr; exact ⟨_, _, hx⟩);obtain ⟨tyc, pvc, rfl⟩ : ∃ ty pv, vc = .iface ty pv := (by obtain ⟨x, hx⟩ := hic.ptr; exact ⟨_, _, hx⟩);have HF := Lib.hid (fun (w1 : World) (h : IsA w1 i (.iface tyi pvi) fi) => find_any i (.iface tyi pvi) fi w1 h hfi);have HB := Lib.hid hb; have HR2 := Lib.hid hr2; have HIC := Lib.hid hic; have HII := Lib.hid hii;have HKX := Lib.hid hkx; have HNM := Lib.hid (show t.kind = 15 ∧ t.name = nm "map" from ⟨hk5, by simpa (decide := true) [nm] using hnm⟩);clear hP hx hb hr hks h1 hm ht hr2 hic hii hfi hkx hl hk5
    go_enter Try.func131, Try.ntmps131
    go_wp2_with fail
    apply Calls.mono
    ·exact HF.out _ HII.out
    rintro e1 w1 ⟨hb1, rr, rfl, hno, hyes⟩;clear r0 n0 d0 d1 g0 z0 zn zr;have hLp := HP.out.lb.below hb1 HP.out.lb.lt;have hLb := HB.out.below hb1 HB.out.lt;have hLr := HR2.out.below hb1 HR2.out.lt;have r0 : w1.cell? ⟨pb, po, none⟩ = some (.iface 100 (.pointer (some ⟨b, 0, none⟩))) := (by rw [hLp.cell]; exact HP.out.get);have g0 := hLp.frozen; have z0 := hLp.lt;have n0 := hLb.cell; have zn := hLb.lt;have d0 : w1.cell? ⟨r, 0, none⟩ = some (.iface tyc pvc) := (by rw [hLr.cell]; rfl);have d1 : w1.cell? ⟨r, 1, none⟩ = some (.iface tyi pvi) := (by rw [hLr.cell]; rfl);have zr := hLr.lt;have HB1 := Lib.hid hb1;clear hb1 hLp hLb hLr;cases hh : hitIdx i with
    |true =>
     obtain ⟨ty1, pv1, rfl⟩ := hyes hh;have HS := Lib.hid (show stFilterMap2 t = t from by unfold stFilterMap2; rw [if_pos HNM.out, HKX.out]; simp only; rw [if_neg (fun h => by rw [hh] at h; cases h.1)]);clear hno hyes hh
     (simp only []; go_at_K)
     go_wp2_with fail
     refine bodyPost_end (v := .tuple #[]) (by first | rfl | (simp [results, Try.results131, go_sem]; try rfl)) rfl ?_;rw [HS.out];exact Wd.same HP.out HB1.out trivial _
    |false =>
     obtain rfl := hno hh;clear hno hyes
     by_cases hik : i.kind = 16
     ·obtain ⟨bp, f3, pi, qi, vsi, fsi, hv, hxi, hbi, hksi, hli, rfl⟩ := HII.out.fields (n := 1) (by rw [hik]; rfl);obtain ⟨q1, hki⟩ : ∃ q1, i.kids = [q1] := by
       match hq : i.kids, hli with
       |[y], _ => exact ⟨y, rfl⟩
      rw [hki] at hksi;obtain ⟨vq, fq, rfl, rfl, hiq⟩ : ∃ vq fq, vsi = [vq] ∧ fsi = [fq] ∧ IsA w q1 vq fq := by
       cases hksi with | cons h hl => cases hl; exact ⟨_, _, rfl, rfl, h⟩
      rw [show acells i f3 pi qi [vq] .nilIface (.pointer none) = [.int .i64 pi, .int .i64 qi, vq] by simp [acells, headC, tailC, named, hik], show sty i.kind = 104 by rw [hik]; rfl] at hbi;rw [show nv i.kind bp = .iface 103 (.pointer (some ⟨bp, 0, none⟩)) by rw [hik]; rfl] at hv;cases hv;have hLi := hbi.below HB1.out hbi.lt;have l0 := hLi.cell; have zl := hLi.lt
      by_cases hck : c.kind = 15
      ·obtain ⟨bc, ffc, pc, qc, ac, cc, vsc, fsc, rbc, msc, gsc, thc, ftc, hv, hxc, hbc, hrc, hksc, h1c, hmc, htc, rfl⟩ := HIC.out.b15 hck;cases hv;have hLc := hbc.below HB1.out hbc.lt;have m0 := hLc.cell; have zm := hLc.lt
       by_cases hcn : (c.name == [102, 105, 108, 116, 101, 114]) = true
       ·by_cases hcm : c.map = []
        ·obtain rfl : msc = [] := (by rw [hcm] at hmc; cases hmc; rfl);have HX := Lib.hid (show ∀ w1 bn, Below w.heap.size w w1 → Lb w1 bn [.int .i64 0, .int .i64 0, .string (str (nm "filter")), .slice ac c.kids.length cc, .bool false, vq, .pointer none] 102 → IsA w1 (mkM c q1) (.iface 100 (.pointer (some ⟨bn, 0, none⟩))) ((bn :: rbc) ++ fsc.flatten ++ (fq ++ [])) from fun w1 bn hb1 hL1 => IsA.ofMap hxc hrc hksc hiq hb1 hL1);have HS := Lib.hid (show stFilterMap2 t = mkM c q1 from by unfold stFilterMap2; rw [if_pos HNM.out, HKX.out]; simp only; rw [if_pos ⟨hh, hik, hck, by simpa (decide := true) [nm] using hcn, by rw [hcm]; rfl⟩, hki]);have hP1 := Pos.below' HP.out HB1.out;have HP1 := Lib.hid hP1;have FR := Lib.hid (fresh hP1 (L := rbc ++ fsc.flatten ++ (fq ++ [])) ((show (rbc ++ fsc.flatten ++ (fq ++ [])).Sublist ([(bc :: rbc) ++ fsc.flatten ++ (gsc.flatten ++ ftc), [bp] ++ [fq].flatten ++ []].flatten) from by simpa using (sub_args (b := bc) (rb := rbc) (F := fsc.flatten) (C := gsc.flatten ++ ftc)).append (List.sublist_cons_self bp fq)).trans ((List.sublist_append_right _ _).trans (List.sublist_append_left _ _))))
         obtain ⟨tyq, pvq, rfl⟩ : ∃ ty pv, vq = .iface ty pv := (by obtain ⟨x, hx⟩ := hiq.ptr; exact ⟨_, _, hx⟩);have s3 := m0 3; have s5 := l0 2;have u0 := m0 2; have u1 := m0 5;simp only [List.getElem?_cons_succ, List.getElem?_cons_zero, List.headD_nil] at s3 s5 u0 u1;clear hxi hbi hksi hiq hLi hxc hbc hrc hksc h1c hmc htc hLc hP1 hh hik hck hli m0 l0 hcm hki
         (simp only []; go_at_K)
         go_upto_region 6 with (fail)
         clear r0 n0 d0 d1 u0 u1;refine AnyL.start (S := fun w' => w'.cell? ⟨bc, 3, none⟩ = some (.slice ac c.kids.length cc) ∧ w'.cell? ⟨bp, 2, none⟩ = some (.iface tyq pvq)) (late := fun j => [12].contains j) (by kernel_rfl) ?_;have hs0 : (fun w' : World => w'.cell? ⟨bc, 3, none⟩ = some (.slice ac c.kids.length cc) ∧ w'.cell? ⟨bp, 2, none⟩ = some (.iface tyq pvq)) w1.drew := ⟨s3, s5⟩;refine AnyL.tk [12] [12] 0 ?_ rfl (by kernel_rfl) (by rfl) ?_ hs0 (AnyL.tk [12] [2, 3, 4, 9, 10, 11, 12] 1 ?_ rfl (by kernel_rfl) (by rfl) ?_ hs0 (AnyL.tk [12] [3, 4, 9, 10, 11, 12] 2 ?_ rfl (by kernel_rfl) (by rfl) ?_ hs0 (AnyL.tk [12] [4, 9, 10, 11, 12] 3 ?_ rfl (by kernel_rfl) (by rfl) ?_ hs0 (AnyL.tk [12] [9, 10, 11, 12] 4 ?_ rfl (by kernel_rfl) (by rfl) ?_ hs0 (AnyL.tk [12] [6, 7, 8, 9, 10, 11, 12] 5 ?_ rfl (by kernel_rfl) (by rfl) ?_ hs0 (AnyL.tk [12] [7, 8, 9, 10, 11, 12] 6 ?_ rfl (by kernel_rfl) (by rfl) ?_ hs0 (AnyL.tk [12] [8, 9, 10, 11, 12] 7 ?_ rfl (by kernel_rfl) (by rfl) ?_ hs0 (AnyL.tk [12] [9, 10, 11, 12] 8 ?_ rfl (by kernel_rfl) (by rfl) ?_ hs0 (AnyL.tk [12] [10, 11, 12] 9 ?_ rfl (by kernel_rfl) (by rfl) ?_ hs0 ?_)))))))))
         iterate 10
          rotate_left
          ·intro w' hw'
           (try simp only [Act.put, sb0, sb1, sb2])
           (try dsimp only at hw')
           obtain ⟨q0, q1⟩ := hw';go_simp
           try (with_reducible rfl)
         try simp only [Act.put, sb0, sb1, sb2]
         have hBn : Below w1.heap.size w1 (w1.drew.alloc (.cells ([.int .i64 0, .int .i64 0, .string (str (nm "filter")), .slice ac c.kids.length cc, .bool false, .iface tyq pvq, .pointer none]).toArray 102)) := ((Below.refl w1.heap.size w1).drew).alloc (Nat.le_refl _) _;have hs1 : (fun w' : World => w'.cell? ⟨bc, 3, none⟩ = some (.slice ac c.kids.length cc) ∧ w'.cell? ⟨bp, 2, none⟩ = some (.iface tyq pvq)) (w1.drew.alloc (.cells ([.int .i64 0, .int .i64 0, .string (str (nm "filter")), .slice ac c.kids.length cc, .bool false, .iface tyq pvq, .pointer none]).toArray 102)) := ⟨by
          rw [World.cell?_of_block (w := w1.drew) (a := ⟨bc, 3, none⟩) (heap_alloc_old w1.drew _ zm)]; exact hs0.1, by
          rw [World.cell?_of_block (w := w1.drew) (a := ⟨bp, 2, none⟩) (heap_alloc_old w1.drew _ zl)]; exact hs0.2⟩
         refine AnyL.one 10 (by kernel_rfl) rfl fun K hK => ?_;go_simp;refine hK.out _ _ (fun _ => hs1) ?_;clear hK K
         try simp only [Act.put, sb0, sb1, sb2]
         refine AnyL.one 11 (by kernel_rfl) rfl fun K hK => ?_;go_simp;refine hK.out _ _ (fun _ => hs1) ?_;clear hK K
         try simp only [Act.put, sb0, sb1, sb2]
         refine AnyL.one 12 (by kernel_rfl) rfl fun K hK => ?_;go_simp;apply Calls.mono
         ·refine patch108 pb po cs Tp _ _ t (mkM c q1) _ ((w1.heap.size :: rbc) ++ fsc.flatten ++ (fq ++ [])) _ (HP1.out.lb.below hBn HP1.out.lb.lt) HP1.out.get (HP1.out.tree.same fun y hy => hBn.block y (HP1.out.tree.lt y hy)) HP1.out.nd (HX.out _ _ (HB1.out.trans (hBn.mono HB1.out.size)) (Lb.new' _ _ _ (by simp))) ?_ ?_ HP1.out.out
          ·simpa using FR.out.1
          ·simpa using FR.out.2.1
         rintro e2 w2 h2;obtain ⟨x2, rfl⟩ := h2.1;have H2 := Lib.hid h2;clear h2
         (try go_wp2_with fail)
         refine hK.out _ _ (fun h => by cases h) ?_;clear hK K
         try simp only [Act.put, sb0, sb1, sb2]
         refine AnyL.done (by kernel_rfl) ?_ _;go_wp21;refine bodyPost_end (v := .tuple #[]) (by first | rfl | (simp [results, Try.results131, go_sem]; try rfl)) rfl ?_;rw [HS.out];exact Wd.patched HP.out (HB1.out.trans (hBn.mono HB1.out.size)) H2.out (fun y hy => (FR.out.2.2 y (by simpa using hy)).imp id fun h => Nat.le_trans HB1.out.size h) (by simpa using FR.out.1) trivial _
        ·obtain ⟨m1, mr, hmm⟩ : ∃ m1 mr, c.map = m1 :: mr := by
          match hq : c.map, hcm with
          |[], h => exact absurd rfl h
          |y :: z, _ => exact ⟨y, z, rfl⟩
         obtain ⟨vm, msr, rfl, him⟩ : ∃ vm msr, msc = vm :: msr ∧ ∃ gm, IsA w m1 vm gm := by
          rw [hmm] at hmc;cases hmc with | cons h hl => exact ⟨_, _, rfl, _, h⟩
         obtain ⟨gm, him⟩ := him;obtain ⟨bm, rfl⟩ := him.ptr;have HS := Lib.hid (show stFilterMap2 t = t from by unfold stFilterMap2; rw [if_pos HNM.out, HKX.out]; simp only; rw [if_neg (fun h => hcm (by simpa using h.2.2.2.2))]);have u0 := m0 2; have u1 := m0 5;simp only [List.getElem?_cons_succ, List.getElem?_cons_zero, List.headD_cons] at u0 u1;clear hxi hbi hksi hiq hLi hxc hbc hrc hksc h1c hmc htc hLc hh hik hck hli m0 l0 hcm hki hmm him
         (simp only []; go_at_K)
         go_wp2_with fail
         refine bodyPost_end (v := .tuple #[]) (by first | rfl | (simp [results, Try.results131, go_sem]; try rfl)) rfl ?_;rw [HS.out];exact Wd.same HP.out HB1.out trivial _
       ·have HS := Lib.hid (show stFilterMap2 t = t from by unfold stFilterMap2; rw [if_pos HNM.out, HKX.out]; simp only; rw [if_neg (fun h => hcn (by simpa (decide := true) [nm] using h.2.2.2.1))]);have u0 := m0 2;simp only [List.getElem?_cons_succ, List.getElem?_cons_zero] at u0;clear hxi hbi hksi hiq hLi hxc hbc hrc hksc h1c hmc htc hLc hh hik hck hli m0 l0 hki
        (simp only []; go_at_K)
        go_wp2_with fail
        refine bodyPost_end (v := .tuple #[]) (by first | rfl | (simp [results, Try.results131, go_sem]; try rfl)) rfl ?_;rw [HS.out];exact Wd.same HP.out HB1.out trivial _
      ·obtain ⟨bx, hv⟩ := HIC.out.ptr;cases hv;have hpc : ¬ pty c.kind = 100 := fun h => hck ((pty_eq HIC.out.okk).1.1 h);have HS := Lib.hid (show stFilterMap2 t = t from by unfold stFilterMap2; rw [if_pos HNM.out, HKX.out]; simp only; rw [if_neg (fun h => hck h.2.2.1)]);clear hxi hbi hksi hiq hLi hh hik hck hli l0 hki
       (simp only []; go_at_K)
       go_wp2_with fail
       refine bodyPost_end (v := .tuple #[]) (by first | rfl | (simp [results, Try.results131, go_sem]; try rfl)) rfl ?_;rw [HS.out];exact Wd.same HP.out HB1.out trivial _
     ·obtain ⟨bx, hv⟩ := HII.out.ptr;cases hv;have hpi : ¬ pty i.kind = 103 := fun h => hik ((pty_eq HII.out.okk).2.2.2.2.1.1 h);have HS := Lib.hid (show stFilterMap2 t = t from by unfold stFilterMap2; rw [if_pos HNM.out, HKX.out]; simp only; rw [if_neg (fun h => hik h.2.1)]);clear hh hik
      (simp only []; go_at_K)
      go_wp2_with fail
      refine bodyPost_end (v := .tuple #[]) (by first | rfl | (simp [results, Try.results131, go_sem]; try rfl)) rfl ?_;rw [HS.out];exact Wd.same HP.out HB1.out trivial _
   ·have HS := Lib.hid (show stFilterMap2 t = t from by unfold stFilterMap2; (repeat' split) <;> simp_all (decide := true) [nm]);clear hP hx hb hr hks h1 hm ht;go_enter Try.func131, Try.ntmps131
    go_wp2_with fail
    refine bodyPost_end (v := .tuple #[]) (by first | rfl | (simp [results, Try.results131, go_sem]; try rfl)) rfl ?_;rw [HS.out];exact Wd.same HP.out (Below.refl _ _) trivial _
  ·have HS := Lib.hid (show stFilterMap2 t = t from by unfold stFilterMap2; (repeat' split) <;> simp_all (decide := true) [nm]);clear hP hx hb hr hks h1 hm ht;go_enter Try.func131, Try.ntmps131
   go_wp2_with fail
   refine bodyPost_end (v := .tuple #[]) (by first | rfl | (simp [results, Try.results131, go_sem]; try rfl)) rfl ?_;rw [HS.out];exact Wd.same HP.out (Below.refl _ _) trivial _
 ·obtain ⟨b, rfl⟩ := hP.tree.ptr;have hpu : ¬ pty t.kind = 100 := fun h => hk5 ((pty_eq hP.tree.okk).1.1 h);have HS := Lib.hid (show stFilterMap2 t = t from by unfold stFilterMap2; (repeat' split) <;> simp_all (decide := true) [nm]);clear hP hk5;go_enter Try.func131, Try.ntmps131
  go_wp2_with fail
  refine bodyPost_end (v := .tuple #[]) (by first | rfl | (simp [results, Try.results131, go_sem]; try rfl)) rfl ?_;rw [HS.out];exact Wd.same HP.out (Below.refl _ _) trivial _
end
section
attribute [local go_sem ↓] Go.wp_at_zero Go.wp_at_succ
open Go.RowKit
set_option maxHeartbeats 1600000 in
set_option maxRecDepth 100000 in
theorem zz_filterMap (t : Tr) : ZzOk 41 stFilterMap2 t := by
 intro v fp pb po cs Tp w hP;have HP := Lib.hid hP;clear hP;go_enter Try.func41, Try.ntmps41
 go_wp2_with fail
 apply Calls.mono
 ·exact walk_tree (door_filterMap w.heap.size) (visit_filterMap w.heap.size) (fun k hk => ⟨by unfold stFilterMap2; rw [if_neg (by omega)], rfl⟩) (fun _ => True) (fun _ _ _ _ => trivial) (fun _ _ => trivial) t trivial _ _ _ _ _ _ _ false (HP.out.below (by go_grown)) trivial
 rintro e1 w1 h1;obtain ⟨x1, rfl⟩ := h1.1;have H1 := Lib.hid h1;clear h1;go_wp21;refine bodyPost_end (v := .tuple #[]) (by first | rfl | (simp [results, Try.results41, go_sem]; try rfl)) rfl ?_;have g := Wd.after (w := w) (turn_below (by go_grown)) (fun b hb => .inl hb) H1.out;exact ⟨⟨_, rfl⟩, g.2⟩
set_option maxHeartbeats 3200000 in
set_option maxRecDepth 100000 in
theorem impl_filterMap (t : Tr) (hz : ZzOk 41 stFilterMap2 (nrm t)) : ImplOk 22 stFilterMap2 t := by
 intro hW k f a c a' c' p q w hk ht;have HW := Lib.hid hW; have HK := Lib.hid hk; have HT := Lib.hid ht; have HZ := Lib.hid hz;clear hW hk ht hz;go_enter Try.func22, Try.ntmps22
 go_wp2_with fail
 apply Calls.mono
 ·exact made_ok t HW.out k f a c a' c' p q _ (HT.out.ext (.of (by go_grown)) (Nat.le_refl _))
 rintro e1 w1 ⟨ty, pv, fp, rfl, hb1, hi1, hn1, hg1⟩;have HB1 := Lib.hid (show Below w.heap.size w w1 from Below.trans (by go_grown) (hb1.mono (by simp; omega)));have HR1 := Lib.hid ((Lb.new' (w.alloc (.cells (tcells t f a c a' c' p q).toArray 25)) ztcells 25 (n := w.heap.size + 1) (by simp)).below hb1 (by simp));have hg2 : ∀ y ∈ fp, w.heap.size + 1 < y := fun y hy => by have := hg1 y hy; simp at this; omega
 have HG := Lib.hid hg2; have HI1 := Lib.hid hi1; have HN1 := Lib.hid hn1;have zr := HR1.out.lt;clear hb1 hi1 hn1 hg1 hg2
 go_wp2_with fail
 apply Calls.mono
 ·exact HZ.out (.iface ty pv) fp w1.heap.size 0 [.iface ty pv] 45 _ ⟨Lb.new' _ _ _ rfl, rfl, HI1.out.same fun y hy => heap_alloc_old w1 _ (HI1.out.lt y hy), HN1.out, fun h => by have := HI1.out.lt _ h; omega, fun b hb => hb.elim⟩
 rintro e2 w2 ⟨⟨x2, rfl⟩, v2, fp2, hT2, hL2, hi2, hn2, hf2, -⟩;have hR2 : Lb w2 (w.heap.size + 1) ztcells 25 := (hT2.block _ (by simp; omega) (by omega) (fun h => by have := HG.out _ h; omega) id).trans (HR1.out.alloc _);have HB2 := Lib.hid (show Below w.heap.size w w2 from (HB1.out.alloc HB1.out.size (.cells #[.iface ty pv] 45)).trans ⟨hT2.os, hT2.tape, hT2.output, hT2.size, fun b hb => hT2.block b (by have := HB1.out.size; simp; omega) (by have := HB1.out.size; omega) (fun h => by have := HG.out _ h; omega) id⟩);obtain ⟨ty2, pv2, rfl⟩ := hi2.iface;have HR2 := Lib.hid hR2; have HI2 := Lib.hid hi2;simp only [List.set_cons_zero] at hL2;have l0 := hL2.cell; have lz := hL2.lt;clear hT2 hL2 hi2 hR2
 go_wp2_with fail
 apply Calls.mono
 ·refine taken_ok _ _ fp2 _ (fun b => k b ∨ b = w.heap.size + 1) ?_ HI2.out;rintro b (hb | rfl)
  ·exact Nat.lt_of_lt_of_le (HK.out b hb) HB2.out.size
  ·exact HR2.out.lt
 rintro e3 w3 ⟨f3, a3, c3, a4, c4, p3, q3, rfl, hb3, hT3⟩;have hR3 := HR2.out.below hb3 HR2.out.lt;have c0 := hR3.cell; have c1 := hR3.frozen; have zc := hR3.lt;unfold ztcells at c0;have HB3 := Lib.hid (HB2.out.trans (hb3.mono HB2.out.size)); have HT3 := Lib.hid hT3;clear hb3 hT3 hR3 l0 lz;go_wp21;refine bodyPost_ret (v := ta (T stFilterMap2 (nrm t)) f3 a3 c3 a4 c4 p3 q3) (by simp [results, Try.results22, go_sem, c0, c1, zc]; try rfl) rfl ?_;refine ⟨f3, a3, c3, a4, c4, p3, q3, rfl, ?_, ?_⟩
 ·have hE := (Ext.refl (fun _ => False) w.heap.size w3).s12 (b := w.heap.size + 1) (.inr (by omega)) 0 (.int .i64 (T stFilterMap2 (nrm t)).kind) (.string (str (T stFilterMap2 (nrm t)).name)) (.int .i64 (T stFilterMap2 (nrm t)).int) (.float .f64 f3) (.bool (T stFilterMap2 (nrm t)).flag) (.bool (T stFilterMap2 (nrm t)).method) (.bool (T stFilterMap2 (nrm t)).limited) (.int .i64 (T stFilterMap2 (nrm t)).limit) (.slice a3 (T stFilterMap2 (nrm t)).kids.length c3) (.slice a4 (T stFilterMap2 (nrm t)).map.length c4) (.int .i64 p3) (.int .i64 q3);exact HB3.out.trans ⟨hE.os, hE.tape, hE.output, hE.size, fun b hb => hE.block b hb id⟩
 ·exact (HT3.out.ext ((Ext.refl (fun b => k b ∨ b = w.heap.size + 1) _ _).s12 (.inl (.inr rfl)) 0 _ _ _ _ _ _ _ _ _ _ _ _) (Nat.le_refl _)).other fun b hb => .inl (.inl hb)
set_option maxHeartbeats 6400000 in
set_option maxRecDepth 100000 in
theorem law_filterMap (t : Tr) (st : Tr → Tr) (hi : ImplOk 22 st t) (names : List (Nm × Vl)) (hq : WholeT t → Asks false t (T st (nrm t)) names ∧ fine t ∧ fine (T st (nrm t))) (k : Nat → Prop) (an : Option Addr) (cn : Nat) (ncs : List Value) (f : Nat) (a : Option Addr) (c : Nat) (a' : Option Addr) (c' : Nat) (p q : Int) (w : World)
 (hk : ∀ b, k b → b < w.heap.size) (hr : Row w k an ncs) (hs : IsRn w k names ncs) (ht : IsT w k t (tcells t f a c a' c' p q)) :
 Calls Try.prog 8 #[ta t f a c a' c' p q, .slice an names.length cn] w (Yes w) := by
 have HI := Lib.hid hi; have HQ := Lib.hid hq; have HK := Lib.hid hk; have HR := Lib.hid hr; have HS := Lib.hid hs; have HT := Lib.hid ht;clear hi hq hk hr hs ht
 by_cases hn : (2147483647 : Int) < (names.length : Int)
 ·have d1 : decide ((2147483647 : Int) < (names.length : Int)) = true := decide_eq_true hn;go_enter Try.func8, Try.ntmps8
  go_wp2_with fail
  apply Calls.mono
  ·exact fits_any t f a c a' c' p q _
  rintro e1 w1 ⟨b1, rfl, hb1⟩;have HB1 := Lib.hid (show Below w.heap.size w w1 from Below.trans (by go_grown) (hb1.mono (by simp)));clear hb1;cases b1 <;> (go_wp2_with fail; go_ret; exact ⟨rfl, HB1.out⟩)
 have d1 : decide ((2147483647 : Int) < (names.length : Int)) = false := decide_eq_false hn;have hnm : names.length ≤ most := by unfold most; omega
 have HNM := Lib.hid hnm;clear hn hnm;go_enter Try.func8, Try.ntmps8
 go_wp2_with fail
 apply Calls.mono
 ·exact fits_any t f a c a' c' p q _
 rintro e1 w1 ⟨b1, rfl, hb1⟩;have HB1 := Lib.hid (show Below w.heap.size w w1 from Below.trans (by go_grown) (hb1.mono (by simp)));have L1 := (Lb.new' w (tcells t f a c a' c' p q) 25 rfl).below hb1 (by simp);have HL1 := Lib.hid L1;clear hb1 L1;cases b1 with
 |false =>
  go_wp2_with fail
  go_ret;exact ⟨rfl, HB1.out⟩
 |true =>
 go_wp2_with fail
 refine AnyL.start (S := fun w' => Lb w' w.heap.size (tcells t f a c a' c' p q) 25) (late := fun j => [].contains j) (by kernel_rfl) ?_;have hs0 := HL1.out.drew; have hB0 := HB1.out.drew;refine AnyL.tk [] [] 0 ?_ rfl (by kernel_rfl) (by rfl) ?_ hs0 ?_;rotate_left
 ·intro w' hw';have r0 := (show Lb _ _ _ _ from hw').cell; have z0 := (show Lb _ _ _ _ from hw').lt;unfold tcells at r0;go_simp
  try (with_reducible rfl)
 try simp only [Act.put, sb0, sb1, sb2]
 refine AnyL.one 1 (by kernel_rfl) rfl fun K hK => ?_;go_simp;apply Calls.mono
 ·exact Whole_any t k f a c a' c' p q _ (fun b hb => Nat.lt_of_lt_of_le (HK.out b hb) hB0.size) (HT.out.ext (.of hB0) (Nat.le_refl _))
 rintro e2 w2 ⟨b2, rfl, hb2, hw2⟩;have hs2 := hs0.below hb2 hs0.lt; have hB2 := hB0.trans (hb2.mono hB0.size)
 (try go_wp2_with fail)
 refine hK.out _ _ (fun _ => hs2) ?_;clear hK K
 try simp only [Act.put, sb0, sb1, sb2]
 cases b2 with
 |false =>
  clear hw2;refine AnyL.tk [] [] 2 ?_ rfl (by kernel_rfl) (by rfl) ?_ hs2 (AnyL.tk [] [] 3 ?_ rfl (by kernel_rfl) (by rfl) ?_ hs2 ?_)
  iterate 2
   rotate_left
   ·intro w' hw'; (try simp only [Act.put, sb0, sb1, sb2]);have r0 := (show Lb _ _ _ _ from hw').cell; have z0 := (show Lb _ _ _ _ from hw').lt;unfold tcells at r0;go_simp
    try (with_reducible rfl)
  try simp only [Act.put, sb0, sb1, sb2]
  refine AnyL.tk0 [] [] 4 rfl (by kernel_rfl) (by rfl) hs2 ?_
  try simp only [Act.put, sb0, sb1, sb2]
  refine AnyL.tk0 [] [] 5 rfl (by kernel_rfl) (by rfl) hs2 ?_
  try simp only [Act.put, sb0, sb1, sb2]
  refine AnyL.tk0 [] [] 8 rfl (by kernel_rfl) (by rfl) hs2 ?_
  try simp only [Act.put, sb0, sb1, sb2]
  refine AnyL.one 6 (by kernel_rfl) rfl fun K hK => ?_;go_simp;refine hK.out _ _ (fun _ => hs2) ?_;clear hK K
  try simp only [Act.put, sb0, sb1, sb2]
  refine AnyL.one 7 (by kernel_rfl) rfl fun K hK => ?_;go_simp;refine hK.out _ _ (fun _ => hs2) ?_;clear hK K
  try simp only [Act.put, sb0, sb1, sb2]
  refine AnyL.one 9 (by kernel_rfl) rfl fun K hK => ?_;go_simp;refine hK.out _ _ (fun _ => hs2) ?_;clear hK K
  try simp only [Act.put, sb0, sb1, sb2]
  refine AnyL.one 10 (by kernel_rfl) rfl fun K hK => ?_;go_simp;refine hK.out _ _ (fun _ => hs2) ?_;clear hK K
  try simp only [Act.put, sb0, sb1, sb2]
  refine AnyL.one 11 (by kernel_rfl) rfl fun K hK => ?_;go_simp;refine hK.out _ _ (fun _ => hs2) ?_;clear hK K
  try simp only [Act.put, sb0, sb1, sb2]
  refine AnyL.done (by kernel_rfl) ?_ _;clear hs0 hB0 hs2;have HB2 := Lib.hid hB2;clear hB2 hb2;go_wp21;go_ret;exact ⟨rfl, HB2.out⟩
 |true =>
  have hWt := hw2 rfl;have HWt := Lib.hid hWt;clear hw2 hWt;refine AnyL.tk [] [] 2 ?_ rfl (by kernel_rfl) (by rfl) ?_ hs2 (AnyL.tk [] [] 3 ?_ rfl (by kernel_rfl) (by rfl) ?_ hs2 ?_)
  iterate 2
   rotate_left
   ·intro w' hw'; (try simp only [Act.put, sb0, sb1, sb2]);have r0 := (show Lb _ _ _ _ from hw').cell; have z0 := (show Lb _ _ _ _ from hw').lt;unfold tcells at r0;go_simp
    try (with_reducible rfl)
  try simp only [Act.put, sb0, sb1, sb2]
  refine AnyL.tk [] [] 4 ?_ rfl (by kernel_rfl) (by rfl) ?_ hs2 (AnyL.tk [] [] 5 ?_ rfl (by kernel_rfl) (by rfl) ?_ hs2 (AnyL.tk [] [] 8 ?_ rfl (by kernel_rfl) (by rfl) ?_ hs2 ?_))
  iterate 3
   rotate_left
   ·intro w' hw'; (try simp only [Act.put, sb0, sb1, sb2]);have r0 := (show Lb _ _ _ _ from hw').cell; have z0 := (show Lb _ _ _ _ from hw').lt;unfold tcells at r0
    (go_simp)
    try (with_reducible rfl)
  try simp only [Act.put, sb0, sb1, sb2]
  refine AnyL.one 6 (by kernel_rfl) rfl fun K hK => ?_;go_simp;apply Calls.mono
  ·exact copy_ok t HWt.out k f a c a' c' p q _ (fun b hb => Nat.lt_of_lt_of_le (HK.out b hb) hB2.size) (HT.out.ext (.of hB2) (Nat.le_refl _))
  rintro e3 w3 ⟨f3, a3, c3, a3', c3', p3, q3, rfl, hb3, hT3⟩;have hs3 := hs2.below hb3 hs2.lt; have hB3 := hB2.trans (hb3.mono hB2.size)
  (try go_wp2_with fail)
  refine hK.out _ _ (fun _ => hs3) ?_;clear hK K
  try simp only [Act.put, sb0, sb1, sb2]
  refine AnyL.one 7 (by kernel_rfl) rfl fun K hK => ?_;go_simp;apply Calls.mono
  ·exact HI.out HWt.out k f3 a3 c3 a3' c3' p3 q3 _ (fun b hb => Nat.lt_of_lt_of_le (HK.out b hb) hB3.size) hT3
  rintro e4 w4 ⟨f4, a4, c4, a4', c4', p4, q4, rfl, hb4, hT4⟩;have hs4 := hs3.below hb4 hs3.lt; have hB4 := hB3.trans (hb4.mono hB3.size)
  (try go_wp2_with fail)
  refine hK.out _ _ (fun _ => hs4) ?_;clear hK K
  try simp only [Act.put, sb0, sb1, sb2]
  refine AnyL.one 9 (by kernel_rfl) rfl fun K hK => ?_;go_simp;apply Calls.mono
  ·exact means_any t (T st (nrm t)) (HQ.out HWt.out).2.1 (HQ.out HWt.out).2.2 k names an cn ncs _ _ _ _ _ _ _ _ _ _ _ _ _ _ _ HNM.out (fun b hb => Nat.lt_of_lt_of_le (HK.out b hb) hB4.size) (HR.out.ext (.of hB4) (Nat.le_refl _)) (HS.out.ext (.of hB4) (Nat.le_refl _)) (HT.out.ext (.of hB4) (Nat.le_refl _)) hT4 (HQ.out HWt.out).1
  rintro e5 w5 ⟨rfl, hb5⟩;have hs5 := hs4.below hb5 hs4.lt; have hB5 := hB4.trans (hb5.mono hB4.size)
  (try go_wp2_with fail)
  refine hK.out _ _ (fun _ => hs5) ?_;clear hK K
  try simp only [Act.put, sb0, sb1, sb2]
  refine AnyL.one 10 (by kernel_rfl) rfl fun K hK => ?_;go_simp;refine hK.out _ _ (fun _ => hs5) ?_;clear hK K
  try simp only [Act.put, sb0, sb1, sb2]
  refine AnyL.one 11 (by kernel_rfl) rfl fun K hK => ?_;go_simp;refine hK.out _ _ (fun _ => hs5) ?_;clear hK K
  try simp only [Act.put, sb0, sb1, sb2]
  refine AnyL.done (by kernel_rfl) ?_ _;have HB5 := Lib.hid hB5;clear hs0 hB0 hs2 hs3 hs4 hs5 hB2 hB3 hB4 hB5 hb2 hb3 hb4 hb5 hT3 hT4;go_wp21;go_ret;exact ⟨rfl, HB5.out⟩
theorem fine_mkM {f q : Tr} (h : fines f.kids) (hq : fine q) : fine (mkM f q) := by
 rw [fine_eq];refine ⟨.inr ⟨rfl, q, rfl⟩, h, ?_⟩;show fines [q];rw [fines, fines]; exact ⟨hq, trivial⟩
theorem asks_filterMap (names : List (Nm × Vl)) (t : Tr) (hW : WholeT t) : Asks false t (T stFilterMap2 (nrm t)) names ∧ fine t ∧ fine (T stFilterMap2 (nrm t)) := by
 refine asks_of (fun t h => ?_) (fun t h => ?_) names t hW
 ·unfold stFilterMap2
  split
  ·split
   ·rename_i f p hk
    split
    ·split
     ·rename_i q hq
      exact fine_mkM (fine_kids (fine_kid h (x := f) (by rw [hk]; simp))) (fine_kid (fine_kid h (x := p) (by rw [hk]; simp)) (by rw [hq]; simp))
     ·exact h
    ·exact h
   ·exact h
  ·exact h
 ·rw [T_eq]; exact filterMap2_ok _
end
end Go.Proofs.Ytafhhdimjkgihaa.Mn
