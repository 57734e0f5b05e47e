/- SumMap: what belongs to this law alone: part 1. -/
import Derived.Test.YtafhhdimjkgihaaM15
import Derived.Test.YtafhhdimjkgihaaM40
import Derived.Test.YtafhhdimjkgihaaM42
set_option linter.unusedSimpArgs false
set_option linter.unusedVariables false
namespace Go.Proofs.Ytafhhdimjkgihaa.Mn
section
attribute [local go_sem ↓] Go.wp_at_zero Go.wp_at_succ
open Go.RowKit
theorem IsA.ofArgs {w w1 : World} {f : Tr} {vf : Value} {ff : List Nat} {bf ff2 : Nat} {pf qf : Int} {af : Option Addr} {cf : Nat} {vs : List Value} {fs : List (List Nat)} {rb : List Nat} (hx : Hx f ff2 pf qf) (hr : Rw w af vs rb) (hk : IsAs w f.kids vs fs) (name : Nm) (hn : name.length ≤ 140737488355328) (th : Bool) (hb : Below w.heap.size w w1) {bn : Nat}
 (hL : Lb w1 bn [.int .i64 0, .int .i64 0, .string (str name), .slice af f.kids.length cf, .bool th, .nilIface, .pointer none] 102) : IsA w1 { mkB name f.kids with flag := th } (.iface 100 (.pointer (some ⟨bn, 0, none⟩))) ((bn :: rb) ++ fs.flatten ++ []) := by
 have z : I64 0 := by unfold I64; omega
 have := IsA.list (w := w1) { mkB name f.kids with flag := th } bn 0 0 0 af cf vs fs rb [] [] (.pointer none) [] rfl ⟨rfl, cn_zero, z, z, z, z, hn, hx.hk⟩ hL (hr.same fun y hy => hb.block y (hr.lt y hy)) (hk.same fun y hy => hb.block y (hk.lt y hy)) ⟨by simp [mkB], fun h21 => by simp [mkB] at h21⟩ .nil (.inl ⟨rfl, rfl, rfl⟩)
 exact this
theorem door_filterLen (b : Nat) : Door 128 (.pointer (some ⟨b, 0, none⟩)) 130 := ⟨fun n w => by kernel_rfl, fun args w => by kernel_rfl⟩
set_option maxHeartbeats 6400000 in
set_option maxRecDepth 100000 in
theorem visit_filterLen (rb0 : Nat) : VisOk 130 (.pointer (some ⟨rb0, 0, none⟩)) stFilterLen (fun _ => false) (fun _ => False) (fun _ _ => True) (fun _ => True) := by
 intro t _ v fp pb po cs Tp w s hP _;have r0 : w.cell? ⟨pb, po, none⟩ = some v := by rw [hP.lb.cell]; exact hP.get
 have g0 := hP.lb.frozen; have z0 := hP.lb.lt;have HP := Lib.hid hP
 by_cases hk : t.kind = 15
 ·obtain ⟨b, f, p, q, a, c, vs, fs, rb, ms, gs, th, ft, rfl, hx, hb, hr, hks, h1, hm, ht, rfl⟩ := hP.tree.b15 hk;have n0 := hb.cell; have zn := hb.lt
  by_cases hnm : (t.name == [108, 101, 110]) = true
  ·by_cases hl : t.kids.length = 1
   ·obtain ⟨x, hkx⟩ : ∃ x, t.kids = [x] := by
     match hq : t.kids, hl with
     |[y], _ => exact ⟨y, rfl⟩
    rw [hkx] at hks;obtain ⟨vx, fx, rfl, rfl, hix⟩ : ∃ vx fx, vs = [vx] ∧ fs = [fx] ∧ IsA w x vx fx := by
     cases hks with | cons h hl => cases hl; exact ⟨_, _, rfl, rfl, h⟩
    obtain ⟨r, sp, R, rfl, rfl, hr2⟩ : ∃ r sp R, a = some ⟨r, 0, none⟩ ∧ rb = [r] ∧ Lb w r ([vx] ++ sp) R := by
     rcases hr with ⟨h, _⟩ | h
     ·cases h
     ·exact h
    have d0 : w.cell? ⟨r, 0, none⟩ = some vx := (by rw [hr2.cell]; rfl);have zr := hr2.lt
    by_cases hxk : x.kind = 15
    ·obtain ⟨bx, ffx, px, qx, ax, cx, vsx, fsx, rbx, msx, gsx, thx, ftx, rfl, hxx, hbx, hrx, hksx, h1x, hmx, htx, rfl⟩ := hix.b15 hxk;have m0 := hbx.cell; have zm := hbx.lt
     by_cases hnx : (x.name == [102, 105, 108, 116, 101, 114]) = true
     ·by_cases hlx : x.kids.length = 2
      ·have HS := Lib.hid (show stFilterLen t = mkB (nm "count") x.kids from by
        unfold stFilterLen;rw [if_pos ⟨hk, by rw [show nm "len" = [108, 101, 110] from by decide]; simpa using hnm⟩, hkx];simp only;rw [if_pos ⟨hxk, by rw [show nm "filter" = [102, 105, 108, 116, 101, 114] from by decide]; simpa using hnx, hlx⟩])
       rw [hlx] at m0;rw [hkx] at n0;have hxt := hxx;have HX := Lib.hid (show ∀ w1 bn, Below w.heap.size w w1 → Lb w1 bn [.int .i64 0, .int .i64 0, .string (str (nm "count")), .slice ax x.kids.length cx, .bool false, .nilIface, .pointer none] 102 → IsA w1 (mkB (nm "count") x.kids) (.iface 100 (.pointer (some ⟨bn, 0, none⟩))) ((bn :: rbx) ++ fsx.flatten ++ []) from fun w1 bn hb1 hL1 => IsA.ofArgs (vf := .nilIface) (ff := []) (bf := 0) hxx hrx hksx (nm "count") (by decide) false hb1 hL1);have HLX := Lib.hid hlx;have FR := Lib.hid (fresh hP (L := rbx ++ fsx.flatten) (sub_args.trans (sub_kid (i := 0) rfl)));clear hP hx hb hr hks h1 hm ht hr2 hbx hrx hksx h1x hmx htx hix hxx hxt hkx hl hk hxk hlx;go_enter Try.func130, Try.ntmps130
       go_wp2_with fail
       apply Calls.mono
       ·refine patch108 pb po cs Tp _ _ t (mkB (nm "count") x.kids) _ ((w.heap.size :: rbx) ++ fsx.flatten ++ []) _ (HP.out.lb.alloc _) HP.out.get (HP.out.tree.same fun y hy => heap_alloc_old w _ (HP.out.tree.lt y hy)) HP.out.nd (HX.out _ _ ((Below.refl _ _).alloc (Nat.le_refl _) _) (by rw [HLX.out]; exact Lb.new' _ _ _ rfl)) ?_ ?_ HP.out.out
        ·simpa using FR.out.1
        ·simpa using FR.out.2.1
       rintro e w2 h2;obtain ⟨x2, rfl⟩ := h2.1;have H2 := Lib.hid h2;clear h2;go_wp21;refine bodyPost_end (v := .tuple #[]) (by first | rfl | (simp [results, Try.results130, go_sem]; try rfl)) rfl ?_;rw [HS.out];exact Wd.patched HP.out ((Below.refl _ _).alloc (Nat.le_refl _) _) H2.out (by simpa using FR.out.2.2) (by simpa using FR.out.1) trivial _
      ·have HS := Lib.hid (show stFilterLen t = t from by unfold stFilterLen; (repeat' split) <;> simp_all (decide := true) [nm]);clear hP hx hb hr hks h1 hm ht hr2 hbx hrx hksx h1x hmx htx hix hxx;go_enter Try.func130, Try.ntmps130
       go_wp2_with fail
       refine bodyPost_end (v := .tuple #[]) (by first | rfl | (simp [results, Try.results130, go_sem]; try rfl)) rfl ?_;rw [HS.out];exact Wd.same HP.out (Below.refl _ _) trivial _
     ·have HS := Lib.hid (show stFilterLen t = t from by unfold stFilterLen; (repeat' split) <;> simp_all (decide := true) [nm]);clear hP hx hb hr hks h1 hm ht hr2 hbx hrx hksx h1x hmx htx hix hxx;go_enter Try.func130, Try.ntmps130
      go_wp2_with fail
      refine bodyPost_end (v := .tuple #[]) (by first | rfl | (simp [results, Try.results130, go_sem]; try rfl)) rfl ?_;rw [HS.out];exact Wd.same HP.out (Below.refl _ _) trivial _
    ·obtain ⟨bx, rfl⟩ := hix.ptr;have hpx : ¬ pty x.kind = 100 := fun h => hxk ((pty_eq hix.okk).1.1 h);have HS := Lib.hid (show stFilterLen t = t from by unfold stFilterLen; (repeat' split) <;> simp_all (decide := true) [nm]);clear hP hx hb hr hks h1 hm ht hr2 hix hxk;go_enter Try.func130, Try.ntmps130
     go_wp2_with fail
     refine bodyPost_end (v := .tuple #[]) (by first | rfl | (simp [results, Try.results130, go_sem]; try rfl)) rfl ?_;rw [HS.out];exact Wd.same HP.out (Below.refl _ _) trivial _
   ·have HS := Lib.hid (show stFilterLen t = t from by unfold stFilterLen; (repeat' split) <;> simp_all (decide := true) [nm]);clear hP hx hb hr hks h1 hm ht;go_enter Try.func130, Try.ntmps130
    go_wp2_with fail
    refine bodyPost_end (v := .tuple #[]) (by first | rfl | (simp [results, Try.results130, go_sem]; try rfl)) rfl ?_;rw [HS.out];exact Wd.same HP.out (Below.refl _ _) trivial _
  ·have HS := Lib.hid (show stFilterLen t = t from by unfold stFilterLen; (repeat' split) <;> simp_all (decide := true) [nm]);clear hP hx hb hr hks h1 hm ht;go_enter Try.func130, Try.ntmps130
   go_wp2_with fail
   refine bodyPost_end (v := .tuple #[]) (by first | rfl | (simp [results, Try.results130, go_sem]; try rfl)) rfl ?_;rw [HS.out];exact Wd.same HP.out (Below.refl _ _) trivial _
 ·obtain ⟨b, rfl⟩ := hP.tree.ptr;have hpt : ¬ pty t.kind = 100 := fun h => hk ((pty_eq hP.tree.okk).1.1 h);have HS := Lib.hid (show stFilterLen t = t from by unfold stFilterLen; (repeat' split) <;> simp_all (decide := true) [nm]);clear hP hk;go_enter Try.func130, Try.ntmps130
  go_wp2_with fail
  refine bodyPost_end (v := .tuple #[]) (by first | rfl | (simp [results, Try.results130, go_sem]; try rfl)) rfl ?_;rw [HS.out];exact Wd.same HP.out (Below.refl _ _) trivial _
end
section
attribute [local go_sem ↓] Go.wp_at_zero Go.wp_at_succ
open Go.RowKit
theorem sm_new {w : World} {pb po : Nat} {cs : List Value} {Tp : TypeId} {v : Value} {t : Tr} {fp : List Nat} {K : Nat → Prop} (hp : Pos w pb po cs Tp v t fp K) {k0 k1 : Tr} {v0 v1 : Value} {f0 f1 : List Nat} (hi : IsAs w [k0, k1] [v0, v1] [f0, f1]) :
 Lb ((w.alloc (.cells #[v0, v1] 45)).alloc (.cells #[.int .i64 0, .int .i64 0, .string (str (nm "sum")), .slice (some ⟨w.heap.size, 0, none⟩) 2 2, .bool false, .nilIface, .pointer none] 102)).drew pb cs Tp ∧
 IsA ((w.alloc (.cells #[v0, v1] 45)).alloc (.cells #[.int .i64 0, .int .i64 0, .string (str (nm "sum")), .slice (some ⟨w.heap.size, 0, none⟩) 2 2, .bool false, .nilIface, .pointer none] 102)).drew t v fp ∧
 IsA ((w.alloc (.cells #[v0, v1] 45)).alloc (.cells #[.int .i64 0, .int .i64 0, .string (str (nm "sum")), .slice (some ⟨w.heap.size, 0, none⟩) 2 2, .bool false, .nilIface, .pointer none] 102)).drew (mkB (nm "sum") [k0, k1]) (.iface 100 (.pointer (some ⟨w.heap.size + 1, 0, none⟩))) ((w.heap.size + 1) :: w.heap.size :: [f0, f1].flatten) ∧
 Below w.heap.size w ((w.alloc (.cells #[v0, v1] 45)).alloc (.cells #[.int .i64 0, .int .i64 0, .string (str (nm "sum")), .slice (some ⟨w.heap.size, 0, none⟩) 2 2, .bool false, .nilIface, .pointer none] 102)).drew := by
 have hB : Below w.heap.size w ((w.alloc (.cells #[v0, v1] 45)).alloc (.cells #[.int .i64 0, .int .i64 0, .string (str (nm "sum")), .slice (some ⟨w.heap.size, 0, none⟩) 2 2, .bool false, .nilIface, .pointer none] 102)).drew := (((Below.refl _ _).alloc (Nat.le_refl _) _).alloc (by simp) _).drew;have z : I64 0 := by unfold I64; omega
 refine ⟨hp.lb.below hB hp.lb.lt, hp.tree.same fun y hy => hB.block y (hp.tree.lt y hy), ?_, hB⟩;have hh := IsA.list (w := ((w.alloc (.cells #[v0, v1] 45)).alloc (.cells #[.int .i64 0, .int .i64 0, .string (str (nm "sum")), .slice (some ⟨w.heap.size, 0, none⟩) 2 2, .bool false, .nilIface, .pointer none] 102)).drew) (mkB (nm "sum") [k0, k1]) (w.heap.size + 1) 0 0 0 (some ⟨w.heap.size, 0, none⟩) 2 [v0, v1] [f0, f1] [w.heap.size] [] [] (.pointer none) [] rfl ⟨rfl, cn_zero, z, z, z, z, by show (nm "sum").length ≤ _; decide, by show 2 ≤ most; unfold most; omega⟩ (Lb.new' _ _ 102 (by simp)) (.inr ⟨w.heap.size, [], 45, rfl, rfl, (Lb.new' w [v0, v1] 45 rfl).alloc _⟩) (hi.same fun y hy => hB.block y (hi.lt y hy)) ⟨by simp [mkB], fun h21 => by simp [mkB] at h21⟩ .nil (.inl ⟨rfl, rfl, rfl⟩);rw [List.append_assoc, List.cons_append, List.cons_append, List.nil_append, List.append_nil, List.flatten_nil, List.append_nil] at hh
 exact hh
theorem fresh2 {w : World} {pb po : Nat} {cs : List Value} {Tp : TypeId} {v : Value} {t : Tr} {fp : List Nat} {K : Nat → Prop} (hp : Pos w pb po cs Tp v t fp K) {L : List Nat} (hs : L.Sublist fp) : ((w.heap.size + 1) :: w.heap.size :: L).Nodup ∧ pb ∉ (w.heap.size + 1) :: w.heap.size :: L ∧ ∀ b ∈ (w.heap.size + 1) :: w.heap.size :: L, b ∈ fp ∨ w.heap.size ≤ b := by
 obtain ⟨h1, h2, h3⟩ := fresh hp hs;refine ⟨List.nodup_cons.2 ⟨fun h => ?_, h1⟩, fun h => ?_, fun b h => ?_⟩
 ·rcases List.mem_cons.1 h with h | h
  ·omega
  ·have := hp.tree.lt _ (hs.subset h); omega
 ·rcases List.mem_cons.1 h with h | h
  ·have := hp.lb.lt; omega
  ·exact h2 h
 ·rcases List.mem_cons.1 h with h | h
  ·exact .inr (by omega)
  ·exact h3 b h
theorem door_sumMap (b : Nat) : Door 132 (.pointer (some ⟨b, 0, none⟩)) 134 := ⟨fun n w => by kernel_rfl, fun args w => by kernel_rfl⟩
set_option maxHeartbeats 6400000 in
set_option maxRecDepth 100000 in
theorem visit_sumMap (rb0 : Nat) : VisOk 134 (.pointer (some ⟨rb0, 0, none⟩)) stSumMap (fun _ => false) (fun _ => False) (fun _ _ => True) (fun _ => True) := by
 intro t _ v fp pb po cs Tp w s hP _;have r0 : w.cell? ⟨pb, po, none⟩ = some v := by rw [hP.lb.cell]; exact hP.get
 have g0 := hP.lb.frozen; have z0 := hP.lb.lt;have HP := Lib.hid hP
 by_cases hk : t.kind = 15
 ·obtain ⟨b, f, p, q, a, c, vs, fs, rb, ms, gs, th, ft, rfl, hx, hb, hr, hks, h1, hm, ht, hfp⟩ := hP.tree.b15 hk;have n0 := hb.cell; have zn := hb.lt
  by_cases hnm : (t.name == [115, 117, 109]) = true
  ·by_cases hl : t.kids.length = 1
   ·obtain ⟨x, hkx⟩ : ∃ x, t.kids = [x] := by
     match hq : t.kids, hl with
     |[y], _ => exact ⟨y, rfl⟩
    rw [hkx] at hks;obtain ⟨vx, fx, rfl, rfl, hix⟩ : ∃ vx fx, vs = [vx] ∧ fs = [fx] ∧ IsA w x vx fx := by
     cases hks with | cons h hl => cases hl; exact ⟨_, _, rfl, rfl, h⟩
    obtain ⟨r, sp, R, rfl, rfl, hr2⟩ : ∃ r sp R, a = some ⟨r, 0, none⟩ ∧ rb = [r] ∧ Lb w r ([vx] ++ sp) R := by
     rcases hr with ⟨h, _⟩ | h
     ·cases h
     ·exact h
    have d0 : w.cell? ⟨r, 0, none⟩ = some vx := (by rw [hr2.cell]; rfl);have zr := hr2.lt
    by_cases hxk : x.kind = 15
    ·obtain ⟨bx, ffx, px, qx, ax, cx, vsx, fsx, rbx, msx, gsx, thx, ftx, rfl, hxx, hbx, hrx, hksx, h1x, hmx, htx, hfx⟩ := hix.b15 hxk;have m0 := hbx.cell; have zm := hbx.lt
     by_cases hnx : (x.name == [109, 97, 112]) = true
     ·by_cases hlx : x.kids.length = 2
      ·obtain ⟨k0, k1, hkxx⟩ : ∃ k0 k1, x.kids = [k0, k1] := by
        match hq : x.kids, hlx with
        |[y, z], _ => exact ⟨y, z, rfl⟩
       have HS := Lib.hid (show stSumMap t = mkB (nm "sum") [k0, k1] from by
        unfold stSumMap;rw [if_pos ⟨hk, by rw [show nm "sum" = [115, 117, 109] from by decide]; simpa using hnm⟩, hkx];simp only;rw [if_pos ⟨hxk, by rw [show nm "map" = [109, 97, 112] from by decide]; simpa using hnx⟩, hkxx])
       rw [hkxx] at hksx;obtain ⟨w0, w1, f0, f1, rfl, rfl, hi0, hi1⟩ : ∃ w0 w1 f0 f1, vsx = [w0, w1] ∧ fsx = [f0, f1] ∧ IsA w k0 w0 f0 ∧ IsA w k1 w1 f1 := by
        cases hksx with | cons h hl => cases hl with | cons h2 hl => cases hl; exact ⟨_, _, _, _, rfl, rfl, h, h2⟩
       obtain ⟨ty0, pv0, rfl⟩ : ∃ ty pv, w0 = .iface ty pv := (by obtain ⟨b0, h⟩ := hi0.ptr; exact ⟨_, _, h⟩);obtain ⟨ty1, pv1, rfl⟩ : ∃ ty pv, w1 = .iface ty pv := (by obtain ⟨b0, h⟩ := hi1.ptr; exact ⟨_, _, h⟩);obtain ⟨rx, spx, Rx, rfl, rfl, hrx2⟩ : ∃ r sp R, ax = some ⟨r, 0, none⟩ ∧ rbx = [r] ∧ Lb w r ([.iface ty0 pv0, .iface ty1 pv1] ++ sp) R := by
        rcases hrx with ⟨h, _⟩ | h
        ·cases h
        ·exact h
       have x0 : w.cell? ⟨rx, 0, none⟩ = some (.iface ty0 pv0) := (by rw [hrx2.cell]; rfl);have x1 : w.cell? ⟨rx, 1, none⟩ = some (.iface ty1 pv1) := (by rw [hrx2.cell]; rfl);have zrx := hrx2.lt;rw [hkx] at n0;rw [hkxx] at m0;have FR := Lib.hid (fresh2 hP (L := [f0, f1].flatten) (by rw [hfp, hfx]; exact ((List.sublist_append_right [rx] [f0, f1].flatten).trans sub_args).trans (sub_kid (i := 0) rfl)));have HI := Lib.hid hksx;have z := m0 3;simp only [List.getElem?_cons_succ, List.getElem?_cons_zero] at z;clear hP hr2 hx hb hr hks h1 hm ht hfp hix hbx hrx h1x hmx htx hxx hfx hkx hl hk hxk hlx hkxx hksx hrx2 hi0 hi1;go_enter Try.func134, Try.ntmps134
       go_upto_region 4 with (fail)
       clear r0 n0 d0 zn zr m0;refine AnyL.start (S := fun w' => w'.cell? ⟨bx, 3, none⟩ = some (.slice (some ⟨rx, 0, none⟩) 2 cx) ∧ w'.cell? ⟨rx, 0, none⟩ = some (.iface ty0 pv0) ∧ w'.cell? ⟨rx, 1, none⟩ = some (.iface ty1 pv1)) (late := fun j => [17].contains j) (by kernel_rfl) ?_;have hs0 : (fun w' : World => w'.cell? ⟨bx, 3, none⟩ = some (.slice (some ⟨rx, 0, none⟩) 2 cx) ∧ w'.cell? ⟨rx, 0, none⟩ = some (.iface ty0 pv0) ∧ w'.cell? ⟨rx, 1, none⟩ = some (.iface ty1 pv1)) w.drew := ⟨z, x0, x1⟩;refine AnyL.tk [17] [17] 0 ?_ rfl (by kernel_rfl) (by rfl) ?_ hs0 (AnyL.tk [17] [2, 3, 4, 5, 6, 13, 14, 15, 16, 17] 1 ?_ rfl (by kernel_rfl) (by rfl) ?_ hs0 (AnyL.tk [17] [3, 4, 5, 6, 13, 14, 15, 16, 17] 2 ?_ rfl (by kernel_rfl) (by rfl) ?_ hs0 (AnyL.tk [17] [4, 5, 6, 13, 14, 15, 16, 17] 3 ?_ rfl (by kernel_rfl) (by rfl) ?_ hs0 (AnyL.tk [17] [5, 6, 13, 14, 15, 16, 17] 4 ?_ rfl (by kernel_rfl) (by rfl) ?_ hs0 (AnyL.tk [17] [6, 13, 14, 15, 16, 17] 5 ?_ rfl (by kernel_rfl) (by rfl) ?_ hs0 (AnyL.tk [17] [13, 14, 15, 16, 17] 6 ?_ rfl (by kernel_rfl) (by rfl) ?_ hs0 (AnyL.tk [17] [8, 9, 10, 11, 12, 13, 14, 15, 16, 17] 7 ?_ rfl (by kernel_rfl) (by rfl) ?_ hs0 (AnyL.tk [17] [9, 10, 11, 12, 13, 14, 15, 16, 17] 8 ?_ rfl (by kernel_rfl) (by rfl) ?_ hs0 (AnyL.tk [17] [10, 11, 12, 13, 14, 15, 16, 17] 9 ?_ rfl (by kernel_rfl) (by rfl) ?_ hs0 (AnyL.tk [17] [11, 12, 13, 14, 15, 16, 17] 10 ?_ rfl (by kernel_rfl) (by rfl) ?_ hs0 (AnyL.tk [17] [12, 13, 14, 15, 16, 17] 11 ?_ rfl (by kernel_rfl) (by rfl) ?_ hs0 (AnyL.tk [17] [13, 14, 15, 16, 17] 12 ?_ rfl (by kernel_rfl) (by rfl) ?_ hs0 ?_))))))))))))
       iterate 13
        rotate_left
        ·intro w' hw'; (try simp only [Act.put, sb0, sb1, sb2])
         (try dsimp only at hw')
         obtain ⟨q0, q1, q2⟩ := hw';go_simp
         try (with_reducible rfl)
       try simp only [Act.put, sb0, sb1, sb2]
       have zbx : bx < w.drew.heap.size := zm;have A1 : ∀ (w' : World) (o : Obj), bx < w'.heap.size → rx < w'.heap.size → (w'.cell? ⟨bx, 3, none⟩ = some (.slice (some ⟨rx, 0, none⟩) 2 cx) ∧ w'.cell? ⟨rx, 0, none⟩ = some (.iface ty0 pv0) ∧ w'.cell? ⟨rx, 1, none⟩ = some (.iface ty1 pv1)) → ((w'.alloc o).cell? ⟨bx, 3, none⟩ = some (.slice (some ⟨rx, 0, none⟩) 2 cx) ∧ (w'.alloc o).cell? ⟨rx, 0, none⟩ = some (.iface ty0 pv0) ∧ (w'.alloc o).cell? ⟨rx, 1, none⟩ = some (.iface ty1 pv1)) := fun w' o h1 h2 h => by
        refine ⟨?_, ?_, ?_⟩
        ·rw [World.cell?_of_block (w := w') (a := ⟨bx, 3, none⟩) (heap_alloc_old w' o h1)]; exact h.1
        ·rw [World.cell?_of_block (w := w') (a := ⟨rx, 0, none⟩) (heap_alloc_old w' o h2)]; exact h.2.1
        ·rw [World.cell?_of_block (w := w') (a := ⟨rx, 1, none⟩) (heap_alloc_old w' o h2)]; exact h.2.2
       have hs1 := A1 w.drew (.cells #[.iface ty0 pv0, .iface ty1 pv1] 45) zm zrx hs0;refine AnyL.one 13 (by kernel_rfl) rfl fun K hK => ?_;go_simp;refine hK.out _ _ (fun _ => hs1) ?_;clear hK K
       try simp only [Act.put, sb0, sb1, sb2]
       refine AnyL.one 14 (by kernel_rfl) rfl fun K hK => ?_;go_simp;refine hK.out _ _ (fun _ => hs1) ?_;clear hK K
       try simp only [Act.put, sb0, sb1, sb2]
       have hs2 := A1 _ (.cells #[.int .i64 0, .int .i64 0, .string (str (nm "sum")), .slice (some ⟨w.drew.heap.size, 0, none⟩) 2 2, .bool false, .nilIface, .pointer none] 102) (by simp; omega) (by simp; omega) hs1;refine AnyL.one 15 (by kernel_rfl) rfl fun K hK => ?_;go_simp;refine hK.out _ _ (fun _ => hs2) ?_;clear hK K
       try simp only [Act.put, sb0, sb1, sb2]
       refine AnyL.one 16 (by kernel_rfl) rfl fun K hK => ?_;go_simp;refine hK.out _ _ (fun _ => hs2) ?_;clear hK K
       try simp only [Act.put, sb0, sb1, sb2]
       refine AnyL.one 17 (by kernel_rfl) rfl fun K hK => ?_;go_simp;have HN := Lib.hid (sm_new HP.out HI.out);apply Calls.mono
       ·exact patch108 pb po cs Tp _ _ t (mkB (nm "sum") [k0, k1]) _ ((w.heap.size + 1) :: w.heap.size :: [f0, f1].flatten) _ HN.out.1 HP.out.get HN.out.2.1 HP.out.nd HN.out.2.2.1 FR.out.1 FR.out.2.1 HP.out.out
       rintro e2 w2 h2;obtain ⟨x2, rfl⟩ := h2.1;have H2 := Lib.hid h2;clear h2
       (try go_wp2_with fail)
       refine hK.out _ _ (fun h => by cases h) ?_;clear hK K
       try simp only [Act.put, sb0, sb1, sb2]
       refine AnyL.done (by kernel_rfl) ?_ _;go_wp21;refine bodyPost_end (v := .tuple #[]) (by first | rfl | (simp [results, Try.results134, go_sem]; try rfl)) rfl ?_;rw [HS.out];exact Wd.patched HP.out HN.out.2.2.2 H2.out FR.out.2.2 FR.out.1 trivial _
      ·have HS := Lib.hid (show stSumMap t = t from by unfold stSumMap; (repeat' split) <;> simp_all (decide := true) [nm]);clear hP hx hb hr hks h1 hm ht hfp hr2 hix hbx hrx hksx h1x hmx htx hxx hfx;go_enter Try.func134, Try.ntmps134
       go_wp2_with fail
       refine bodyPost_end (v := .tuple #[]) (by first | rfl | (simp [results, Try.results134, go_sem]; try rfl)) rfl ?_;rw [HS.out];exact Wd.same HP.out (Below.refl _ _) trivial _
     ·have HS := Lib.hid (show stSumMap t = t from by unfold stSumMap; (repeat' split) <;> simp_all (decide := true) [nm]);clear hP hx hb hr hks h1 hm ht hfp hr2 hix hbx hrx hksx h1x hmx htx hxx hfx;go_enter Try.func134, Try.ntmps134
      go_wp2_with fail
      refine bodyPost_end (v := .tuple #[]) (by first | rfl | (simp [results, Try.results134, go_sem]; try rfl)) rfl ?_;rw [HS.out];exact Wd.same HP.out (Below.refl _ _) trivial _
    ·obtain ⟨bx, rfl⟩ := hix.ptr;have hpx : ¬ pty x.kind = 100 := fun h => hxk ((pty_eq hix.okk).1.1 h);have HS := Lib.hid (show stSumMap t = t from by unfold stSumMap; (repeat' split) <;> simp_all (decide := true) [nm]);clear hP hx hb hr hks h1 hm ht hfp hr2 hix hxk;go_enter Try.func134, Try.ntmps134
     go_wp2_with fail
     refine bodyPost_end (v := .tuple #[]) (by first | rfl | (simp [results, Try.results134, go_sem]; try rfl)) rfl ?_;rw [HS.out];exact Wd.same HP.out (Below.refl _ _) trivial _
   ·have HS := Lib.hid (show stSumMap t = t from by unfold stSumMap; (repeat' split) <;> simp_all (decide := true) [nm]);clear hP hx hb hr hks h1 hm ht hfp;go_enter Try.func134, Try.ntmps134
    go_wp2_with fail
    refine bodyPost_end (v := .tuple #[]) (by first | rfl | (simp [results, Try.results134, go_sem]; try rfl)) rfl ?_;rw [HS.out];exact Wd.same HP.out (Below.refl _ _) trivial _
  ·have HS := Lib.hid (show stSumMap t = t from by unfold stSumMap; (repeat' split) <;> simp_all (decide := true) [nm]);clear hP hx hb hr hks h1 hm ht hfp;go_enter Try.func134, Try.ntmps134
   go_wp2_with fail
   refine bodyPost_end (v := .tuple #[]) (by first | rfl | (simp [results, Try.results134, go_sem]; try rfl)) rfl ?_;rw [HS.out];exact Wd.same HP.out (Below.refl _ _) trivial _
 ·obtain ⟨b, rfl⟩ := hP.tree.ptr;have hpt : ¬ pty t.kind = 100 := fun h => hk ((pty_eq hP.tree.okk).1.1 h);have HS := Lib.hid (show stSumMap t = t from by unfold stSumMap; (repeat' split) <;> simp_all (decide := true) [nm]);clear hP hk;go_enter Try.func134, Try.ntmps134
  go_wp2_with fail
  refine bodyPost_end (v := .tuple #[]) (by first | rfl | (simp [results, Try.results134, go_sem]; try rfl)) rfl ?_;rw [HS.out];exact Wd.same HP.out (Below.refl _ _) trivial _
end
section
attribute [local go_sem ↓] Go.wp_at_zero Go.wp_at_succ
open Go.RowKit
set_option maxHeartbeats 1600000 in
set_option maxRecDepth 100000 in
theorem zz_sumMap (t : Tr) : ZzOk 42 stSumMap t := by
 intro v fp pb po cs Tp w hP;have HP := Lib.hid hP;clear hP;go_enter Try.func42, Try.ntmps42
 go_wp2_with fail
 apply Calls.mono
 ·exact walk_tree (door_sumMap w.heap.size) (visit_sumMap w.heap.size) (fun k hk => ⟨by unfold stSumMap; rw [if_neg (by omega)], rfl⟩) (fun _ => True) (fun _ _ _ _ => trivial) (fun _ _ => trivial) t trivial _ _ _ _ _ _ _ false (HP.out.below (by go_grown)) trivial
 rintro e1 w1 h1;obtain ⟨x1, rfl⟩ := h1.1;have H1 := Lib.hid h1;clear h1;go_wp21;refine bodyPost_end (v := .tuple #[]) (by first | rfl | (simp [results, Try.results42, go_sem]; try rfl)) rfl ?_;have g := Wd.after (w := w) (turn_below (by go_grown)) (fun b hb => .inl hb) H1.out;exact ⟨⟨_, rfl⟩, g.2⟩
set_option maxHeartbeats 3200000 in
set_option maxRecDepth 100000 in
theorem impl_sumMap (t : Tr) (hz : ZzOk 42 stSumMap (nrm t)) : ImplOk 23 stSumMap t := by
 intro hW k f a c a' c' p q w hk ht;have HW := Lib.hid hW; have HK := Lib.hid hk; have HT := Lib.hid ht; have HZ := Lib.hid hz;clear hW hk ht hz;go_enter Try.func23, Try.ntmps23
 go_wp2_with fail
 apply Calls.mono
 ·exact made_ok t HW.out k f a c a' c' p q _ (HT.out.ext (.of (by go_grown)) (Nat.le_refl _))
 rintro e1 w1 ⟨ty, pv, fp, rfl, hb1, hi1, hn1, hg1⟩;have HB1 := Lib.hid (show Below w.heap.size w w1 from Below.trans (by go_grown) (hb1.mono (by simp; omega)));have HR1 := Lib.hid ((Lb.new' (w.alloc (.cells (tcells t f a c a' c' p q).toArray 25)) ztcells 25 (n := w.heap.size + 1) (by simp)).below hb1 (by simp));have hg2 : ∀ y ∈ fp, w.heap.size + 1 < y := fun y hy => by have := hg1 y hy; simp at this; omega
 have HG := Lib.hid hg2; have HI1 := Lib.hid hi1; have HN1 := Lib.hid hn1;have zr := HR1.out.lt;clear hb1 hi1 hn1 hg1 hg2
 go_wp2_with fail
 apply Calls.mono
 ·exact HZ.out (.iface ty pv) fp w1.heap.size 0 [.iface ty pv] 45 _ ⟨Lb.new' _ _ _ rfl, rfl, HI1.out.same fun y hy => heap_alloc_old w1 _ (HI1.out.lt y hy), HN1.out, fun h => by have := HI1.out.lt _ h; omega, fun b hb => hb.elim⟩
 rintro e2 w2 ⟨⟨x2, rfl⟩, v2, fp2, hT2, hL2, hi2, hn2, hf2, -⟩;have hR2 : Lb w2 (w.heap.size + 1) ztcells 25 := (hT2.block _ (by simp; omega) (by omega) (fun h => by have := HG.out _ h; omega) id).trans (HR1.out.alloc _);have HB2 := Lib.hid (show Below w.heap.size w w2 from (HB1.out.alloc HB1.out.size (.cells #[.iface ty pv] 45)).trans ⟨hT2.os, hT2.tape, hT2.output, hT2.size, fun b hb => hT2.block b (by have := HB1.out.size; simp; omega) (by have := HB1.out.size; omega) (fun h => by have := HG.out _ h; omega) id⟩);obtain ⟨ty2, pv2, rfl⟩ := hi2.iface;have HR2 := Lib.hid hR2; have HI2 := Lib.hid hi2;simp only [List.set_cons_zero] at hL2;have l0 := hL2.cell; have lz := hL2.lt;clear hT2 hL2 hi2 hR2
 go_wp2_with fail
 apply Calls.mono
 ·refine taken_ok _ _ fp2 _ (fun b => k b ∨ b = w.heap.size + 1) ?_ HI2.out;rintro b (hb | rfl)
  ·exact Nat.lt_of_lt_of_le (HK.out b hb) HB2.out.size
  ·exact HR2.out.lt
 rintro e3 w3 ⟨f3, a3, c3, a4, c4, p3, q3, rfl, hb3, hT3⟩;have hR3 := HR2.out.below hb3 HR2.out.lt;have c0 := hR3.cell; have c1 := hR3.frozen; have zc := hR3.lt;unfold ztcells at c0;have HB3 := Lib.hid (HB2.out.trans (hb3.mono HB2.out.size)); have HT3 := Lib.hid hT3;clear hb3 hT3 hR3 l0 lz;go_wp21;refine bodyPost_ret (v := ta (T stSumMap (nrm t)) f3 a3 c3 a4 c4 p3 q3) (by simp [results, Try.results23, go_sem, c0, c1, zc]; try rfl) rfl ?_;refine ⟨f3, a3, c3, a4, c4, p3, q3, rfl, ?_, ?_⟩
 ·have hE := (Ext.refl (fun _ => False) w.heap.size w3).s12 (b := w.heap.size + 1) (.inr (by omega)) 0 (.int .i64 (T stSumMap (nrm t)).kind) (.string (str (T stSumMap (nrm t)).name)) (.int .i64 (T stSumMap (nrm t)).int) (.float .f64 f3) (.bool (T stSumMap (nrm t)).flag) (.bool (T stSumMap (nrm t)).method) (.bool (T stSumMap (nrm t)).limited) (.int .i64 (T stSumMap (nrm t)).limit) (.slice a3 (T stSumMap (nrm t)).kids.length c3) (.slice a4 (T stSumMap (nrm t)).map.length c4) (.int .i64 p3) (.int .i64 q3);exact HB3.out.trans ⟨hE.os, hE.tape, hE.output, hE.size, fun b hb => hE.block b hb id⟩
 ·exact (HT3.out.ext ((Ext.refl (fun b => k b ∨ b = w.heap.size + 1) _ _).s12 (.inl (.inr rfl)) 0 _ _ _ _ _ _ _ _ _ _ _ _) (Nat.le_refl _)).other fun b hb => .inl (.inl hb)
set_option maxHeartbeats 6400000 in
set_option maxRecDepth 100000 in
theorem law_sumMap (t : Tr) (st : Tr → Tr) (hi : ImplOk 23 st t) (names : List (Nm × Vl)) (hq : WholeT t → Asks false t (T st (nrm t)) names ∧ fine t ∧ fine (T st (nrm t))) (k : Nat → Prop) (an : Option Addr) (cn : Nat) (ncs : List Value) (f : Nat) (a : Option Addr) (c : Nat) (a' : Option Addr) (c' : Nat) (p q : Int) (w : World)
 (hk : ∀ b, k b → b < w.heap.size) (hr : Row w k an ncs) (hs : IsRn w k names ncs) (ht : IsT w k t (tcells t f a c a' c' p q)) :
 Calls Try.prog 9 #[ta t f a c a' c' p q, .slice an names.length cn] w (Yes w) := by
 have HI := Lib.hid hi; have HQ := Lib.hid hq; have HK := Lib.hid hk; have HR := Lib.hid hr; have HS := Lib.hid hs; have HT := Lib.hid ht;clear hi hq hk hr hs ht
 by_cases hn : (2147483647 : Int) < (names.length : Int)
 ·have d1 : decide ((2147483647 : Int) < (names.length : Int)) = true := decide_eq_true hn;go_enter Try.func9, Try.ntmps9
  go_wp2_with fail
  apply Calls.mono
  ·exact fits_any t f a c a' c' p q _
  rintro e1 w1 ⟨b1, rfl, hb1⟩;have HB1 := Lib.hid (show Below w.heap.size w w1 from Below.trans (by go_grown) (hb1.mono (by simp)));clear hb1;cases b1 <;> (go_wp2_with fail; go_ret; exact ⟨rfl, HB1.out⟩)
 have d1 : decide ((2147483647 : Int) < (names.length : Int)) = false := decide_eq_false hn;have hnm : names.length ≤ most := by unfold most; omega
 have HNM := Lib.hid hnm;clear hn hnm;go_enter Try.func9, Try.ntmps9
 go_wp2_with fail
 apply Calls.mono
 ·exact fits_any t f a c a' c' p q _
 rintro e1 w1 ⟨b1, rfl, hb1⟩;have HB1 := Lib.hid (show Below w.heap.size w w1 from Below.trans (by go_grown) (hb1.mono (by simp)));have L1 := (Lb.new' w (tcells t f a c a' c' p q) 25 rfl).below hb1 (by simp);have HL1 := Lib.hid L1;clear hb1 L1;cases b1 with
 |false =>
  go_wp2_with fail
  go_ret;exact ⟨rfl, HB1.out⟩
 |true =>
 go_wp2_with fail
 refine AnyL.start (S := fun w' => Lb w' w.heap.size (tcells t f a c a' c' p q) 25) (late := fun j => [].contains j) (by kernel_rfl) ?_;have hs0 := HL1.out.drew; have hB0 := HB1.out.drew;refine AnyL.tk [] [] 0 ?_ rfl (by kernel_rfl) (by rfl) ?_ hs0 ?_;rotate_left
 ·intro w' hw';have r0 := (show Lb _ _ _ _ from hw').cell; have z0 := (show Lb _ _ _ _ from hw').lt;unfold tcells at r0;go_simp
  try (with_reducible rfl)
 try simp only [Act.put, sb0, sb1, sb2]
 refine AnyL.one 1 (by kernel_rfl) rfl fun K hK => ?_;go_simp;apply Calls.mono
 ·exact Whole_any t k f a c a' c' p q _ (fun b hb => Nat.lt_of_lt_of_le (HK.out b hb) hB0.size) (HT.out.ext (.of hB0) (Nat.le_refl _))
 rintro e2 w2 ⟨b2, rfl, hb2, hw2⟩;have hs2 := hs0.below hb2 hs0.lt; have hB2 := hB0.trans (hb2.mono hB0.size)
 (try go_wp2_with fail)
 refine hK.out _ _ (fun _ => hs2) ?_;clear hK K
 try simp only [Act.put, sb0, sb1, sb2]
 cases b2 with
 |false =>
  clear hw2;refine AnyL.tk [] [] 2 ?_ rfl (by kernel_rfl) (by rfl) ?_ hs2 (AnyL.tk [] [] 3 ?_ rfl (by kernel_rfl) (by rfl) ?_ hs2 ?_)
  iterate 2
   rotate_left
   ·intro w' hw'; (try simp only [Act.put, sb0, sb1, sb2]);have r0 := (show Lb _ _ _ _ from hw').cell; have z0 := (show Lb _ _ _ _ from hw').lt;unfold tcells at r0;go_simp
    try (with_reducible rfl)
  try simp only [Act.put, sb0, sb1, sb2]
  refine AnyL.tk0 [] [] 4 rfl (by kernel_rfl) (by rfl) hs2 ?_
  try simp only [Act.put, sb0, sb1, sb2]
  refine AnyL.tk0 [] [] 5 rfl (by kernel_rfl) (by rfl) hs2 ?_
  try simp only [Act.put, sb0, sb1, sb2]
  refine AnyL.tk0 [] [] 8 rfl (by kernel_rfl) (by rfl) hs2 ?_
  try simp only [Act.put, sb0, sb1, sb2]
  refine AnyL.one 6 (by kernel_rfl) rfl fun K hK => ?_;go_simp;refine hK.out _ _ (fun _ => hs2) ?_;clear hK K
  try simp only [Act.put, sb0, sb1, sb2]
  refine AnyL.one 7 (by kernel_rfl) rfl fun K hK => ?_;go_simp;refine hK.out _ _ (fun _ => hs2) ?_;clear hK K
  try simp only [Act.put, sb0, sb1, sb2]
  refine AnyL.one 9 (by kernel_rfl) rfl fun K hK => ?_;go_simp;refine hK.out _ _ (fun _ => hs2) ?_;clear hK K
  try simp only [Act.put, sb0, sb1, sb2]
  refine AnyL.one 10 (by kernel_rfl) rfl fun K hK => ?_;go_simp;refine hK.out _ _ (fun _ => hs2) ?_;clear hK K
  try simp only [Act.put, sb0, sb1, sb2]
  refine AnyL.one 11 (by kernel_rfl) rfl fun K hK => ?_;go_simp;refine hK.out _ _ (fun _ => hs2) ?_;clear hK K
  try simp only [Act.put, sb0, sb1, sb2]
  refine AnyL.done (by kernel_rfl) ?_ _;clear hs0 hB0 hs2;have HB2 := Lib.hid hB2;clear hB2 hb2;go_wp21;go_ret;exact ⟨rfl, HB2.out⟩
 |true =>
  have hWt := hw2 rfl;have HWt := Lib.hid hWt;clear hw2 hWt;refine AnyL.tk [] [] 2 ?_ rfl (by kernel_rfl) (by rfl) ?_ hs2 (AnyL.tk [] [] 3 ?_ rfl (by kernel_rfl) (by rfl) ?_ hs2 ?_)
  iterate 2
   rotate_left
   ·intro w' hw'; (try simp only [Act.put, sb0, sb1, sb2]);have r0 := (show Lb _ _ _ _ from hw').cell; have z0 := (show Lb _ _ _ _ from hw').lt;unfold tcells at r0;go_simp
    try (with_reducible rfl)
  try simp only [Act.put, sb0, sb1, sb2]
  refine AnyL.tk [] [] 4 ?_ rfl (by kernel_rfl) (by rfl) ?_ hs2 (AnyL.tk [] [] 5 ?_ rfl (by kernel_rfl) (by rfl) ?_ hs2 (AnyL.tk [] [] 8 ?_ rfl (by kernel_rfl) (by rfl) ?_ hs2 ?_))
  iterate 3
   rotate_left
   ·intro w' hw'; (try simp only [Act.put, sb0, sb1, sb2]);have r0 := (show Lb _ _ _ _ from hw').cell; have z0 := (show Lb _ _ _ _ from hw').lt;unfold tcells at r0
    (go_simp)
    try (with_reducible rfl)
  try simp only [Act.put, sb0, sb1, sb2]
  refine AnyL.one 6 (by kernel_rfl) rfl fun K hK => ?_;go_simp;apply Calls.mono
  ·exact copy_ok t HWt.out k f a c a' c' p q _ (fun b hb => Nat.lt_of_lt_of_le (HK.out b hb) hB2.size) (HT.out.ext (.of hB2) (Nat.le_refl _))
  rintro e3 w3 ⟨f3, a3, c3, a3', c3', p3, q3, rfl, hb3, hT3⟩;have hs3 := hs2.below hb3 hs2.lt; have hB3 := hB2.trans (hb3.mono hB2.size)
  (try go_wp2_with fail)
  refine hK.out _ _ (fun _ => hs3) ?_;clear hK K
  try simp only [Act.put, sb0, sb1, sb2]
  refine AnyL.one 7 (by kernel_rfl) rfl fun K hK => ?_;go_simp;apply Calls.mono
  ·exact HI.out HWt.out k f3 a3 c3 a3' c3' p3 q3 _ (fun b hb => Nat.lt_of_lt_of_le (HK.out b hb) hB3.size) hT3
  rintro e4 w4 ⟨f4, a4, c4, a4', c4', p4, q4, rfl, hb4, hT4⟩;have hs4 := hs3.below hb4 hs3.lt; have hB4 := hB3.trans (hb4.mono hB3.size)
  (try go_wp2_with fail)
  refine hK.out _ _ (fun _ => hs4) ?_;clear hK K
  try simp only [Act.put, sb0, sb1, sb2]
  refine AnyL.one 9 (by kernel_rfl) rfl fun K hK => ?_;go_simp;apply Calls.mono
  ·exact means_any t (T st (nrm t)) (HQ.out HWt.out).2.1 (HQ.out HWt.out).2.2 k names an cn ncs _ _ _ _ _ _ _ _ _ _ _ _ _ _ _ HNM.out (fun b hb => Nat.lt_of_lt_of_le (HK.out b hb) hB4.size) (HR.out.ext (.of hB4) (Nat.le_refl _)) (HS.out.ext (.of hB4) (Nat.le_refl _)) (HT.out.ext (.of hB4) (Nat.le_refl _)) hT4 (HQ.out HWt.out).1
  rintro e5 w5 ⟨rfl, hb5⟩;have hs5 := hs4.below hb5 hs4.lt; have hB5 := hB4.trans (hb5.mono hB4.size)
  (try go_wp2_with fail)
  refine hK.out _ _ (fun _ => hs5) ?_;clear hK K
  try simp only [Act.put, sb0, sb1, sb2]
  refine AnyL.one 10 (by kernel_rfl) rfl fun K hK => ?_;go_simp;refine hK.out _ _ (fun _ => hs5) ?_;clear hK K
  try simp only [Act.put, sb0, sb1, sb2]
  refine AnyL.one 11 (by kernel_rfl) rfl fun K hK => ?_;go_simp;refine hK.out _ _ (fun _ => hs5) ?_;clear hK K
  try simp only [Act.put, sb0, sb1, sb2]
  refine AnyL.done (by kernel_rfl) ?_ _;have HB5 := Lib.hid hB5;clear hs0 hB0 hs2 hs3 hs4 hs5 hB2 hB3 hB4 hB5 hb2 hb3 hb4 hb5 hT3 hT4;go_wp21;go_ret;exact ⟨rfl, HB5.out⟩
theorem asks_sumMap (names : List (Nm × Vl)) (t : Tr) (hW : WholeT t) : Asks false t (T stSumMap (nrm t)) names ∧ fine t ∧ fine (T stSumMap (nrm t)) := by
 refine asks_bare (fun t h => ?_) (fun t h => ?_) names t hW
 ·unfold stSumMap
  split
  ·split
   ·rename_i m hk
    split
    ·split
     ·rename_i a b hk2
      exact bare_mkB (by rw [← hk2]; exact (h.kids m (by rw [hk]; simp)).kids)
     ·exact h
    ·exact h
   ·exact h
  ·exact h
 ·rw [T_eq]; exact sumMap_ok _
end
end Go.Proofs.Ytafhhdimjkgihaa.Mn
