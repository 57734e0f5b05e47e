/- SumRange: what belongs to this law alone: part 3. -/
import Derived.Test.YtafhhdimjkgihaaKSumRange2
set_option linter.unusedSimpArgs false
set_option linter.unusedVariables false
namespace Go.Proofs.Ytafhhdimjkgihaa.Mn
attribute [local go_sem ↓] Go.wp_at_zero Go.wp_at_succ
open Go.RowKit
def stSumRange2 (t : Tr) : Tr :=
 if t.kind = 15 ∧ t.name = nm "reduce" then match t.kids with
  |[r, p] => if r.kind = 10 ∧ r.name = nm ".." then match r.kids with
   |[i, j] => if i.kind = 3 ∧ j.kind = 3 ∧ isAcc p = true ∧ i.int ≤ j.int then mkI (serie i.int j.int) else t
   |_ => t
   else t
  |_ => t
 else stSumRange t
theorem sumRange2_ok {G : Vl → Prop} (t : Tr) : Rd true G (D t) (D (stSumRange2 t)) := by
 unfold stSumRange2
 split
 ·rename_i h
  split
  ·rename_i r p hk
   split
   ·split
    ·split
     ·refine node_15 (.inl h.1) (.inr (.inr (.inr rfl))) fun env _ => .inr ⟨rfl, ?_⟩;rw [val_15 t h.1, hk, h.2];simp only [Ds, builtin];cases (D r).val env with
      |none => rfl
      |some v =>
       simp only [Option.bind_some];cases (D p).body with
       |none => rfl
       |some pb =>
        simp only
        split
        ·unfold builtin2;rw [if_neg (by show nm "reduce" ≠ nm "map"; decide), if_neg (by show nm "reduce" ≠ nm "sum"; decide), if_neg (by show ¬ isChosen (nm "reduce") = true; decide)]
        ·rfl
     ·exact .refl _
    ·exact .refl _
   ·exact .refl _
  ·exact .refl _
 ·exact sumRange_ok t
theorem IsA.ofInt (s : Int) (hs : I64 s) {w1 : World} {bn : Nat} (hL : Lb w1 bn [.int .i64 0, .int .i64 0, .int .i64 s] 149) : IsA w1 (mkI s) (.iface 147 (.pointer (some ⟨bn, 0, none⟩))) [bn] := by
 have z : I64 0 := by unfold I64; omega
 have := IsA.node (w := w1) (mkI s) bn 0 0 0 [] [] rfl ⟨rfl, cn_zero, hs, z, z, z, by show ([] : Nm).length ≤ _; simp, by show ([] : List Tr).length ≤ _; simp⟩ hL .nil;exact this
theorem tdiv_in {x : Int} (h : I64 x) : I64 (x.tdiv 2) := by
 unfold I64 at *;have h1 : (x.tdiv 2).natAbs = x.natAbs / 2 := Int.natAbs_tdiv x 2;have h2 := Nat.div_le_self x.natAbs 2
 by_cases hx : 0 ≤ x
 ·have := Int.tdiv_nonneg hx (show (0 : Int) ≤ 2 by omega); omega
 ·have h3 := Int.tdiv_nonneg (show 0 ≤ -x by omega) (show (0 : Int) ≤ 2 by omega);rw [Int.neg_tdiv] at h3;omega
theorem serie_in (m n : Int) : I64 (serie m n) := tdiv_in (wrap_in _)
theorem wrap_I64 {x : Int} (h : I64 x) : wrap64 x = x := by unfold I64 at h; unfold wrap64; omega
theorem door_sumRange (b : Nat) : Door 134 (.pointer (some ⟨b, 0, none⟩)) 135 := ⟨fun n w => by kernel_rfl, fun args w => by kernel_rfl⟩
set_option maxHeartbeats 25600000 in
set_option maxRecDepth 100000 in
theorem visit_sumRange (rb0 : Nat) : VisOk 135 (.pointer (some ⟨rb0, 0, none⟩)) stSumRange2 (fun _ => false) (fun _ => False) (fun _ _ => True) (fun t => t.kind = 15 → t.kids.length ≤ 2) := by
 intro t hPt v fp pb po cs Tp w s hP _;have r0 : w.cell? ⟨pb, po, none⟩ = some v := by rw [hP.lb.cell]; exact hP.get
 have g0 := hP.lb.frozen; have z0 := hP.lb.lt;have HP := Lib.hid hP
 by_cases hk5 : t.kind = 15
 ·have hl2 := hPt hk5;obtain ⟨b, f, p, q, a, c0, vs, fs, rb, ms, gs, th, ft, rfl, hx, hb, hr, hks, h1, hm, ht, rfl⟩ := hP.tree.b15 hk5;have n0 := hb.cell; have zn := hb.lt;have FR := Lib.hid (show ([w.heap.size] : List Nat).Nodup ∧ pb ∉ [w.heap.size] ∧ ∀ b ∈ [w.heap.size], b ∈ _ ∨ w.heap.size ≤ b from fresh hP (L := []) (List.nil_sublist _));have hLk := hks.len.1;clear hP hx hm ht h1 hPt
  by_cases hnm : (t.name == [115, 117, 109]) = true
  ·have hns : t.name = nm "sum" := (by rw [show nm "sum" = [115, 117, 109] from by decide]; simpa using hnm);have nr : (t.name == [114, 101, 100, 117, 99, 101]) = false := by rw [hns]; decide
   by_cases hl : t.kids.length = 1
   ·obtain ⟨r1, hkx⟩ : ∃ r1, t.kids = [r1] := by
     match hq : t.kids, hl with
     |[y], _ => exact ⟨y, rfl⟩
    rw [hkx] at hks n0;obtain ⟨vr, fr, rfl, rfl, hir⟩ : ∃ vr fr, vs = [vr] ∧ fs = [fr] ∧ IsA w r1 vr fr := by
     cases hks with | cons h hl => cases hl; exact ⟨_, _, rfl, rfl, h⟩
    obtain ⟨r, sp, R, rfl, rfl, hr2⟩ : ∃ r sp R, a = some ⟨r, 0, none⟩ ∧ rb = [r] ∧ Lb w r ([vr] ++ sp) R := by
     rcases hr with ⟨h, _⟩ | h
     ·cases h
     ·exact h
    have d0 : w.cell? ⟨r, 0, none⟩ = some vr := (by rw [hr2.cell]; rfl);have zr := hr2.lt;clear hr2 hks hb;rcases hir.bin with ⟨bq, i, j, vi, vj, fi, fj, rfl, h10, hkk, cn, c3, c4, zq, hii, hjj⟩ | ⟨bq, rfl, h10, pq⟩
    ·by_cases hnn : (r1.name == [46, 46]) = true
     ·have hnr : r1.name = nm ".." := (by rw [show nm ".." = [46, 46] from by decide]; simpa using hnn);clear hir;rcases hii.three with ⟨bi, rfl, hki, ni, zi⟩ | ⟨bi, rfl, hki, ni, zi, ri⟩ | ⟨bi, rfl, hki17, hki, px, px3⟩
      ·have HS := Lib.hid (show stSumRange2 t = t from by unfold stSumRange2; rw [if_neg (fun h => by rw [hns] at h; exact absurd h.2 (by decide))]; unfold stSumRange; rw [if_pos ⟨hk5, hns⟩, hkx]; (try simp only); rw [if_pos ⟨h10, hnr⟩, hkk]; (try simp only); rw [if_neg (fun h => by omega)]);clear h10 hkk hii hjj hki hnr hk5 hns hkx hl hl2;go_enter Try.func135, Try.ntmps135
       go_wp2_with fail
       refine bodyPost_end (v := .tuple #[]) (by first | rfl | (simp [results, Try.results135, go_sem]; try rfl)) rfl ?_;rw [HS.out]
       first | exact Wd.same (S' := fun _ => True) HP.out (Below.refl _ _) trivial _ | simpa using Wd.same (S' := fun _ => True) HP.out (Below.refl _ _) trivial (.tuple #[])
      ·rcases hjj.three with ⟨bj, rfl, hkj, nj, zj⟩ | ⟨bj, rfl, hkj, nj, zj, rj⟩ | ⟨bj, rfl, hkj17, hkj, py, py3⟩
       ·have HS := Lib.hid (show stSumRange2 t = t from by unfold stSumRange2; rw [if_neg (fun h => by rw [hns] at h; exact absurd h.2 (by decide))]; unfold stSumRange; rw [if_pos ⟨hk5, hns⟩, hkx]; (try simp only); rw [if_pos ⟨h10, hnr⟩, hkk]; (try simp only); rw [if_neg (fun h => by omega)]);clear h10 hkk hii hjj hki hkj hnr ri hk5 hns hkx hl hl2;go_enter Try.func135, Try.ntmps135
        go_wp2_with fail
        refine bodyPost_end (v := .tuple #[]) (by first | rfl | (simp [results, Try.results135, go_sem]; try rfl)) rfl ?_;rw [HS.out]
        first | exact Wd.same (S' := fun _ => True) HP.out (Below.refl _ _) trivial _ | simpa using Wd.same (S' := fun _ => True) HP.out (Below.refl _ _) trivial (.tuple #[])
       ·clear hii hjj ri rj
        by_cases hij : i.int ≤ j.int
        ·have d1x : decide (i.int ≤ j.int) = true := decide_eq_true hij;have hwm : wrap64 (wrap64 (j.int - i.int) + 1) = manyOf i.int j.int := rfl;have hwq : wrap64 ((wrap64 (manyOf i.int j.int * wrap64 (i.int + j.int))).tdiv 2) = serie i.int j.int := wrap_I64 (serie_in i.int j.int);have HS := Lib.hid (show stSumRange2 t = mkI (serie i.int j.int) from by unfold stSumRange2; rw [if_neg (fun h => by rw [hns] at h; exact absurd h.2 (by decide))]; unfold stSumRange; rw [if_pos ⟨hk5, hns⟩, hkx]; (try simp only); rw [if_pos ⟨h10, hnr⟩, hkk]; (try simp only); rw [if_pos ⟨hki, hkj, hij⟩]);clear h10 hkk hki hkj hij hnr hk5 hns hkx hl hl2;go_enter Try.func135, Try.ntmps135
         go_wp2_with fail
         apply Calls.mono
         ·exact patch136 pb po cs Tp _ _ t (mkI (serie i.int j.int)) _ [w.heap.size] _ (HP.out.lb.alloc _) HP.out.get (HP.out.tree.same fun y hy => heap_alloc_old w _ (HP.out.tree.lt y hy)) HP.out.nd (IsA.ofInt (serie i.int j.int) (serie_in _ _) (Lb.new' _ _ _ rfl)) FR.out.1 FR.out.2.1 HP.out.out
         rintro e2 w2 h2;obtain ⟨x2, rfl⟩ := h2.1;have H2 := Lib.hid h2;have r2 : w2.cell? ⟨pb, po, none⟩ = some (.iface 147 (.pointer (some ⟨w.heap.size, 0, none⟩))) := by
          rw [h2.2.2.1.cell]; exact List.getElem?_set_self (List.getElem?_eq_some_iff.1 HP.out.get).1
         clear h2;go_wp21;refine bodyPost_end (v := .tuple #[]) (by first | rfl | (simp [results, Try.results135, go_sem]; try rfl)) rfl ?_;rw [HS.out]
         first | exact Wd.patched HP.out ((Below.refl _ _).alloc (Nat.le_refl _) _) H2.out FR.out.2.2 FR.out.1 trivial _ | simpa using Wd.patched (S' := fun _ => True) HP.out ((Below.refl _ _).alloc (Nat.le_refl _) _) H2.out FR.out.2.2 FR.out.1 trivial (.tuple #[])
        ·have d1x : decide (i.int ≤ j.int) = false := decide_eq_false hij;have HS := Lib.hid (show stSumRange2 t = t from by unfold stSumRange2; rw [if_neg (fun h => by rw [hns] at h; exact absurd h.2 (by decide))]; unfold stSumRange; rw [if_pos ⟨hk5, hns⟩, hkx]; (try simp only); rw [if_pos ⟨h10, hnr⟩, hkk]; (try simp only); rw [if_neg (fun h => hij h.2.2)]);clear h10 hkk hki hkj hij hnr hk5 hns hkx hl hl2;go_enter Try.func135, Try.ntmps135
         go_wp2_with fail
         refine bodyPost_end (v := .tuple #[]) (by first | rfl | (simp [results, Try.results135, go_sem]; try rfl)) rfl ?_;rw [HS.out]
         first | exact Wd.same (S' := fun _ => True) HP.out (Below.refl _ _) trivial _ | simpa using Wd.same (S' := fun _ => True) HP.out (Below.refl _ _) trivial (.tuple #[])
       ·have HS := Lib.hid (show stSumRange2 t = t from by unfold stSumRange2; rw [if_neg (fun h => by rw [hns] at h; exact absurd h.2 (by decide))]; unfold stSumRange; rw [if_pos ⟨hk5, hns⟩, hkx]; (try simp only); rw [if_pos ⟨h10, hnr⟩, hkk]; (try simp only); rw [if_neg (fun h => hkj h.2.1)]);clear h10 hkk hii hjj hki hkj hkj17 hnr ri hk5 hns hkx hl hl2;go_enter Try.func135, Try.ntmps135
        go_wp2_with fail
        refine bodyPost_end (v := .tuple #[]) (by first | rfl | (simp [results, Try.results135, go_sem]; try rfl)) rfl ?_;rw [HS.out]
        first | exact Wd.same (S' := fun _ => True) HP.out (Below.refl _ _) trivial _ | simpa using Wd.same (S' := fun _ => True) HP.out (Below.refl _ _) trivial (.tuple #[])
      ·have HS := Lib.hid (show stSumRange2 t = t from by unfold stSumRange2; rw [if_neg (fun h => by rw [hns] at h; exact absurd h.2 (by decide))]; unfold stSumRange; rw [if_pos ⟨hk5, hns⟩, hkx]; (try simp only); rw [if_pos ⟨h10, hnr⟩, hkk]; (try simp only); rw [if_neg (fun h => hki h.1)]);clear h10 hkk hii hjj hki hki17 hnr hk5 hns hkx hl hl2;go_enter Try.func135, Try.ntmps135
       go_wp2_with fail
       refine bodyPost_end (v := .tuple #[]) (by first | rfl | (simp [results, Try.results135, go_sem]; try rfl)) rfl ?_;rw [HS.out]
       first | exact Wd.same (S' := fun _ => True) HP.out (Below.refl _ _) trivial _ | simpa using Wd.same (S' := fun _ => True) HP.out (Below.refl _ _) trivial (.tuple #[])
     ·have HS := Lib.hid (show stSumRange2 t = t from by unfold stSumRange2; rw [if_neg (fun h => by rw [hns] at h; exact absurd h.2 (by decide))]; unfold stSumRange; rw [if_pos ⟨hk5, hns⟩, hkx]; (try simp only); rw [if_neg (fun h => hnn (by rw [h.2]; decide))]);clear h10 hkk hii hjj hir hk5 hns hkx hl hl2;go_enter Try.func135, Try.ntmps135
      go_wp2_with fail
      refine bodyPost_end (v := .tuple #[]) (by first | rfl | (simp [results, Try.results135, go_sem]; try rfl)) rfl ?_;rw [HS.out]
      first | exact Wd.same (S' := fun _ => True) HP.out (Below.refl _ _) trivial _ | simpa using Wd.same (S' := fun _ => True) HP.out (Below.refl _ _) trivial (.tuple #[])
    ·have HS := Lib.hid (show stSumRange2 t = t from by unfold stSumRange2; rw [if_neg (fun h => by rw [hns] at h; exact absurd h.2 (by decide))]; unfold stSumRange; rw [if_pos ⟨hk5, hns⟩, hkx]; (try simp only); rw [if_neg (fun h => h10 h.1)]);clear h10 hir hk5 hns hkx hl hl2;go_enter Try.func135, Try.ntmps135
     go_wp2_with fail
     refine bodyPost_end (v := .tuple #[]) (by first | rfl | (simp [results, Try.results135, go_sem]; try rfl)) rfl ?_;rw [HS.out]
     first | exact Wd.same (S' := fun _ => True) HP.out (Below.refl _ _) trivial _ | simpa using Wd.same (S' := fun _ => True) HP.out (Below.refl _ _) trivial (.tuple #[])
   by_cases hl' : t.kids.length = 2
   ·have hl := hl';clear hl';obtain ⟨r1, p1, hkx⟩ : ∃ r1 p1, t.kids = [r1, p1] := by
     match hq : t.kids, hl with
     |[y, z], _ => exact ⟨y, z, rfl⟩
    rw [hkx] at hks n0;obtain ⟨vr, vp, fr, fp1, rfl, rfl, hir, hip⟩ : ∃ vr vp fr fp1, vs = [vr, vp] ∧ fs = [fr, fp1] ∧ IsA w r1 vr fr ∧ IsA w p1 vp fp1 := by
     cases hks with | cons h hl => cases hl with | cons h2 hl => cases hl; exact ⟨_, _, _, _, rfl, rfl, h, h2⟩
    obtain ⟨r, sp, R, rfl, rfl, hr2⟩ : ∃ r sp R, a = some ⟨r, 0, none⟩ ∧ rb = [r] ∧ Lb w r ([vr, vp] ++ sp) R := by
     rcases hr with ⟨h, _⟩ | h
     ·cases h
     ·exact h
    have d0 : w.cell? ⟨r, 0, none⟩ = some vr := (by rw [hr2.cell]; rfl);have d1 : w.cell? ⟨r, 1, none⟩ = some vp := (by rw [hr2.cell]; rfl);have zr := hr2.lt;clear hr2 hks hb;rcases hir.bin with ⟨bq, i, j, vi, vj, fi, fj, rfl, h10, hkk, cn, c3, c4, zq, hii, hjj⟩ | ⟨bq, rfl, h10, pq⟩
    ·by_cases hnn : (r1.name == [46, 46]) = true
     ·have hnr : r1.name = nm ".." := (by rw [show nm ".." = [46, 46] from by decide]; simpa using hnn);clear hir;rcases hii.three with ⟨bi, rfl, hki, ni, zi⟩ | ⟨bi, rfl, hki, ni, zi, ri⟩ | ⟨bi, rfl, hki17, hki, px, px3⟩
      ·have HS := Lib.hid (show stSumRange2 t = t from by unfold stSumRange2; rw [if_neg (fun h => by rw [hns] at h; exact absurd h.2 (by decide))]; unfold stSumRange; rw [if_pos ⟨hk5, hns⟩, hkx]; (try simp only); rw [if_pos ⟨h10, hnr⟩, hkk]; (try simp only); rw [if_neg (fun h => by omega)]);clear h10 hkk hii hjj hki hnr hk5 hns hkx hl hl2 hip;go_enter Try.func135, Try.ntmps135
       go_wp2_with fail
       refine bodyPost_end (v := .tuple #[]) (by first | rfl | (simp [results, Try.results135, go_sem]; try rfl)) rfl ?_;rw [HS.out]
       first | exact Wd.same (S' := fun _ => True) HP.out (Below.refl _ _) trivial _ | simpa using Wd.same (S' := fun _ => True) HP.out (Below.refl _ _) trivial (.tuple #[])
      ·rcases hjj.three with ⟨bj, rfl, hkj, nj, zj⟩ | ⟨bj, rfl, hkj, nj, zj, rj⟩ | ⟨bj, rfl, hkj17, hkj, py, py3⟩
       ·have HS := Lib.hid (show stSumRange2 t = t from by unfold stSumRange2; rw [if_neg (fun h => by rw [hns] at h; exact absurd h.2 (by decide))]; unfold stSumRange; rw [if_pos ⟨hk5, hns⟩, hkx]; (try simp only); rw [if_pos ⟨h10, hnr⟩, hkk]; (try simp only); rw [if_neg (fun h => by omega)]);clear h10 hkk hii hjj hki hkj hnr ri hk5 hns hkx hl hl2 hip;go_enter Try.func135, Try.ntmps135
        go_wp2_with fail
        refine bodyPost_end (v := .tuple #[]) (by first | rfl | (simp [results, Try.results135, go_sem]; try rfl)) rfl ?_;rw [HS.out]
        first | exact Wd.same (S' := fun _ => True) HP.out (Below.refl _ _) trivial _ | simpa using Wd.same (S' := fun _ => True) HP.out (Below.refl _ _) trivial (.tuple #[])
       ·clear hii hjj ri rj
        by_cases hij : i.int ≤ j.int
        ·have d1x : decide (i.int ≤ j.int) = true := decide_eq_true hij;have hwm : wrap64 (wrap64 (j.int - i.int) + 1) = manyOf i.int j.int := rfl;have hwq : wrap64 ((wrap64 (manyOf i.int j.int * wrap64 (i.int + j.int))).tdiv 2) = serie i.int j.int := wrap_I64 (serie_in i.int j.int);have HA := Lib.hid (apply_any p1 (serie i.int j.int) (manyOf i.int j.int) (serie_in _ _) vp fp1 w hip);have HR := Lib.hid (show ∀ s, ofSum p1 (serie i.int j.int) (manyOf i.int j.int) = some s → stSumRange2 t = mkI s from fun s hs => by unfold stSumRange2; rw [if_neg (fun h => by rw [hns] at h; exact absurd h.2 (by decide))]; unfold stSumRange; rw [if_pos ⟨hk5, hns⟩, hkx]; (try simp only); rw [if_pos ⟨h10, hnr⟩, hkk]; (try simp only); rw [if_pos ⟨hki, hkj, hij⟩]; (try simp only); rw [hs]);have HR0 := Lib.hid (show ofSum p1 (serie i.int j.int) (manyOf i.int j.int) = none → stSumRange2 t = t from fun hs => by unfold stSumRange2; rw [if_neg (fun h => by rw [hns] at h; exact absurd h.2 (by decide))]; unfold stSumRange; rw [if_pos ⟨hk5, hns⟩, hkx]; (try simp only); rw [if_pos ⟨h10, hnr⟩, hkk]; (try simp only); rw [if_pos ⟨hki, hkj, hij⟩]; (try simp only); rw [hs])
         obtain ⟨typ, pvp, rfl⟩ : ∃ ty pv, vp = .iface ty pv := (by obtain ⟨x, hx⟩ := hip.ptr; exact ⟨_, _, hx⟩);clear h10 hkk hki hkj hij hnr hk5 hns hkx hl hl2 hip;go_enter Try.func135, Try.ntmps135
         go_wp2_with fail
         apply Calls.mono
         ·exact HA.out
         rintro e1 w1 ⟨hw, s, ok, rfl, hok, hno⟩;obtain rfl : w = w1 := hw.symm;cases ok with
         |true =>
          have HS := Lib.hid (HR.out s (hok rfl).1);have HI := Lib.hid (hok rfl).2;clear hok hno
          (simp only []; go_at_K)
          go_wp2_with fail
          apply Calls.mono
          ·exact patch136 pb po cs Tp _ _ t (mkI (s)) _ [w.heap.size] _ (HP.out.lb.alloc _) HP.out.get (HP.out.tree.same fun y hy => heap_alloc_old w _ (HP.out.tree.lt y hy)) HP.out.nd (IsA.ofInt (s) HI.out (Lb.new' _ _ _ rfl)) FR.out.1 FR.out.2.1 HP.out.out
          rintro e2 w2 h2;obtain ⟨x2, rfl⟩ := h2.1;have H2 := Lib.hid h2;have r2 : w2.cell? ⟨pb, po, none⟩ = some (.iface 147 (.pointer (some ⟨w.heap.size, 0, none⟩))) := by
           rw [h2.2.2.1.cell]; exact List.getElem?_set_self (List.getElem?_eq_some_iff.1 HP.out.get).1
          clear h2;go_wp21;refine bodyPost_end (v := .tuple #[]) (by first | rfl | (simp [results, Try.results135, go_sem]; try rfl)) rfl ?_;rw [HS.out]
          first | exact Wd.patched HP.out ((Below.refl _ _).alloc (Nat.le_refl _) _) H2.out FR.out.2.2 FR.out.1 trivial _ | simpa using Wd.patched (S' := fun _ => True) HP.out ((Below.refl _ _).alloc (Nat.le_refl _) _) H2.out FR.out.2.2 FR.out.1 trivial (.tuple #[])
         |false =>
          have HS := Lib.hid (HR0.out (hno rfl));clear hok hno
          (simp only []; go_at_K)
          go_wp2_with fail
          refine bodyPost_end (v := .tuple #[]) (by first | rfl | (simp [results, Try.results135, go_sem]; try rfl)) rfl ?_;rw [HS.out]
          first | exact Wd.same (S' := fun _ => True) HP.out (Below.refl _ _) trivial _ | simpa using Wd.same (S' := fun _ => True) HP.out (Below.refl _ _) trivial (.tuple #[])
        ·have d1x : decide (i.int ≤ j.int) = false := decide_eq_false hij;have HS := Lib.hid (show stSumRange2 t = t from by unfold stSumRange2; rw [if_neg (fun h => by rw [hns] at h; exact absurd h.2 (by decide))]; unfold stSumRange; rw [if_pos ⟨hk5, hns⟩, hkx]; (try simp only); rw [if_pos ⟨h10, hnr⟩, hkk]; (try simp only); rw [if_neg (fun h => hij h.2.2)]);clear h10 hkk hki hkj hij hnr hk5 hns hkx hl hl2 hip;go_enter Try.func135, Try.ntmps135
         go_wp2_with fail
         refine bodyPost_end (v := .tuple #[]) (by first | rfl | (simp [results, Try.results135, go_sem]; try rfl)) rfl ?_;rw [HS.out]
         first | exact Wd.same (S' := fun _ => True) HP.out (Below.refl _ _) trivial _ | simpa using Wd.same (S' := fun _ => True) HP.out (Below.refl _ _) trivial (.tuple #[])
       ·have HS := Lib.hid (show stSumRange2 t = t from by unfold stSumRange2; rw [if_neg (fun h => by rw [hns] at h; exact absurd h.2 (by decide))]; unfold stSumRange; rw [if_pos ⟨hk5, hns⟩, hkx]; (try simp only); rw [if_pos ⟨h10, hnr⟩, hkk]; (try simp only); rw [if_neg (fun h => hkj h.2.1)]);clear h10 hkk hii hjj hki hkj hkj17 hnr ri hk5 hns hkx hl hl2 hip;go_enter Try.func135, Try.ntmps135
        go_wp2_with fail
        refine bodyPost_end (v := .tuple #[]) (by first | rfl | (simp [results, Try.results135, go_sem]; try rfl)) rfl ?_;rw [HS.out]
        first | exact Wd.same (S' := fun _ => True) HP.out (Below.refl _ _) trivial _ | simpa using Wd.same (S' := fun _ => True) HP.out (Below.refl _ _) trivial (.tuple #[])
      ·have HS := Lib.hid (show stSumRange2 t = t from by unfold stSumRange2; rw [if_neg (fun h => by rw [hns] at h; exact absurd h.2 (by decide))]; unfold stSumRange; rw [if_pos ⟨hk5, hns⟩, hkx]; (try simp only); rw [if_pos ⟨h10, hnr⟩, hkk]; (try simp only); rw [if_neg (fun h => hki h.1)]);clear h10 hkk hii hjj hki hki17 hnr hk5 hns hkx hl hl2 hip;go_enter Try.func135, Try.ntmps135
       go_wp2_with fail
       refine bodyPost_end (v := .tuple #[]) (by first | rfl | (simp [results, Try.results135, go_sem]; try rfl)) rfl ?_;rw [HS.out]
       first | exact Wd.same (S' := fun _ => True) HP.out (Below.refl _ _) trivial _ | simpa using Wd.same (S' := fun _ => True) HP.out (Below.refl _ _) trivial (.tuple #[])
     ·have HS := Lib.hid (show stSumRange2 t = t from by unfold stSumRange2; rw [if_neg (fun h => by rw [hns] at h; exact absurd h.2 (by decide))]; unfold stSumRange; rw [if_pos ⟨hk5, hns⟩, hkx]; (try simp only); rw [if_neg (fun h => hnn (by rw [h.2]; decide))]);clear h10 hkk hii hjj hir hk5 hns hkx hl hl2 hip;go_enter Try.func135, Try.ntmps135
      go_wp2_with fail
      refine bodyPost_end (v := .tuple #[]) (by first | rfl | (simp [results, Try.results135, go_sem]; try rfl)) rfl ?_;rw [HS.out]
      first | exact Wd.same (S' := fun _ => True) HP.out (Below.refl _ _) trivial _ | simpa using Wd.same (S' := fun _ => True) HP.out (Below.refl _ _) trivial (.tuple #[])
    ·have HS := Lib.hid (show stSumRange2 t = t from by unfold stSumRange2; rw [if_neg (fun h => by rw [hns] at h; exact absurd h.2 (by decide))]; unfold stSumRange; rw [if_pos ⟨hk5, hns⟩, hkx]; (try simp only); rw [if_neg (fun h => h10 h.1)]);clear h10 hir hk5 hns hkx hl hl2 hip;go_enter Try.func135, Try.ntmps135
     go_wp2_with fail
     refine bodyPost_end (v := .tuple #[]) (by first | rfl | (simp [results, Try.results135, go_sem]; try rfl)) rfl ?_;rw [HS.out]
     first | exact Wd.same (S' := fun _ => True) HP.out (Below.refl _ _) trivial _ | simpa using Wd.same (S' := fun _ => True) HP.out (Below.refl _ _) trivial (.tuple #[])
   have hl0 : t.kids = [] := List.eq_nil_of_length_eq_zero (by omega);rw [hl0] at n0;have HS := Lib.hid (show stSumRange2 t = t from by unfold stSumRange2; rw [if_neg (fun h => by rw [hns] at h; exact absurd h.2 (by decide))]; unfold stSumRange; rw [if_pos ⟨hk5, hns⟩, hl0]);clear hk5 hns hl0 hl hl' hl2 hb hr hks;go_enter Try.func135, Try.ntmps135
   go_wp2_with fail
   refine bodyPost_end (v := .tuple #[]) (by first | rfl | (simp [results, Try.results135, go_sem]; try rfl)) rfl ?_;rw [HS.out]
   first | exact Wd.same (S' := fun _ => True) HP.out (Below.refl _ _) trivial _ | simpa using Wd.same (S' := fun _ => True) HP.out (Below.refl _ _) trivial (.tuple #[])
  replace hnm : (t.name == [115, 117, 109]) = false := by simpa using hnm
  by_cases hnr0 : (t.name == [114, 101, 100, 117, 99, 101]) = true
  ·have hns : t.name = nm "reduce" := by rw [show nm "reduce" = [114, 101, 100, 117, 99, 101] from by decide]; simpa using hnr0
   by_cases hl : t.kids.length = 2
   ·obtain ⟨r1, p1, hkx⟩ : ∃ r1 p1, t.kids = [r1, p1] := by
     match hq : t.kids, hl with
     |[y, z], _ => exact ⟨y, z, rfl⟩
    rw [hkx] at hks n0;obtain ⟨vr, vp, fr, fp1, rfl, rfl, hir, hip⟩ : ∃ vr vp fr fp1, vs = [vr, vp] ∧ fs = [fr, fp1] ∧ IsA w r1 vr fr ∧ IsA w p1 vp fp1 := by
     cases hks with | cons h hl => cases hl with | cons h2 hl => cases hl; exact ⟨_, _, _, _, rfl, rfl, h, h2⟩
    obtain ⟨r, sp, R, rfl, rfl, hr2⟩ : ∃ r sp R, a = some ⟨r, 0, none⟩ ∧ rb = [r] ∧ Lb w r ([vr, vp] ++ sp) R := by
     rcases hr with ⟨h, _⟩ | h
     ·cases h
     ·exact h
    have d0 : w.cell? ⟨r, 0, none⟩ = some vr := (by rw [hr2.cell]; rfl);have d1 : w.cell? ⟨r, 1, none⟩ = some vp := (by rw [hr2.cell]; rfl);have zr := hr2.lt;clear hr2 hks hb;rcases hir.bin with ⟨bq, i, j, vi, vj, fi, fj, rfl, h10, hkk, cn, c3, c4, zq, hii, hjj⟩ | ⟨bq, rfl, h10, pq⟩
    ·by_cases hnn : (r1.name == [46, 46]) = true
     ·have hnr : r1.name = nm ".." := (by rw [show nm ".." = [46, 46] from by decide]; simpa using hnn);clear hir;rcases hii.three with ⟨bi, rfl, hki, ni, zi⟩ | ⟨bi, rfl, hki, ni, zi, ri⟩ | ⟨bi, rfl, hki17, hki, px, px3⟩
      ·have HS := Lib.hid (show stSumRange2 t = t from by unfold stSumRange2; rw [if_pos ⟨hk5, hns⟩, hkx]; (try simp only); rw [if_pos ⟨h10, hnr⟩, hkk]; (try simp only); rw [if_neg (fun h => by omega)]);clear h10 hkk hii hjj hki hnr hk5 hns hkx hl hl2 hip;go_enter Try.func135, Try.ntmps135
       go_wp2_with fail
       refine bodyPost_end (v := .tuple #[]) (by first | rfl | (simp [results, Try.results135, go_sem]; try rfl)) rfl ?_;rw [HS.out]
       first | exact Wd.same (S' := fun _ => True) HP.out (Below.refl _ _) trivial _ | simpa using Wd.same (S' := fun _ => True) HP.out (Below.refl _ _) trivial (.tuple #[])
      ·rcases hjj.three with ⟨bj, rfl, hkj, nj, zj⟩ | ⟨bj, rfl, hkj, nj, zj, rj⟩ | ⟨bj, rfl, hkj17, hkj, py, py3⟩
       ·have HS := Lib.hid (show stSumRange2 t = t from by unfold stSumRange2; rw [if_pos ⟨hk5, hns⟩, hkx]; (try simp only); rw [if_pos ⟨h10, hnr⟩, hkk]; (try simp only); rw [if_neg (fun h => by omega)]);clear h10 hkk hii hjj hki hkj hnr ri hk5 hns hkx hl hl2 hip;go_enter Try.func135, Try.ntmps135
        go_wp2_with fail
        refine bodyPost_end (v := .tuple #[]) (by first | rfl | (simp [results, Try.results135, go_sem]; try rfl)) rfl ?_;rw [HS.out]
        first | exact Wd.same (S' := fun _ => True) HP.out (Below.refl _ _) trivial _ | simpa using Wd.same (S' := fun _ => True) HP.out (Below.refl _ _) trivial (.tuple #[])
       ·clear hii hjj ri rj;have HA := Lib.hid (isacc_any p1 vp fp1 w hip);have HR := Lib.hid (show isAcc p1 = true → i.int ≤ j.int → stSumRange2 t = mkI (serie i.int j.int) from fun h1 h2 => by unfold stSumRange2; rw [if_pos ⟨hk5, hns⟩, hkx]; (try simp only); rw [if_pos ⟨h10, hnr⟩, hkk]; simp only; rw [if_pos ⟨hki, hkj, h1, h2⟩]);have HR0 := Lib.hid (show ¬ (isAcc p1 = true ∧ i.int ≤ j.int) → stSumRange2 t = t from fun h1 => by unfold stSumRange2; rw [if_pos ⟨hk5, hns⟩, hkx]; (try simp only); rw [if_pos ⟨h10, hnr⟩, hkk]; simp only; rw [if_neg (fun h => h1 ⟨h.2.2.1, h.2.2.2⟩)]);obtain ⟨typ, pvp, rfl⟩ : ∃ ty pv, vp = .iface ty pv := (by obtain ⟨x, hx⟩ := hip.ptr; exact ⟨_, _, hx⟩);clear h10 hkk hki hkj hnr hk5 hns hkx hl hl2 hip;cases hac : isAcc p1 with
        |false =>
         rw [hac] at HA;have HS := Lib.hid (HR0.out (fun h => by rw [hac] at h; cases h.1));go_enter Try.func135, Try.ntmps135
         go_wp2_with fail
         apply Calls.mono
         ·exact HA.out
         rintro e1 w1 ⟨rfl, hw⟩;obtain rfl : w = w1 := hw.symm
         (simp only []; go_at_K)
         go_wp2_with fail
         refine bodyPost_end (v := .tuple #[]) (by first | rfl | (simp [results, Try.results135, go_sem]; try rfl)) rfl ?_;rw [HS.out]
         first | exact Wd.same (S' := fun _ => True) HP.out (Below.refl _ _) trivial _ | simpa using Wd.same (S' := fun _ => True) HP.out (Below.refl _ _) trivial (.tuple #[])
        |true =>
         rw [hac] at HA
         by_cases hij : i.int ≤ j.int
         ·have d1x : decide (i.int ≤ j.int) = true := decide_eq_true hij;have hwm : wrap64 (wrap64 (j.int - i.int) + 1) = manyOf i.int j.int := rfl;have hwq : wrap64 ((wrap64 (manyOf i.int j.int * wrap64 (i.int + j.int))).tdiv 2) = serie i.int j.int := wrap_I64 (serie_in i.int j.int);have HS := Lib.hid (HR.out hac hij);clear hij hac;go_enter Try.func135, Try.ntmps135
          go_wp2_with fail
          apply Calls.mono
          ·exact HA.out
          rintro e1 w1 ⟨rfl, hw⟩;obtain rfl : w = w1 := hw.symm
          (simp only []; go_at_K)
          go_wp2_with fail
          apply Calls.mono
          ·exact patch136 pb po cs Tp _ _ t (mkI (serie i.int j.int)) _ [w.heap.size] _ (HP.out.lb.alloc _) HP.out.get (HP.out.tree.same fun y hy => heap_alloc_old w _ (HP.out.tree.lt y hy)) HP.out.nd (IsA.ofInt (serie i.int j.int) (serie_in _ _) (Lb.new' _ _ _ rfl)) FR.out.1 FR.out.2.1 HP.out.out
          rintro e2 w2 h2;obtain ⟨x2, rfl⟩ := h2.1;have H2 := Lib.hid h2;have r2 : w2.cell? ⟨pb, po, none⟩ = some (.iface 147 (.pointer (some ⟨w.heap.size, 0, none⟩))) := by
           rw [h2.2.2.1.cell]; exact List.getElem?_set_self (List.getElem?_eq_some_iff.1 HP.out.get).1
          clear h2;go_wp21;refine bodyPost_end (v := .tuple #[]) (by first | rfl | (simp [results, Try.results135, go_sem]; try rfl)) rfl ?_;rw [HS.out]
          first | exact Wd.patched HP.out ((Below.refl _ _).alloc (Nat.le_refl _) _) H2.out FR.out.2.2 FR.out.1 trivial _ | simpa using Wd.patched (S' := fun _ => True) HP.out ((Below.refl _ _).alloc (Nat.le_refl _) _) H2.out FR.out.2.2 FR.out.1 trivial (.tuple #[])
         ·have d1x : decide (i.int ≤ j.int) = false := decide_eq_false hij;have HS := Lib.hid (HR0.out (fun h => hij h.2));clear hij hac;go_enter Try.func135, Try.ntmps135
          go_wp2_with fail
          apply Calls.mono
          ·exact HA.out
          rintro e1 w1 ⟨rfl, hw⟩;obtain rfl : w = w1 := hw.symm
          (simp only []; go_at_K)
          go_wp2_with fail
          refine bodyPost_end (v := .tuple #[]) (by first | rfl | (simp [results, Try.results135, go_sem]; try rfl)) rfl ?_;rw [HS.out]
          first | exact Wd.same (S' := fun _ => True) HP.out (Below.refl _ _) trivial _ | simpa using Wd.same (S' := fun _ => True) HP.out (Below.refl _ _) trivial (.tuple #[])
       ·have HS := Lib.hid (show stSumRange2 t = t from by unfold stSumRange2; rw [if_pos ⟨hk5, hns⟩, hkx]; (try simp only); rw [if_pos ⟨h10, hnr⟩, hkk]; (try simp only); rw [if_neg (fun h => hkj h.2.1)]);clear h10 hkk hii hjj hki hkj hkj17 hnr ri hk5 hns hkx hl hl2 hip;go_enter Try.func135, Try.ntmps135
        go_wp2_with fail
        refine bodyPost_end (v := .tuple #[]) (by first | rfl | (simp [results, Try.results135, go_sem]; try rfl)) rfl ?_;rw [HS.out]
        first | exact Wd.same (S' := fun _ => True) HP.out (Below.refl _ _) trivial _ | simpa using Wd.same (S' := fun _ => True) HP.out (Below.refl _ _) trivial (.tuple #[])
      ·have HS := Lib.hid (show stSumRange2 t = t from by unfold stSumRange2; rw [if_pos ⟨hk5, hns⟩, hkx]; (try simp only); rw [if_pos ⟨h10, hnr⟩, hkk]; (try simp only); rw [if_neg (fun h => hki h.1)]);clear h10 hkk hii hjj hki hki17 hnr hk5 hns hkx hl hl2 hip;go_enter Try.func135, Try.ntmps135
       go_wp2_with fail
       refine bodyPost_end (v := .tuple #[]) (by first | rfl | (simp [results, Try.results135, go_sem]; try rfl)) rfl ?_;rw [HS.out]
       first | exact Wd.same (S' := fun _ => True) HP.out (Below.refl _ _) trivial _ | simpa using Wd.same (S' := fun _ => True) HP.out (Below.refl _ _) trivial (.tuple #[])
     ·have HS := Lib.hid (show stSumRange2 t = t from by unfold stSumRange2; rw [if_pos ⟨hk5, hns⟩, hkx]; (try simp only); rw [if_neg (fun h => hnn (by rw [h.2]; decide))]);clear h10 hkk hii hjj hir hk5 hns hkx hl hl2 hip;go_enter Try.func135, Try.ntmps135
      go_wp2_with fail
      refine bodyPost_end (v := .tuple #[]) (by first | rfl | (simp [results, Try.results135, go_sem]; try rfl)) rfl ?_;rw [HS.out]
      first | exact Wd.same (S' := fun _ => True) HP.out (Below.refl _ _) trivial _ | simpa using Wd.same (S' := fun _ => True) HP.out (Below.refl _ _) trivial (.tuple #[])
    ·have HS := Lib.hid (show stSumRange2 t = t from by unfold stSumRange2; rw [if_pos ⟨hk5, hns⟩, hkx]; (try simp only); rw [if_neg (fun h => h10 h.1)]);clear h10 hir hk5 hns hkx hl hl2 hip;go_enter Try.func135, Try.ntmps135
     go_wp2_with fail
     refine bodyPost_end (v := .tuple #[]) (by first | rfl | (simp [results, Try.results135, go_sem]; try rfl)) rfl ?_;rw [HS.out]
     first | exact Wd.same (S' := fun _ => True) HP.out (Below.refl _ _) trivial _ | simpa using Wd.same (S' := fun _ => True) HP.out (Below.refl _ _) trivial (.tuple #[])
   have l2 : ((t.kids.length : Int) == 2) = false := beq_eq_false_iff_ne.2 (by omega);have l3 : ((t.kids.length : Int) == 3) = false := beq_eq_false_iff_ne.2 (by omega);have HS := Lib.hid (show stSumRange2 t = t from by unfold stSumRange2; rw [if_pos ⟨hk5, hns⟩]; split <;> first | rfl | (rename_i hkx; exact absurd (by rw [hkx]; rfl) hl));clear hk5 hns hl2 hl hb hr hks;go_enter Try.func135, Try.ntmps135
   go_wp2_with fail
   refine bodyPost_end (v := .tuple #[]) (by first | rfl | (simp [results, Try.results135, go_sem]; try rfl)) rfl ?_;rw [HS.out]
   first | exact Wd.same (S' := fun _ => True) HP.out (Below.refl _ _) trivial _ | simpa using Wd.same (S' := fun _ => True) HP.out (Below.refl _ _) trivial (.tuple #[])
  replace hnr0 : (t.name == [114, 101, 100, 117, 99, 101]) = false := by simpa using hnr0
  have HS := Lib.hid (show stSumRange2 t = t from by unfold stSumRange2; rw [if_neg (fun h => by rw [h.2] at hnr0; exact absurd hnr0 (by decide))]; unfold stSumRange; rw [if_neg (fun h => by rw [h.2] at hnm; exact absurd hnm (by decide))]);clear hk5 hl2 hb hr hks;go_enter Try.func135, Try.ntmps135
  go_wp2_with fail
  refine bodyPost_end (v := .tuple #[]) (by first | rfl | (simp [results, Try.results135, go_sem]; try rfl)) rfl ?_;rw [HS.out]
  first | exact Wd.same (S' := fun _ => True) HP.out (Below.refl _ _) trivial _ | simpa using Wd.same (S' := fun _ => True) HP.out (Below.refl _ _) trivial (.tuple #[])
 ·obtain ⟨b, rfl⟩ := hP.tree.ptr;have hpu : ¬ pty t.kind = 100 := fun h => hk5 ((pty_eq hP.tree.okk).1.1 h);have HS := Lib.hid (show stSumRange2 t = t from by unfold stSumRange2; rw [if_neg (fun h => hk5 h.1)]; unfold stSumRange; rw [if_neg (fun h => hk5 h.1)]);clear hP hk5 hPt;go_enter Try.func135, Try.ntmps135
  go_wp2_with fail
  refine bodyPost_end (v := .tuple #[]) (by first | rfl | (simp [results, Try.results135, go_sem]; try rfl)) rfl ?_;rw [HS.out]
  first | exact Wd.same (S' := fun _ => True) HP.out (Below.refl _ _) trivial _ | simpa using Wd.same (S' := fun _ => True) HP.out (Below.refl _ _) trivial (.tuple #[])
end Go.Proofs.Ytafhhdimjkgihaa.Mn
