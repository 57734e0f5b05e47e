/- CountThreshold: what belongs to this law alone: part 2. -/
import Derived.Test.YtafhhdimjkgihaaKCountThreshold1
set_option linter.unusedSimpArgs false
set_option linter.unusedVariables false
namespace Go.Proofs.Ytafhhdimjkgihaa.Mn
attribute [local go_sem ↓] Go.wp_at_zero Go.wp_at_succ
open Go.RowKit
theorem door_countThreshold (b : Nat) : Door 122 (.pointer (some ⟨b, 0, none⟩)) 127 := ⟨fun n w => by kernel_rfl, fun args w => by kernel_rfl⟩
theorem st_ct {t c i : Tr} (hk : t.kind = 10) (hkx : t.kids = [c, i]) (hck : c.kind = 15) (hcn : c.name = nm "count") (hcl : c.kids.length = 2) (hik : i.kind = 3) (ho : t.name = nm ">" ∨ t.name = nm ">=" ∨ t.name = nm "<" ∨ t.name = nm "<=") (h2 : 2 ≤ over1 t.name i.int) (h3 : over1 t.name i.int < 9223372036854775808) :
 stCountThreshold t = { t with kids := [{ c with limited := true, limit := over1 t.name i.int }, i] } := by
 unfold stCountThreshold;rw [if_pos hk, hkx];simp only;rw [if_pos ⟨hck, hcn, hcl, hik, ho, h2, h3⟩]
theorem ct_end {t c i : Tr} {K : Nat → Prop} {w : World} {pb po : Nat} {cs : List Value} {Tp : TypeId} {b f bc ffc : Nat} {p q pc qc : Int} {vi : Value} {ac : Option Addr} {cc : Nat} {vsc msc : List Value} {fsc gsc : List (List Nat)} {rbc ftc fi : List Nat} {thc : Value}
 {fp : List Nat} (hfp : fp = [b] ++ [(bc :: rbc) ++ fsc.flatten ++ (gsc.flatten ++ ftc), fi].flatten ++ []) (hP : Pos w pb po cs Tp (.iface 85 (.pointer (some ⟨b, 0, none⟩))) t fp K) (hk : t.kind = 10) (hkx : t.kids = [c, i]) (hck : c.kind = 15) (hx : Hx t f p q)
 (hb : Lb w b [.int .i64 p, .int .i64 q, .string (str t.name), .iface 100 (.pointer (some ⟨bc, 0, none⟩)), vi] 87) (hxc : Hx c ffc pc qc)
 (hbc : Lb w bc [.int .i64 pc, .int .i64 qc, .string (str c.name), .slice ac c.kids.length cc, .bool c.flag, msc.headD .nilIface, thc] 102) (hrc : Rw w ac vsc rbc) (hksc : IsAs w c.kids vsc fsc) (h1c : c.map.length ≤ 1) (hmc : IsAs w c.map msc gsc) (hii : IsA w i vi fi) (z : Int) (hz : I64 z) (x : Value) :
 Wd { t with kids := [{ c with limited := true, limit := z }, i] } pb po cs Tp fp K (fun _ => True) w (.returned x) ((w.setCell ⟨bc, 6, none⟩ (.pointer (some ⟨w.heap.size, 0, none⟩))).alloc (.cells #[.int .i64 z] 3)) := by
 subst hfp;have hnd := hP.nd;have hlt := hP.tree.lt;have e0 : ∀ G : List Nat, [b] ++ [(bc :: rbc) ++ fsc.flatten ++ (gsc.flatten ++ G), fi].flatten ++ [] = (b :: ((bc :: rbc) ++ fsc.flatten ++ gsc.flatten)) ++ (G ++ fi) := fun G => by simp
 rw [e0] at hnd hlt;have hbc0 : b ≠ bc := fun h => by simp only [List.cons_append, List.nodup_cons] at hnd; exact hnd.1 (by rw [h]; simp)
 have hE : Ext (· = bc) w.heap.size w ((w.setCell ⟨bc, 6, none⟩ (.pointer (some ⟨w.heap.size, 0, none⟩))).alloc (.cells #[.int .i64 z] 3)) := ((Ext.refl (· = bc) _ _).setCell (.inl rfl) _).alloc (by simp) _;have hdis : ∀ x ∈ rbc ++ fsc.flatten ++ gsc.flatten ++ fi, x ≠ bc := fun x hx h => by
  subst h;have h2 := hnd;simp only [List.cons_append, List.nodup_cons] at h2;refine h2.2.1 ?_;simp only [List.mem_append] at hx ⊢;rcases hx with ((hx | hx) | hx) | hx
  ·exact .inl (.inl (.inl hx))
  ·exact .inl (.inl (.inr hx))
  ·exact .inl (.inr hx)
  ·exact .inr (.inr hx)
 have hsame : ∀ x ∈ rbc ++ fsc.flatten ++ gsc.flatten ++ fi, ((w.setCell ⟨bc, 6, none⟩ (.pointer (some ⟨w.heap.size, 0, none⟩))).alloc (.cells #[.int .i64 z] 3)).heap[x]? = w.heap[x]? := fun x hx => hE.block x (hlt x (by
  simp only [List.mem_append, List.mem_cons] at hx ⊢;rcases hx with ((hx | hx) | hx) | hx
  ·exact .inl (.inr (.inl (.inl (.inr hx))))
  ·exact .inl (.inr (.inl (.inr hx)))
  ·exact .inl (.inr (.inr hx))
  ·exact .inr (.inr hx))) (hdis x hx)
 have hLc := (hbc.set 6 (.pointer (some ⟨w.heap.size, 0, none⟩))).alloc (.cells #[.int .i64 z] 3);simp only [List.set_cons_succ, List.set_cons_zero] at hLc;have hc2 : IsA ((w.setCell ⟨bc, 6, none⟩ (.pointer (some ⟨w.heap.size, 0, none⟩))).alloc (.cells #[.int .i64 z] 3)) { c with limited := true, limit := z } (.iface 100 (.pointer (some ⟨bc, 0, none⟩))) ((bc :: rbc) ++ fsc.flatten ++ (gsc.flatten ++ [w.heap.size])) := by
  have hst : strike { c with limited := true, limit := z } = { c with limited := true, limit := z } := by
   have := hxc.hn;cases c
   simp_all [strike, named]
  have := IsA.list { c with limited := true, limit := z } bc ffc pc qc ac cc vsc fsc rbc msc gsc (.pointer (some ⟨w.heap.size, 0, none⟩)) [w.heap.size] (by show listy c.kind = true; rw [hck]; rfl) ⟨hst, hxc.hf, hxc.hi, hz, hxc.hp, hxc.hq, hxc.ht, hxc.hk⟩ (by
   have e : acells { c with limited := true, limit := z } ffc pc qc [.slice ac c.kids.length cc] (msc.headD .nilIface) (.pointer (some ⟨w.heap.size, 0, none⟩)) = [.int .i64 pc, .int .i64 qc, .string (str c.name), .slice ac c.kids.length cc, .bool c.flag, msc.headD .nilIface, .pointer (some ⟨w.heap.size, 0, none⟩)] := (by simp [acells, headC, tailC, named, hck]);show Lb _ bc (acells { c with limited := true, limit := z } ffc pc qc [.slice ac c.kids.length cc] (msc.headD .nilIface) (.pointer (some ⟨w.heap.size, 0, none⟩))) (sty c.kind)
   rw [e, hck]; exact hLc) (hrc.same fun x hx => hsame x (by simp [hx])) (hksc.same fun x hx => hsame x (by simp only [List.mem_append]; exact .inl (.inl (.inr hx)))) ⟨h1c, fun h => by have h : c.kind = 21 := h; omega⟩ (hmc.same fun x hx => hsame x (by simp only [List.mem_append]; exact .inl (.inr hx))) (.inr ⟨w.heap.size, rfl, rfl, rfl, Lb.new' _ _ 3 (by simp)⟩)
  rw [show nv ({ c with limited := true, limit := z } : Tr).kind bc = .iface 100 (.pointer (some ⟨bc, 0, none⟩)) by show nv c.kind bc = _; rw [hck]; rfl] at this
  exact this
 have ht2 := IsA.node { t with kids := [{ c with limited := true, limit := z }, i] } b f p q [.iface 100 (.pointer (some ⟨bc, 0, none⟩)), vi] [(bc :: rbc) ++ fsc.flatten ++ (gsc.flatten ++ [w.heap.size]), fi] (by show ari t.kind = _; rw [hk]; rfl) (hx.with _ (by rw [hkx]; rfl)) (by
  have e : acells { t with kids := [{ c with limited := true, limit := z }, i] } f p q [.iface 100 (.pointer (some ⟨bc, 0, none⟩)), vi] .nilIface (.pointer none) = [.int .i64 p, .int .i64 q, .string (str t.name), .iface 100 (.pointer (some ⟨bc, 0, none⟩)), vi] := by simp [acells, headC, tailC, named, hk]
  rw [e];show Lb _ b _ (sty t.kind);rw [hk];exact (hE.block b hb.lt hbc0).trans hb) (.cons hc2 (.cons (hii.same fun x hx => hsame x (by simp only [List.mem_append]; exact .inr hx)) .nil))
 rw [show nv ({ t with kids := [{ c with limited := true, limit := z }, i] } : Tr).kind b = .iface 85 (.pointer (some ⟨b, 0, none⟩)) by show nv t.kind b = _; rw [hk]; rfl] at ht2
 refine ⟨⟨_, rfl⟩, _, _, ⟨hE.os, hE.tape, hE.output, hE.size, fun y hy h1 h2 _ => hE.block y hy fun h => h2 (by rw [h]; simp)⟩, ?_, ht2, ?_, fun y hy => ?_, trivial⟩
 ·have hset : cs.set po (.iface 85 (.pointer (some ⟨b, 0, none⟩))) = cs := by
   apply List.ext_getElem?;intro j;rw [List.getElem?_set]
   split
   ·rename_i h; subst h
    have := (List.getElem?_eq_some_iff.1 hP.get).1;rw [if_pos this, hP.get]
   ·rfl
  rw [hset];exact (hE.block pb hP.lb.lt fun h => hP.out (by rw [h]; simp)).trans hP.lb
 ·rw [e0];exact nodup_mid hnd hlt (by simp) fun x hx => .inr (by simp at hx; omega)
 ·rw [e0] at hy;rw [e0];simp only [List.mem_append, List.mem_cons, List.not_mem_nil, or_false] at hy ⊢;rcases hy with hy | hy | hy
  ·exact .inl (.inl hy)
  ·exact .inr (by omega)
  ·exact .inl (.inr (.inr hy))
set_option maxHeartbeats 6400000 in
set_option maxRecDepth 100000 in
theorem visit_countThreshold (rb0 : Nat) : VisOk 127 (.pointer (some ⟨rb0, 0, none⟩)) stCountThreshold (fun _ => false) (fun _ => False) (fun _ _ => True) (fun _ => True) := by
 intro t _ v fp pb po cs Tp w s hP _;have r0 : w.cell? ⟨pb, po, none⟩ = some v := by rw [hP.lb.cell]; exact hP.get
 have g0 := hP.lb.frozen; have z0 := hP.lb.lt;have HP := Lib.hid hP
 by_cases hk : t.kind = 10
 ·obtain ⟨b, f, p, q, vs, fs, rfl, hx, hb, hks, hl, hfp⟩ := hP.tree.fields (n := 2) (by rw [hk]; rfl);obtain ⟨c, i, hkx⟩ : ∃ c i, t.kids = [c, i] := by
   match hq : t.kids, hl with
   |[y, z], _ => exact ⟨y, z, rfl⟩
  rw [hkx] at hks;obtain ⟨vc, fc, vi, fi, rfl, rfl, hic, hii⟩ : ∃ vc fc vi fi, vs = [vc, vi] ∧ fs = [fc, fi] ∧ IsA w c vc fc ∧ IsA w i vi fi := by
   cases hks with | cons h hl => cases hl with | cons h2 hl => cases hl; exact ⟨_, _, _, _, rfl, rfl, h, h2⟩
  rw [show acells t f p q [vc, vi] .nilIface (.pointer none) = [.int .i64 p, .int .i64 q, .string (str t.name), vc, vi] by simp [acells, headC, tailC, named, hk], show sty t.kind = 87 by rw [hk]; rfl] at hb;rw [show nv t.kind b = .iface 85 (.pointer (some ⟨b, 0, none⟩)) by rw [hk]; rfl] at r0 HP hP;have n0 := hb.cell; have zn := hb.lt;have HX0 := Lib.hid hx;clear hl hx
  by_cases hck : c.kind = 15
  ·obtain ⟨bc, ffc, pc, qc, ac, cc, vsc, fsc, rbc, msc, gsc, thc, ftc, rfl, hxc, hbc, hrc, hksc, h1c, hmc, htc, hfc⟩ := hic.b15 hck;have m0 := hbc.cell; have mf := hbc.frozen; have zm := hbc.lt
   by_cases hcn : (c.name == [99, 111, 117, 110, 116]) = true
   ·by_cases hcl : c.kids.length = 2
    ·by_cases hik : i.kind = 3
     ·obtain ⟨bi, f3, pi, qi, vsi, fsi, rfl, hxi, hbi, hksi, hli, hfi⟩ := hii.fields (n := 0) (by rw [hik]; rfl);obtain rfl : vsi = [] := List.eq_nil_of_length_eq_zero (by rw [hksi.len.1, hli]);rw [show acells i f3 pi qi [] .nilIface (.pointer none) = [.int .i64 pi, .int .i64 qi, .int .i64 i.int] by simp [acells, headC, tailC, named, hik], show sty i.kind = 149 by rw [hik]; rfl] at hbi;rw [show nv i.kind bi = .iface 147 (.pointer (some ⟨bi, 0, none⟩)) by rw [hik]; rfl] at n0 hb hii;have l0 := hbi.cell; have zl := hbi.lt;have hir := hxi.hi;clear hli hxi
      by_cases hneg : i.int < 0
      ·have d1 : decide (i.int < 0) = true := decide_eq_true hneg;have HS := Lib.hid (show stCountThreshold t = t from by unfold stCountThreshold over1; (repeat' split) <;> first | rfl | (exfalso; simp_all (decide := true) [nm]; done) | (exfalso; simp_all (decide := true) [nm]; omega));clear hP hb hks hfp hbc hrc hksc h1c hmc htc hic hii hxc hfc hbi hksi hir hfi;go_enter Try.func127, Try.ntmps127
       go_wp2_with fail
       refine bodyPost_end (v := .tuple #[]) (by first | rfl | (simp [results, Try.results127, go_sem]; try rfl)) rfl ?_;rw [HS.out];refine Wd.same HP.out ?_ trivial _
       go_grown
      have d1 : decide (i.int < 0) = false := decide_eq_false hneg
      by_cases t0 : (t.name == [62]) = true
      ·have t1 : (t.name == [62, 61]) = false := (by rw [show t.name = [62] by simpa using t0]; rfl);have t2 : (t.name == [60]) = false := (by rw [show t.name = [62] by simpa using t0]; rfl);have t3 : (t.name == [60, 61]) = false := (by rw [show t.name = [62] by simpa using t0]; rfl);have hir2 := hir;unfold I64 at hir2
       by_cases hb2 : 1 ≤ i.int ∧ i.int < 9223372036854775807
       ·have hw1 : IntKind.i64.wrap (i.int + 1) = i.int + 1 := (by rw [IntKind.wrap_i64]; omega);have hw2 : wrap64 (i.int + 1) = i.int + 1 := (by unfold wrap64; omega);have d2 : decide (i.int + 1 ≤ 1) = false := decide_eq_false (by omega);have d3 : decide (i.int ≤ 0) = false := decide_eq_false (by omega);have d4 : ¬ i.int ≤ 0 := (by omega);have htn : t.name = nm ">" := (by rw [show nm ">" = [62] from by decide]; simpa using t0);have hcn2 : c.name = nm "count" := (by rw [show nm "count" = [99, 111, 117, 110, 116] from by decide]; simpa using hcn);have e1 : over1 t.name i.int = i.int + 1 := (by rw [htn]; unfold over1; rw [if_pos (by decide)]);have HS := Lib.hid (st_ct hk hkx hck hcn2 hcl hik (.inl htn) (by rw [e1]; omega) (by rw [e1]; unfold I64 at hir; omega));rw [e1] at HS;have HEND := Lib.hid (ct_end (by rw [hfp, hfc]) hP hk hkx hck HX0.out hb hxc hbc hrc hksc h1c hmc hii (i.int + 1) (by unfold I64 at hir ⊢; omega))
        clear hP hb hks hfp hbc hrc hksc h1c hmc htc hic hii hxc hfc hbi hksi  hfi hkx hk hck hik htn hcn2 e1;go_enter Try.func127, Try.ntmps127
        go_wp2_with fail
        refine bodyPost_end (v := .tuple #[]) (by first | rfl | (simp [results, Try.results127, go_sem]; try rfl)) rfl ?_;rw [HS.out];exact HEND.out _
       ·rcases (show i.int = 0 ∨ i.int = 9223372036854775807 by omega) with hz | hz
        ·have hw1 : IntKind.i64.wrap (i.int + 1) = 1 := (by rw [hz]; rfl);have hw2 : wrap64 (i.int + 1) = 1 := (by rw [hz]; unfold wrap64; omega);have HS := Lib.hid (show stCountThreshold t = t from by unfold stCountThreshold over1; (repeat' split) <;> first | rfl | (exfalso; simp_all (decide := true) [nm]; done) | (exfalso; simp_all (decide := true) [nm]; omega));clear hP hb hks hfp hbc hrc hksc h1c hmc htc hic hii hxc hfc hbi hksi hir hfi hz;go_enter Try.func127, Try.ntmps127
         go_wp2_with fail
         refine bodyPost_end (v := .tuple #[]) (by first | rfl | (simp [results, Try.results127, go_sem]; try rfl)) rfl ?_;rw [HS.out];refine Wd.same HP.out ?_ trivial _
         go_grown
        ·have hw1 : IntKind.i64.wrap (i.int + 1) = -9223372036854775808 := (by rw [hz]; rfl);have hw2 : wrap64 (i.int + 1) = -9223372036854775808 := (by rw [hz]; unfold wrap64; omega);have HS := Lib.hid (show stCountThreshold t = t from by unfold stCountThreshold over1; (repeat' split) <;> first | rfl | (exfalso; simp_all (decide := true) [nm]; done) | (exfalso; simp_all (decide := true) [nm]; omega));clear hP hb hks hfp hbc hrc hksc h1c hmc htc hic hii hxc hfc hbi hksi hir hfi hz;go_enter Try.func127, Try.ntmps127
         go_wp2_with fail
         refine bodyPost_end (v := .tuple #[]) (by first | rfl | (simp [results, Try.results127, go_sem]; try rfl)) rfl ?_;rw [HS.out];refine Wd.same HP.out ?_ trivial _
         go_grown
      replace t0 : (t.name == [62]) = false := by simpa using t0
      by_cases t1 : (t.name == [62, 61]) = true
      ·have t2 : (t.name == [60]) = false := (by rw [show t.name = [62, 61] by simpa using t1]; rfl);have t3 : (t.name == [60, 61]) = false := by rw [show t.name = [62, 61] by simpa using t1]; rfl
       by_cases hb2 : 2 ≤ i.int
       ·have d2 : decide (i.int ≤ 1) = false := decide_eq_false (by omega);have d4 : ¬ i.int ≤ 1 := (by omega);have htn : t.name = nm ">=" := (by rw [show nm ">=" = [62, 61] from by decide]; simpa using t1);have hcn2 : c.name = nm "count" := (by rw [show nm "count" = [99, 111, 117, 110, 116] from by decide]; simpa using hcn);have e1 : over1 t.name i.int = i.int := (by rw [htn]; unfold over1; rw [if_neg (by decide)]);have HS := Lib.hid (st_ct hk hkx hck hcn2 hcl hik (.inr (.inl htn)) (by rw [e1]; omega) (by rw [e1]; unfold I64 at hir; omega));rw [e1] at HS;have HEND := Lib.hid (ct_end (by rw [hfp, hfc]) hP hk hkx hck HX0.out hb hxc hbc hrc hksc h1c hmc hii (i.int) (by unfold I64 at hir ⊢; omega));clear hP hb hks hfp hbc hrc hksc h1c hmc htc hic hii hxc hfc hbi hksi  hfi hkx hk hck hik htn hcn2 e1;go_enter Try.func127, Try.ntmps127
        go_wp2_with fail
        refine bodyPost_end (v := .tuple #[]) (by first | rfl | (simp [results, Try.results127, go_sem]; try rfl)) rfl ?_;rw [HS.out];exact HEND.out _
       ·have d2 : decide (i.int ≤ 1) = true := decide_eq_true (by omega);have HS := Lib.hid (show stCountThreshold t = t from by unfold stCountThreshold over1; (repeat' split) <;> first | rfl | (exfalso; simp_all (decide := true) [nm]; done) | (exfalso; simp_all (decide := true) [nm]; omega));clear hP hb hks hfp hbc hrc hksc h1c hmc htc hic hii hxc hfc hbi hksi hir hfi;go_enter Try.func127, Try.ntmps127
        go_wp2_with fail
        refine bodyPost_end (v := .tuple #[]) (by first | rfl | (simp [results, Try.results127, go_sem]; try rfl)) rfl ?_;rw [HS.out];refine Wd.same HP.out ?_ trivial _
        go_grown
      replace t1 : (t.name == [62, 61]) = false := by simpa using t1
      by_cases t2 : (t.name == [60]) = true
      ·have t3 : (t.name == [60, 61]) = false := by rw [show t.name = [60] by simpa using t2]; rfl
       by_cases hb2 : 2 ≤ i.int
       ·have d2 : decide (i.int ≤ 1) = false := decide_eq_false (by omega);have d4 : ¬ i.int ≤ 1 := (by omega);have htn : t.name = nm "<" := (by rw [show nm "<" = [60] from by decide]; simpa using t2);have hcn2 : c.name = nm "count" := (by rw [show nm "count" = [99, 111, 117, 110, 116] from by decide]; simpa using hcn);have e1 : over1 t.name i.int = i.int := (by rw [htn]; unfold over1; rw [if_neg (by decide)]);have HS := Lib.hid (st_ct hk hkx hck hcn2 hcl hik (.inr (.inr (.inl htn))) (by rw [e1]; omega) (by rw [e1]; unfold I64 at hir; omega));rw [e1] at HS;have HEND := Lib.hid (ct_end (by rw [hfp, hfc]) hP hk hkx hck HX0.out hb hxc hbc hrc hksc h1c hmc hii (i.int) (by unfold I64 at hir ⊢; omega));clear hP hb hks hfp hbc hrc hksc h1c hmc htc hic hii hxc hfc hbi hksi  hfi hkx hk hck hik htn hcn2 e1;go_enter Try.func127, Try.ntmps127
        go_wp2_with fail
        refine bodyPost_end (v := .tuple #[]) (by first | rfl | (simp [results, Try.results127, go_sem]; try rfl)) rfl ?_;rw [HS.out];exact HEND.out _
       ·have d2 : decide (i.int ≤ 1) = true := decide_eq_true (by omega);have HS := Lib.hid (show stCountThreshold t = t from by unfold stCountThreshold over1; (repeat' split) <;> first | rfl | (exfalso; simp_all (decide := true) [nm]; done) | (exfalso; simp_all (decide := true) [nm]; omega));clear hP hb hks hfp hbc hrc hksc h1c hmc htc hic hii hxc hfc hbi hksi hir hfi;go_enter Try.func127, Try.ntmps127
        go_wp2_with fail
        refine bodyPost_end (v := .tuple #[]) (by first | rfl | (simp [results, Try.results127, go_sem]; try rfl)) rfl ?_;rw [HS.out];refine Wd.same HP.out ?_ trivial _
        go_grown
      replace t2 : (t.name == [60]) = false := by simpa using t2
      by_cases t3 : (t.name == [60, 61]) = true
      ·have hir2 := hir;unfold I64 at hir2
       by_cases hb2 : 1 ≤ i.int ∧ i.int < 9223372036854775807
       ·have hw1 : IntKind.i64.wrap (i.int + 1) = i.int + 1 := (by rw [IntKind.wrap_i64]; omega);have hw2 : wrap64 (i.int + 1) = i.int + 1 := (by unfold wrap64; omega);have d2 : decide (i.int + 1 ≤ 1) = false := decide_eq_false (by omega);have d3 : decide (i.int ≤ 0) = false := decide_eq_false (by omega);have d4 : ¬ i.int ≤ 0 := (by omega);have htn : t.name = nm "<=" := (by rw [show nm "<=" = [60, 61] from by decide]; simpa using t3);have hcn2 : c.name = nm "count" := (by rw [show nm "count" = [99, 111, 117, 110, 116] from by decide]; simpa using hcn);have e1 : over1 t.name i.int = i.int + 1 := (by rw [htn]; unfold over1; rw [if_pos (by decide)]);have HS := Lib.hid (st_ct hk hkx hck hcn2 hcl hik (.inr (.inr (.inr htn))) (by rw [e1]; omega) (by rw [e1]; unfold I64 at hir; omega));rw [e1] at HS;have HEND := Lib.hid (ct_end (by rw [hfp, hfc]) hP hk hkx hck HX0.out hb hxc hbc hrc hksc h1c hmc hii (i.int + 1) (by unfold I64 at hir ⊢; omega))
        clear hP hb hks hfp hbc hrc hksc h1c hmc htc hic hii hxc hfc hbi hksi  hfi hkx hk hck hik htn hcn2 e1;go_enter Try.func127, Try.ntmps127
        go_wp2_with fail
        refine bodyPost_end (v := .tuple #[]) (by first | rfl | (simp [results, Try.results127, go_sem]; try rfl)) rfl ?_;rw [HS.out];exact HEND.out _
       ·rcases (show i.int = 0 ∨ i.int = 9223372036854775807 by omega) with hz | hz
        ·have hw1 : IntKind.i64.wrap (i.int + 1) = 1 := (by rw [hz]; rfl);have hw2 : wrap64 (i.int + 1) = 1 := (by rw [hz]; unfold wrap64; omega);have HS := Lib.hid (show stCountThreshold t = t from by unfold stCountThreshold over1; (repeat' split) <;> first | rfl | (exfalso; simp_all (decide := true) [nm]; done) | (exfalso; simp_all (decide := true) [nm]; omega));clear hP hb hks hfp hbc hrc hksc h1c hmc htc hic hii hxc hfc hbi hksi hir hfi hz;go_enter Try.func127, Try.ntmps127
         go_wp2_with fail
         refine bodyPost_end (v := .tuple #[]) (by first | rfl | (simp [results, Try.results127, go_sem]; try rfl)) rfl ?_;rw [HS.out];refine Wd.same HP.out ?_ trivial _
         go_grown
        ·have hw1 : IntKind.i64.wrap (i.int + 1) = -9223372036854775808 := (by rw [hz]; rfl);have hw2 : wrap64 (i.int + 1) = -9223372036854775808 := (by rw [hz]; unfold wrap64; omega);have HS := Lib.hid (show stCountThreshold t = t from by unfold stCountThreshold over1; (repeat' split) <;> first | rfl | (exfalso; simp_all (decide := true) [nm]; done) | (exfalso; simp_all (decide := true) [nm]; omega));clear hP hb hks hfp hbc hrc hksc h1c hmc htc hic hii hxc hfc hbi hksi hir hfi hz;go_enter Try.func127, Try.ntmps127
         go_wp2_with fail
         refine bodyPost_end (v := .tuple #[]) (by first | rfl | (simp [results, Try.results127, go_sem]; try rfl)) rfl ?_;rw [HS.out];refine Wd.same HP.out ?_ trivial _
         go_grown
      replace t3 : (t.name == [60, 61]) = false := (by simpa using t3);have HS := Lib.hid (show stCountThreshold t = t from by unfold stCountThreshold over1; (repeat' split) <;> first | rfl | (exfalso; simp_all (decide := true) [nm]; done) | (exfalso; simp_all (decide := true) [nm]; omega));clear hP hb hks hfp hbc hrc hksc h1c hmc htc hic hii hxc hfc hbi hksi hir hfi;go_enter Try.func127, Try.ntmps127
      go_wp2_with fail
      refine bodyPost_end (v := .tuple #[]) (by first | rfl | (simp [results, Try.results127, go_sem]; try rfl)) rfl ?_;rw [HS.out];refine Wd.same HP.out ?_ trivial _
      go_grown
     ·obtain ⟨bi, rfl⟩ := hii.ptr;have hpi : ¬ pty i.kind = 147 := fun h => hik ((pty_eq hii.okk).2.2.1.1 h);have HS := Lib.hid (show stCountThreshold t = t from by unfold stCountThreshold over1; (repeat' split) <;> first | rfl | (exfalso; simp_all (decide := true) [nm]; done) | (exfalso; simp_all (decide := true) [nm]; omega));clear hP hb hks hfp hbc hrc hksc h1c hmc htc hic hii hxc hfc;go_enter Try.func127, Try.ntmps127
      go_wp2_with fail
      refine bodyPost_end (v := .tuple #[]) (by first | rfl | (simp [results, Try.results127, go_sem]; try rfl)) rfl ?_;rw [HS.out];refine Wd.same HP.out ?_ trivial _
      go_grown
    ·have HS := Lib.hid (show stCountThreshold t = t from by unfold stCountThreshold over1; (repeat' split) <;> first | rfl | (exfalso; simp_all (decide := true) [nm]; done) | (exfalso; simp_all (decide := true) [nm]; omega));clear hP hb hks hfp hbc hrc hksc h1c hmc htc hic hii hxc hfc;go_enter Try.func127, Try.ntmps127
     go_wp2_with fail
     refine bodyPost_end (v := .tuple #[]) (by first | rfl | (simp [results, Try.results127, go_sem]; try rfl)) rfl ?_;rw [HS.out];refine Wd.same HP.out ?_ trivial _
     go_grown
   ·have HS := Lib.hid (show stCountThreshold t = t from by unfold stCountThreshold over1; (repeat' split) <;> first | rfl | (exfalso; simp_all (decide := true) [nm]; done) | (exfalso; simp_all (decide := true) [nm]; omega));clear hP hb hks hfp hbc hrc hksc h1c hmc htc hic hii hxc hfc;go_enter Try.func127, Try.ntmps127
    go_wp2_with fail
    refine bodyPost_end (v := .tuple #[]) (by first | rfl | (simp [results, Try.results127, go_sem]; try rfl)) rfl ?_;rw [HS.out];refine Wd.same HP.out ?_ trivial _
    go_grown
  ·obtain ⟨bc, rfl⟩ := hic.ptr;have hpc : ¬ pty c.kind = 100 := fun h => hck ((pty_eq hic.okk).1.1 h);have HS := Lib.hid (show stCountThreshold t = t from by unfold stCountThreshold over1; (repeat' split) <;> first | rfl | (exfalso; simp_all (decide := true) [nm]; done) | (exfalso; simp_all (decide := true) [nm]; omega));clear hP hb hks hfp hic hii;go_enter Try.func127, Try.ntmps127
   go_wp2_with fail
   refine bodyPost_end (v := .tuple #[]) (by first | rfl | (simp [results, Try.results127, go_sem]; try rfl)) rfl ?_;rw [HS.out];refine Wd.same HP.out ?_ trivial _
   go_grown
 ·obtain ⟨b, rfl⟩ := hP.tree.ptr;have hpt : ¬ pty t.kind = 85 := fun h => hk ((pty_eq hP.tree.okk).2.1.1 h);have HS := Lib.hid (show stCountThreshold t = t from by unfold stCountThreshold over1; (repeat' split) <;> first | rfl | (exfalso; simp_all (decide := true) [nm]; done) | (exfalso; simp_all (decide := true) [nm]; omega));clear hP;go_enter Try.func127, Try.ntmps127
  go_wp2_with fail
  refine bodyPost_end (v := .tuple #[]) (by first | rfl | (simp [results, Try.results127, go_sem]; try rfl)) rfl ?_;rw [HS.out];refine Wd.same HP.out ?_ trivial _
  go_grown
end Go.Proofs.Ytafhhdimjkgihaa.Mn
