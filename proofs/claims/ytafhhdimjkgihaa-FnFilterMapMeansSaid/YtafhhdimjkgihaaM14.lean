/- What the program does, function by function, and what trees mean: part 14. -/
import Derived.Test.YtafhhdimjkgihaaM13
import Derived.Test.YtafhhdimjkgihaaM12
set_option linter.unusedSimpArgs false
set_option linter.unusedVariables false
namespace Go.Proofs.Ytafhhdimjkgihaa.Mn
section
attribute [local go_sem ↓] Go.wp_at_zero Go.wp_at_succ
open Go.RowKit
def Leafy (st : Tr → Tr) (sg : Tr → Bool) : Prop := ∀ k : Tr, (k.kind = 3 ∨ k.kind = 4 ∨ k.kind = 5 ∨ k.kind = 6) → st k = k ∧ sg k = false
theorem with_kids {t : Tr} {ks : List Tr} (h : ks = t.kids) : ({ t with kids := ks } : Tr) = t := by cases t; subst h; rfl
theorem IsCs.leafy {st : Tr → Tr} {sg : Tr → Bool} (h : Leafy st sg) {l : List Tr} {vs : List Value} (hc : IsCs l vs) : Ts st l = l ∧ hitss st sg l = false := by
 induction hc with
 |nil => exact ⟨by rw [Ts], by rw [hitss]⟩
 |@cons k v l vs hk hl ih =>
  obtain ⟨h1, h2, h3, h4, h5⟩ := hk;have hkind : k.kind = 3 ∨ k.kind = 4 ∨ k.kind = 5 ∨ k.kind = 6 := by
   rcases h5 with h | h | h | h
   ·exact .inl h.1
   ·exact .inr (.inl h.1)
   ·exact .inr (.inr (.inl h.1))
   ·exact .inr (.inr (.inr h.1))
  have e : ({ k with kids := Ts st k.kids } : Tr) = k := by rw [h2, Ts]; cases k; simp at h2; subst h2; rfl
  rw [Ts, hitss, T_eq, hits_eq, e, h2, hitss, (h k hkind).1, (h k hkind).2, ih.1, ih.2];exact ⟨rfl, rfl⟩
section
variable {fn : FuncId} {vt : TypeId} {recv : Value} {st : Tr → Tr} {sg : Tr → Bool} {K : Nat → Prop} {S : Bool → World → Prop} {P : Tr → Prop}
set_option maxHeartbeats 6400000 in
set_option maxRecDepth 100000 in
theorem walk_const (hd : Door vt recv fn) (hv : VisOk fn recv st sg K S P) (hL : Leafy st sg) (t : Tr) (hp : P { t with kids := Ts st t.kids }) (hk : t.kind = 8) : WalkOk vt recv st sg K S t := by
 intro v fp pb po cs Tp w s hP hS;have r0 : w.cell? ⟨pb, po, none⟩ = some v := by rw [hP.lb.cell]; exact hP.get
 have g0 := hP.lb.frozen; have z0 := hP.lb.lt; have hd1 := hd.find; have hd2 := hd.call;have htree := hP.tree;cases htree with
 |list t b f p q a c vs fs rb ms gs th ft ha hx hb hr hk2 h1 hm ht => exfalso; rw [hk] at ha; simp [listy] at ha
 |node t b f p q vs fs ha hx hb hks => exfalso; rw [hk] at ha; simp [ari] at ha
 |const t b f p q a c vs rb ha hx hb hr hc =>
  rw [show nv t.kind b = .iface 76 (.pointer (some ⟨b, 0, none⟩)) by rw [hk]; rfl] at r0;obtain ⟨e1, e2⟩ := hc.leafy hL;have e3 : ({ t with kids := Ts st t.kids } : Tr) = t := with_kids e1
  rw [e3] at hp;have HV := Lib.hid hv; have H1 := Lib.hid hp; have HP := Lib.hid hP; have HS := Lib.hid hS; have E2 := Lib.hid e2; have E3 := Lib.hid e3;clear hP hS hx ha hb hv hp hr hc hd hk e1 e2 e3 hL;go_enter Try.func54, Try.ntmps54
  go_wp2_with fail
  apply Calls.mono
  ·exact HV.out _ H1.out _ _ _ _ _ _ _ _ HP.out HS.out
  rintro e9 w9 h9;obtain ⟨x9, rfl⟩ := h9.1;have H9 := Lib.hid h9;clear h9;go_wp21;refine bodyPost_end (v := .tuple #[]) (by first | rfl | (simp [results, Try.results54, go_sem]; try rfl)) rfl ?_;exact Wd.finish (.refl _ _ _ _) (fun b hb => .inl hb) (by rw [E3.out]; exact H9.out) (by rw [E2.out, Bool.or_false]) _
set_option maxHeartbeats 6400000 in
set_option maxRecDepth 100000 in
theorem walk_list15 (hd : Door vt recv fn) (hv : VisOk fn recv st sg K S P) (t : Tr) (hp : P { t with kids := Ts st t.kids }) (ih : ∀ k ∈ t.kids, WalkOk vt recv st sg K S k) (hk : t.kind = 15) : WalkOk vt recv st sg K S t := by
 intro v fp pb po cs Tp w s hP hS;have r0 : w.cell? ⟨pb, po, none⟩ = some v := by rw [hP.lb.cell]; exact hP.get
 have g0 := hP.lb.frozen; have z0 := hP.lb.lt; have hd1 := hd.find; have hd2 := hd.call;have htree := hP.tree;cases htree with
 |node t b f p q vs fs ha hx hb hks => exfalso; rw [hk] at ha; simp [ari] at ha
 |const t b f p q a c vs rb ha hx hb hr hc => exfalso; rw [hk] at ha; simp at ha
 |list t b f p q a c vs fs rb ms gs th ft ha hx hb hr hks h1 hm ht =>
  rw [show nv t.kind b = .iface 100 (.pointer (some ⟨b, 0, none⟩)) by rw [hk]; rfl] at r0;have hgo : cs[po]? = some (nv t.kind b) := hP.get;have hac : ∀ s, acells t f p q [s] (ms.headD .nilIface) th = .int .i64 p :: .int .i64 q :: .string (str t.name) :: s :: tailC t (ms.headD .nilIface) th := fun s => by unfold acells headC; rw [hk]; rfl
  have HV := Lib.hid hv; have H1 := Lib.hid hp; have IH := Lib.hid ih; have HS := Lib.hid hS; have HP := Lib.hid hP;have zb := hb.lt;have hkl := hx.hk;unfold most at hkl;rcases hr with ⟨hvs, hrb⟩ | ⟨r, sp, R, ra, hrb, hLr⟩
  ·have hk0 : t.kids = [] := by
    have := hks.len.1;rw [hvs] at this;exact List.eq_nil_of_length_eq_zero this.symm
   have e3 : ({ t with kids := Ts st t.kids } : Tr) = t := with_kids (by rw [hk0, Ts])
   have hl0 : t.kids.length = 0 := (by rw [hk0]; rfl);rw [e3] at H1;have n0 : w.cell? ⟨b, 3, none⟩ = some (.slice a 0 c) := (by have := hb.cell 3; rw [hac, hl0] at this; exact this);have E3 := Lib.hid e3; have HK0 := Lib.hid hk0;clear hP hS hx ha hb hv hp hvs hrb hd hk hks hm ht ih h1 hgo hac e3 hk0 hl0;go_enter Try.func54, Try.ntmps54
   go_wp2_with fail
   go_loopg [168] 0 (fun g i wr => i = .int .i64 0 ∧ wr = w)
   case atStart => exact ⟨rfl, rfl⟩
   case round =>
    obtain ⟨rfl, rfl⟩ := hrel
    go_wp2_with fail
    apply Calls.mono
    ·exact HV.out _ H1.out _ _ _ _ _ _ _ _ HP.out HS.out
    rintro e9 w9 h9;obtain ⟨x9, rfl⟩ := h9.1;have H9 := Lib.hid h9;clear h9;go_wp21;refine bodyPost_end (v := .tuple #[]) (by first | rfl | (simp [results, Try.results54, go_sem]; try rfl)) rfl ?_;exact Wd.finish (.refl _ _ _ _) (fun b hb => .inl hb) (by rw [E3.out]; exact H9.out) (by rw [HK0.out, hitss, Bool.or_false]) _
  ·subst hrb ra;have n0 : w.cell? ⟨b, 3, none⟩ = some (.slice (some ⟨r, 0, none⟩) t.kids.length c) := (by have := hb.cell 3; rw [hac] at this; exact this);have HK0 := Lib.hid (Kd.list hP hLr hks);have HE := Lib.hid (show ∀ (w' : World) (vs' : List Value) (fs' : List (List Nat)), Kd w pb cs Tp ((b :: [r]) ++ fs.flatten ++ (gs.flatten ++ ft)) K (b :: [r]) (gs.flatten ++ ft) r [] sp R w' (Ts st t.kids) vs' fs' → _ from fun w' vs' fs' h => h.endList (by rw [Ts_eq, List.length_map]) ha hx hb h1 hm ht hgo);have HB := Lib.hid (And.intro hb hac);clear hP hS hx ha hb hv hp hd hk hks hm ht ih h1 hgo hac hLr;go_enter Try.func54, Try.ntmps54
   go_wp2_with fail
   go_loopg [168] t.kids.length (fun g i wr => ∃ j : Nat, i = .int .i64 j ∧ j + g = t.kids.length ∧ ∃ vs' fs', Kd w pb cs Tp ((b :: [r]) ++ fs.flatten ++ (gs.flatten ++ ft)) K (b :: [r]) (gs.flatten ++ ft) r [] sp R wr ((t.kids.take j).map (T st) ++ t.kids.drop j) vs' fs' ∧ S (s || hitss st sg (t.kids.take j)) wr)
   case atStart => exact ⟨0, rfl, by omega, vs, fs, HK0.out, by rw [List.take_zero, hitss, Bool.or_false]; exact HS.out⟩
   case round =>
    obtain ⟨j, rfl, hj, vs', fs', hK, hS⟩ := hrel;clear r0 g0 z0 n0 zb;have hbr := hK.nodeList HB.out.1;have n0 : wr.cell? ⟨b, 3, none⟩ = some (.slice (some ⟨r, 0, none⟩) t.kids.length c) := (by have := hbr.cell 3; rw [HB.out.2] at this; exact this);have zb := hbr.lt; have zr := hK.lr.lt;have HK := Lib.hid hK; have HSr := Lib.hid hS;clear hK hS hbr
    by_cases hlt : 0 < gk
    ·obtain ⟨g, rfl⟩ : ∃ g, gk = g + 1 := ⟨gk - 1, by omega⟩;have zi0 : (0 : Int) ≤ (j : Int) := (by omega);have zi1 : (j : Int) < (t.kids.length : Int) := (by omega);obtain ⟨x, hx⟩ : ∃ x, t.kids[j]? = some x := ⟨t.kids[j]'(by omega), by simp⟩;have HX := Lib.hid hx;obtain ⟨v1, f1, hv1, hf1, hp1⟩ := HK.out.pos (i := j) (half_get (T st) t.kids j x hx);have HP1 := Lib.hid (show Pos wr r j (vs' ++ sp) R v1 x f1 K from by simpa using hp1); have HVF := Lib.hid (And.intro hv1 hf1);clear hp1 hv1 hf1 hx
     go_wp2_with fail
     apply Calls.mono
     ·exact IH.out x (List.mem_of_getElem? HX.out) _ _ _ _ _ _ _ _ HP1.out HSr.out
     rintro e1 w1 h1;obtain ⟨⟨x1, rfl⟩, hs1, v2, f2, hk1⟩ := HK.out.step (i := j) (half_get (T st) t.kids j x HX.out) HVF.out.1 HVF.out.2 h1 (by simp);rw [half_set (T st) t.kids j x HX.out] at hk1;rw [Bool.or_assoc] at hs1;have HK1 := Lib.hid hk1; have HS1 := Lib.hid hs1;clear hk1 hs1 h1
     go_wp2_with fail
     go_roundg g
     case measure => omega
     case rel =>
      refine ⟨j + 1, by go_num, by omega, _, _, HK1.out, ?_⟩;rw [List.take_add_one, HX.out, hitss_append];simp only [Option.toList, hitss, Bool.or_false];exact HS1.out
    ·obtain rfl : gk = 0 := (by omega);obtain rfl : j = t.kids.length := (by omega);rw [List.take_length, List.drop_length, List.append_nil, ← Ts_eq] at HK;rw [List.take_length] at HSr;have HE2 := Lib.hid (HE.out _ _ _ HK.out)
     go_wp2_with fail
     apply Calls.mono
     ·exact HV.out _ H1.out _ _ _ _ _ _ _ _ HE2.out.1 HSr.out
     rintro e9 w9 h9;obtain ⟨x9, rfl⟩ := h9.1;have H9 := Lib.hid h9;clear h9;go_wp21;refine bodyPost_end (v := .tuple #[]) (by first | rfl | (simp [results, Try.results54, go_sem]; try rfl)) rfl ?_;exact Wd.finish HE2.out.2.1 HE2.out.2.2 H9.out rfl _
set_option maxHeartbeats 6400000 in
set_option maxRecDepth 100000 in
theorem walk_list20 (hd : Door vt recv fn) (hv : VisOk fn recv st sg K S P) (t : Tr) (hp : P { t with kids := Ts st t.kids }) (ih : ∀ k ∈ t.kids, WalkOk vt recv st sg K S k) (hk : t.kind = 20) : WalkOk vt recv st sg K S t := by
 intro v fp pb po cs Tp w s hP hS;have r0 : w.cell? ⟨pb, po, none⟩ = some v := by rw [hP.lb.cell]; exact hP.get
 have g0 := hP.lb.frozen; have z0 := hP.lb.lt; have hd1 := hd.find; have hd2 := hd.call;have htree := hP.tree;cases htree with
 |node t b f p q vs fs ha hx hb hks => exfalso; rw [hk] at ha; simp [ari] at ha
 |const t b f p q a c vs rb ha hx hb hr hc => exfalso; rw [hk] at ha; simp at ha
 |list t b f p q a c vs fs rb ms gs th ft ha hx hb hr hks h1 hm ht =>
  rw [show nv t.kind b = .iface 111 (.pointer (some ⟨b, 0, none⟩)) by rw [hk]; rfl] at r0;have hgo : cs[po]? = some (nv t.kind b) := hP.get;have hac : ∀ s, acells t f p q [s] (ms.headD .nilIface) th = .int .i64 p :: .int .i64 q :: s :: tailC t (ms.headD .nilIface) th := fun s => by unfold acells headC; rw [hk]; rfl
  have HV := Lib.hid hv; have H1 := Lib.hid hp; have IH := Lib.hid ih; have HS := Lib.hid hS; have HP := Lib.hid hP;have zb := hb.lt;have hkl := hx.hk;unfold most at hkl;rcases hr with ⟨hvs, hrb⟩ | ⟨r, sp, R, ra, hrb, hLr⟩
  ·have hk0 : t.kids = [] := by
    have := hks.len.1;rw [hvs] at this;exact List.eq_nil_of_length_eq_zero this.symm
   have e3 : ({ t with kids := Ts st t.kids } : Tr) = t := with_kids (by rw [hk0, Ts])
   have hl0 : t.kids.length = 0 := (by rw [hk0]; rfl);rw [e3] at H1;have n0 : w.cell? ⟨b, 2, none⟩ = some (.slice a 0 c) := (by have := hb.cell 2; rw [hac, hl0] at this; exact this);have E3 := Lib.hid e3; have HK0 := Lib.hid hk0;clear hP hS hx ha hb hv hp hvs hrb hd hk hks hm ht ih h1 hgo hac e3 hk0 hl0;go_enter Try.func54, Try.ntmps54
   go_wp2_with fail
   go_loopg [212] 0 (fun g i wr => i = .int .i64 0 ∧ wr = w)
   case atStart => exact ⟨rfl, rfl⟩
   case round =>
    obtain ⟨rfl, rfl⟩ := hrel
    go_wp2_with fail
    apply Calls.mono
    ·exact HV.out _ H1.out _ _ _ _ _ _ _ _ HP.out HS.out
    rintro e9 w9 h9;obtain ⟨x9, rfl⟩ := h9.1;have H9 := Lib.hid h9;clear h9;go_wp21;refine bodyPost_end (v := .tuple #[]) (by first | rfl | (simp [results, Try.results54, go_sem]; try rfl)) rfl ?_;exact Wd.finish (.refl _ _ _ _) (fun b hb => .inl hb) (by rw [E3.out]; exact H9.out) (by rw [HK0.out, hitss, Bool.or_false]) _
  ·subst hrb ra;have n0 : w.cell? ⟨b, 2, none⟩ = some (.slice (some ⟨r, 0, none⟩) t.kids.length c) := (by have := hb.cell 2; rw [hac] at this; exact this);have HK0 := Lib.hid (Kd.list hP hLr hks);have HE := Lib.hid (show ∀ (w' : World) (vs' : List Value) (fs' : List (List Nat)), Kd w pb cs Tp ((b :: [r]) ++ fs.flatten ++ (gs.flatten ++ ft)) K (b :: [r]) (gs.flatten ++ ft) r [] sp R w' (Ts st t.kids) vs' fs' → _ from fun w' vs' fs' h => h.endList (by rw [Ts_eq, List.length_map]) ha hx hb h1 hm ht hgo);have HB := Lib.hid (And.intro hb hac);clear hP hS hx ha hb hv hp hd hk hks hm ht ih h1 hgo hac hLr;go_enter Try.func54, Try.ntmps54
   go_wp2_with fail
   go_loopg [212] t.kids.length (fun g i wr => ∃ j : Nat, i = .int .i64 j ∧ j + g = t.kids.length ∧ ∃ vs' fs', Kd w pb cs Tp ((b :: [r]) ++ fs.flatten ++ (gs.flatten ++ ft)) K (b :: [r]) (gs.flatten ++ ft) r [] sp R wr ((t.kids.take j).map (T st) ++ t.kids.drop j) vs' fs' ∧ S (s || hitss st sg (t.kids.take j)) wr)
   case atStart => exact ⟨0, rfl, by omega, vs, fs, HK0.out, by rw [List.take_zero, hitss, Bool.or_false]; exact HS.out⟩
   case round =>
    obtain ⟨j, rfl, hj, vs', fs', hK, hS⟩ := hrel;clear r0 g0 z0 n0 zb;have hbr := hK.nodeList HB.out.1;have n0 : wr.cell? ⟨b, 2, none⟩ = some (.slice (some ⟨r, 0, none⟩) t.kids.length c) := (by have := hbr.cell 2; rw [HB.out.2] at this; exact this);have zb := hbr.lt; have zr := hK.lr.lt;have HK := Lib.hid hK; have HSr := Lib.hid hS;clear hK hS hbr
    by_cases hlt : 0 < gk
    ·obtain ⟨g, rfl⟩ : ∃ g, gk = g + 1 := ⟨gk - 1, by omega⟩;have zi0 : (0 : Int) ≤ (j : Int) := (by omega);have zi1 : (j : Int) < (t.kids.length : Int) := (by omega);obtain ⟨x, hx⟩ : ∃ x, t.kids[j]? = some x := ⟨t.kids[j]'(by omega), by simp⟩;have HX := Lib.hid hx;obtain ⟨v1, f1, hv1, hf1, hp1⟩ := HK.out.pos (i := j) (half_get (T st) t.kids j x hx);have HP1 := Lib.hid (show Pos wr r j (vs' ++ sp) R v1 x f1 K from by simpa using hp1); have HVF := Lib.hid (And.intro hv1 hf1);clear hp1 hv1 hf1 hx
     go_wp2_with fail
     apply Calls.mono
     ·exact IH.out x (List.mem_of_getElem? HX.out) _ _ _ _ _ _ _ _ HP1.out HSr.out
     rintro e1 w1 h1;obtain ⟨⟨x1, rfl⟩, hs1, v2, f2, hk1⟩ := HK.out.step (i := j) (half_get (T st) t.kids j x HX.out) HVF.out.1 HVF.out.2 h1 (by simp);rw [half_set (T st) t.kids j x HX.out] at hk1;rw [Bool.or_assoc] at hs1;have HK1 := Lib.hid hk1; have HS1 := Lib.hid hs1;clear hk1 hs1 h1
     go_wp2_with fail
     go_roundg g
     case measure => omega
     case rel =>
      refine ⟨j + 1, by go_num, by omega, _, _, HK1.out, ?_⟩;rw [List.take_add_one, HX.out, hitss_append];simp only [Option.toList, hitss, Bool.or_false];exact HS1.out
    ·obtain rfl : gk = 0 := (by omega);obtain rfl : j = t.kids.length := (by omega);rw [List.take_length, List.drop_length, List.append_nil, ← Ts_eq] at HK;rw [List.take_length] at HSr;have HE2 := Lib.hid (HE.out _ _ _ HK.out)
     go_wp2_with fail
     apply Calls.mono
     ·exact HV.out _ H1.out _ _ _ _ _ _ _ _ HE2.out.1 HSr.out
     rintro e9 w9 h9;obtain ⟨x9, rfl⟩ := h9.1;have H9 := Lib.hid h9;clear h9;go_wp21;refine bodyPost_end (v := .tuple #[]) (by first | rfl | (simp [results, Try.results54, go_sem]; try rfl)) rfl ?_;exact Wd.finish HE2.out.2.1 HE2.out.2.2 H9.out rfl _
set_option maxHeartbeats 6400000 in
set_option maxRecDepth 100000 in
theorem walk_list21 (hd : Door vt recv fn) (hv : VisOk fn recv st sg K S P) (t : Tr) (hp : P { t with kids := Ts st t.kids }) (ih : ∀ k ∈ t.kids, WalkOk vt recv st sg K S k) (hk : t.kind = 21) : WalkOk vt recv st sg K S t := by
 intro v fp pb po cs Tp w s hP hS;have r0 : w.cell? ⟨pb, po, none⟩ = some v := by rw [hP.lb.cell]; exact hP.get
 have g0 := hP.lb.frozen; have z0 := hP.lb.lt; have hd1 := hd.find; have hd2 := hd.call;have htree := hP.tree;cases htree with
 |node t b f p q vs fs ha hx hb hks => exfalso; rw [hk] at ha; simp [ari] at ha
 |const t b f p q a c vs rb ha hx hb hr hc => exfalso; rw [hk] at ha; simp at ha
 |list t b f p q a c vs fs rb ms gs th ft ha hx hb hr hks h1 hm ht =>
  rw [show nv t.kind b = .iface 114 (.pointer (some ⟨b, 0, none⟩)) by rw [hk]; rfl] at r0;have hgo : cs[po]? = some (nv t.kind b) := hP.get;have hac : ∀ s, acells t f p q [s] (ms.headD .nilIface) th = .int .i64 p :: .int .i64 q :: s :: tailC t (ms.headD .nilIface) th := fun s => by unfold acells headC; rw [hk]; rfl
  have HV := Lib.hid hv; have H1 := Lib.hid hp; have IH := Lib.hid ih; have HS := Lib.hid hS; have HP := Lib.hid hP;have zb := hb.lt;have hkl := hx.hk;unfold most at hkl;rcases hr with ⟨hvs, hrb⟩ | ⟨r, sp, R, ra, hrb, hLr⟩
  ·have hk0 : t.kids = [] := by
    have := hks.len.1;rw [hvs] at this;exact List.eq_nil_of_length_eq_zero this.symm
   have e3 : ({ t with kids := Ts st t.kids } : Tr) = t := with_kids (by rw [hk0, Ts])
   have hl0 : t.kids.length = 0 := (by rw [hk0]; rfl);rw [e3] at H1;have n0 : w.cell? ⟨b, 2, none⟩ = some (.slice a 0 c) := (by have := hb.cell 2; rw [hac, hl0] at this; exact this);have E3 := Lib.hid e3; have HK0 := Lib.hid hk0;clear hP hS hx ha hb hv hp hvs hrb hd hk hks hm ht ih h1 hgo hac e3 hk0 hl0;go_enter Try.func54, Try.ntmps54
   go_wp2_with fail
   go_loopg [250] 0 (fun g i wr => i = .int .i64 0 ∧ wr = w)
   case atStart => exact ⟨rfl, rfl⟩
   case round =>
    obtain ⟨rfl, rfl⟩ := hrel
    go_wp2_with fail
    apply Calls.mono
    ·exact HV.out _ H1.out _ _ _ _ _ _ _ _ HP.out HS.out
    rintro e9 w9 h9;obtain ⟨x9, rfl⟩ := h9.1;have H9 := Lib.hid h9;clear h9;go_wp21;refine bodyPost_end (v := .tuple #[]) (by first | rfl | (simp [results, Try.results54, go_sem]; try rfl)) rfl ?_;exact Wd.finish (.refl _ _ _ _) (fun b hb => .inl hb) (by rw [E3.out]; exact H9.out) (by rw [HK0.out, hitss, Bool.or_false]) _
  ·subst hrb ra;have n0 : w.cell? ⟨b, 2, none⟩ = some (.slice (some ⟨r, 0, none⟩) t.kids.length c) := (by have := hb.cell 2; rw [hac] at this; exact this);have HK0 := Lib.hid (Kd.list hP hLr hks);have HE := Lib.hid (show ∀ (w' : World) (vs' : List Value) (fs' : List (List Nat)), Kd w pb cs Tp ((b :: [r]) ++ fs.flatten ++ (gs.flatten ++ ft)) K (b :: [r]) (gs.flatten ++ ft) r [] sp R w' (Ts st t.kids) vs' fs' → _ from fun w' vs' fs' h => h.endList (by rw [Ts_eq, List.length_map]) ha hx hb h1 hm ht hgo);have HB := Lib.hid (And.intro hb hac);clear hP hS hx ha hb hv hp hd hk hks hm ht ih h1 hgo hac hLr;go_enter Try.func54, Try.ntmps54
   go_wp2_with fail
   go_loopg [250] t.kids.length (fun g i wr => ∃ j : Nat, i = .int .i64 j ∧ j + g = t.kids.length ∧ ∃ vs' fs', Kd w pb cs Tp ((b :: [r]) ++ fs.flatten ++ (gs.flatten ++ ft)) K (b :: [r]) (gs.flatten ++ ft) r [] sp R wr ((t.kids.take j).map (T st) ++ t.kids.drop j) vs' fs' ∧ S (s || hitss st sg (t.kids.take j)) wr)
   case atStart => exact ⟨0, rfl, by omega, vs, fs, HK0.out, by rw [List.take_zero, hitss, Bool.or_false]; exact HS.out⟩
   case round =>
    obtain ⟨j, rfl, hj, vs', fs', hK, hS⟩ := hrel;clear r0 g0 z0 n0 zb;have hbr := hK.nodeList HB.out.1;have n0 : wr.cell? ⟨b, 2, none⟩ = some (.slice (some ⟨r, 0, none⟩) t.kids.length c) := (by have := hbr.cell 2; rw [HB.out.2] at this; exact this);have zb := hbr.lt; have zr := hK.lr.lt;have HK := Lib.hid hK; have HSr := Lib.hid hS;clear hK hS hbr
    by_cases hlt : 0 < gk
    ·obtain ⟨g, rfl⟩ : ∃ g, gk = g + 1 := ⟨gk - 1, by omega⟩;have zi0 : (0 : Int) ≤ (j : Int) := (by omega);have zi1 : (j : Int) < (t.kids.length : Int) := (by omega);obtain ⟨x, hx⟩ : ∃ x, t.kids[j]? = some x := ⟨t.kids[j]'(by omega), by simp⟩;have HX := Lib.hid hx;obtain ⟨v1, f1, hv1, hf1, hp1⟩ := HK.out.pos (i := j) (half_get (T st) t.kids j x hx);have HP1 := Lib.hid (show Pos wr r j (vs' ++ sp) R v1 x f1 K from by simpa using hp1); have HVF := Lib.hid (And.intro hv1 hf1);clear hp1 hv1 hf1 hx
     go_wp2_with fail
     apply Calls.mono
     ·exact IH.out x (List.mem_of_getElem? HX.out) _ _ _ _ _ _ _ _ HP1.out HSr.out
     rintro e1 w1 h1;obtain ⟨⟨x1, rfl⟩, hs1, v2, f2, hk1⟩ := HK.out.step (i := j) (half_get (T st) t.kids j x HX.out) HVF.out.1 HVF.out.2 h1 (by simp);rw [half_set (T st) t.kids j x HX.out] at hk1;rw [Bool.or_assoc] at hs1;have HK1 := Lib.hid hk1; have HS1 := Lib.hid hs1;clear hk1 hs1 h1
     go_wp2_with fail
     go_roundg g
     case measure => omega
     case rel =>
      refine ⟨j + 1, by go_num, by omega, _, _, HK1.out, ?_⟩;rw [List.take_add_one, HX.out, hitss_append];simp only [Option.toList, hitss, Bool.or_false];exact HS1.out
    ·obtain rfl : gk = 0 := (by omega);obtain rfl : j = t.kids.length := (by omega);rw [List.take_length, List.drop_length, List.append_nil, ← Ts_eq] at HK;rw [List.take_length] at HSr;have HE2 := Lib.hid (HE.out _ _ _ HK.out)
     go_wp2_with fail
     apply Calls.mono
     ·exact HV.out _ H1.out _ _ _ _ _ _ _ _ HE2.out.1 HSr.out
     rintro e9 w9 h9;obtain ⟨x9, rfl⟩ := h9.1;have H9 := Lib.hid h9;clear h9;go_wp21;refine bodyPost_end (v := .tuple #[]) (by first | rfl | (simp [results, Try.results54, go_sem]; try rfl)) rfl ?_;exact Wd.finish HE2.out.2.1 HE2.out.2.2 H9.out rfl _
set_option maxHeartbeats 6400000 in
set_option maxRecDepth 100000 in
theorem walk_list22 (hd : Door vt recv fn) (hv : VisOk fn recv st sg K S P) (t : Tr) (hp : P { t with kids := Ts st t.kids }) (ih : ∀ k ∈ t.kids, WalkOk vt recv st sg K S k) (hk : t.kind = 22) : WalkOk vt recv st sg K S t := by
 intro v fp pb po cs Tp w s hP hS;have r0 : w.cell? ⟨pb, po, none⟩ = some v := by rw [hP.lb.cell]; exact hP.get
 have g0 := hP.lb.frozen; have z0 := hP.lb.lt; have hd1 := hd.find; have hd2 := hd.call;have htree := hP.tree;cases htree with
 |node t b f p q vs fs ha hx hb hks => exfalso; rw [hk] at ha; simp [ari] at ha
 |const t b f p q a c vs rb ha hx hb hr hc => exfalso; rw [hk] at ha; simp at ha
 |list t b f p q a c vs fs rb ms gs th ft ha hx hb hr hks h1 hm ht =>
  rw [show nv t.kind b = .iface 116 (.pointer (some ⟨b, 0, none⟩)) by rw [hk]; rfl] at r0;have hgo : cs[po]? = some (nv t.kind b) := hP.get;have hac : ∀ s, acells t f p q [s] (ms.headD .nilIface) th = .int .i64 p :: .int .i64 q :: s :: tailC t (ms.headD .nilIface) th := fun s => by unfold acells headC; rw [hk]; rfl
  have HV := Lib.hid hv; have H1 := Lib.hid hp; have IH := Lib.hid ih; have HS := Lib.hid hS; have HP := Lib.hid hP;have zb := hb.lt;have hkl := hx.hk;unfold most at hkl;rcases hr with ⟨hvs, hrb⟩ | ⟨r, sp, R, ra, hrb, hLr⟩
  ·have hk0 : t.kids = [] := by
    have := hks.len.1;rw [hvs] at this;exact List.eq_nil_of_length_eq_zero this.symm
   have e3 : ({ t with kids := Ts st t.kids } : Tr) = t := with_kids (by rw [hk0, Ts])
   have hl0 : t.kids.length = 0 := (by rw [hk0]; rfl);rw [e3] at H1;have n0 : w.cell? ⟨b, 2, none⟩ = some (.slice a 0 c) := (by have := hb.cell 2; rw [hac, hl0] at this; exact this);have E3 := Lib.hid e3; have HK0 := Lib.hid hk0;clear hP hS hx ha hb hv hp hvs hrb hd hk hks hm ht ih h1 hgo hac e3 hk0 hl0;go_enter Try.func54, Try.ntmps54
   go_wp2_with fail
   go_loopg [270] 0 (fun g i wr => i = .int .i64 0 ∧ wr = w)
   case atStart => exact ⟨rfl, rfl⟩
   case round =>
    obtain ⟨rfl, rfl⟩ := hrel
    go_wp2_with fail
    apply Calls.mono
    ·exact HV.out _ H1.out _ _ _ _ _ _ _ _ HP.out HS.out
    rintro e9 w9 h9;obtain ⟨x9, rfl⟩ := h9.1;have H9 := Lib.hid h9;clear h9;go_wp21;refine bodyPost_end (v := .tuple #[]) (by first | rfl | (simp [results, Try.results54, go_sem]; try rfl)) rfl ?_;exact Wd.finish (.refl _ _ _ _) (fun b hb => .inl hb) (by rw [E3.out]; exact H9.out) (by rw [HK0.out, hitss, Bool.or_false]) _
  ·subst hrb ra;have n0 : w.cell? ⟨b, 2, none⟩ = some (.slice (some ⟨r, 0, none⟩) t.kids.length c) := (by have := hb.cell 2; rw [hac] at this; exact this);have HK0 := Lib.hid (Kd.list hP hLr hks);have HE := Lib.hid (show ∀ (w' : World) (vs' : List Value) (fs' : List (List Nat)), Kd w pb cs Tp ((b :: [r]) ++ fs.flatten ++ (gs.flatten ++ ft)) K (b :: [r]) (gs.flatten ++ ft) r [] sp R w' (Ts st t.kids) vs' fs' → _ from fun w' vs' fs' h => h.endList (by rw [Ts_eq, List.length_map]) ha hx hb h1 hm ht hgo);have HB := Lib.hid (And.intro hb hac);clear hP hS hx ha hb hv hp hd hk hks hm ht ih h1 hgo hac hLr;go_enter Try.func54, Try.ntmps54
   go_wp2_with fail
   go_loopg [270] t.kids.length (fun g i wr => ∃ j : Nat, i = .int .i64 j ∧ j + g = t.kids.length ∧ ∃ vs' fs', Kd w pb cs Tp ((b :: [r]) ++ fs.flatten ++ (gs.flatten ++ ft)) K (b :: [r]) (gs.flatten ++ ft) r [] sp R wr ((t.kids.take j).map (T st) ++ t.kids.drop j) vs' fs' ∧ S (s || hitss st sg (t.kids.take j)) wr)
   case atStart => exact ⟨0, rfl, by omega, vs, fs, HK0.out, by rw [List.take_zero, hitss, Bool.or_false]; exact HS.out⟩
   case round =>
    obtain ⟨j, rfl, hj, vs', fs', hK, hS⟩ := hrel;clear r0 g0 z0 n0 zb;have hbr := hK.nodeList HB.out.1;have n0 : wr.cell? ⟨b, 2, none⟩ = some (.slice (some ⟨r, 0, none⟩) t.kids.length c) := (by have := hbr.cell 2; rw [HB.out.2] at this; exact this);have zb := hbr.lt; have zr := hK.lr.lt;have HK := Lib.hid hK; have HSr := Lib.hid hS;clear hK hS hbr
    by_cases hlt : 0 < gk
    ·obtain ⟨g, rfl⟩ : ∃ g, gk = g + 1 := ⟨gk - 1, by omega⟩;have zi0 : (0 : Int) ≤ (j : Int) := (by omega);have zi1 : (j : Int) < (t.kids.length : Int) := (by omega);obtain ⟨x, hx⟩ : ∃ x, t.kids[j]? = some x := ⟨t.kids[j]'(by omega), by simp⟩;have HX := Lib.hid hx;obtain ⟨v1, f1, hv1, hf1, hp1⟩ := HK.out.pos (i := j) (half_get (T st) t.kids j x hx);have HP1 := Lib.hid (show Pos wr r j (vs' ++ sp) R v1 x f1 K from by simpa using hp1); have HVF := Lib.hid (And.intro hv1 hf1);clear hp1 hv1 hf1 hx
     go_wp2_with fail
     apply Calls.mono
     ·exact IH.out x (List.mem_of_getElem? HX.out) _ _ _ _ _ _ _ _ HP1.out HSr.out
     rintro e1 w1 h1;obtain ⟨⟨x1, rfl⟩, hs1, v2, f2, hk1⟩ := HK.out.step (i := j) (half_get (T st) t.kids j x HX.out) HVF.out.1 HVF.out.2 h1 (by simp);rw [half_set (T st) t.kids j x HX.out] at hk1;rw [Bool.or_assoc] at hs1;have HK1 := Lib.hid hk1; have HS1 := Lib.hid hs1;clear hk1 hs1 h1
     go_wp2_with fail
     go_roundg g
     case measure => omega
     case rel =>
      refine ⟨j + 1, by go_num, by omega, _, _, HK1.out, ?_⟩;rw [List.take_add_one, HX.out, hitss_append];simp only [Option.toList, hitss, Bool.or_false];exact HS1.out
    ·obtain rfl : gk = 0 := (by omega);obtain rfl : j = t.kids.length := (by omega);rw [List.take_length, List.drop_length, List.append_nil, ← Ts_eq] at HK;rw [List.take_length] at HSr;have HE2 := Lib.hid (HE.out _ _ _ HK.out)
     go_wp2_with fail
     apply Calls.mono
     ·exact HV.out _ H1.out _ _ _ _ _ _ _ _ HE2.out.1 HSr.out
     rintro e9 w9 h9;obtain ⟨x9, rfl⟩ := h9.1;have H9 := Lib.hid h9;clear h9;go_wp21;refine bodyPost_end (v := .tuple #[]) (by first | rfl | (simp [results, Try.results54, go_sem]; try rfl)) rfl ?_;exact Wd.finish HE2.out.2.1 HE2.out.2.2 H9.out rfl _
theorem walk_step (hd : Door vt recv fn) (hv : VisOk fn recv st sg K S P) (hL : Leafy st sg) (t : Tr) (hp : P { t with kids := Ts st t.kids }) (ih : ∀ k ∈ t.kids, WalkOk vt recv st sg K S k) : WalkOk vt recv st sg K S t := by
 intro v fp pb po cs Tp w s hP hS;have htree := hP.tree;have key : (t.kind = 8 ∨ listy t.kind = true ∨ ari t.kind = some t.kids.length) := by
  cases htree with
  |node t b f p q vs fs ha => exact .inr (.inr ha)
  |const t b f p q a c vs rb ha => exact .inl ha
  |list t b f p q a c vs fs rb ms gs th ft ha => exact .inr (.inl ha)
 clear htree;rcases key with h | h | h
 ·exact walk_const hd hv hL t hp h v fp pb po cs Tp w s hP hS
 ·simp only [listy, Bool.or_eq_true, decide_eq_true_eq] at h;rcases h with ((h | h) | h) | h
  ·exact walk_list15 hd hv t hp ih h v fp pb po cs Tp w s hP hS
  ·exact walk_list20 hd hv t hp ih h v fp pb po cs Tp w s hP hS
  ·exact walk_list21 hd hv t hp ih h v fp pb po cs Tp w s hP hS
  ·exact walk_list22 hd hv t hp ih h v fp pb po cs Tp w s hP hS
 ·unfold ari at h
  split at h
  ·rename_i hk
   have hk0 : t.kids = [] := List.eq_nil_of_length_eq_zero (by simpa using h.symm);rcases hk with hk | hk | hk | hk | hk | hk | hk <;> exact walk_leaf hd hv t hp (pty t.kind) 0 hk0 (by simp [hk, pty]) v fp pb po cs Tp w s hP hS
  ·split at h
   ·rename_i hk
    obtain ⟨k0, hkk⟩ : ∃ k0, t.kids = [k0] := by
     match hq : t.kids, h with
     |[a], _ => exact ⟨a, rfl⟩
    rcases hk with hk | hk <;> exact walk_one hd hv t hp (pty t.kind) (headX t 0 0 0).length (ih k0 (by rw [hkk]; simp)) hkk (by simp [hk, pty, headX, headC, named]) v fp pb po cs Tp w s hP hS
   ·split at h
    ·rename_i hk
     obtain ⟨k0, k1, hkk⟩ : ∃ k0 k1, t.kids = [k0, k1] := by
      match hq : t.kids, h with
      |[a, b], _ => exact ⟨a, b, rfl⟩
     rcases hk with hk | hk | hk | hk <;> exact walk_two hd hv t hp (pty t.kind) (headX t 0 0 0).length (ih k0 (by rw [hkk]; simp)) (ih k1 (by rw [hkk]; simp)) hkk (by simp [hk, pty, headX, headC, named]) v fp pb po cs Tp w s hP hS
    ·split at h
     ·rename_i hk
      obtain ⟨k0, k1, k2, hkk⟩ : ∃ k0 k1 k2, t.kids = [k0, k1, k2] := by
       match hq : t.kids, h with
       |[a, b, c], _ => exact ⟨a, b, c, rfl⟩
      exact walk_three hd hv t hp _ _ (ih k0 (by rw [hkk]; simp)) (ih k1 (by rw [hkk]; simp)) (ih k2 (by rw [hkk]; simp)) hkk ⟨hk, rfl, rfl⟩ v fp pb po cs Tp w s hP hS
     ·cases h
mutual
theorem walk_tree (hd : Door vt recv fn) (hv : VisOk fn recv st sg K S P) (hL : Leafy st sg) (W : Tr → Prop) (hW : ∀ t, W t → ∀ x ∈ t.kids, W x) (hP : ∀ t, W t → P { t with kids := Ts st t.kids }) : (t : Tr) → W t → WalkOk vt recv st sg K S t
 |⟨a, b, c, d, e, f, g, h, ks, ms⟩, w => walk_step hd hv hL _ (hP _ w) (walk_trees hd hv hL W hW hP ks fun x hx => hW _ w x hx)
theorem walk_trees (hd : Door vt recv fn) (hv : VisOk fn recv st sg K S P) (hL : Leafy st sg) (W : Tr → Prop) (hW : ∀ t, W t → ∀ x ∈ t.kids, W x) (hP : ∀ t, W t → P { t with kids := Ts st t.kids }) : (l : List Tr) → (∀ x ∈ l, W x) → ∀ x ∈ l, WalkOk vt recv st sg K S x
 |[], _ => fun x h => by cases h
 |v :: l, w => fun x h => by
  rcases List.mem_cons.1 h with h | h
  ·rw [h]; exact walk_tree hd hv hL W hW hP v (w v (by simp))
  ·exact walk_trees hd hv hL W hW hP l (fun y hy => w y (by simp [hy])) x h
end
end
end
section
attribute [local go_sem ↓] Go.wp_at_zero Go.wp_at_succ
open Go.RowKit
theorem disp_nil {k : Int} (hk : okk k) (n : Nat) (w : World) (b : Nat) : (nilAhead (n + 1) (pty k) (.pointer (some ⟨b, 0, none⟩)) "SetLocation").run Try.prog w = .ok (some false) w := by
 rcases hk with rfl | rfl | rfl | rfl | rfl | rfl | rfl | rfl | rfl | rfl | rfl | rfl | rfl | rfl | rfl | rfl | rfl | rfl | rfl <;> kernel_rfl
def Pd (pb po : Nat) (cs : List Value) (Tp : TypeId) (tn : Tr) (vn : Value) (fpn : List Nat) (w : World) (e : Ending) (w' : World) : Prop :=
 (∃ x, e = .returned x) ∧ Ext (fun b => b ∈ fpn ∨ b = pb) w.heap.size w w' ∧ Lb w' pb (cs.set po vn) Tp ∧ IsA w' tn vn fpn
set_option maxHeartbeats 6400000 in
set_option maxRecDepth 100000 in
theorem patch_any (pb po : Nat) (cs : List Value) (Tp : TypeId) (vo vn : Value) (u tn : Tr) (fpo fpn : List Nat) (w : World) (hL : Lb w pb cs Tp) (hg : cs[po]? = some vo) (ho : IsA w u vo fpo) (hon : fpo.Nodup) (hn : IsA w tn vn fpn) (hnn : fpn.Nodup) (hp : pb ∉ fpn) (hpo : pb ∉ fpo) :
 Calls Try.prog 109 #[.pointer (some ⟨pb, po, none⟩), vn] w (Pd pb po cs Tp tn vn fpn w) := by
 obtain ⟨bo, resto, p0, q0, hko, rfl, hbo, hp0, hq0, hLo, -⟩ := ho.place hon;obtain ⟨bn, restn, p1, q1, hkn, rfl, hbn, hp1, hq1, hLn, hput⟩ := hn.place hnn;have hd1 := fun n w => disp_loc hko n w bo;have hd2 := fun n w => disp_set hkn n w bn;have hd3 := fun n w => disp_nil hkn n w bn;have hne : bn ≠ pb := fun h => hp (h ▸ hbn);have s0 : w.cell? ⟨pb, po, none⟩ = some (nv u.kind bo) := by rw [hL.cell]; exact hg
 have HL := Lib.hid hL; have HN := Lib.hid hn; have HLO := Lib.hid hLo; have HLN := Lib.hid hLn; have HPUT := Lib.hid hput; have HBN := Lib.hid hbn; have HP := Lib.hid hp; have HPQ := Lib.hid (And.intro hp0 hq0);have hpz := hL.lt;clear hL hg ho hon hn hnn hp hpo hko hkn hbo hp0 hq0 hp1 hq1 hLo hLn hput hbn;go_enter Try.func109, Try.ntmps109
 go_wp2_with fail
 refine AnyL.start (S := fun w' => w'.cell? ⟨pb, po, none⟩ = some (nv u.kind bo)) (late := fun j => [].contains j) (by kernel_rfl) ?_;have hs0 : (fun w' : World => w'.cell? ⟨pb, po, none⟩ = some (nv u.kind bo)) w.drew := s0;refine AnyL.tk [] [] 0 ?_ rfl (by kernel_rfl) (by rfl) ?_ hs0 (AnyL.tk [] [] 1 ?_ rfl (by kernel_rfl) (by rfl) ?_ hs0 (AnyL.tk [] [] 2 ?_ rfl (by kernel_rfl) (by rfl) ?_ hs0 (AnyL.tk [] [] 3 ?_ rfl (by kernel_rfl) (by rfl) ?_ hs0 (AnyL.tk [] [] 5 ?_ rfl (by kernel_rfl) (by rfl) ?_ hs0 (AnyL.tk [] [] 6 ?_ rfl (by kernel_rfl) (by rfl) ?_ hs0 (AnyL.tk [] [] 7 ?_ rfl (by kernel_rfl) (by rfl) ?_ hs0 ?_))))))
 iterate 7
  rotate_left
  ·intro w' hw'; (try simp only [Act.put, sb0, sb1, sb2])
   (try dsimp only at hw')
   go_simp
   try (with_reducible rfl)
 try simp only [Act.put, sb0, sb1, sb2]
 refine AnyL.one 4 (by kernel_rfl) rfl fun K hK => ?_;go_simp;apply Calls.mono
 ·exact loc_any bo p0 q0 resto _ _ HLO.out
 rintro e1 w1 ⟨rfl, hb1⟩;have hs1 : (fun w' : World => w'.cell? ⟨pb, po, none⟩ = some (nv u.kind bo)) w1 := (hb1.cell (p := ⟨pb, po, none⟩) hpz).trans hs0;have HL1 := Lib.hid ((show Lb w.drew pb cs Tp from HL.out).below hb1 hpz);have HLN1 := Lib.hid ((show Lb w.drew bn _ _ from HLN.out).below hb1 HLN.out.lt);have HB1 := Lib.hid (show Below w.heap.size w w1 from (Below.refl _ _).drew.trans hb1)
 (try go_wp2_with fail)
 refine hK.out _ _ (fun _ => hs1) ?_;clear hK K hb1
 try simp only [Act.put, sb0, sb1, sb2]
 refine AnyL.one 8 (by kernel_rfl) rfl fun K hK => ?_;go_simp;apply Calls.mono
 ·exact setloc_any bn _ _ restn _ p0 q0 _ HLN1.out
 rintro e2 w2 ⟨⟨x2, rfl⟩, hE, hL2⟩;have hLp := HL1.out.ext hE HL1.out.lt (Ne.symm hne);have hI2 := HPUT.out w2 p0 q0 HPQ.out.1 HPQ.out.2 hL2 fun x hx hxn => (hE.block x (Nat.lt_of_lt_of_le (HN.out.lt x hx) HB1.out.size) hxn).trans (HB1.out.block x (HN.out.lt x hx));have hs2 : (fun w' : World => w'.cell? ⟨pb, po, none⟩ = some (nv u.kind bo)) w2 := (World.cell?_of_block (w := w1) (a := ⟨pb, po, none⟩) (hE.block pb HL1.out.lt (Ne.symm hne))).trans hs1;have HE2 := Lib.hid (show Ext (fun b => b ∈ fpn ∨ b = pb) w.heap.size w w2 from (Ext.of HB1.out).trans ((hE.mono HB1.out.size).weak fun b hb => .inl (hb ▸ HBN.out)))
 (try go_wp2_with fail)
 refine hK.out _ _ (fun _ => hs2) ?_;clear hK K
 try simp only [Act.put, sb0, sb1, sb2]
 refine AnyL.done (by kernel_rfl) ?_ _;have HLp := Lib.hid hLp; have HI2 := Lib.hid hI2;have s2 : w2.cell? ⟨pb, po, none⟩ = some (nv u.kind bo) := hs2;have f2 := hLp.frozen; have z2 := hLp.lt;clear hE hL2 hLp hI2 hs2 hs1 hs0 s0;go_wp21;refine bodyPost_end (v := .tuple #[]) (by first | rfl | (simp [results, Try.results109, go_sem]; try rfl)) rfl ?_;refine ⟨⟨_, rfl⟩, HE2.out.setCell (.inl (.inr rfl)) _, HLp.out.set po _, HI2.out.same fun x hx => Below.heap_setCell w2 _ _ x ?_⟩;rintro rfl; exact HP.out hx
end
end Go.Proofs.Ytafhhdimjkgihaa.Mn
