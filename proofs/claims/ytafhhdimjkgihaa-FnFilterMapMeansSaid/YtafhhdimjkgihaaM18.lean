/- What the program does, function by function, and what trees mean: part 18. -/
import Derived.Test.YtafhhdimjkgihaaM16
import Derived.Test.YtafhhdimjkgihaaM17
set_option linter.unusedSimpArgs false
set_option linter.unusedVariables false
namespace Go.Proofs.Ytafhhdimjkgihaa.Mn
attribute [local go_sem ↓] Go.wp_at_zero Go.wp_at_succ
open Go.RowKit
theorem IsA.iface {w : World} {t : Tr} {v : Value} {fp : List Nat} (h : IsA w t v fp) : ∃ ty pv, v = .iface ty pv := by cases h <;> exact ⟨_, _, rfl⟩
def mcells (t : Tr) (f : Nat) (s8 s9 : Value) (p q : Int) : List Value := [.int .i64 t.kind, .string (str t.name), .int .i64 t.int, .float .f64 f, .bool t.flag, .bool t.method, .bool t.limited, .int .i64 t.limit, s8, s9, .int .i64 p, .int .i64 q]
theorem tk_end {w W : World} {k : Nat → Prop} {t : Tr} {f : Nat} {p q : Int} {A : Option Addr} {cap : Nat} {A' : Option Addr} {cap' : Nat} {cs ms : List Value} (hx : Hx t f p q) (hki : I64 t.kind) {f2 : Nat} (hf : cn f2 = t.flt) {p2 q2 : Int} (hp : I64 p2) (hq : I64 q2) (hm : t.map.length ≤ 1) (hB : Below w.heap.size w W)
 (hr : Row W (fun b => k b ∨ b = w.heap.size) A cs) (hs : IsTs W (fun b => k b ∨ b = w.heap.size) t.kids cs) (hr' : Row W (fun b => k b ∨ b = w.heap.size) A' ms) (hs' : IsTs W (fun b => k b ∨ b = w.heap.size) t.map ms)
 {W' : World} (hE : Ext (fun b => b = w.heap.size) W.heap.size W W') : Vcd k t w (.returned (ta t f2 A cap A' cap' p2 q2)) W' := by
 have hT : IsT W (fun b => k b ∨ b = w.heap.size) t (tcells t f2 A cap A' cap' p2 q2) := .mk t f2 A cap A' cap' p2 q2 cs ms hf hki hx.hi hx.hl hp hq hx.ht hx.hk (by unfold most; omega) hr hs hr' hs';exact ⟨f2, A, cap, A', cap', p2, q2, rfl, hB.trans ⟨hE.os, hE.tape, hE.output, hE.size, fun b hb => hE.block b (Nat.lt_of_lt_of_le hb hB.size) (by omega)⟩, (hT.ext (hE.weak fun b hb => .inr hb) (Nat.le_refl _)).other fun b hb => .inl (.inl hb)⟩
theorem Rw.row {w : World} {a : Option Addr} {vs : List Value} {rb : List Nat} {k : Nat → Prop} (h : Rw w a vs rb) (hne : ∀ y ∈ rb, ¬ k y) : Row w k a vs := by
 rcases h with ⟨h, _⟩ | ⟨r, sp, T, rfl, rfl, h3⟩
 ·exact .inl h
 ·exact .inr ⟨r, 0, rfl, hne r (by simp), h3.lt, fun j v hv => by rw [h3.cell, Nat.zero_add, List.getElem?_append_left (List.getElem?_eq_some_iff.1 hv).1]; exact hv⟩
theorem Row.of_lb {w : World} {g : Nat} {cs : List Value} {T : TypeId} {k : Nat → Prop} (h : Lb w g cs T) (hne : ¬ k g) : Row w k (some ⟨g, 0, none⟩) cs := .inr ⟨g, 0, rfl, hne, h.lt, fun j v hv => by rw [h.cell, Nat.zero_add]; exact hv⟩
set_option maxHeartbeats 6400000 in
set_option maxRecDepth 100000 in
theorem taken_leaf (t : Tr) (ty : Nat) (hk : t.kind = 1 ∧ ty = 141 ∨ t.kind = 2 ∧ ty = 144 ∨ t.kind = 3 ∧ ty = 147 ∨ t.kind = 4 ∧ ty = 150 ∨ t.kind = 5 ∧ ty = 153 ∨ t.kind = 6 ∧ ty = 156 ∨ t.kind = 17 ∧ ty = 166) (v : Value) (fp : List Nat) (w : World) (k : Nat → Prop) (hk' : ∀ b, k b → b < w.heap.size) (hA : IsA w t v fp) : Calls Try.prog 36 #[v] w (Vcd k t w) := by
 have HA := Lib.hid hA;cases hA with
 |list t b f p q a c vs fs rb ms gs th ft ha hx hb hr hk2 h1 hm ht => exfalso; rcases hk with ⟨hk, -⟩ | ⟨hk, -⟩ | ⟨hk, -⟩ | ⟨hk, -⟩ | ⟨hk, -⟩ | ⟨hk, -⟩ | ⟨hk, -⟩ <;> (rw [hk] at ha; simp [listy] at ha)
 |const t b f p q a c vs rb ha hx hb hr hc => exfalso; rcases hk with ⟨hk, -⟩ | ⟨hk, -⟩ | ⟨hk, -⟩ | ⟨hk, -⟩ | ⟨hk, -⟩ | ⟨hk, -⟩ | ⟨hk, -⟩ <;> (rw [hk] at ha; simp at ha)
 |node t b f p q vs fs ha hx hb hks =>
 have hnv : nv t.kind b = .iface ty (.pointer (some ⟨b, 0, none⟩)) := by rcases hk with ⟨hk, rfl⟩ | ⟨hk, rfl⟩ | ⟨hk, rfl⟩ | ⟨hk, rfl⟩ | ⟨hk, rfl⟩ | ⟨hk, rfl⟩ | ⟨hk, rfl⟩ <;> (rw [hk]; rfl)
 rw [hnv];have hk0 : t.kids = [] := by
  apply List.eq_nil_of_length_eq_zero;rcases hk with ⟨hk, -⟩ | ⟨hk, -⟩ | ⟨hk, -⟩ | ⟨hk, -⟩ | ⟨hk, -⟩ | ⟨hk, -⟩ | ⟨hk, -⟩ <;> (rw [hk] at ha; simpa [ari] using ha.symm)
 have hm0 : t.map = [] := (strike_parts hx.hn).2.2.2.2.2.2.2 (by rcases hk with ⟨hk, -⟩ | ⟨hk, -⟩ | ⟨hk, -⟩ | ⟨hk, -⟩ | ⟨hk, -⟩ | ⟨hk, -⟩ | ⟨hk, -⟩ <;> omega)
 have HNV := Lib.hid hnv; have HX := Lib.hid hx; have HK0 := Lib.hid hk0; have HM0 := Lib.hid hm0;have HKI := Lib.hid (show I64 t.kind by unfold I64; rcases hk with ⟨hk, -⟩ | ⟨hk, -⟩ | ⟨hk, -⟩ | ⟨hk, -⟩ | ⟨hk, -⟩ | ⟨hk, -⟩ | ⟨hk, -⟩ <;> omega)
 clear hx hb hks ha hk0 hm0 hnv;have HK' := Lib.hid hk';clear hk';rcases hk with ⟨hk, rfl⟩ | ⟨hk, rfl⟩ | ⟨hk, rfl⟩ | ⟨hk, rfl⟩ | ⟨hk, rfl⟩ | ⟨hk, rfl⟩ | ⟨hk, rfl⟩
 all_goals
  have HK := Lib.hid hk;clear hk;go_enter Try.func36, Try.ntmps36
  go_wp2_with fail
  obtain ⟨p2, q2, hp2, hq2, hal⟩ := alone_any (HA.out.same fun y hy => heap_alloc_old w (.cells ztcells.toArray 25) (HA.out.lt y hy));rw [HNV.out] at hal;apply Calls.mono
  ·exact hal
  rintro e1 w1 ⟨f2, hf2, rfl, hb1⟩;have hB1 : Below w.heap.size w w1 := Below.trans (by go_grown) (hb1.mono (by simp));have hR1 := (Lb.new' w ztcells 25 rfl).below hb1 (by simp);have HB1 := Lib.hid hB1; have HR1 := Lib.hid hR1;have zs := hB1.size;have c0 := hR1.cell; have c1 := hR1.frozen; have zc := hR1.lt;unfold ztcells at c0;unfold alv;go_wp21;refine bodyPost_ret (v := ta t f2 none 0 none 0 p2 q2) (by simp [results, Try.results36, go_sem, c0, c1, zc, HK0.out, HM0.out]; try rfl) rfl ?_;refine tk_end (cs := []) (ms := []) HX.out HKI.out hf2 hp2 hq2 (by rw [HM0.out]; simp) HB1.out (.inl rfl) (by rw [HK0.out]; exact .nil) (.inl rfl) (by rw [HM0.out]; exact .nil) ?_;exact ((Ext.refl (fun b => b = w.heap.size) _ _).s12 (.inl rfl) 0 _ _ _ _ _ _ _ _ _ _ _ _).alloc (by simp) _
set_option maxHeartbeats 6400000 in
set_option maxRecDepth 100000 in
theorem taken_9 (t : Tr) (hk : t.kind = 9) (ih : ∀ x ∈ t.kids, TkOk x) (v : Value) (fp : List Nat) (w : World) (k : Nat → Prop) (hk' : ∀ b, k b → b < w.heap.size) (hA : IsA w t v fp) : Calls Try.prog 36 #[v] w (Vcd k t w) := by
 have HA := Lib.hid hA;cases hA with
 |list t b f p q a c vs fs rb ms gs th ft ha hx hb hr hk2 h1 hm ht => exfalso; rw [hk] at ha; simp [listy] at ha
 |const t b f p q a c vs rb ha hx hb hr hc => exfalso; rw [hk] at ha; simp at ha
 |node t b f p q vs fs ha hx hb hks =>
 have hnv : nv t.kind b = .iface 82 (.pointer (some ⟨b, 0, none⟩)) := by rw [hk]; rfl
 rw [hnv];have hl : t.kids.length = 1 := by rw [hk] at ha; simpa [ari] using ha.symm
 obtain ⟨k0, hkk⟩ : ∃ k0, t.kids = [k0] := by
  match hq : t.kids, hl with
  |[z0], _ => exact ⟨z0, rfl⟩
 rw [hkk] at hks;obtain ⟨v0, g0, rfl, rfl, hi0⟩ : ∃ v0 g0, vs = [v0] ∧ fs = [g0] ∧ IsA w k0 v0 g0 := by
  cases hks with | cons h0 hks => cases hks; exact ⟨_, _, rfl, rfl, h0⟩
 have hif : True := trivial;obtain ⟨ty0, pv0, rfl⟩ := hi0.iface;have hac : acells t f p q [.iface ty0 pv0] .nilIface (.pointer none) = [.int .i64 p, .int .i64 q, .string (str t.name), .iface ty0 pv0] := by simp [acells, headC, tailC, named, hk]
 rw [hac] at hb;have hm0 : t.map = [] := (strike_parts hx.hn).2.2.2.2.2.2.2 (by omega);have HNV := Lib.hid hnv; have HX := Lib.hid hx; have HKK := Lib.hid hkk; have HM0 := Lib.hid hm0; have HB := Lib.hid hb; have HKS := Lib.hid hks; have IH := Lib.hid ih;have HKI := Lib.hid (show I64 t.kind by unfold I64; omega);have zb := hb.lt;clear hx hb hks ha hm0 hnv hkk hl ih hac hif hi0;have HK' := Lib.hid hk';clear hk';have HK := Lib.hid hk;clear hk;go_enter Try.func36, Try.ntmps36
 go_wp2_with fail
 obtain ⟨p2, q2, hp2, hq2, hal⟩ := alone_any (HA.out.same fun y hy => heap_alloc_old w (.cells ztcells.toArray 25) (HA.out.lt y hy));rw [HNV.out] at hal;apply Calls.mono
 ·exact hal
 rintro e1 w1 ⟨f2, hf2, rfl, hb1⟩;have hB1 : Below w.heap.size w w1 := Below.trans (by go_grown) (hb1.mono (by simp));have hR1 := (Lb.new' w ztcells 25 rfl).below hb1 (by simp);have HB1 := Lib.hid hB1; have HR1 := Lib.hid hR1;have zs := hB1.size;have c0 := hR1.cell; have c1 := hR1.frozen; have zc := hR1.lt;unfold ztcells at c0;unfold alv;have hL1 := (HB.out.alloc (.cells ztcells.toArray 25)).below hb1 (by simp; omega);have n0 := hL1.cell; have zn := hL1.lt; have hne : b ≠ w.heap.size := by omega
 have HL1 := Lib.hid hL1;clear hb1 hB1 hR1 hL1 hal
 go_wp2_with fail
 apply Calls.mono
 ·refine adds_any [k0] (fun x hx => IH.out x (by rw [HKK.out]; exact hx)) (some ⟨w1.heap.size + 1, 0, none⟩) 1 [.iface ty0 pv0] [g0] (fun x => k x ∨ x = w1.heap.size ∨ x = w.heap.size) _ w1.heap.size t f2 p2 q2 (by unfold most; simp) ?_ (.inr (.inl rfl)) ?_ ?_ ?_ ?_
  ·rintro x (hx | rfl | rfl)
   ·have := HK'.out x hx; simp; omega
   ·simp; omega
   ·simp; omega
  ·exact Row.of_lb (Lb.new' _ _ _ (by simp)) (by omega)
  ·exact HKS.out.same fun y hy => (HB1.out.trans (by go_grown)).block y (HKS.out.lt y hy)
  ·intro hm; have := HKS.out.lt _ hm; omega
  ·exact (Lb.new' w1 (ncells t f2 (.slice none 0 0) p2 q2) 25 rfl).alloc _
 rintro e5 w5 ⟨⟨x5, rfl⟩, A, cap, cs, hE5, hL5, hRo, hTs⟩;have hR5 := ((HR1.out.alloc _).alloc _).ext hE5 ((HR1.out.alloc _).alloc _).lt (by omega);have hB5 : Below w.heap.size w w5 := (HB1.out.trans (show Below w.heap.size w1 _ from by go_grown)).trans ⟨hE5.os, hE5.tape, hE5.output, hE5.size, fun x hx => hE5.block x (Nat.lt_of_lt_of_le hx (HB1.out.trans (show Below w.heap.size w1 _ from by go_grown)).size) (by omega)⟩;clear hE5 c0 c1 zc n0 zn;have HB5 := Lib.hid hB5; have HRo := Lib.hid hRo; have HTs := Lib.hid hTs;have c0 := hR5.cell; have c1 := hR5.frozen; have zc := hR5.lt; have o0 := hL5.cell; have oz := hL5.lt;unfold ztcells at c0;unfold ncells at o0;clear hR5 hL5 hB5 hRo hTs;go_wp21;refine bodyPost_ret (v := ta t f2 A cap none 0 p2 q2) (by simp [results, Try.results36, go_sem, c0, c1, zc, HKK.out, HM0.out]; try rfl) rfl ?_;refine tk_end (W := w5) (cs := cs) (ms := []) HX.out HKI.out hf2 hp2 hq2 (by rw [HM0.out]; simp) HB5.out (HRo.out.other fun x hx => .inl (hx.imp id .inr)) (by rw [HKK.out]; exact HTs.out.other fun x hx => .inl (hx.imp id .inr)) (.inl rfl) (by rw [HM0.out]; exact .nil) ?_
 exact (Ext.refl (fun b => b = w.heap.size) _ _).s12 (.inl rfl) 0 _ _ _ _ _ _ _ _ _ _ _ _
set_option maxHeartbeats 6400000 in
set_option maxRecDepth 100000 in
theorem taken_16 (t : Tr) (hk : t.kind = 16) (ih : ∀ x ∈ t.kids, TkOk x) (v : Value) (fp : List Nat) (w : World) (k : Nat → Prop) (hk' : ∀ b, k b → b < w.heap.size) (hA : IsA w t v fp) : Calls Try.prog 36 #[v] w (Vcd k t w) := by
 have HA := Lib.hid hA;cases hA with
 |list t b f p q a c vs fs rb ms gs th ft ha hx hb hr hk2 h1 hm ht => exfalso; rw [hk] at ha; simp [listy] at ha
 |const t b f p q a c vs rb ha hx hb hr hc => exfalso; rw [hk] at ha; simp at ha
 |node t b f p q vs fs ha hx hb hks =>
 have hnv : nv t.kind b = .iface 103 (.pointer (some ⟨b, 0, none⟩)) := by rw [hk]; rfl
 rw [hnv];have hl : t.kids.length = 1 := by rw [hk] at ha; simpa [ari] using ha.symm
 obtain ⟨k0, hkk⟩ : ∃ k0, t.kids = [k0] := by
  match hq : t.kids, hl with
  |[z0], _ => exact ⟨z0, rfl⟩
 rw [hkk] at hks;obtain ⟨v0, g0, rfl, rfl, hi0⟩ : ∃ v0 g0, vs = [v0] ∧ fs = [g0] ∧ IsA w k0 v0 g0 := by
  cases hks with | cons h0 hks => cases hks; exact ⟨_, _, rfl, rfl, h0⟩
 have hif : True := trivial;obtain ⟨ty0, pv0, rfl⟩ := hi0.iface;have hac : acells t f p q [.iface ty0 pv0] .nilIface (.pointer none) = [.int .i64 p, .int .i64 q, .iface ty0 pv0] := by simp [acells, headC, tailC, named, hk]
 rw [hac] at hb;have hm0 : t.map = [] := (strike_parts hx.hn).2.2.2.2.2.2.2 (by omega);have HNV := Lib.hid hnv; have HX := Lib.hid hx; have HKK := Lib.hid hkk; have HM0 := Lib.hid hm0; have HB := Lib.hid hb; have HKS := Lib.hid hks; have IH := Lib.hid ih;have HKI := Lib.hid (show I64 t.kind by unfold I64; omega);have zb := hb.lt;clear hx hb hks ha hm0 hnv hkk hl ih hac hif hi0;have HK' := Lib.hid hk';clear hk';have HK := Lib.hid hk;clear hk;go_enter Try.func36, Try.ntmps36
 go_wp2_with fail
 obtain ⟨p2, q2, hp2, hq2, hal⟩ := alone_any (HA.out.same fun y hy => heap_alloc_old w (.cells ztcells.toArray 25) (HA.out.lt y hy));rw [HNV.out] at hal;apply Calls.mono
 ·exact hal
 rintro e1 w1 ⟨f2, hf2, rfl, hb1⟩;have hB1 : Below w.heap.size w w1 := Below.trans (by go_grown) (hb1.mono (by simp));have hR1 := (Lb.new' w ztcells 25 rfl).below hb1 (by simp);have HB1 := Lib.hid hB1; have HR1 := Lib.hid hR1;have zs := hB1.size;have c0 := hR1.cell; have c1 := hR1.frozen; have zc := hR1.lt;unfold ztcells at c0;unfold alv;have hL1 := (HB.out.alloc (.cells ztcells.toArray 25)).below hb1 (by simp; omega);have n0 := hL1.cell; have zn := hL1.lt; have hne : b ≠ w.heap.size := by omega
 have HL1 := Lib.hid hL1;clear hb1 hB1 hR1 hL1 hal
 go_wp2_with fail
 apply Calls.mono
 ·refine adds_any [k0] (fun x hx => IH.out x (by rw [HKK.out]; exact hx)) (some ⟨w1.heap.size + 1, 0, none⟩) 1 [.iface ty0 pv0] [g0] (fun x => k x ∨ x = w1.heap.size ∨ x = w.heap.size) _ w1.heap.size t f2 p2 q2 (by unfold most; simp) ?_ (.inr (.inl rfl)) ?_ ?_ ?_ ?_
  ·rintro x (hx | rfl | rfl)
   ·have := HK'.out x hx; simp; omega
   ·simp; omega
   ·simp; omega
  ·exact Row.of_lb (Lb.new' _ _ _ (by simp)) (by omega)
  ·exact HKS.out.same fun y hy => (HB1.out.trans (by go_grown)).block y (HKS.out.lt y hy)
  ·intro hm; have := HKS.out.lt _ hm; omega
  ·exact (Lb.new' w1 (ncells t f2 (.slice none 0 0) p2 q2) 25 rfl).alloc _
 rintro e5 w5 ⟨⟨x5, rfl⟩, A, cap, cs, hE5, hL5, hRo, hTs⟩;have hR5 := ((HR1.out.alloc _).alloc _).ext hE5 ((HR1.out.alloc _).alloc _).lt (by omega);have hB5 : Below w.heap.size w w5 := (HB1.out.trans (show Below w.heap.size w1 _ from by go_grown)).trans ⟨hE5.os, hE5.tape, hE5.output, hE5.size, fun x hx => hE5.block x (Nat.lt_of_lt_of_le hx (HB1.out.trans (show Below w.heap.size w1 _ from by go_grown)).size) (by omega)⟩;clear hE5 c0 c1 zc n0 zn;have HB5 := Lib.hid hB5; have HRo := Lib.hid hRo; have HTs := Lib.hid hTs;have c0 := hR5.cell; have c1 := hR5.frozen; have zc := hR5.lt; have o0 := hL5.cell; have oz := hL5.lt;unfold ztcells at c0;unfold ncells at o0;clear hR5 hL5 hB5 hRo hTs;go_wp21;refine bodyPost_ret (v := ta t f2 A cap none 0 p2 q2) (by simp [results, Try.results36, go_sem, c0, c1, zc, HKK.out, HM0.out]; try rfl) rfl ?_;refine tk_end (W := w5) (cs := cs) (ms := []) HX.out HKI.out hf2 hp2 hq2 (by rw [HM0.out]; simp) HB5.out (HRo.out.other fun x hx => .inl (hx.imp id .inr)) (by rw [HKK.out]; exact HTs.out.other fun x hx => .inl (hx.imp id .inr)) (.inl rfl) (by rw [HM0.out]; exact .nil) ?_
 exact (Ext.refl (fun b => b = w.heap.size) _ _).s12 (.inl rfl) 0 _ _ _ _ _ _ _ _ _ _ _ _
set_option maxHeartbeats 6400000 in
set_option maxRecDepth 100000 in
theorem taken_10 (t : Tr) (hk : t.kind = 10) (ih : ∀ x ∈ t.kids, TkOk x) (v : Value) (fp : List Nat) (w : World) (k : Nat → Prop) (hk' : ∀ b, k b → b < w.heap.size) (hA : IsA w t v fp) : Calls Try.prog 36 #[v] w (Vcd k t w) := by
 have HA := Lib.hid hA;cases hA with
 |list t b f p q a c vs fs rb ms gs th ft ha hx hb hr hk2 h1 hm ht => exfalso; rw [hk] at ha; simp [listy] at ha
 |const t b f p q a c vs rb ha hx hb hr hc => exfalso; rw [hk] at ha; simp at ha
 |node t b f p q vs fs ha hx hb hks =>
 have hnv : nv t.kind b = .iface 85 (.pointer (some ⟨b, 0, none⟩)) := by rw [hk]; rfl
 rw [hnv];have hl : t.kids.length = 2 := by rw [hk] at ha; simpa [ari] using ha.symm
 obtain ⟨k0, k1, hkk⟩ : ∃ k0 k1, t.kids = [k0, k1] := by
  match hq : t.kids, hl with
  |[z0, z1], _ => exact ⟨z0, z1, rfl⟩
 rw [hkk] at hks;obtain ⟨v0, v1, g0, g1, rfl, rfl, hi0, hi1⟩ : ∃ v0 v1 g0 g1, vs = [v0, v1] ∧ fs = [g0, g1] ∧ IsA w k0 v0 g0 ∧ IsA w k1 v1 g1 := by
  cases hks with | cons h0 hks => cases hks with | cons h1 hks => cases hks; exact ⟨_, _, _, _, rfl, rfl, h0, h1⟩
 have hif : True := trivial;obtain ⟨ty0, pv0, rfl⟩ := hi0.iface;obtain ⟨ty1, pv1, rfl⟩ := hi1.iface;have hac : acells t f p q [.iface ty0 pv0, .iface ty1 pv1] .nilIface (.pointer none) = [.int .i64 p, .int .i64 q, .string (str t.name), .iface ty0 pv0, .iface ty1 pv1] := by simp [acells, headC, tailC, named, hk]
 rw [hac] at hb;have hm0 : t.map = [] := (strike_parts hx.hn).2.2.2.2.2.2.2 (by omega);have HNV := Lib.hid hnv; have HX := Lib.hid hx; have HKK := Lib.hid hkk; have HM0 := Lib.hid hm0; have HB := Lib.hid hb; have HKS := Lib.hid hks; have IH := Lib.hid ih;have HKI := Lib.hid (show I64 t.kind by unfold I64; omega);have zb := hb.lt;clear hx hb hks ha hm0 hnv hkk hl ih hac hif hi0 hi1;have HK' := Lib.hid hk';clear hk';have HK := Lib.hid hk;clear hk;go_enter Try.func36, Try.ntmps36
 go_wp2_with fail
 obtain ⟨p2, q2, hp2, hq2, hal⟩ := alone_any (HA.out.same fun y hy => heap_alloc_old w (.cells ztcells.toArray 25) (HA.out.lt y hy));rw [HNV.out] at hal;apply Calls.mono
 ·exact hal
 rintro e1 w1 ⟨f2, hf2, rfl, hb1⟩;have hB1 : Below w.heap.size w w1 := Below.trans (by go_grown) (hb1.mono (by simp));have hR1 := (Lb.new' w ztcells 25 rfl).below hb1 (by simp);have HB1 := Lib.hid hB1; have HR1 := Lib.hid hR1;have zs := hB1.size;have c0 := hR1.cell; have c1 := hR1.frozen; have zc := hR1.lt;unfold ztcells at c0;unfold alv;have hL1 := (HB.out.alloc (.cells ztcells.toArray 25)).below hb1 (by simp; omega);have n0 := hL1.cell; have zn := hL1.lt; have hne : b ≠ w.heap.size := by omega
 have HL1 := Lib.hid hL1;clear hb1 hB1 hR1 hL1 hal
 go_upto_region 12 with (fail)
 refine forget (fun W => Below w.heap.size w W ∧ Lb W w.heap.size ztcells 25 ∧ Lb W w1.heap.size (ncells t f2 (.slice none 0 0) p2 q2) 25 ∧ Lb W b [.int .i64 p, .int .i64 q, .string (str t.name), .iface ty0 pv0, .iface ty1 pv1] (sty t.kind)) ?_ ?_
 ·exact ⟨HB1.out.trans (by go_grown), HR1.out.alloc _, Lb.new' w1 (ncells t f2 (.slice none 0 0) p2 q2) 25 rfl, HL1.out.alloc _⟩
 rintro W0 ⟨hB0, hZ0, hO0, hN0⟩;have zc1 := zc;clear n0 zn c0 c1 zc;refine AnyL.start (S := fun w' => Lb w' b [.int .i64 p, .int .i64 q, .string (str t.name), .iface ty0 pv0, .iface ty1 pv1] (sty t.kind)) (late := fun j => [].contains j) (by kernel_rfl) ?_;have hB0 := hB0.drew; have hZ0 := hZ0.drew; have hO0 := hO0.drew; have hs0 := hN0.drew;have zw := hZ0.lt; have zo := hO0.lt;refine AnyL.tk [] [] 0 ?_ rfl (by kernel_rfl) (by rfl) ?_ hs0 (AnyL.tk [] [] 1 ?_ rfl (by kernel_rfl) (by rfl) ?_ hs0 (AnyL.tk [] [] 2 ?_ rfl (by kernel_rfl) (by rfl) ?_ hs0 (AnyL.tk [] [] 3 ?_ rfl (by kernel_rfl) (by rfl) ?_ hs0 (AnyL.tk [] [] 4 ?_ rfl (by kernel_rfl) (by rfl) ?_ hs0 (AnyL.tk [] [] 5 ?_ rfl (by kernel_rfl) (by rfl) ?_ hs0 (AnyL.tk [] [] 6 ?_ rfl (by kernel_rfl) (by rfl) ?_ hs0 (AnyL.tk [] [] 7 ?_ rfl (by kernel_rfl) (by rfl) ?_ hs0 (AnyL.tk [] [] 8 ?_ rfl (by kernel_rfl) (by rfl) ?_ hs0 ?_))))))))
 iterate 9
  rotate_left
  ·intro w' hw'; (try simp only [Act.put, sb0, sb1, sb2]);have r0 := (show Lb _ _ _ _ from hw').cell; have z0 := (show Lb _ _ _ _ from hw').lt;go_simp
   try (with_reducible rfl)
 try simp only [Act.put, sb0, sb1, sb2]
 refine AnyL.one 9 (by kernel_rfl) rfl fun K hK => ?_;go_simp;refine hK.out _ _ (fun _ => hs0.alloc _) ?_;clear hK K
 try simp only [Act.put, sb0, sb1, sb2]
 refine AnyL.one 10 (by kernel_rfl) rfl fun K hK => ?_;go_simp;apply Calls.mono
 ·refine adds_any [k0, k1] (fun x hx => IH.out x (by rw [HKK.out]; exact hx)) (some ⟨W0.drew.heap.size, 0, none⟩) 2 [.iface ty0 pv0, .iface ty1 pv1] [g0, g1] (fun x => k x ∨ x = w1.heap.size ∨ x = w.heap.size) _ w1.heap.size t f2 p2 q2 (by unfold most; simp) ?_ (.inr (.inl rfl)) ?_ ?_ ?_ ?_
  ·rintro x (hx | rfl | rfl)
   ·have := HK'.out x hx; have zq := hB0.size; simp at zw zo zq ⊢; omega
   ·have zq := hB0.size; simp at zw zo zq ⊢; omega
   ·have zq := hB0.size; simp at zw zo zq ⊢; omega
  ·exact Row.of_lb (Lb.new' _ _ _ rfl) (by omega)
  ·exact HKS.out.same fun y hy => (hB0.alloc hB0.size _).block y (HKS.out.lt y hy)
  ·intro hm; have := HKS.out.lt _ hm; omega
  ·exact hO0.alloc _
 rintro e5 w5 ⟨⟨x5, rfl⟩, A, cap, cs, hE5, hL5, hRo, hTs⟩;have hR5 := (hZ0.alloc _).ext hE5 (hZ0.alloc _).lt (by omega);have hB5 : Below w.heap.size w w5 := (hB0.alloc hB0.size _).trans ⟨hE5.os, hE5.tape, hE5.output, hE5.size, fun x hx => hE5.block x (Nat.lt_of_lt_of_le hx (hB0.alloc hB0.size _).size) (by omega)⟩
 (try go_wp2_with fail)
 refine hK.out _ _ (fun _ => (hs0.alloc _).ext hE5 (hs0.alloc _).lt (by omega)) ?_;clear hK K
 try simp only [Act.put, sb0, sb1, sb2]
 refine AnyL.done (by kernel_rfl) ?_ _;have HB5 := Lib.hid hB5; have HRo := Lib.hid hRo; have HTs := Lib.hid hTs;have c0 := hR5.cell; have c1 := hR5.frozen; have zc := hR5.lt; have o0 := hL5.cell; have oz := hL5.lt;unfold ztcells at c0;unfold ncells at o0;clear hR5 hL5 hB5 hRo hTs hE5 hs0 hO0 hZ0 hB0 hN0 zw zo;go_wp21;refine bodyPost_ret (v := ta t f2 A cap none 0 p2 q2) (by simp [results, Try.results36, go_sem, c0, c1, zc, HKK.out, HM0.out]; try rfl) rfl ?_;refine tk_end (W := w5) (cs := cs) (ms := []) HX.out HKI.out hf2 hp2 hq2 (by rw [HM0.out]; simp) HB5.out (HRo.out.other fun x hx => .inl (hx.imp id .inr)) (by rw [HKK.out]; exact HTs.out.other fun x hx => .inl (hx.imp id .inr)) (.inl rfl) (by rw [HM0.out]; exact .nil) ?_;exact (Ext.refl (fun b => b = w.heap.size) _ _).s12 (.inl rfl) 0 _ _ _ _ _ _ _ _ _ _ _ _
set_option maxHeartbeats 6400000 in
set_option maxRecDepth 100000 in
theorem taken_12 (t : Tr) (hk : t.kind = 12) (ih : ∀ x ∈ t.kids, TkOk x) (v : Value) (fp : List Nat) (w : World) (k : Nat → Prop) (hk' : ∀ b, k b → b < w.heap.size) (hA : IsA w t v fp) : Calls Try.prog 36 #[v] w (Vcd k t w) := by
 have HA := Lib.hid hA;cases hA with
 |list t b f p q a c vs fs rb ms gs th ft ha hx hb hr hk2 h1 hm ht => exfalso; rw [hk] at ha; simp [listy] at ha
 |const t b f p q a c vs rb ha hx hb hr hc => exfalso; rw [hk] at ha; simp at ha
 |node t b f p q vs fs ha hx hb hks =>
 have hnv : nv t.kind b = .iface 91 (.pointer (some ⟨b, 0, none⟩)) := by rw [hk]; rfl
 rw [hnv];have hl : t.kids.length = 2 := by rw [hk] at ha; simpa [ari] using ha.symm
 obtain ⟨k0, k1, hkk⟩ : ∃ k0 k1, t.kids = [k0, k1] := by
  match hq : t.kids, hl with
  |[z0, z1], _ => exact ⟨z0, z1, rfl⟩
 rw [hkk] at hks;obtain ⟨v0, v1, g0, g1, rfl, rfl, hi0, hi1⟩ : ∃ v0 v1 g0 g1, vs = [v0, v1] ∧ fs = [g0, g1] ∧ IsA w k0 v0 g0 ∧ IsA w k1 v1 g1 := by
  cases hks with | cons h0 hks => cases hks with | cons h1 hks => cases hks; exact ⟨_, _, _, _, rfl, rfl, h0, h1⟩
 have hif : True := trivial;obtain ⟨ty0, pv0, rfl⟩ := hi0.iface;obtain ⟨ty1, pv1, rfl⟩ := hi1.iface;have hac : acells t f p q [.iface ty0 pv0, .iface ty1 pv1] .nilIface (.pointer none) = [.int .i64 p, .int .i64 q, .iface ty0 pv0, .iface ty1 pv1, .bool t.flag, .bool t.method] := by simp [acells, headC, tailC, named, hk]
 rw [hac] at hb;have hm0 : t.map = [] := (strike_parts hx.hn).2.2.2.2.2.2.2 (by omega);have HNV := Lib.hid hnv; have HX := Lib.hid hx; have HKK := Lib.hid hkk; have HM0 := Lib.hid hm0; have HB := Lib.hid hb; have HKS := Lib.hid hks; have IH := Lib.hid ih;have HKI := Lib.hid (show I64 t.kind by unfold I64; omega);have zb := hb.lt;clear hx hb hks ha hm0 hnv hkk hl ih hac hif hi0 hi1;have HK' := Lib.hid hk';clear hk';have HK := Lib.hid hk;clear hk;go_enter Try.func36, Try.ntmps36
 go_wp2_with fail
 obtain ⟨p2, q2, hp2, hq2, hal⟩ := alone_any (HA.out.same fun y hy => heap_alloc_old w (.cells ztcells.toArray 25) (HA.out.lt y hy));rw [HNV.out] at hal;apply Calls.mono
 ·exact hal
 rintro e1 w1 ⟨f2, hf2, rfl, hb1⟩;have hB1 : Below w.heap.size w w1 := Below.trans (by go_grown) (hb1.mono (by simp));have hR1 := (Lb.new' w ztcells 25 rfl).below hb1 (by simp);have HB1 := Lib.hid hB1; have HR1 := Lib.hid hR1;have zs := hB1.size;have c0 := hR1.cell; have c1 := hR1.frozen; have zc := hR1.lt;unfold ztcells at c0;unfold alv;have hL1 := (HB.out.alloc (.cells ztcells.toArray 25)).below hb1 (by simp; omega);have n0 := hL1.cell; have zn := hL1.lt; have hne : b ≠ w.heap.size := by omega
 have HL1 := Lib.hid hL1;clear hb1 hB1 hR1 hL1 hal
 go_upto_region 18 with (fail)
 refine forget (fun W => Below w.heap.size w W ∧ Lb W w.heap.size ztcells 25 ∧ Lb W w1.heap.size (ncells t f2 (.slice none 0 0) p2 q2) 25 ∧ Lb W b [.int .i64 p, .int .i64 q, .iface ty0 pv0, .iface ty1 pv1, .bool t.flag, .bool t.method] (sty t.kind)) ?_ ?_
 ·exact ⟨HB1.out.trans (by go_grown), HR1.out.alloc _, Lb.new' w1 (ncells t f2 (.slice none 0 0) p2 q2) 25 rfl, HL1.out.alloc _⟩
 rintro W0 ⟨hB0, hZ0, hO0, hN0⟩;have zc1 := zc;clear n0 zn c0 c1 zc;refine AnyL.start (S := fun w' => Lb w' b [.int .i64 p, .int .i64 q, .iface ty0 pv0, .iface ty1 pv1, .bool t.flag, .bool t.method] (sty t.kind)) (late := fun j => [].contains j) (by kernel_rfl) ?_;have hB0 := hB0.drew; have hZ0 := hZ0.drew; have hO0 := hO0.drew; have hs0 := hN0.drew;have zw := hZ0.lt; have zo := hO0.lt;refine AnyL.tk [] [] 0 ?_ rfl (by kernel_rfl) (by rfl) ?_ hs0 (AnyL.tk [] [] 1 ?_ rfl (by kernel_rfl) (by rfl) ?_ hs0 (AnyL.tk [] [] 2 ?_ rfl (by kernel_rfl) (by rfl) ?_ hs0 (AnyL.tk [] [] 3 ?_ rfl (by kernel_rfl) (by rfl) ?_ hs0 (AnyL.tk [] [] 4 ?_ rfl (by kernel_rfl) (by rfl) ?_ hs0 (AnyL.tk [] [] 5 ?_ rfl (by kernel_rfl) (by rfl) ?_ hs0 (AnyL.tk [] [] 6 ?_ rfl (by kernel_rfl) (by rfl) ?_ hs0 (AnyL.tk [] [] 7 ?_ rfl (by kernel_rfl) (by rfl) ?_ hs0 (AnyL.tk [] [] 8 ?_ rfl (by kernel_rfl) (by rfl) ?_ hs0 ?_))))))))
 iterate 9
  rotate_left
  ·intro w' hw'; (try simp only [Act.put, sb0, sb1, sb2]);have r0 := (show Lb _ _ _ _ from hw').cell; have z0 := (show Lb _ _ _ _ from hw').lt;go_simp
   try (with_reducible rfl)
 try simp only [Act.put, sb0, sb1, sb2]
 refine AnyL.one 9 (by kernel_rfl) rfl fun K hK => ?_;go_simp;refine hK.out _ _ (fun _ => hs0.alloc _) ?_;clear hK K
 try simp only [Act.put, sb0, sb1, sb2]
 refine AnyL.one 10 (by kernel_rfl) rfl fun K hK => ?_;go_simp;apply Calls.mono
 ·refine adds_any [k0, k1] (fun x hx => IH.out x (by rw [HKK.out]; exact hx)) (some ⟨W0.drew.heap.size, 0, none⟩) 2 [.iface ty0 pv0, .iface ty1 pv1] [g0, g1] (fun x => k x ∨ x = w1.heap.size ∨ x = w.heap.size) _ w1.heap.size t f2 p2 q2 (by unfold most; simp) ?_ (.inr (.inl rfl)) ?_ ?_ ?_ ?_
  ·rintro x (hx | rfl | rfl)
   ·have := HK'.out x hx; have zq := hB0.size; simp at zw zo zq ⊢; omega
   ·have zq := hB0.size; simp at zw zo zq ⊢; omega
   ·have zq := hB0.size; simp at zw zo zq ⊢; omega
  ·exact Row.of_lb (Lb.new' _ _ _ rfl) (by omega)
  ·exact HKS.out.same fun y hy => (hB0.alloc hB0.size _).block y (HKS.out.lt y hy)
  ·intro hm; have := HKS.out.lt _ hm; omega
  ·exact hO0.alloc _
 rintro e5 w5 ⟨⟨x5, rfl⟩, A, cap, cs, hE5, hL5, hRo, hTs⟩;have hR5 := (hZ0.alloc _).ext hE5 (hZ0.alloc _).lt (by omega);have hB5 : Below w.heap.size w w5 := (hB0.alloc hB0.size _).trans ⟨hE5.os, hE5.tape, hE5.output, hE5.size, fun x hx => hE5.block x (Nat.lt_of_lt_of_le hx (hB0.alloc hB0.size _).size) (by omega)⟩
 (try go_wp2_with fail)
 refine hK.out _ _ (fun _ => (hs0.alloc _).ext hE5 (hs0.alloc _).lt (by omega)) ?_;clear hK K
 try simp only [Act.put, sb0, sb1, sb2]
 refine AnyL.done (by kernel_rfl) ?_ _;have HB5 := Lib.hid hB5; have HRo := Lib.hid hRo; have HTs := Lib.hid hTs;have c0 := hR5.cell; have c1 := hR5.frozen; have zc := hR5.lt; have o0 := hL5.cell; have oz := hL5.lt;unfold ztcells at c0;unfold ncells at o0;clear hR5 hL5 hB5 hRo hTs hE5 hs0 hO0 hZ0 hB0 hN0 zw zo;go_wp21;refine bodyPost_ret (v := ta t f2 A cap none 0 p2 q2) (by simp [results, Try.results36, go_sem, c0, c1, zc, HKK.out, HM0.out]; try rfl) rfl ?_;refine tk_end (W := w5) (cs := cs) (ms := []) HX.out HKI.out hf2 hp2 hq2 (by rw [HM0.out]; simp) HB5.out (HRo.out.other fun x hx => .inl (hx.imp id .inr)) (by rw [HKK.out]; exact HTs.out.other fun x hx => .inl (hx.imp id .inr)) (.inl rfl) (by rw [HM0.out]; exact .nil) ?_;exact (Ext.refl (fun b => b = w.heap.size) _ _).s12 (.inl rfl) 0 _ _ _ _ _ _ _ _ _ _ _ _
set_option maxHeartbeats 6400000 in
set_option maxRecDepth 100000 in
theorem taken_19 (t : Tr) (hk : t.kind = 19) (ih : ∀ x ∈ t.kids, TkOk x) (v : Value) (fp : List Nat) (w : World) (k : Nat → Prop) (hk' : ∀ b, k b → b < w.heap.size) (hA : IsA w t v fp) : Calls Try.prog 36 #[v] w (Vcd k t w) := by
 have HA := Lib.hid hA;cases hA with
 |list t b f p q a c vs fs rb ms gs th ft ha hx hb hr hk2 h1 hm ht => exfalso; rw [hk] at ha; simp [listy] at ha
 |const t b f p q a c vs rb ha hx hb hr hc => exfalso; rw [hk] at ha; simp at ha
 |node t b f p q vs fs ha hx hb hks =>
 have hnv : nv t.kind b = .iface 108 (.pointer (some ⟨b, 0, none⟩)) := by rw [hk]; rfl
 rw [hnv];have hl : t.kids.length = 2 := by rw [hk] at ha; simpa [ari] using ha.symm
 obtain ⟨k0, k1, hkk⟩ : ∃ k0 k1, t.kids = [k0, k1] := by
  match hq : t.kids, hl with
  |[z0, z1], _ => exact ⟨z0, z1, rfl⟩
 rw [hkk] at hks;obtain ⟨v0, v1, g0, g1, rfl, rfl, hi0, hi1⟩ : ∃ v0 v1 g0 g1, vs = [v0, v1] ∧ fs = [g0, g1] ∧ IsA w k0 v0 g0 ∧ IsA w k1 v1 g1 := by
  cases hks with | cons h0 hks => cases hks with | cons h1 hks => cases hks; exact ⟨_, _, _, _, rfl, rfl, h0, h1⟩
 have hif : True := trivial;obtain ⟨ty0, pv0, rfl⟩ := hi0.iface;obtain ⟨ty1, pv1, rfl⟩ := hi1.iface;have hac : acells t f p q [.iface ty0 pv0, .iface ty1 pv1] .nilIface (.pointer none) = [.int .i64 p, .int .i64 q, .string (str t.name), .iface ty0 pv0, .iface ty1 pv1] := by simp [acells, headC, tailC, named, hk]
 rw [hac] at hb;have hm0 : t.map = [] := (strike_parts hx.hn).2.2.2.2.2.2.2 (by omega);have HNV := Lib.hid hnv; have HX := Lib.hid hx; have HKK := Lib.hid hkk; have HM0 := Lib.hid hm0; have HB := Lib.hid hb; have HKS := Lib.hid hks; have IH := Lib.hid ih;have HKI := Lib.hid (show I64 t.kind by unfold I64; omega);have zb := hb.lt;clear hx hb hks ha hm0 hnv hkk hl ih hac hif hi0 hi1;have HK' := Lib.hid hk';clear hk';have HK := Lib.hid hk;clear hk;go_enter Try.func36, Try.ntmps36
 go_wp2_with fail
 obtain ⟨p2, q2, hp2, hq2, hal⟩ := alone_any (HA.out.same fun y hy => heap_alloc_old w (.cells ztcells.toArray 25) (HA.out.lt y hy));rw [HNV.out] at hal;apply Calls.mono
 ·exact hal
 rintro e1 w1 ⟨f2, hf2, rfl, hb1⟩;have hB1 : Below w.heap.size w w1 := Below.trans (by go_grown) (hb1.mono (by simp));have hR1 := (Lb.new' w ztcells 25 rfl).below hb1 (by simp);have HB1 := Lib.hid hB1; have HR1 := Lib.hid hR1;have zs := hB1.size;have c0 := hR1.cell; have c1 := hR1.frozen; have zc := hR1.lt;unfold ztcells at c0;unfold alv;have hL1 := (HB.out.alloc (.cells ztcells.toArray 25)).below hb1 (by simp; omega);have n0 := hL1.cell; have zn := hL1.lt; have hne : b ≠ w.heap.size := by omega
 have HL1 := Lib.hid hL1;clear hb1 hB1 hR1 hL1 hal
 go_upto_region 39 with (fail)
 refine forget (fun W => Below w.heap.size w W ∧ Lb W w.heap.size ztcells 25 ∧ Lb W w1.heap.size (ncells t f2 (.slice none 0 0) p2 q2) 25 ∧ Lb W b [.int .i64 p, .int .i64 q, .string (str t.name), .iface ty0 pv0, .iface ty1 pv1] (sty t.kind)) ?_ ?_
 ·exact ⟨HB1.out.trans (by go_grown), HR1.out.alloc _, Lb.new' w1 (ncells t f2 (.slice none 0 0) p2 q2) 25 rfl, HL1.out.alloc _⟩
 rintro W0 ⟨hB0, hZ0, hO0, hN0⟩;have zc1 := zc;clear n0 zn c0 c1 zc;refine AnyL.start (S := fun w' => Lb w' b [.int .i64 p, .int .i64 q, .string (str t.name), .iface ty0 pv0, .iface ty1 pv1] (sty t.kind)) (late := fun j => [].contains j) (by kernel_rfl) ?_;have hB0 := hB0.drew; have hZ0 := hZ0.drew; have hO0 := hO0.drew; have hs0 := hN0.drew;have zw := hZ0.lt; have zo := hO0.lt;refine AnyL.tk [] [] 0 ?_ rfl (by kernel_rfl) (by rfl) ?_ hs0 (AnyL.tk [] [] 1 ?_ rfl (by kernel_rfl) (by rfl) ?_ hs0 (AnyL.tk [] [] 2 ?_ rfl (by kernel_rfl) (by rfl) ?_ hs0 (AnyL.tk [] [] 3 ?_ rfl (by kernel_rfl) (by rfl) ?_ hs0 (AnyL.tk [] [] 4 ?_ rfl (by kernel_rfl) (by rfl) ?_ hs0 (AnyL.tk [] [] 5 ?_ rfl (by kernel_rfl) (by rfl) ?_ hs0 (AnyL.tk [] [] 6 ?_ rfl (by kernel_rfl) (by rfl) ?_ hs0 (AnyL.tk [] [] 7 ?_ rfl (by kernel_rfl) (by rfl) ?_ hs0 (AnyL.tk [] [] 8 ?_ rfl (by kernel_rfl) (by rfl) ?_ hs0 ?_))))))))
 iterate 9
  rotate_left
  ·intro w' hw'; (try simp only [Act.put, sb0, sb1, sb2]);have r0 := (show Lb _ _ _ _ from hw').cell; have z0 := (show Lb _ _ _ _ from hw').lt;go_simp
   try (with_reducible rfl)
 try simp only [Act.put, sb0, sb1, sb2]
 refine AnyL.one 9 (by kernel_rfl) rfl fun K hK => ?_;go_simp;refine hK.out _ _ (fun _ => hs0.alloc _) ?_;clear hK K
 try simp only [Act.put, sb0, sb1, sb2]
 refine AnyL.one 10 (by kernel_rfl) rfl fun K hK => ?_;go_simp;apply Calls.mono
 ·refine adds_any [k0, k1] (fun x hx => IH.out x (by rw [HKK.out]; exact hx)) (some ⟨W0.drew.heap.size, 0, none⟩) 2 [.iface ty0 pv0, .iface ty1 pv1] [g0, g1] (fun x => k x ∨ x = w1.heap.size ∨ x = w.heap.size) _ w1.heap.size t f2 p2 q2 (by unfold most; simp) ?_ (.inr (.inl rfl)) ?_ ?_ ?_ ?_
  ·rintro x (hx | rfl | rfl)
   ·have := HK'.out x hx; have zq := hB0.size; simp at zw zo zq ⊢; omega
   ·have zq := hB0.size; simp at zw zo zq ⊢; omega
   ·have zq := hB0.size; simp at zw zo zq ⊢; omega
  ·exact Row.of_lb (Lb.new' _ _ _ rfl) (by omega)
  ·exact HKS.out.same fun y hy => (hB0.alloc hB0.size _).block y (HKS.out.lt y hy)
  ·intro hm; have := HKS.out.lt _ hm; omega
  ·exact hO0.alloc _
 rintro e5 w5 ⟨⟨x5, rfl⟩, A, cap, cs, hE5, hL5, hRo, hTs⟩;have hR5 := (hZ0.alloc _).ext hE5 (hZ0.alloc _).lt (by omega);have hB5 : Below w.heap.size w w5 := (hB0.alloc hB0.size _).trans ⟨hE5.os, hE5.tape, hE5.output, hE5.size, fun x hx => hE5.block x (Nat.lt_of_lt_of_le hx (hB0.alloc hB0.size _).size) (by omega)⟩
 (try go_wp2_with fail)
 refine hK.out _ _ (fun _ => (hs0.alloc _).ext hE5 (hs0.alloc _).lt (by omega)) ?_;clear hK K
 try simp only [Act.put, sb0, sb1, sb2]
 refine AnyL.done (by kernel_rfl) ?_ _;have HB5 := Lib.hid hB5; have HRo := Lib.hid hRo; have HTs := Lib.hid hTs;have c0 := hR5.cell; have c1 := hR5.frozen; have zc := hR5.lt; have o0 := hL5.cell; have oz := hL5.lt;unfold ztcells at c0;unfold ncells at o0;clear hR5 hL5 hB5 hRo hTs hE5 hs0 hO0 hZ0 hB0 hN0 zw zo;go_wp21;refine bodyPost_ret (v := ta t f2 A cap none 0 p2 q2) (by simp [results, Try.results36, go_sem, c0, c1, zc, HKK.out, HM0.out]; try rfl) rfl ?_;refine tk_end (W := w5) (cs := cs) (ms := []) HX.out HKI.out hf2 hp2 hq2 (by rw [HM0.out]; simp) HB5.out (HRo.out.other fun x hx => .inl (hx.imp id .inr)) (by rw [HKK.out]; exact HTs.out.other fun x hx => .inl (hx.imp id .inr)) (.inl rfl) (by rw [HM0.out]; exact .nil) ?_;exact (Ext.refl (fun b => b = w.heap.size) _ _).s12 (.inl rfl) 0 _ _ _ _ _ _ _ _ _ _ _ _
set_option maxHeartbeats 6400000 in
set_option maxRecDepth 100000 in
theorem taken_23 (t : Tr) (hk : t.kind = 23) (ih : ∀ x ∈ t.kids, TkOk x) (v : Value) (fp : List Nat) (w : World) (k : Nat → Prop) (hk' : ∀ b, k b → b < w.heap.size) (hA : IsA w t v fp) : Calls Try.prog 36 #[v] w (Vcd k t w) := by
 have HA := Lib.hid hA;cases hA with
 |list t b f p q a c vs fs rb ms gs th ft ha hx hb hr hk2 h1 hm ht => exfalso; rw [hk] at ha; simp [listy] at ha
 |const t b f p q a c vs rb ha hx hb hr hc => exfalso; rw [hk] at ha; simp at ha
 |node t b f p q vs fs ha hx hb hks =>
 have hnv : nv t.kind b = .iface 119 (.pointer (some ⟨b, 0, none⟩)) := by rw [hk]; rfl
 rw [hnv];have hl : t.kids.length = 2 := by rw [hk] at ha; simpa [ari] using ha.symm
 obtain ⟨k0, k1, hkk⟩ : ∃ k0 k1, t.kids = [k0, k1] := by
  match hq : t.kids, hl with
  |[z0, z1], _ => exact ⟨z0, z1, rfl⟩
 rw [hkk] at hks;obtain ⟨v0, v1, g0, g1, rfl, rfl, hi0, hi1⟩ : ∃ v0 v1 g0 g1, vs = [v0, v1] ∧ fs = [g0, g1] ∧ IsA w k0 v0 g0 ∧ IsA w k1 v1 g1 := by
  cases hks with | cons h0 hks => cases hks with | cons h1 hks => cases hks; exact ⟨_, _, _, _, rfl, rfl, h0, h1⟩
 have hif : True := trivial;obtain ⟨ty0, pv0, rfl⟩ := hi0.iface;obtain ⟨ty1, pv1, rfl⟩ := hi1.iface;have hac : acells t f p q [.iface ty0 pv0, .iface ty1 pv1] .nilIface (.pointer none) = [.int .i64 p, .int .i64 q, .iface ty0 pv0, .iface ty1 pv1] := by simp [acells, headC, tailC, named, hk]
 rw [hac] at hb;have hm0 : t.map = [] := (strike_parts hx.hn).2.2.2.2.2.2.2 (by omega);have HNV := Lib.hid hnv; have HX := Lib.hid hx; have HKK := Lib.hid hkk; have HM0 := Lib.hid hm0; have HB := Lib.hid hb; have HKS := Lib.hid hks; have IH := Lib.hid ih;have HKI := Lib.hid (show I64 t.kind by unfold I64; omega);have zb := hb.lt;clear hx hb hks ha hm0 hnv hkk hl ih hac hif hi0 hi1;have HK' := Lib.hid hk';clear hk';have HK := Lib.hid hk;clear hk;go_enter Try.func36, Try.ntmps36
 go_wp2_with fail
 obtain ⟨p2, q2, hp2, hq2, hal⟩ := alone_any (HA.out.same fun y hy => heap_alloc_old w (.cells ztcells.toArray 25) (HA.out.lt y hy));rw [HNV.out] at hal;apply Calls.mono
 ·exact hal
 rintro e1 w1 ⟨f2, hf2, rfl, hb1⟩;have hB1 : Below w.heap.size w w1 := Below.trans (by go_grown) (hb1.mono (by simp));have hR1 := (Lb.new' w ztcells 25 rfl).below hb1 (by simp);have HB1 := Lib.hid hB1; have HR1 := Lib.hid hR1;have zs := hB1.size;have c0 := hR1.cell; have c1 := hR1.frozen; have zc := hR1.lt;unfold ztcells at c0;unfold alv;have hL1 := (HB.out.alloc (.cells ztcells.toArray 25)).below hb1 (by simp; omega);have n0 := hL1.cell; have zn := hL1.lt; have hne : b ≠ w.heap.size := by omega
 have HL1 := Lib.hid hL1;clear hb1 hB1 hR1 hL1 hal
 go_upto_region 51 with (fail)
 refine forget (fun W => Below w.heap.size w W ∧ Lb W w.heap.size ztcells 25 ∧ Lb W w1.heap.size (ncells t f2 (.slice none 0 0) p2 q2) 25 ∧ Lb W b [.int .i64 p, .int .i64 q, .iface ty0 pv0, .iface ty1 pv1] (sty t.kind)) ?_ ?_
 ·exact ⟨HB1.out.trans (by go_grown), HR1.out.alloc _, Lb.new' w1 (ncells t f2 (.slice none 0 0) p2 q2) 25 rfl, HL1.out.alloc _⟩
 rintro W0 ⟨hB0, hZ0, hO0, hN0⟩;have zc1 := zc;clear n0 zn c0 c1 zc;refine AnyL.start (S := fun w' => Lb w' b [.int .i64 p, .int .i64 q, .iface ty0 pv0, .iface ty1 pv1] (sty t.kind)) (late := fun j => [].contains j) (by kernel_rfl) ?_;have hB0 := hB0.drew; have hZ0 := hZ0.drew; have hO0 := hO0.drew; have hs0 := hN0.drew;have zw := hZ0.lt; have zo := hO0.lt;refine AnyL.tk [] [] 0 ?_ rfl (by kernel_rfl) (by rfl) ?_ hs0 (AnyL.tk [] [] 1 ?_ rfl (by kernel_rfl) (by rfl) ?_ hs0 (AnyL.tk [] [] 2 ?_ rfl (by kernel_rfl) (by rfl) ?_ hs0 (AnyL.tk [] [] 3 ?_ rfl (by kernel_rfl) (by rfl) ?_ hs0 (AnyL.tk [] [] 4 ?_ rfl (by kernel_rfl) (by rfl) ?_ hs0 (AnyL.tk [] [] 5 ?_ rfl (by kernel_rfl) (by rfl) ?_ hs0 (AnyL.tk [] [] 6 ?_ rfl (by kernel_rfl) (by rfl) ?_ hs0 (AnyL.tk [] [] 7 ?_ rfl (by kernel_rfl) (by rfl) ?_ hs0 (AnyL.tk [] [] 8 ?_ rfl (by kernel_rfl) (by rfl) ?_ hs0 ?_))))))))
 iterate 9
  rotate_left
  ·intro w' hw'; (try simp only [Act.put, sb0, sb1, sb2]);have r0 := (show Lb _ _ _ _ from hw').cell; have z0 := (show Lb _ _ _ _ from hw').lt;go_simp
   try (with_reducible rfl)
 try simp only [Act.put, sb0, sb1, sb2]
 refine AnyL.one 9 (by kernel_rfl) rfl fun K hK => ?_;go_simp;refine hK.out _ _ (fun _ => hs0.alloc _) ?_;clear hK K
 try simp only [Act.put, sb0, sb1, sb2]
 refine AnyL.one 10 (by kernel_rfl) rfl fun K hK => ?_;go_simp;apply Calls.mono
 ·refine adds_any [k0, k1] (fun x hx => IH.out x (by rw [HKK.out]; exact hx)) (some ⟨W0.drew.heap.size, 0, none⟩) 2 [.iface ty0 pv0, .iface ty1 pv1] [g0, g1] (fun x => k x ∨ x = w1.heap.size ∨ x = w.heap.size) _ w1.heap.size t f2 p2 q2 (by unfold most; simp) ?_ (.inr (.inl rfl)) ?_ ?_ ?_ ?_
  ·rintro x (hx | rfl | rfl)
   ·have := HK'.out x hx; have zq := hB0.size; simp at zw zo zq ⊢; omega
   ·have zq := hB0.size; simp at zw zo zq ⊢; omega
   ·have zq := hB0.size; simp at zw zo zq ⊢; omega
  ·exact Row.of_lb (Lb.new' _ _ _ rfl) (by omega)
  ·exact HKS.out.same fun y hy => (hB0.alloc hB0.size _).block y (HKS.out.lt y hy)
  ·intro hm; have := HKS.out.lt _ hm; omega
  ·exact hO0.alloc _
 rintro e5 w5 ⟨⟨x5, rfl⟩, A, cap, cs, hE5, hL5, hRo, hTs⟩;have hR5 := (hZ0.alloc _).ext hE5 (hZ0.alloc _).lt (by omega);have hB5 : Below w.heap.size w w5 := (hB0.alloc hB0.size _).trans ⟨hE5.os, hE5.tape, hE5.output, hE5.size, fun x hx => hE5.block x (Nat.lt_of_lt_of_le hx (hB0.alloc hB0.size _).size) (by omega)⟩
 (try go_wp2_with fail)
 refine hK.out _ _ (fun _ => (hs0.alloc _).ext hE5 (hs0.alloc _).lt (by omega)) ?_;clear hK K
 try simp only [Act.put, sb0, sb1, sb2]
 refine AnyL.done (by kernel_rfl) ?_ _;have HB5 := Lib.hid hB5; have HRo := Lib.hid hRo; have HTs := Lib.hid hTs;have c0 := hR5.cell; have c1 := hR5.frozen; have zc := hR5.lt; have o0 := hL5.cell; have oz := hL5.lt;unfold ztcells at c0;unfold ncells at o0;clear hR5 hL5 hB5 hRo hTs hE5 hs0 hO0 hZ0 hB0 hN0 zw zo;go_wp21;refine bodyPost_ret (v := ta t f2 A cap none 0 p2 q2) (by simp [results, Try.results36, go_sem, c0, c1, zc, HKK.out, HM0.out]; try rfl) rfl ?_;refine tk_end (W := w5) (cs := cs) (ms := []) HX.out HKI.out hf2 hp2 hq2 (by rw [HM0.out]; simp) HB5.out (HRo.out.other fun x hx => .inl (hx.imp id .inr)) (by rw [HKK.out]; exact HTs.out.other fun x hx => .inl (hx.imp id .inr)) (.inl rfl) (by rw [HM0.out]; exact .nil) ?_;exact (Ext.refl (fun b => b = w.heap.size) _ _).s12 (.inl rfl) 0 _ _ _ _ _ _ _ _ _ _ _ _
set_option maxHeartbeats 6400000 in
set_option maxRecDepth 100000 in
theorem taken_18 (t : Tr) (hk : t.kind = 18) (ih : ∀ x ∈ t.kids, TkOk x) (v : Value) (fp : List Nat) (w : World) (k : Nat → Prop) (hk' : ∀ b, k b → b < w.heap.size) (hA : IsA w t v fp) : Calls Try.prog 36 #[v] w (Vcd k t w) := by
 have HA := Lib.hid hA;cases hA with
 |list t b f p q a c vs fs rb ms gs th ft ha hx hb hr hk2 h1 hm ht => exfalso; rw [hk] at ha; simp [listy] at ha
 |const t b f p q a c vs rb ha hx hb hr hc => exfalso; rw [hk] at ha; simp at ha
 |node t b f p q vs fs ha hx hb hks =>
 have hnv : nv t.kind b = .iface 105 (.pointer (some ⟨b, 0, none⟩)) := by rw [hk]; rfl
 rw [hnv];have hl : t.kids.length = 3 := by rw [hk] at ha; simpa [ari] using ha.symm
 obtain ⟨k0, k1, k2, hkk⟩ : ∃ k0 k1 k2, t.kids = [k0, k1, k2] := by
  match hq : t.kids, hl with
  |[z0, z1, z2], _ => exact ⟨z0, z1, z2, rfl⟩
 rw [hkk] at hks;obtain ⟨v0, v1, v2, g0, g1, g2, rfl, rfl, hi0, hi1, hi2⟩ : ∃ v0 v1 v2 g0 g1 g2, vs = [v0, v1, v2] ∧ fs = [g0, g1, g2] ∧ IsA w k0 v0 g0 ∧ IsA w k1 v1 g1 ∧ IsA w k2 v2 g2 := by
  cases hks with | cons h0 hks => cases hks with | cons h1 hks => cases hks with | cons h2 hks => cases hks; exact ⟨_, _, _, _, _, _, rfl, rfl, h0, h1, h2⟩
 have hif : True := trivial;obtain ⟨ty0, pv0, rfl⟩ := hi0.iface;obtain ⟨ty1, pv1, rfl⟩ := hi1.iface;obtain ⟨ty2, pv2, rfl⟩ := hi2.iface;have hac : acells t f p q [.iface ty0 pv0, .iface ty1 pv1, .iface ty2 pv2] .nilIface (.pointer none) = [.int .i64 p, .int .i64 q, .bool t.flag, .iface ty0 pv0, .iface ty1 pv1, .iface ty2 pv2] := by simp [acells, headC, tailC, named, hk]
 rw [hac] at hb;have hm0 : t.map = [] := (strike_parts hx.hn).2.2.2.2.2.2.2 (by omega);have HNV := Lib.hid hnv; have HX := Lib.hid hx; have HKK := Lib.hid hkk; have HM0 := Lib.hid hm0; have HB := Lib.hid hb; have HKS := Lib.hid hks; have IH := Lib.hid ih;have HKI := Lib.hid (show I64 t.kind by unfold I64; omega);have zb := hb.lt;clear hx hb hks ha hm0 hnv hkk hl ih hac hif hi0 hi1 hi2;have HK' := Lib.hid hk';clear hk';have HK := Lib.hid hk;clear hk;go_enter Try.func36, Try.ntmps36
 go_wp2_with fail
 obtain ⟨p2, q2, hp2, hq2, hal⟩ := alone_any (HA.out.same fun y hy => heap_alloc_old w (.cells ztcells.toArray 25) (HA.out.lt y hy));rw [HNV.out] at hal;apply Calls.mono
 ·exact hal
 rintro e1 w1 ⟨f2, hf2, rfl, hb1⟩;have hB1 : Below w.heap.size w w1 := Below.trans (by go_grown) (hb1.mono (by simp));have hR1 := (Lb.new' w ztcells 25 rfl).below hb1 (by simp);have HB1 := Lib.hid hB1; have HR1 := Lib.hid hR1;have zs := hB1.size;have c0 := hR1.cell; have c1 := hR1.frozen; have zc := hR1.lt;unfold ztcells at c0;unfold alv;have hL1 := (HB.out.alloc (.cells ztcells.toArray 25)).below hb1 (by simp; omega);have n0 := hL1.cell; have zn := hL1.lt; have hne : b ≠ w.heap.size := by omega
 have HL1 := Lib.hid hL1;clear hb1 hB1 hR1 hL1 hal
 go_upto_region 36 with (fail)
 refine forget (fun W => Below w.heap.size w W ∧ Lb W w.heap.size ztcells 25 ∧ Lb W w1.heap.size (ncells t f2 (.slice none 0 0) p2 q2) 25 ∧ Lb W b [.int .i64 p, .int .i64 q, .bool t.flag, .iface ty0 pv0, .iface ty1 pv1, .iface ty2 pv2] (sty t.kind)) ?_ ?_
 ·exact ⟨HB1.out.trans (by go_grown), HR1.out.alloc _, Lb.new' w1 (ncells t f2 (.slice none 0 0) p2 q2) 25 rfl, HL1.out.alloc _⟩
 rintro W0 ⟨hB0, hZ0, hO0, hN0⟩;have zc1 := zc;clear n0 zn c0 c1 zc;refine AnyL.start (S := fun w' => Lb w' b [.int .i64 p, .int .i64 q, .bool t.flag, .iface ty0 pv0, .iface ty1 pv1, .iface ty2 pv2] (sty t.kind)) (late := fun j => [].contains j) (by kernel_rfl) ?_;have hB0 := hB0.drew; have hZ0 := hZ0.drew; have hO0 := hO0.drew; have hs0 := hN0.drew;have zw := hZ0.lt; have zo := hO0.lt;refine AnyL.tk [] [] 0 ?_ rfl (by kernel_rfl) (by rfl) ?_ hs0 (AnyL.tk [] [] 1 ?_ rfl (by kernel_rfl) (by rfl) ?_ hs0 (AnyL.tk [] [] 2 ?_ rfl (by kernel_rfl) (by rfl) ?_ hs0 (AnyL.tk [] [] 3 ?_ rfl (by kernel_rfl) (by rfl) ?_ hs0 (AnyL.tk [] [] 4 ?_ rfl (by kernel_rfl) (by rfl) ?_ hs0 (AnyL.tk [] [] 5 ?_ rfl (by kernel_rfl) (by rfl) ?_ hs0 (AnyL.tk [] [] 6 ?_ rfl (by kernel_rfl) (by rfl) ?_ hs0 (AnyL.tk [] [] 7 ?_ rfl (by kernel_rfl) (by rfl) ?_ hs0 (AnyL.tk [] [] 8 ?_ rfl (by kernel_rfl) (by rfl) ?_ hs0 (AnyL.tk [] [] 9 ?_ rfl (by kernel_rfl) (by rfl) ?_ hs0 (AnyL.tk [] [] 10 ?_ rfl (by kernel_rfl) (by rfl) ?_ hs0 (AnyL.tk [] [] 11 ?_ rfl (by kernel_rfl) (by rfl) ?_ hs0 (AnyL.tk [] [] 12 ?_ rfl (by kernel_rfl) (by rfl) ?_ hs0 ?_))))))))))))
 iterate 13
  rotate_left
  ·intro w' hw'; (try simp only [Act.put, sb0, sb1, sb2]);have r0 := (show Lb _ _ _ _ from hw').cell; have z0 := (show Lb _ _ _ _ from hw').lt;go_simp
   try (with_reducible rfl)
 try simp only [Act.put, sb0, sb1, sb2]
 refine AnyL.one 13 (by kernel_rfl) rfl fun K hK => ?_;go_simp;refine hK.out _ _ (fun _ => hs0.alloc _) ?_;clear hK K
 try simp only [Act.put, sb0, sb1, sb2]
 refine AnyL.one 14 (by kernel_rfl) rfl fun K hK => ?_;go_simp;apply Calls.mono
 ·refine adds_any [k0, k1, k2] (fun x hx => IH.out x (by rw [HKK.out]; exact hx)) (some ⟨W0.drew.heap.size, 0, none⟩) 3 [.iface ty0 pv0, .iface ty1 pv1, .iface ty2 pv2] [g0, g1, g2] (fun x => k x ∨ x = w1.heap.size ∨ x = w.heap.size) _ w1.heap.size t f2 p2 q2 (by unfold most; simp) ?_ (.inr (.inl rfl)) ?_ ?_ ?_ ?_
  ·rintro x (hx | rfl | rfl)
   ·have := HK'.out x hx; have zq := hB0.size; simp at zw zo zq ⊢; omega
   ·have zq := hB0.size; simp at zw zo zq ⊢; omega
   ·have zq := hB0.size; simp at zw zo zq ⊢; omega
  ·exact Row.of_lb (Lb.new' _ _ _ rfl) (by omega)
  ·exact HKS.out.same fun y hy => (hB0.alloc hB0.size _).block y (HKS.out.lt y hy)
  ·intro hm; have := HKS.out.lt _ hm; omega
  ·exact hO0.alloc _
 rintro e5 w5 ⟨⟨x5, rfl⟩, A, cap, cs, hE5, hL5, hRo, hTs⟩;have hR5 := (hZ0.alloc _).ext hE5 (hZ0.alloc _).lt (by omega);have hB5 : Below w.heap.size w w5 := (hB0.alloc hB0.size _).trans ⟨hE5.os, hE5.tape, hE5.output, hE5.size, fun x hx => hE5.block x (Nat.lt_of_lt_of_le hx (hB0.alloc hB0.size _).size) (by omega)⟩
 (try go_wp2_with fail)
 refine hK.out _ _ (fun _ => (hs0.alloc _).ext hE5 (hs0.alloc _).lt (by omega)) ?_;clear hK K
 try simp only [Act.put, sb0, sb1, sb2]
 refine AnyL.done (by kernel_rfl) ?_ _;have HB5 := Lib.hid hB5; have HRo := Lib.hid hRo; have HTs := Lib.hid hTs;have c0 := hR5.cell; have c1 := hR5.frozen; have zc := hR5.lt; have o0 := hL5.cell; have oz := hL5.lt;unfold ztcells at c0;unfold ncells at o0;clear hR5 hL5 hB5 hRo hTs hE5 hs0 hO0 hZ0 hB0 hN0 zw zo;go_wp21;refine bodyPost_ret (v := ta t f2 A cap none 0 p2 q2) (by simp [results, Try.results36, go_sem, c0, c1, zc, HKK.out, HM0.out]; try rfl) rfl ?_;refine tk_end (W := w5) (cs := cs) (ms := []) HX.out HKI.out hf2 hp2 hq2 (by rw [HM0.out]; simp) HB5.out (HRo.out.other fun x hx => .inl (hx.imp id .inr)) (by rw [HKK.out]; exact HTs.out.other fun x hx => .inl (hx.imp id .inr)) (.inl rfl) (by rw [HM0.out]; exact .nil) ?_;exact (Ext.refl (fun b => b = w.heap.size) _ _).s12 (.inl rfl) 0 _ _ _ _ _ _ _ _ _ _ _ _
set_option maxHeartbeats 6400000 in
set_option maxRecDepth 100000 in
theorem taken_list (t : Tr) (ty : Nat) (hk : t.kind = 20 ∧ ty = 111 ∨ t.kind = 21 ∧ ty = 114 ∨ t.kind = 22 ∧ ty = 116) (ih : ∀ x ∈ t.kids, TkOk x) (v : Value) (fp : List Nat) (w : World) (k : Nat → Prop) (hk' : ∀ b, k b → b < w.heap.size) (hA : IsA w t v fp) : Calls Try.prog 36 #[v] w (Vcd k t w) := by
 have HA := Lib.hid hA;cases hA with
 |node t b f p q vs fs ha hx hb hks => exfalso; rcases hk with ⟨hk, -⟩ | ⟨hk, -⟩ | ⟨hk, -⟩ <;> (rw [hk] at ha; simp [ari] at ha)
 |const t b f p q a c vs rb ha hx hb hr hc => exfalso; rcases hk with ⟨hk, -⟩ | ⟨hk, -⟩ | ⟨hk, -⟩ <;> (rw [hk] at ha; simp at ha)
 |list t b f p q a c vs fs rb ms gs th ft ha hx hb hr hks h1 hm ht =>
 have hnv : nv t.kind b = .iface ty (.pointer (some ⟨b, 0, none⟩)) := by rcases hk with ⟨hk, rfl⟩ | ⟨hk, rfl⟩ | ⟨hk, rfl⟩ <;> (rw [hk]; rfl)
 rw [hnv];have hm0 : t.map = [] := (strike_parts hx.hn).2.2.2.2.2.2.2 (by rcases hk with ⟨hk, -⟩ | ⟨hk, -⟩ | ⟨hk, -⟩ <;> omega)
 have hac : acells t f p q [.slice a t.kids.length c] (ms.headD .nilIface) th = [.int .i64 p, .int .i64 q, .slice a t.kids.length c] := by rcases hk with ⟨hk, -⟩ | ⟨hk, -⟩ | ⟨hk, -⟩ <;> simp [acells, headC, tailC, named, hk]
 rw [hac] at hb;have HNV := Lib.hid hnv; have HX := Lib.hid hx; have HM0 := Lib.hid hm0; have HB := Lib.hid hb; have HKS := Lib.hid hks; have IH := Lib.hid ih; have HRW := Lib.hid hr;have HKI := Lib.hid (show I64 t.kind by unfold I64; rcases hk with ⟨hk, -⟩ | ⟨hk, -⟩ | ⟨hk, -⟩ <;> omega)
 have zb := hb.lt;clear hx hb hks ha hm0 hnv ih hac hr h1 hm ht;have HK' := Lib.hid hk';clear hk';rcases hk with ⟨hk, rfl⟩ | ⟨hk, rfl⟩ | ⟨hk, rfl⟩
 all_goals
  have HK := Lib.hid hk;clear hk;go_enter Try.func36, Try.ntmps36
  go_wp2_with fail
  obtain ⟨p2, q2, hp2, hq2, hal⟩ := alone_any (HA.out.same fun y hy => heap_alloc_old w (.cells ztcells.toArray 25) (HA.out.lt y hy));rw [HNV.out] at hal;apply Calls.mono
  ·exact hal
  rintro e1 w1 ⟨f2, hf2, rfl, hb1⟩;have hB1 : Below w.heap.size w w1 := Below.trans (by go_grown) (hb1.mono (by simp));have hR1 := (Lb.new' w ztcells 25 rfl).below hb1 (by simp);have HB1 := Lib.hid hB1; have HR1 := Lib.hid hR1;have zs := hB1.size;have c0 := hR1.cell; have c1 := hR1.frozen; have zc := hR1.lt;unfold ztcells at c0;unfold alv;have hL1 := (HB.out.alloc (.cells ztcells.toArray 25)).below hb1 (by simp; omega);have n0 := hL1.cell; have zn := hL1.lt; have hne : b ≠ w.heap.size := by omega
  have HL1 := Lib.hid hL1;clear hb1 hB1 hR1 hL1 hal
  go_wp2_with fail
  apply Calls.mono
  ·refine adds_any t.kids IH.out a c vs fs (fun x => k x ∨ x = w1.heap.size ∨ x = w.heap.size) _ w1.heap.size t f2 p2 q2 HX.out.hk ?_ (.inr (.inl rfl)) ?_ ?_ ?_ ?_
   ·rintro x (hx | rfl | rfl)
    ·have := HK'.out x hx; simp; omega
    ·simp
    ·simp; omega
   ·exact (HRW.out.row (k := (· = w1.heap.size)) fun y hy => by have := HRW.out.lt y hy; omega).ext (k := fun y => y = w1.heap.size) (Ext.of (HB1.out.trans (by go_grown))) (Nat.le_refl _)
   ·exact HKS.out.same fun y hy => (HB1.out.trans (by go_grown)).block y (HKS.out.lt y hy)
   ·intro hm; have := HKS.out.lt _ hm; omega
   ·exact Lb.new' w1 (ncells t f2 (.slice none 0 0) p2 q2) 25 rfl
  rintro e5 w5 ⟨⟨x5, rfl⟩, A, cap, cs, hE5, hL5, hRo, hTs⟩;have hR5 := (HR1.out.alloc _).ext hE5 (HR1.out.alloc _).lt (by omega);have hB5 : Below w.heap.size w w5 := (HB1.out.trans (show Below w.heap.size w1 _ from by go_grown)).trans ⟨hE5.os, hE5.tape, hE5.output, hE5.size, fun x hx => hE5.block x (Nat.lt_of_lt_of_le hx (HB1.out.trans (show Below w.heap.size w1 _ from by go_grown)).size) (by omega)⟩;clear hE5 c0 c1 zc n0 zn;have HB5 := Lib.hid hB5; have HRo := Lib.hid hRo; have HTs := Lib.hid hTs;have c0 := hR5.cell; have c1 := hR5.frozen; have zc := hR5.lt; have o0 := hL5.cell; have oz := hL5.lt;unfold ztcells at c0;unfold ncells at o0;clear hR5 hL5 hB5 hRo hTs;go_wp21;refine bodyPost_ret (v := ta t f2 A cap none 0 p2 q2) (by simp [results, Try.results36, go_sem, c0, c1, zc, HM0.out]; try rfl) rfl ?_;refine tk_end (W := w5) (cs := cs) (ms := []) HX.out HKI.out hf2 hp2 hq2 (by rw [HM0.out]; simp) HB5.out (HRo.out.other fun x hx => .inl (hx.imp id .inr)) (HTs.out.other fun x hx => .inl (hx.imp id .inr)) (.inl rfl) (by rw [HM0.out]; exact .nil) ?_
  exact (Ext.refl (fun b => b = w.heap.size) _ _).s12 (.inl rfl) 0 _ _ _ _ _ _ _ _ _ _ _ _
set_option maxHeartbeats 6400000 in
set_option maxRecDepth 100000 in
theorem taken_8 (t : Tr) (hk : t.kind = 8) (v : Value) (fp : List Nat) (w : World) (k : Nat → Prop) (hk' : ∀ b, k b → b < w.heap.size) (hA : IsA w t v fp) : Calls Try.prog 36 #[v] w (Vcd k t w) := by
 have HA := Lib.hid hA;cases hA with
 |node t b f p q vs fs ha hx hb hks => exfalso; rw [hk] at ha; simp [ari] at ha
 |list t b f p q a c vs fs rb ms gs th ft ha hx hb hr hk2 h1 hm ht => exfalso; rw [hk] at ha; simp [listy] at ha
 |const t b f p q a c vs rb ha hx hb hr hc =>
 have hnv : nv t.kind b = .iface 76 (.pointer (some ⟨b, 0, none⟩)) := by rw [hk]; rfl
 rw [hnv];have hm0 : t.map = [] := (strike_parts hx.hn).2.2.2.2.2.2.2 (by omega);have hac : acells t f p q [.iface 162 (.slice a t.kids.length c)] .nilIface (.pointer none) = [.int .i64 p, .int .i64 q, .iface 162 (.slice a t.kids.length c)] := by simp [acells, headC, tailC, named, hk]
 rw [hac] at hb;have HNV := Lib.hid hnv; have HX := Lib.hid hx; have HM0 := Lib.hid hm0; have HB := Lib.hid hb; have HC := Lib.hid hc; have HRW := Lib.hid hr;have HKI := Lib.hid (show I64 t.kind by unfold I64; omega);have zb := hb.lt;clear hx hb ha hm0 hnv hac hr hc;have HK' := Lib.hid hk';clear hk';have HK := Lib.hid hk;clear hk;go_enter Try.func36, Try.ntmps36
 go_wp2_with fail
 obtain ⟨p2, q2, hp2, hq2, hal⟩ := alone_any (HA.out.same fun y hy => heap_alloc_old w (.cells ztcells.toArray 25) (HA.out.lt y hy));rw [HNV.out] at hal;apply Calls.mono
 ·exact hal
 rintro e1 w1 ⟨f2, hf2, rfl, hb1⟩;have hB1 : Below w.heap.size w w1 := Below.trans (by go_grown) (hb1.mono (by simp));have hR1 := (Lb.new' w ztcells 25 rfl).below hb1 (by simp);have HB1 := Lib.hid hB1; have HR1 := Lib.hid hR1;have zs := hB1.size;have c0 := hR1.cell; have c1 := hR1.frozen; have zc := hR1.lt;unfold ztcells at c0;unfold alv;have hL1 := (HB.out.alloc (.cells ztcells.toArray 25)).below hb1 (by simp; omega);have n0 := hL1.cell; have zn := hL1.lt; have hne : b ≠ w.heap.size := by omega
 have HL1 := Lib.hid hL1;clear hb1 hB1 hR1 hL1 hal
 go_wp2_with fail
 apply Calls.mono
 ·refine listed_any t.kids a c vs rb (fun x => k x ∨ x = w1.heap.size ∨ x = w.heap.size) _ HX.out.hk ?_ (HRW.out.same fun y hy => (HB1.out.trans (by go_grown)).block y (HRW.out.lt y hy)) HC.out;rintro x (hx | rfl | rfl)
  ·have := HK'.out x hx; simp; omega
  ·simp
  ·simp; omega
 rintro e5 w5 ⟨A, cap, cs, rfl, hb5, hRo, hTs⟩;have hR5 := (HR1.out.alloc _).below hb5 (HR1.out.alloc _).lt;have hL5 := (Lb.new' w1 (ncells t f2 (.slice none 0 0) p2 q2) 25 rfl).below hb5 (by simp);have hB5 : Below w.heap.size w w5 := (HB1.out.trans (show Below w.heap.size w1 _ from by go_grown)).trans (hb5.mono (HB1.out.trans (show Below w.heap.size w1 _ from by go_grown)).size);have HB5 := Lib.hid hB5; have HRo := Lib.hid hRo; have HTs := Lib.hid hTs;clear c0 c1 zc n0 zn;have c0 := hR5.cell; have c1 := hR5.frozen; have zc := hR5.lt; have o0 := hL5.cell; have o1 := hL5.frozen; have oz := hL5.lt;have hne2 : w.heap.size ≠ w1.heap.size := by have := HR1.out.lt; omega
 unfold ztcells at c0;unfold ncells at o0;clear hR5 hL5 hB5 hRo hTs hb5;go_wp21;refine bodyPost_ret (v := ta t f2 A cap none 0 p2 q2) (by simp [results, Try.results36, go_sem, c0, c1, zc, HM0.out, hne2]; try rfl) rfl ?_;refine tk_end (W := w5.setCell ⟨w1.heap.size, 8, none⟩ (.slice A t.kids.length cap)) (cs := cs) (ms := []) HX.out HKI.out hf2 hp2 hq2 (by rw [HM0.out]; simp) (HB5.out.setCell (by exact HB1.out.size) _) ((HRo.out.ext ((Ext.refl (fun x => k x ∨ x = w1.heap.size ∨ x = w.heap.size) _ _).setCell (.inl (.inr (.inl rfl))) _) (Nat.le_refl _)).other fun x hx => .inl (hx.imp id .inr)) ((HTs.out.ext ((Ext.refl (fun x => k x ∨ x = w1.heap.size ∨ x = w.heap.size) _ _).setCell (.inl (.inr (.inl rfl))) _) (Nat.le_refl _)).other fun x hx => .inl (hx.imp id .inr)) (.inl rfl) (by rw [HM0.out]; exact .nil) ?_;exact (Ext.refl (fun b => b = w.heap.size) _ _).s12 (.inl rfl) 0 _ _ _ _ _ _ _ _ _ _ _ _
set_option maxHeartbeats 6400000 in
set_option maxRecDepth 100000 in
theorem taken_15 (t : Tr) (ty : Nat) (hk : t.kind = 15 ∧ ty = 100) (ih : ∀ x ∈ t.kids, TkOk x) (ihm : ∀ x ∈ t.map, TkOk x) (v : Value) (fp : List Nat) (w : World) (k : Nat → Prop) (hk' : ∀ b, k b → b < w.heap.size) (hA : IsA w t v fp) : Calls Try.prog 36 #[v] w (Vcd k t w) := by
 have HA := Lib.hid hA;cases hA with
 |node t b f p q vs fs ha hx hb hks => exfalso; rcases hk with ⟨hk, -⟩ <;> (rw [hk] at ha; simp [ari] at ha)
 |const t b f p q a c vs rb ha hx hb hr hc => exfalso; rcases hk with ⟨hk, -⟩ <;> (rw [hk] at ha; simp at ha)
 |list t b f p q a c vs fs rb ms gs th ft ha hx hb hr hks h1 hm ht =>
 have hnv : nv t.kind b = .iface ty (.pointer (some ⟨b, 0, none⟩)) := by rcases hk with ⟨hk, rfl⟩ <;> (rw [hk]; rfl)
 rw [hnv];have hac : acells t f p q [.slice a t.kids.length c] (ms.headD .nilIface) th = [.int .i64 p, .int .i64 q, .string (str t.name), .slice a t.kids.length c, .bool t.flag, ms.headD .nilIface, th] := by rcases hk with ⟨hk, -⟩; simp [acells, headC, tailC, named, hk]
 rw [hac] at hb;have HNV := Lib.hid hnv; have HX := Lib.hid hx; have HB := Lib.hid hb; have HKS := Lib.hid hks; have IH := Lib.hid ih; have IHM := Lib.hid ihm; have HRW := Lib.hid hr; have HM := Lib.hid hm; have H1 := Lib.hid h1.1;have HKI := Lib.hid (show I64 t.kind by unfold I64; rcases hk with ⟨hk, -⟩; omega)
 have zb := hb.lt;clear hx hb hks ha hnv ih ihm hac hr h1 hm ht;have HK' := Lib.hid hk';clear hk';rcases hk with ⟨hk, rfl⟩
 all_goals
  have HK := Lib.hid hk;clear hk;go_enter Try.func36, Try.ntmps36
  go_wp2_with fail
  obtain ⟨p2, q2, hp2, hq2, hal⟩ := alone_any (HA.out.same fun y hy => heap_alloc_old w (.cells ztcells.toArray 25) (HA.out.lt y hy));rw [HNV.out] at hal;apply Calls.mono
  ·exact hal
  rintro e1 w1 ⟨f2, hf2, rfl, hb1⟩;have hB1 : Below w.heap.size w w1 := Below.trans (by go_grown) (hb1.mono (by simp));have hR1 := (Lb.new' w ztcells 25 rfl).below hb1 (by simp);have HB1 := Lib.hid hB1; have HR1 := Lib.hid hR1;have zs := hB1.size;have c0 := hR1.cell; have c1 := hR1.frozen; have zc := hR1.lt;unfold ztcells at c0;unfold alv;have hL1 := (HB.out.alloc (.cells ztcells.toArray 25)).below hb1 (by simp; omega);have n0 := hL1.cell; have zn := hL1.lt; have hne : b ≠ w.heap.size := by omega
  have HL1 := Lib.hid hL1;clear hb1 hB1 hR1 hL1 hal
  go_wp2_with fail
  apply Calls.mono
  ·refine adds_any t.kids IH.out a c vs fs (fun x => k x ∨ x = w1.heap.size ∨ x = w.heap.size) _ w1.heap.size t f2 p2 q2 HX.out.hk ?_ (.inr (.inl rfl)) ?_ ?_ ?_ ?_
   ·rintro x (hx | rfl | rfl)
    ·have := HK'.out x hx; simp; omega
    ·simp
    ·simp; omega
   ·exact (HRW.out.row (k := (· = w1.heap.size)) fun y hy => by have := HRW.out.lt y hy; omega).ext (k := fun y => y = w1.heap.size) (Ext.of (HB1.out.trans (by go_grown))) (Nat.le_refl _)
   ·exact HKS.out.same fun y hy => (HB1.out.trans (by go_grown)).block y (HKS.out.lt y hy)
   ·intro hm; have := HKS.out.lt _ hm; omega
   ·exact Lb.new' w1 (ncells t f2 (.slice none 0 0) p2 q2) 25 rfl
  rintro e5 w5 ⟨⟨x5, rfl⟩, A, cap, cs, hE5, hL5, hRo, hTs⟩;have hR5 := (HR1.out.alloc _).ext hE5 (HR1.out.alloc _).lt (by omega);have hB5 : Below w.heap.size w w5 := (HB1.out.trans (show Below w.heap.size w1 _ from by go_grown)).trans ⟨hE5.os, hE5.tape, hE5.output, hE5.size, fun x hx => hE5.block x (Nat.lt_of_lt_of_le hx (HB1.out.trans (show Below w.heap.size w1 _ from by go_grown)).size) (by omega)⟩;have hN5 := (HL1.out.alloc (.cells (ncells t f2 (.slice none 0 0) p2 q2).toArray 25)).ext hE5 (HL1.out.alloc _).lt (by omega);clear c0 c1 zc n0 zn;have HE5 := Lib.hid hE5; have HB5 := Lib.hid hB5; have HRo := Lib.hid hRo; have HTs := Lib.hid hTs; have HN5 := Lib.hid hN5; have HR5 := Lib.hid hR5; have HL5 := Lib.hid hL5;have c0 := hR5.cell; have c1 := hR5.frozen; have zc := hR5.lt; have o0 := hL5.cell; have oz := hL5.lt; have n0 := hN5.cell; have zn := hN5.lt;unfold ztcells at c0;unfold ncells at o0
  clear hR5 hL5 hB5 hRo hTs hE5 hN5;rcases hms : t.map with _ | ⟨x, l⟩
  ·have hms2 : ms = [] := (by have := HM.out.len.1; rw [hms] at this; exact List.eq_nil_of_length_eq_zero this);subst hms2;have HMS := Lib.hid hms;clear hms;simp only [List.headD] at n0;go_wp21;refine bodyPost_ret (v := ta t f2 A cap none 0 p2 q2) (by simp [results, Try.results36, go_sem, c0, c1, zc, HMS.out]; try rfl) rfl ?_;refine tk_end (W := w5) (cs := cs) (ms := []) HX.out HKI.out hf2 hp2 hq2 (by rw [HMS.out]; simp) HB5.out (HRo.out.other fun x hx => .inl (hx.imp id .inr)) (HTs.out.other fun x hx => .inl (hx.imp id .inr)) (.inl rfl) (by rw [HMS.out]; exact .nil) ?_;exact (Ext.refl (fun b => b = w.heap.size) _ _).s12 (.inl rfl) 0 _ _ _ _ _ _ _ _ _ _ _ _
  ·have hl0 : l = [] := (by have := H1.out; rw [hms] at this; simp at this; exact this);subst hl0;have HMS := Lib.hid hms;have hmm := HM.out;rw [hms] at hmm;obtain ⟨mv, g0, rfl, hmi⟩ : ∃ mv g0, ms = [mv] ∧ IsA w x mv g0 := by
    cases hmm with | cons h hl => cases hl; exact ⟨_, _, rfl, h⟩
   obtain ⟨mty, mpv, rfl⟩ := hmi.iface;have HMI := Lib.hid hmi;clear hms hmm hmi;simp only [List.headD] at n0
   go_wp2_with fail
   apply Calls.mono
   ·refine IHM.out x (by rw [HMS.out]; simp) _ g0 _ (fun x => k x ∨ x = w1.heap.size ∨ x = w.heap.size) ?_ (HMI.out.same fun y hy => HB5.out.block y (HMI.out.lt y hy));rintro y (hy | rfl | rfl)
    ·have := HK'.out y hy; omega
    ·exact oz
    ·exact zc
   rintro e6 w6 ⟨f6, a6, c6, a7, c7, p6, q6, rfl, hb6, hT6⟩;have hR6 := HR5.out.below hb6 HR5.out.lt;have hL6 := HL5.out.below hb6 HL5.out.lt;have HB6 := Lib.hid (HB5.out.trans (hb6.mono HB5.out.size));have HRo6 := Lib.hid (HRo.out.ext (.of hb6) (Nat.le_refl _)); have HTs6 := Lib.hid (HTs.out.ext (.of hb6) (Nat.le_refl _)); have HT6 := Lib.hid hT6;have zw6 := hb6.size;clear c0 c1 zc o0 oz n0 zn;have HN6 := Lib.hid (HN5.out.below hb6 HN5.out.lt);have c0 := hR6.cell; have c1 := hR6.frozen; have zc := hR6.lt; have o0 := hL6.cell; have o1 := hL6.frozen; have oz := hL6.lt; have n0 := HN6.out.cell; have zn := HN6.out.lt;have hne2 : w.heap.size ≠ w1.heap.size := (by have := HR1.out.lt; omega);have HL6 := Lib.hid hL6;unfold ztcells at c0;unfold ncells at o0;simp only [List.headD] at n0;clear hR6 hL6 hb6 hT6;go_wp21;refine bodyPost_ret (v := ta t f2 A cap (some ⟨w6.heap.size, 0, none⟩) 1 p2 q2) (by simp [results, Try.results36, go_sem, c0, c1, zc, HMS.out, hne2]; try rfl) rfl ?_
   have EW : Ext (fun y => y = w1.heap.size ∨ y = w.heap.size) w6.heap.size w6 ((S12 (w6.setCell ⟨w1.heap.size, 9, none⟩ (.slice (some ⟨w6.heap.size, 0, none⟩) 1 1)) w.heap.size 0 (.int .i64 t.kind) (.string (str t.name)) (.int .i64 t.int) (.float .f64 f2) (.bool t.flag) (.bool t.method) (.bool t.limited) (.int .i64 t.limit) (.slice A t.kids.length cap) (.slice (some ⟨w6.heap.size, 0, none⟩) 1 1) (.int .i64 p2) (.int .i64 q2)).alloc (.cells (tcells x f6 a6 c6 a7 c7 p6 q6).toArray 25)) :=
    (((Ext.refl _ _ _).setCell (.inl (.inl rfl)) _).s12 (.inl (.inr rfl)) 0 _ _ _ _ _ _ _ _ _ _ _ _).alloc (by simp) _
   refine tk_end (W := (S12 (w6.setCell ⟨w1.heap.size, 9, none⟩ (.slice (some ⟨w6.heap.size, 0, none⟩) 1 1)) w.heap.size 0 (.int .i64 t.kind) (.string (str t.name)) (.int .i64 t.int) (.float .f64 f2) (.bool t.flag) (.bool t.method) (.bool t.limited) (.int .i64 t.limit) (.slice A t.kids.length cap) (.slice (some ⟨w6.heap.size, 0, none⟩) 1 1) (.int .i64 p2) (.int .i64 q2)).alloc (.cells (tcells x f6 a6 c6 a7 c7 p6 q6).toArray 25)) (cs := cs) (ms := tcells x f6 a6 c6 a7 c7 p6 q6) HX.out HKI.out hf2 hp2 hq2 (by rw [HMS.out]; simp) (HB6.out.trans ⟨EW.os, EW.tape, EW.output, EW.size, fun y hy => EW.block y (Nat.lt_of_lt_of_le hy HB6.out.size) (by omega)⟩) ((HRo6.out.ext (EW.weak fun y hy => .inr hy) (Nat.le_refl _)).other fun x hx => .inl (hx.imp id .inr)) ((HTs6.out.ext (EW.weak fun y hy => .inr hy) (Nat.le_refl _)).other fun x hx => .inl (hx.imp id .inr)) ?_ ?_ (.refl _ _ _)
   ·refine Row.of_lb (Lb.new' _ _ 25 (by simp)) ?_;rintro (hy | hy)
    ·have := HK'.out _ hy; have := HB6.out.size; omega
    ·omega
   ·rw [HMS.out];exact .one ((HT6.out.ext (EW.weak fun y hy => .inr hy) (Nat.le_refl _)).other fun x hx => .inl (hx.imp id .inr))
end Go.Proofs.Ytafhhdimjkgihaa.Mn
