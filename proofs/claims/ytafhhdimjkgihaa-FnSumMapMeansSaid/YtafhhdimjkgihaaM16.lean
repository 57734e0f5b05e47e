/- What the program does, function by function, and what trees mean: part 16. -/
import Derived.Test.YtafhhdimjkgihaaM15
set_option linter.unusedSimpArgs false
set_option linter.unusedVariables false
namespace Go.Proofs.Ytafhhdimjkgihaa.Mn
attribute [local go_sem ↓] Go.wp_at_zero Go.wp_at_succ
open Go.RowKit
theorem list_split12 {l : List Value} (h : l.length = 12) : ∃ a0 a1 a2 a3 a4 a5 a6 a7 a8 a9 a10 a11, l = [a0, a1, a2, a3, a4, a5, a6, a7, a8, a9, a10, a11] := by
 match l, h with
 |[a0, a1, a2, a3, a4, a5, a6, a7, a8, a9, a10, a11], _ => exact ⟨a0, a1, a2, a3, a4, a5, a6, a7, a8, a9, a10, a11, rfl⟩
abbrev S12 (w : World) (b o : Nat) (x0 x1 x2 x3 x4 x5 x6 x7 x8 x9 x10 x11 : Value) : World :=
 (((((((((((w.setCell ⟨b, o, none⟩ x0).setCell ⟨b, o + 1, none⟩ x1).setCell ⟨b, o + 2, none⟩ x2).setCell ⟨b, o + 3, none⟩ x3).setCell ⟨b, o + 4, none⟩ x4).setCell ⟨b, o + 5, none⟩ x5).setCell ⟨b, o + 6, none⟩ x6).setCell ⟨b, o + 7, none⟩ x7).setCell ⟨b, o + 8, none⟩ x8).setCell ⟨b, o + 9, none⟩ x9).setCell ⟨b, o + 10, none⟩ x10).setCell ⟨b, o + 11, none⟩ x11
theorem set_at (X Y : List Value) (o i : Nat) (ho : o = X.length) (u : Value) : (X ++ Y).set (o + i) u = X ++ Y.set i u := by
 rw [ho, List.set_append_right _ _ (by omega), Nat.add_sub_cancel_left]
theorem Lb.s12 {w : World} {b o : Nat} {X Y : List Value} {z0 z1 z2 z3 z4 z5 z6 z7 z8 z9 z10 z11 : Value} {T : TypeId} (h : Lb w b (X ++ ([z0, z1, z2, z3, z4, z5, z6, z7, z8, z9, z10, z11] ++ Y)) T) (ho : o = X.length) (x0 x1 x2 x3 x4 x5 x6 x7 x8 x9 x10 x11 : Value) :
 Lb (S12 w b o x0 x1 x2 x3 x4 x5 x6 x7 x8 x9 x10 x11) b (X ++ ([x0, x1, x2, x3, x4, x5, x6, x7, x8, x9, x10, x11] ++ Y)) T := by
 have := (((((((((((h.set o x0).set (o + 1) x1).set (o + 2) x2).set (o + 3) x3).set (o + 4) x4).set (o + 5) x5).set (o + 6) x6).set (o + 7) x7).set (o + 8) x8).set (o + 9) x9).set (o + 10) x10).set (o + 11) x11;rw [show (X ++ ([z0, z1, z2, z3, z4, z5, z6, z7, z8, z9, z10, z11] ++ Y)).set o x0 = X ++ ([z0, z1, z2, z3, z4, z5, z6, z7, z8, z9, z10, z11] ++ Y).set 0 x0 from set_at X _ o 0 ho x0] at this;simp only [set_at X _ o _ ho, List.cons_append, List.nil_append, List.set_cons_zero, List.set_cons_succ] at this;exact this
theorem Ext.s12 {k : Nat → Prop} {B : Nat} {u w : World} (h : Ext k B u w) {b : Nat} (hb : k b ∨ B ≤ b) (o : Nat) (x0 x1 x2 x3 x4 x5 x6 x7 x8 x9 x10 x11 : Value) : Ext k B u (S12 w b o x0 x1 x2 x3 x4 x5 x6 x7 x8 x9 x10 x11) :=
 (((((((((((h.setCell (p := ⟨b, o, none⟩) hb _).setCell (p := ⟨b, o + 1, none⟩) hb _).setCell (p := ⟨b, o + 2, none⟩) hb _).setCell (p := ⟨b, o + 3, none⟩) hb _).setCell (p := ⟨b, o + 4, none⟩) hb _).setCell (p := ⟨b, o + 5, none⟩) hb _).setCell (p := ⟨b, o + 6, none⟩) hb _).setCell (p := ⟨b, o + 7, none⟩) hb _).setCell (p := ⟨b, o + 8, none⟩) hb _).setCell (p := ⟨b, o + 9, none⟩) hb _).setCell (p := ⟨b, o + 10, none⟩) hb _).setCell (p := ⟨b, o + 11, none⟩) hb _
theorem own_s12 {w : World} {B g n cap : Nat} {cs : List Value} {z0 z1 z2 z3 z4 z5 z6 z7 z8 z9 z10 z11 : Value} (h : w.ownsRow B 25 12 (.slice (some ⟨g, 0, none⟩) (n + 1) cap) (n + 1) (cs ++ [z0, z1, z2, z3, z4, z5, z6, z7, z8, z9, z10, z11])) (hn : cs.length = n * 12) (x0 x1 x2 x3 x4 x5 x6 x7 x8 x9 x10 x11 : Value) :
 (S12 w g (n * 12) x0 x1 x2 x3 x4 x5 x6 x7 x8 x9 x10 x11).ownsRow B 25 12 (.slice (some ⟨g, 0, none⟩) (n + 1) cap) (n + 1) (cs ++ [x0, x1, x2, x3, x4, x5, x6, x7, x8, x9, x10, x11]) := by
 obtain ⟨h1, ⟨h2, _⟩ | ⟨g', cap', cur, h2, h3, h4, h5, h6, h7, h8⟩⟩ := h
 ·cases h2
 ·cases h2;have key : cur.toList = cs ++ ([z0, z1, z2, z3, z4, z5, z6, z7, z8, z9, z10, z11] ++ cur.toList.drop ((n + 1) * 12)) := by
   rw [← List.append_assoc, ← h8, List.take_append_drop]
  have hL : Lb w g (cs ++ ([z0, z1, z2, z3, z4, z5, z6, z7, z8, z9, z10, z11] ++ cur.toList.drop ((n + 1) * 12))) 25 := by
   unfold Lb; rw [h4, ← key]
  have hlen : (cs ++ ([z0, z1, z2, z3, z4, z5, z6, z7, z8, z9, z10, z11] ++ cur.toList.drop ((n + 1) * 12))).length = cap * 12 := by
   rw [← key, Array.length_toList, h7]
  refine ⟨by simp; omega, .inr ⟨g, cap, _, rfl, h3, hL.s12 hn.symm x0 x1 x2 x3 x4 x5 x6 x7 x8 x9 x10 x11, h5, h6, ?_, ?_⟩⟩
  ·rw [List.size_toArray, ← hlen]; simp
  ·rw [← List.append_assoc, List.take_left' (by simp; omega)]
structure Tz (k : Nat → Prop) (w0 : World) (ob : Nat) (t : Tr) (f : Nat) (p q : Int) (A : Option Addr) (n cap : Nat) (rc cs : List Value) (ts : List Tr) (s8 : Value) (w : World) : Prop where
 e : Ext (· = ob) w0.heap.size w0 w
 c0 : Lb w ob (ncells t f s8 p q) 25
 own : w.ownsRow w0.heap.size 25 12 (.slice A n cap) n rc
 ts : IsTs w (Xs k A) ts cs
 lt : ob < w0.heap.size
 ko : k ob
section
variable {k : Nat → Prop} {w0 w w1 : World} {ob : Nat} {t : Tr} {f : Nat} {p q : Int} {A : Option Addr} {n cap : Nat} {rc cs : List Value} {ts : List Tr} {s8 : Value}
theorem Tz.below (h : Tz k w0 ob t f p q A n cap rc cs ts s8 w) (e : Below w.heap.size w w1) : Tz k w0 ob t f p q A n cap rc cs ts s8 w1 :=
 ⟨h.e.trans ((Ext.of e).mono h.e.size), h.c0.below e h.c0.lt, own_ext (k := fun _ => False) h.own (.of e) (Nat.le_refl _) (fun _ _ h => h), h.ts.ext (.of e) (Nat.le_refl _), h.lt, h.ko⟩
theorem Tz.grow (h : Tz k w0 ob t f p q A n cap rc cs ts s8 w) {x : Tr} {ds zs : List Value} (hx : IsT w (Xs k A) x ds) {A3 : Option Addr} {n3 cap3 : Nat} (hown : w1.ownsRow w0.heap.size 25 12 (.slice A3 n3 cap3) n3 (rc ++ zs)) (g : w.grownBy w1 (A.map (·.block))) (hat : A3 = A ∨ A3 = some ⟨w.heap.size, 0, none⟩) :
 Tz k w0 ob t f p q A3 n3 cap3 (rc ++ zs) (cs ++ ds) (ts ++ [x]) s8 w1 := by
 have hob := own_base h.own;have hne : ∀ b, b < w0.heap.size → some b ≠ A.map (·.block) := fun b hb he => by
  cases A with
  |none => cases he
  |some a => have := (hob a rfl).1; simp at he; omega
 exact ⟨h.e.trans ⟨g.os, g.tape, g.output, g.size, fun b hb _ => g.block b (Nat.lt_of_lt_of_le hb h.e.size) (hne b hb)⟩, h.c0.grown g (hne _ h.lt), hown, (h.ts.grown g hat).append (.one (hx.grown g hat)), h.lt, h.ko⟩
theorem Tz.set8 (h : Tz k w0 ob t f p q A n cap rc cs ts s8 w) (u : Value) : Tz k w0 ob t f p q A n cap rc cs ts u (w.setCell ⟨ob, 8, none⟩ u) :=
 ⟨h.e.setCell (.inl rfl) u, h.c0.set 8 u, own_set h.own (by show ob < _; exact h.lt) u, h.ts.ext ((Ext.refl _ _ _).setCell (.inl (.inl h.ko)) u) (Nat.le_refl _), h.lt, h.ko⟩
theorem Tz.s12 {g : Nat} (h : Tz k w0 ob t f p q (some ⟨g, 0, none⟩) (n + 1) cap (rc ++ ztcells) cs ts s8 w) (hn : rc.length = n * 12) (x0 x1 x2 x3 x4 x5 x6 x7 x8 x9 x10 x11 : Value) :
 Tz k w0 ob t f p q (some ⟨g, 0, none⟩) (n + 1) cap (rc ++ [x0, x1, x2, x3, x4, x5, x6, x7, x8, x9, x10, x11]) cs ts s8 (S12 w g (n * 12) x0 x1 x2 x3 x4 x5 x6 x7 x8 x9 x10 x11) := by
 have hg := (own_base h.own _ rfl).1;have hob := h.lt;have hne : g ≠ ob := by simp at hg; omega
 refine ⟨h.e.s12 (.inr hg) _ _ _ _ _ _ _ _ _ _ _ _ _, ?_, own_s12 h.own hn x0 x1 x2 x3 x4 x5 x6 x7 x8 x9 x10 x11, h.ts.ext ((Ext.refl (Xs k (some ⟨g, 0, none⟩)) _ _).s12 (.inl (.inr ⟨_, rfl, rfl⟩)) _ _ _ _ _ _ _ _ _ _ _ _ _) (Nat.le_refl _), h.lt, h.ko⟩;have hE : Ext (· = g) w.heap.size w (S12 w g (n * 12) x0 x1 x2 x3 x4 x5 x6 x7 x8 x9 x10 x11) := (Ext.refl (· = g) _ _).s12 (.inl rfl) _ _ _ _ _ _ _ _ _ _ _ _ _;exact h.c0.ext hE h.c0.lt (Ne.symm hne)
theorem Tz.last {g : Nat} (h : Tz k w0 ob t f p q (some ⟨g, 0, none⟩) (n + 1) cap (rc ++ ztcells) cs ts s8 w) (hn : rc.length = n * 12) : g < w.heap.size ∧ (∀ i, w.frozen? ⟨g, i, none⟩ = false) ∧ ∀ i u, ztcells[i]? = some u → w.cell? ⟨g, n * 12 + i, none⟩ = some u := by
 refine ⟨(own_base h.own _ rfl).2, fun i => ?_, fun i u hu => ?_⟩
 ·obtain ⟨h1, ⟨h2, _⟩ | ⟨g', cap', cur, h2, h3, h4, _⟩⟩ := h.own
  ·cases h2
  ·cases h2; simp [World.frozen?, h4]
 ·have := h.own.cells (g := g) rfl (n * 12 + i) u (by rw [List.getElem?_append_right (by omega), hn, Nat.add_sub_cancel_left]; exact hu);rw [Addr.add_lit, Nat.zero_add] at this;exact this
end
def TkOk (t : Tr) : Prop := ∀ v fp w k, (∀ b, k b → b < w.heap.size) → IsA w t v fp → Calls Try.prog 36 #[v] w (Vcd k t w)
def Ad (k : Nat → Prop) (ob : Nat) (t : Tr) (f : Nat) (p q : Int) (ts : List Tr) (w : World) (e : Ending) (w' : World) : Prop := (∃ x, e = .returned x) ∧ ∃ A cap cs, Ext (· = ob) w.heap.size w w' ∧ Lb w' ob (ncells t f (.slice A ts.length cap) p q) 25 ∧ Row w' k A cs ∧ IsTs w' k ts cs
set_option maxHeartbeats 6400000 in
set_option maxRecDepth 100000 in
theorem adds_any (ts : List Tr) (ih : ∀ x ∈ ts, TkOk x) (a : Option Addr) (c : Nat) (vs : List Value) (fs : List (List Nat)) (k : Nat → Prop) (w : World) (ob : Nat) (t : Tr) (f : Nat) (p q : Int) (hil : ts.length ≤ most) (hk : ∀ b, k b → b < w.heap.size) (hko : k ob)
 (hr : Row w (· = ob) a vs) (hks : IsAs w ts vs fs) (hof : ob ∉ fs.flatten) (hL : Lb w ob (ncells t f (.slice none 0 0) p q) 25) :
 Calls Try.prog 56 #[.slice a ts.length c, .pointer (some ⟨ob, 0, none⟩)] w (Ad k ob t f p q ts w) := by
 unfold most at hil;have HR := Lib.hid hr; have HKS := Lib.hid hks; have HK := Lib.hid hk; have IH := Lib.hid ih; have HL := Lib.hid hL; have HOF := Lib.hid hof; have HKO := Lib.hid hko;clear hr hks hk ih hL hof hko;go_enter Try.func56, Try.ntmps56
 go_wp2_with fail
 go_loopg [7] ts.length (fun g i wr => ∃ j : Nat, i = .int .i64 j ∧ j + g = ts.length ∧ ∃ A cap cs, Tz k w ob t f p q A j cap cs cs (ts.take j) (.slice A j cap) wr)
 case atStart => exact ⟨0, rfl, by omega, none, 0, [], ⟨.refl _ _ _, HL.out, World.ownsRow_nil _ _ _ _, .nil, HL.out.lt, HKO.out⟩⟩
 case round =>
  obtain ⟨j, rfl, hj, A, cap, cs, hQ⟩ := hrel
  by_cases hlt : 0 < gk
  ·obtain ⟨g, rfl⟩ : ∃ g, gk = g + 1 := ⟨gk - 1, by omega⟩;obtain ⟨x, hx⟩ : ∃ x, ts[j]? = some x := ⟨ts[j]'(by omega), by simp⟩;obtain ⟨v, fp, hv, hfp, hI⟩ := HKS.out.get hx;obtain ⟨r, o, rfl, hrk, hrs, hrr⟩ : ∃ r o, a = some ⟨r, o, none⟩ ∧ ¬ r = ob ∧ r < w.heap.size ∧ w.rangeAt r o vs := by
    rcases HR.out with h1 | h
    ·rw [h1] at hv; simp at hv
    ·exact h
   have d0 : wr.cell? ⟨r, o + j, none⟩ = some v := by
    rw [show wr.cell? ⟨r, o + j, none⟩ = w.cell? ⟨r, o + j, none⟩ from World.cell?_of_block (w := w) (a := ⟨r, o + j, none⟩) (hQ.e.block r hrs hrk)];exact hrr j v hv
   have zr := Nat.lt_of_lt_of_le hrs hQ.e.size;have zi0 : (0 : Int) ≤ (j : Int) := (by omega);have zi1 : (j : Int) < (ts.length : Int) := (by omega);have HIX := Lib.hid (show ∀ w', Ext (· = ob) w.heap.size w w' → IsA w' x v fp from fun w' e => hI.same fun b hb => e.block b (hI.lt b hb) fun h => HOF.out (h ▸ List.mem_flatten.2 ⟨fp, List.mem_of_getElem? hfp, hb⟩));have HXQ := Lib.hid hx; have HQ := Lib.hid hQ; have IHx := Lib.hid (IH.out x (List.mem_of_getElem? hx));clear hQ hx hv hfp hI hrr
   go_upto_region 3 with (fail)
   refine forget (fun W => Tz k w ob t f p q A j cap cs cs (ts.take j) (.slice A j cap) W) HQ.out ?_;clear HQ d0 zr;intro W hS;have hS0 := hS.below (Below.refl _ _).drew;have HS0 := Lib.hid hS0;have hlen : cs.length = j * 12 := hS.own.1;refine AnyL.start (S := fun w' => w'.cell? ⟨ob, 8, none⟩ = some (.slice A j cap)) (late := fun j => [7, 8, 9, 10].contains j) (by kernel_rfl) ?_;have hs0 : (fun w' : World => w'.cell? ⟨ob, 8, none⟩ = some (.slice A j cap)) W.drew := hS0.c0.cell 8;refine AnyL.tk [7, 8, 9, 10] [7, 8, 9, 10] 0 ?_ rfl (by kernel_rfl) (by rfl) ?_ hs0 (AnyL.tk [7, 8, 9, 10] [7, 8, 9, 10] 1 ?_ rfl (by kernel_rfl) (by rfl) ?_ hs0 (AnyL.tk [7, 8, 9, 10] [7, 8, 9, 10] 2 ?_ rfl (by kernel_rfl) (by rfl) ?_ hs0 (AnyL.tk [7, 8, 9, 10] [7, 8, 9, 10] 4 ?_ rfl (by kernel_rfl) (by rfl) ?_ hs0 ?_)))
   iterate 4
    rotate_left
    ·intro w' hw'; (try simp only [Act.put, sb0, sb1, sb2])
     (try dsimp only at hw')
     go_simp
     try (with_reducible rfl)
   try simp only [Act.put, sb0, sb1, sb2]
   refine AnyL.ready (rs := [3, 5]) (by kernel_rfl) (by simp) ?_;refine AllL.cons rfl (fun K hK => ?_) (AllL.cons rfl (fun K hK => ?_) AllL.nil)
   ·go_simp;apply Calls.mono
    ·refine IHx.out v fp _ (Xs k A) (fun b hb => ?_) (HIX.out _ hS0.e);rcases hb with hb | ⟨a2, ha, rfl⟩
     ·exact Nat.lt_of_lt_of_le (HK.out b hb) hS0.e.size
     ·exact (own_base hS0.own a2 ha).2
    rintro e w5 ⟨f5, a5, c5, a6, c6, p5, q5, rfl, hb5, hX5⟩;have hS5 := hS0.below hb5
    (try go_wp2_with fail)
    refine hK.out _ _ (fun _ => hS5.c0.cell 8) ?_;clear hK K
    try simp only [Act.put, sb0, sb1, sb2]
    refine AnyL.one 5 (by kernel_rfl) rfl fun K hK => ?_;go_simp;have hS6 := hS5.below ((Below.refl _ _).alloc (Nat.le_refl _) (.cells ztcells.toArray 25));have hX6 := hX5.ext ((Ext.refl (Xs k A) _ _).alloc (Nat.le_refl _) (.cells ztcells.toArray 25)) (Nat.le_refl _);refine hK.out _ _ (fun _ => hS6.c0.cell 8) ?_;clear hK K
    try simp only [Act.put, sb0, sb1, sb2]
    refine AnyL.one 6 (by kernel_rfl) rfl fun K hK => ?_;refine step_append_o el23 (by rfl) (.tmp 12) (.tmp 16) (by rfl) w.heap.size A j cap cs (by rfl) hS6.own _ 1 1 ztcells (by rfl) (by rfl) (Laid.of_lb (Lb.new' _ _ _ rfl)) (ones_l [] 0 0 0 false) (j + 1) rfl (by omega) (by have := hS6.e.size; exact this) ?_;intro A3 cap3 w3 hown3 hgr3 hat3;have hS7 := hS6.grow hX6 hown3 hgr3 hat3;clear hown3 hgr3 hat3;obtain ⟨g3, rfl⟩ : ∃ g3, A3 = some ⟨g3, 0, none⟩ := by
     rcases hS7.own.2 with ⟨_, h⟩ | ⟨g3, _, _, h, _⟩
     ·cases h
     ·cases h; exact ⟨g3, rfl⟩
    refine hK.out _ _ (fun _ => hS7.c0.cell 8) ?_;clear hK K
    try simp only [Act.put, sb0, sb1, sb2]
    have yi1 : (j : Int) < (j : Int) + 1 := (by omega);have yi2 : j < j + 1 := (by omega);refine AnyL.takeL (i := 7) (v := ?_) rfl (by kernel_rfl) (by kernel_rfl) (by kernel_rfl) rfl (fun _ _ _ h => h) (Or.inl ⟨by rfl, ?_⟩) ?_;rotate_left
    ·intro w';go_simp
     try (with_reducible rfl)
    try simp only [Act.put, sb0, sb1, sb2]
    refine AnyL.takeL (i := 9) (v := ?_) rfl (by kernel_rfl) (by kernel_rfl) (by kernel_rfl) rfl (fun _ _ _ h => h) (Or.inl ⟨by rfl, ?_⟩) ?_;rotate_left
    ·intro w';go_simp
     try (with_reducible rfl)
    try simp only [Act.put, sb0, sb1, sb2]
    obtain ⟨zg, yf, yc⟩ := hS7.last hlen;have y0 := yc 0 _ rfl; rw [Nat.add_zero] at y0; have y1 := yc 1 _ rfl; have y2 := yc 2 _ rfl; have y3 := yc 3 _ rfl; have y4 := yc 4 _ rfl; have y5 := yc 5 _ rfl; have y6 := yc 6 _ rfl; have y7 := yc 7 _ rfl; have y8 := yc 8 _ rfl; have y9 := yc 9 _ rfl; have y10 := yc 10 _ rfl; have y11 := yc 11 _ rfl;have o7 := hS7.c0.cell; have of7 := hS7.c0.frozen; have oz7 := hS7.c0.lt;have hgo : g3 ≠ ob := (by have h1 := (own_base hS7.own _ rfl).1; have h2 := hS7.lt; simp at h1; omega);unfold ncells at o7;clear yc;refine AnyL.ready (rs := [8, 10]) (by kernel_rfl) (by simp) ?_;refine AllL.cons rfl (fun K hK => ?_) (AllL.cons rfl (fun K hK => ?_) AllL.nil)
    ·go_simp;have hS8 := hS7.s12 hlen (.int .i64 x.kind) (.string (str x.name)) (.int .i64 x.int) (.float .f64 f5) (.bool x.flag) (.bool x.method) (.bool x.limited) (.int .i64 x.limit) (.slice a5 x.kids.length c5) (.slice a6 x.map.length c6) (.int .i64 p5) (.int .i64 q5);refine hK.out _ _ (fun h => by cases h) ?_;clear hK K
     try simp only [Act.put, sb0, sb1, sb2]
     refine AnyL.one 10 (by kernel_rfl) rfl fun K hK => ?_;go_simp;have hS9 := hS8.set8 (.slice (some ⟨g3, 0, none⟩) (j + 1) cap3);refine hK.out _ _ (fun h => by cases h) ?_;clear hK K
     try simp only [Act.put, sb0, sb1, sb2]
     refine AnyL.done (by kernel_rfl) ?_ _;rw [show ts.take j ++ [x] = ts.take (j + 1) by rw [List.take_add_one, HXQ.out]; rfl] at hS9;have HS9 := Lib.hid hS9;clear hS hS0 hs0 HS0 hb5 hX5 hS5 hS6 hS7 hS8 hS9 hlen y0 y1 y2 y3 y4 y5 y6 y7 y8 y9 y10 y11 o7 of7 oz7 yf
     go_wp2_with fail
     go_roundg g
     case measure => omega
     case rel => exact ⟨j + 1, by go_num, by omega, _, cap3, _, HS9.out⟩
    ·go_simp;have hS8 := hS7.set8 (.slice (some ⟨g3, 0, none⟩) (j + 1) cap3);refine hK.out _ _ (fun h => by cases h) ?_;clear hK K
     try simp only [Act.put, sb0, sb1, sb2]
     refine AnyL.one 8 (by kernel_rfl) rfl fun K hK => ?_;go_simp;have hS9 := hS8.s12 hlen (.int .i64 x.kind) (.string (str x.name)) (.int .i64 x.int) (.float .f64 f5) (.bool x.flag) (.bool x.method) (.bool x.limited) (.int .i64 x.limit) (.slice a5 x.kids.length c5) (.slice a6 x.map.length c6) (.int .i64 p5) (.int .i64 q5);refine hK.out _ _ (fun h => by cases h) ?_;clear hK K
     try simp only [Act.put, sb0, sb1, sb2]
     refine AnyL.done (by kernel_rfl) ?_ _;rw [show ts.take j ++ [x] = ts.take (j + 1) by rw [List.take_add_one, HXQ.out]; rfl] at hS9;have HS9 := Lib.hid hS9;clear hS hS0 hs0 HS0 hb5 hX5 hS5 hS6 hS7 hS8 hS9 hlen y0 y1 y2 y3 y4 y5 y6 y7 y8 y9 y10 y11 o7 of7 oz7 yf
     go_wp2_with fail
     go_roundg g
     case measure => omega
     case rel => exact ⟨j + 1, by go_num, by omega, _, cap3, _, HS9.out⟩
   ·go_simp;have hS5 := hS0.below ((Below.refl _ _).alloc (Nat.le_refl _) (.cells ztcells.toArray 25));refine hK.out _ _ (fun _ => hS5.c0.cell 8) ?_;clear hK K
    try simp only [Act.put, sb0, sb1, sb2]
    have hZ := Lb.new' W.drew ztcells 25 rfl;refine AnyL.one 3 (by kernel_rfl) rfl fun K hK => ?_;go_simp;apply Calls.mono
    ·refine IHx.out v fp _ (Xs k A) (fun b hb => ?_) (HIX.out _ hS5.e);rcases hb with hb | ⟨a2, ha, rfl⟩
     ·exact Nat.lt_of_lt_of_le (HK.out b hb) hS5.e.size
     ·exact (own_base hS5.own a2 ha).2
    rintro e w5 ⟨f5, a5, c5, a6, c6, p5, q5, rfl, hb5, hX5⟩;have hS6 := hS5.below hb5
    (try go_wp2_with fail)
    refine hK.out _ _ (fun _ => hS6.c0.cell 8) ?_;clear hK K
    try simp only [Act.put, sb0, sb1, sb2]
    have hZ6 := hZ.below hb5 hZ.lt;refine AnyL.one 6 (by kernel_rfl) rfl fun K hK => ?_;refine step_append_o el23 (by rfl) (.tmp 12) (.tmp 16) (by rfl) w.heap.size A j cap cs (by rfl) hS6.own _ 1 1 ztcells (by rfl) (by rfl) (Laid.of_lb hZ6) (ones_l [] 0 0 0 false) (j + 1) rfl (by omega) (by have := hS6.e.size; exact this) ?_;intro A3 cap3 w3 hown3 hgr3 hat3;have hS7 := hS6.grow hX5 hown3 hgr3 hat3;clear hown3 hgr3 hat3;obtain ⟨g3, rfl⟩ : ∃ g3, A3 = some ⟨g3, 0, none⟩ := by
     rcases hS7.own.2 with ⟨_, h⟩ | ⟨g3, _, _, h, _⟩
     ·cases h
     ·cases h; exact ⟨g3, rfl⟩
    refine hK.out _ _ (fun _ => hS7.c0.cell 8) ?_;clear hK K
    try simp only [Act.put, sb0, sb1, sb2]
    have yi1 : (j : Int) < (j : Int) + 1 := (by omega);have yi2 : j < j + 1 := (by omega);refine AnyL.takeL (i := 7) (v := ?_) rfl (by kernel_rfl) (by kernel_rfl) (by kernel_rfl) rfl (fun _ _ _ h => h) (Or.inl ⟨by rfl, ?_⟩) ?_;rotate_left
    ·intro w';go_simp
     try (with_reducible rfl)
    try simp only [Act.put, sb0, sb1, sb2]
    refine AnyL.takeL (i := 9) (v := ?_) rfl (by kernel_rfl) (by kernel_rfl) (by kernel_rfl) rfl (fun _ _ _ h => h) (Or.inl ⟨by rfl, ?_⟩) ?_;rotate_left
    ·intro w';go_simp
     try (with_reducible rfl)
    try simp only [Act.put, sb0, sb1, sb2]
    obtain ⟨zg, yf, yc⟩ := hS7.last hlen;have y0 := yc 0 _ rfl; rw [Nat.add_zero] at y0; have y1 := yc 1 _ rfl; have y2 := yc 2 _ rfl; have y3 := yc 3 _ rfl; have y4 := yc 4 _ rfl; have y5 := yc 5 _ rfl; have y6 := yc 6 _ rfl; have y7 := yc 7 _ rfl; have y8 := yc 8 _ rfl; have y9 := yc 9 _ rfl; have y10 := yc 10 _ rfl; have y11 := yc 11 _ rfl;have o7 := hS7.c0.cell; have of7 := hS7.c0.frozen; have oz7 := hS7.c0.lt;have hgo : g3 ≠ ob := (by have h1 := (own_base hS7.own _ rfl).1; have h2 := hS7.lt; simp at h1; omega);unfold ncells at o7;clear yc;refine AnyL.ready (rs := [8, 10]) (by kernel_rfl) (by simp) ?_;refine AllL.cons rfl (fun K hK => ?_) (AllL.cons rfl (fun K hK => ?_) AllL.nil)
    ·go_simp;have hS8 := hS7.s12 hlen (.int .i64 x.kind) (.string (str x.name)) (.int .i64 x.int) (.float .f64 f5) (.bool x.flag) (.bool x.method) (.bool x.limited) (.int .i64 x.limit) (.slice a5 x.kids.length c5) (.slice a6 x.map.length c6) (.int .i64 p5) (.int .i64 q5);refine hK.out _ _ (fun h => by cases h) ?_;clear hK K
     try simp only [Act.put, sb0, sb1, sb2]
     refine AnyL.one 10 (by kernel_rfl) rfl fun K hK => ?_;go_simp;have hS9 := hS8.set8 (.slice (some ⟨g3, 0, none⟩) (j + 1) cap3);refine hK.out _ _ (fun h => by cases h) ?_;clear hK K
     try simp only [Act.put, sb0, sb1, sb2]
     refine AnyL.done (by kernel_rfl) ?_ _;rw [show ts.take j ++ [x] = ts.take (j + 1) by rw [List.take_add_one, HXQ.out]; rfl] at hS9;have HS9 := Lib.hid hS9;clear hS hS0 hs0 HS0 hb5 hX5 hS5 hS6 hS7 hS8 hS9 hlen y0 y1 y2 y3 y4 y5 y6 y7 y8 y9 y10 y11 o7 of7 oz7 yf
     go_wp2_with fail
     go_roundg g
     case measure => omega
     case rel => exact ⟨j + 1, by go_num, by omega, _, cap3, _, HS9.out⟩
    ·go_simp;have hS8 := hS7.set8 (.slice (some ⟨g3, 0, none⟩) (j + 1) cap3);refine hK.out _ _ (fun h => by cases h) ?_;clear hK K
     try simp only [Act.put, sb0, sb1, sb2]
     refine AnyL.one 8 (by kernel_rfl) rfl fun K hK => ?_;go_simp;have hS9 := hS8.s12 hlen (.int .i64 x.kind) (.string (str x.name)) (.int .i64 x.int) (.float .f64 f5) (.bool x.flag) (.bool x.method) (.bool x.limited) (.int .i64 x.limit) (.slice a5 x.kids.length c5) (.slice a6 x.map.length c6) (.int .i64 p5) (.int .i64 q5);refine hK.out _ _ (fun h => by cases h) ?_;clear hK K
     try simp only [Act.put, sb0, sb1, sb2]
     refine AnyL.done (by kernel_rfl) ?_ _;rw [show ts.take j ++ [x] = ts.take (j + 1) by rw [List.take_add_one, HXQ.out]; rfl] at hS9;have HS9 := Lib.hid hS9;clear hS hS0 hs0 HS0 hb5 hX5 hS5 hS6 hS7 hS8 hS9 hlen y0 y1 y2 y3 y4 y5 y6 y7 y8 y9 y10 y11 o7 of7 oz7 yf
     go_wp2_with fail
     go_roundg g
     case measure => omega
     case rel => exact ⟨j + 1, by go_num, by omega, _, cap3, _, HS9.out⟩
  ·obtain rfl : gk = 0 := (by omega);obtain rfl : j = ts.length := (by omega);rw [List.take_length] at hQ;have HQ := Lib.hid hQ;clear hQ;go_wp21;refine bodyPost_end (v := .tuple #[]) (by first | rfl | (simp [results, Try.results56, go_sem]; try rfl)) rfl ?_;exact ⟨⟨_, rfl⟩, A, cap, cs, HQ.out.e, HQ.out.c0, Row.of_own HQ.out.own HK.out, HQ.out.ts.other fun b hb => .inl (.inl hb)⟩
end Go.Proofs.Ytafhhdimjkgihaa.Mn
