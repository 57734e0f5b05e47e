/- What the program does, function by function, and what trees mean: part 10. -/
import Derived.Test.YtafhhdimjkgihaaM02
import Derived.Test.YtafhhdimjkgihaaM09
set_option linter.unusedSimpArgs false
set_option linter.unusedVariables false
namespace Go.Proofs.Ytafhhdimjkgihaa.Mn
section
attribute [local go_sem ↓] Go.wp_at_zero Go.wp_at_succ
open Go.RowKit
mutual
def nrm : Tr → Tr
 |⟨a, b, c, d, e, f, g, h, ks, ms⟩ => strike ⟨a, b, c, d, e, f, g, h, nrms ks, nrms ms⟩
def nrms : List Tr → List Tr
 |[] => []
 |k :: ks => nrm k :: nrms ks
end
theorem nrm_eq (t : Tr) : nrm t = strike { t with kids := nrms t.kids, map := nrms t.map } := by cases t; rw [nrm]
theorem nrms_eq (l : List Tr) : nrms l = l.map nrm := by
 induction l with
 |nil => rw [nrms]; rfl
 |cons a l ih => rw [nrms, ih]; rfl
theorem strike_strike (t : Tr) : strike (strike t) = strike t := by
 unfold strike;simp only [Tr.mk.injEq];refine ⟨trivial, ?_, ?_, ?_, ?_, ?_, ?_, ?_, trivial, ?_⟩
 all_goals (repeat' split) <;> simp_all
theorem nrm_kind (t : Tr) : (nrm t).kind = t.kind := by rw [nrm_eq]; rfl
theorem nrm_kids (t : Tr) : (nrm t).kids = nrms t.kids := by rw [nrm_eq]; rfl
theorem nrm_strike (t : Tr) : strike (nrm t) = nrm t := by rw [nrm_eq, strike_strike]
theorem WholeT.parts {t : Tr} (h : WholeT t) : t.map = [] ∧ t.limited = false ∧ (t.kind = 15 → t.flag = false) ∧ Shape t ∧ ∀ x ∈ t.kids, WholeT x := by
 cases h with | mk t hm hl hf h16 h23 hs hk => exact ⟨hm, hl, hf, hs, hk⟩
def Md (t : Tr) (w : World) (e : Ending) (w' : World) : Prop := ∃ ty pv fp, e = .returned (.iface ty pv) ∧ Below w.heap.size w w' ∧ IsA w' (nrm t) (.iface ty pv) fp ∧ fp.Nodup ∧ ∀ x ∈ fp, w.heap.size ≤ x
def MadeOk (fn : FuncId) (t : Tr) : Prop := WholeT t → ∀ (k : Nat → Prop) (f : Nat) (a : Option Addr) (c : Nat) (a' : Option Addr) (c' : Nat) (p q : Int) (w : World), IsT w k t (tcells t f a c a' c' p q) →
 Calls Try.prog fn #[ta t f a c a' c' p q] w (Md t w)
theorem el74 : El Try.prog 74 45 1 16 := El.of (z := .nilIface) (by kernel_rfl) (by kernel_rfl) rfl (by decide)
theorem el162 : El Try.prog 162 20 1 16 := El.of (z := .nilIface) (by kernel_rfl) (by kernel_rfl) rfl (by decide)
theorem Rw.of_own {w : World} {B e n c : Nat} {A : Option Addr} {xs : List Value} (h : w.ownsRow B e 1 (.slice A n c) n xs) : ∃ rb, Rw w A xs rb ∧ rb.Nodup ∧ (∀ x ∈ rb, B ≤ x) ∧ ∀ x ∈ rb, ∃ a, A = some a ∧ a.block = x := by
 rcases h.2 with ⟨h1, h2⟩ | ⟨g, cap, cur, h1, h2, h3, h4⟩
 ·refine ⟨[], .inl ⟨?_, rfl⟩, List.nodup_nil, by simp, by simp⟩;have := h.1;rw [h2, Nat.zero_mul] at this;exact List.eq_nil_of_length_eq_zero this
 ·cases h1;refine ⟨[g], .inr ⟨g, cur.toList.drop xs.length, e, rfl, rfl, ?_⟩, by simp, fun x hx => by simp at hx; omega, fun x hx => by simp at hx; exact ⟨_, rfl, hx.symm⟩⟩;have key : xs = cur.toList.take xs.length := by
   apply List.ext_getElem?;intro j
   by_cases hj : j < xs.length
   ·have h5 := h.cells (g := g) rfl j xs[j] (by simp);rw [Addr.add_lit, Nat.zero_add, World.cell?, h3] at h5;rw [List.getElem?_take_of_lt hj];rw [List.getElem?_eq_getElem hj];simpa using h5.symm
   ·rw [List.getElem?_eq_none (by omega), List.getElem?_eq_none (by rw [List.length_take]; omega)]
  have : xs ++ cur.toList.drop xs.length = cur.toList := by
   conv => lhs; lhs; rw [key]
   exact List.take_append_drop _ _
  rw [this];exact h3
theorem own_capk {w : World} {B e size n cap : Nat} {A : Option Addr} {xs : List Value} (h : w.ownsRow B e size (.slice A n cap) n xs) : n ≤ cap := by
 rcases h.2 with ⟨h1, h2⟩ | ⟨g, cap', cur, h1, _, _, h2, _⟩
 ·omega
 ·cases h1; exact h2
theorem IsAs.append {w : World} {l m : List Tr} {vs us : List Value} {fs gs : List (List Nat)} (h : IsAs w l vs fs) (g : IsAs w m us gs) : IsAs w (l ++ m) (vs ++ us) (fs ++ gs) := by
 induction l generalizing vs fs with
 |nil => cases h; exact g
 |cons v l ih => cases h with | cons h hl => exact .cons h (ih hl)
theorem IsCs.append {l m : List Tr} {vs us : List Value} (h : IsCs l vs) (g : IsCs m us) : IsCs (l ++ m) (vs ++ us) := by
 induction h with
 |nil => exact g
 |cons h hl ih => exact .cons h ih
structure Ks (w0 : World) (l0 : List Value) (ts : List Tr) (A : Option Addr) (n cap : Nat) (vs : List Value) (fs : List (List Nat)) (w : World) : Prop where
 b : Below w0.heap.size w0 w
 c0 : Lb w w0.heap.size l0 25
 own : w.ownsRow (w0.heap.size + 1) 45 1 (.slice A n cap) n vs
 hk : IsAs w ts vs fs
 nd : fs.flatten.Nodup
 ge : ∀ x ∈ fs.flatten, w0.heap.size + 1 ≤ x
 ap : ∀ x ∈ fs.flatten, ∀ a, A = some a → a.block ≠ x
section
variable {w0 : World} {l0 : List Value} {ts : List Tr} {A : Option Addr} {n cap : Nat} {vs : List Value} {fs : List (List Nat)} {w w1 : World}
theorem Ks.below (h : Ks w0 l0 ts A n cap vs fs w) (e : Below w.heap.size w w1) : Ks w0 l0 ts A n cap vs fs w1 :=
 ⟨h.b.trans (e.mono h.b.size), h.c0.below e h.c0.lt, own_ext (k := fun _ => False) h.own (.of e) (Nat.le_refl _) (fun _ _ h => h), h.hk.same fun x hx => e.block x (h.hk.lt x hx), h.nd, h.ge, h.ap⟩
theorem Ks.grow (h : Ks w0 l0 ts A n cap vs fs w) {x : Tr} {v : Value} {fp : List Nat} (hx : IsA w x v fp) (hn : fp.Nodup) (hf : ∀ y ∈ fp, w0.heap.size + 1 ≤ y ∧ y ∉ fs.flatten ∧ ∀ a, A = some a → a.block ≠ y) {A3 : Option Addr} {n3 cap3 : Nat} (hown : w1.ownsRow (w0.heap.size + 1) 45 1 (.slice A3 n3 cap3) n3 (vs ++ [v])) (g : w.grownBy w1 (A.map (·.block))) (hat : A3 = A ∨ A3 = some ⟨w.heap.size, 0, none⟩) :
 Ks w0 l0 (ts ++ [x]) A3 n3 cap3 (vs ++ [v]) (fs ++ [fp]) w1 := by
 have hob := own_base h.own;have hne : ∀ b, (∀ a, A = some a → a.block ≠ b) → some b ≠ A.map (·.block) := fun b hb he => by
  cases A with
  |none => cases he
  |some a => simp at he; exact hb a rfl he.symm
 have hsm : ∀ b, b ≤ w0.heap.size → some b ≠ A.map (·.block) := fun b hb => hne b fun a ha => by have := (hob a ha).1; omega
 refine ⟨h.b.trans ⟨g.os, g.tape, g.output, g.size, fun b hb => g.block b (Nat.lt_of_lt_of_le hb h.b.size) (hsm b (by omega))⟩, h.c0.grown g (hsm _ (Nat.le_refl _)), hown, (h.hk.same fun b hb => g.block b (h.hk.lt b hb) (hne b (h.ap b hb))).append (.cons (hx.same fun b hb => g.block b (hx.lt b hb) (hne b (hf b hb).2.2)) .nil), ?_, ?_, ?_⟩
 ·rw [List.flatten_append, List.nodup_append];refine ⟨h.nd, by simpa using hn, fun a ha b hb => ?_⟩;have := (hf b (by simpa using hb)).2.1;rintro rfl; exact this ha
 ·intro y hy;rw [List.flatten_append, List.mem_append] at hy;rcases hy with hy | hy
  ·exact h.ge y hy
  ·exact (hf y (by simpa using hy)).1
 ·intro y hy a ha;rw [List.flatten_append, List.mem_append] at hy;rcases hat with rfl | rfl
  ·rcases hy with hy | hy
   ·exact h.ap y hy a ha
   ·exact (hf y (by simpa using hy)).2.2 a ha
  ·cases ha;have hyl : y < w.heap.size := by
    rcases hy with hy | hy
    ·exact h.hk.lt y hy
    ·exact hx.lt y (by simpa using hy)
   show w.heap.size ≠ y;omega
end
def Mk (ts : List Tr) (w : World) (e : Ending) (w' : World) : Prop := ∃ A cap vs fs rb, e = .returned (.slice A ts.length cap) ∧ Below w.heap.size w w' ∧ IsAs w' (nrms ts) vs fs ∧ (Rw w' A vs rb ∧ ts.length ≤ cap) ∧ (rb ++ fs.flatten).Nodup ∧ ∀ x ∈ rb ++ fs.flatten, w.heap.size ≤ x
set_option maxHeartbeats 6400000 in
set_option maxRecDepth 100000 in
theorem made_kids (t : Tr) (ih : ∀ x ∈ t.kids, MadeOk 34 x) (hW : ∀ x ∈ t.kids, WholeT x) (k : Nat → Prop) (f : Nat) (a : Option Addr) (c : Nat) (a' : Option Addr) (c' : Nat) (p q : Int) (w : World) (ht : IsT w k t (tcells t f a c a' c' p q)) :
 Calls Try.prog 73 #[ta t f a c a' c' p q, .int .i64 0] w (Mk t.kids w) := by
 have hil : t.kids.length ≤ 1172812402927 := ht.inv.2.2.2.2.2.1;have IH := Lib.hid ih; have HT := Lib.hid ht; have HW := Lib.hid hW;clear ih ht hW;go_enter Try.func73, Try.ntmps73
 go_wp2_with fail
 refine forget (fun w' => Ks w (tcells t f a c a' c' p q) [] (some ⟨w.heap.size + 1, 0, none⟩) 0 0 [] [] w') ?_ ?_
 ·exact ⟨by go_grown, (Lb.new _ _ _).alloc _, own_empty (Lb.new' _ _ _ (by simp)) (Nat.le_refl _), .nil, by simp, fun x hx => by simp at hx, fun x hx => by simp at hx⟩
 intro W hW;have HKS := Lib.hid hW;clear hW
 go_loopg [5, 6] t.kids.length (fun g o i wr => ∃ j : Nat, i = .int .i64 j ∧ j + g = t.kids.length ∧ ∃ A cap vs fs, o = .slice A j cap ∧ Ks w (tcells t f a c a' c' p q) (nrms (t.kids.take j)) A j cap vs fs wr)
 case atStart => exact ⟨0, rfl, by omega, _, 0, [], [], rfl, by rw [List.take_zero, nrms]; exact HKS.out⟩
 case round =>
  obtain ⟨j, rfl, hj, A, cap, vs, fs, rfl, hR⟩ := hrel;clear HKS;have r0 := hR.c0.cell; have z0 := hR.c0.lt;unfold tcells at r0
  by_cases hlt : 0 < gk
  ·obtain ⟨g, rfl⟩ : ∃ g, gk = g + 1 := ⟨gk - 1, by omega⟩;obtain ⟨x, hx⟩ : ∃ x, t.kids[j]? = some x := ⟨t.kids[j]'(by omega), by simp⟩;obtain ⟨b, o, rfl, hkb, hbs, f3, a3, c3, a4, c4, p3, q3, hX, h12⟩ := kid_at HT.out hx;have h12r := h12.ext (k := fun _ => False) (.of hR.b) hbs id;have d0 := h12r.c0; have d1 := h12r.c1; have d2 := h12r.c2; have d3 := h12r.c3; have d4 := h12r.c4; have d5 := h12r.c5; have d6 := h12r.c6; have d7 := h12r.c7; have d8 := h12r.c8; have d9 := h12r.c9; have d10 := h12r.c10; have d11 := h12r.c11;have hbr := Nat.lt_of_lt_of_le hbs hR.b.size;have zi0 : (0 : Int) ≤ (j : Int) := (by omega);have zi1 : (j : Int) < (t.kids.length : Int) := (by omega);have HXr := Lib.hid (hX.ext (.of hR.b) (Nat.le_refl _)); have HXQ := Lib.hid hx; have HR := Lib.hid hR;have IHx := Lib.hid (IH.out x (List.mem_of_getElem? hx)); have WX := Lib.hid (HW.out x (List.mem_of_getElem? hx));clear hX h12 h12r hx hR
   go_wp2_with fail
   apply Calls.mono
   ·exact IHx.out WX.out _ _ _ _ _ _ _ _ _ HXr.out
   rintro e w2 ⟨ty2, pv2, fp2, rfl, hb2, hI2, hn2, hg2⟩;have HR2 := Lib.hid (HR.out.below hb2);have hob := own_base HR2.out.own;have hob1 := own_base HR.out.own;have HG := Lib.hid (show ∀ y ∈ fp2, w.heap.size + 1 ≤ y ∧ y ∉ fs.flatten ∧ ∀ a, A = some a → a.block ≠ y from fun y hy => by
    have h1 := hg2 y hy;have h2 := HR.out.c0.lt;refine ⟨by omega, fun hm => ?_, fun a ha => ?_⟩
    ·have := HR.out.hk.lt y hm; omega
    ·have := (hob1 a ha).2; omega)
   have HI2 := Lib.hid hI2; have HN2 := Lib.hid hn2;have zs := HR2.out.c0.lt;clear hb2 hI2 hn2 hg2 d0 d1 d2 d3 d4 d5 d6 d7 d8 d9 d10 d11 r0 z0 hbr hob hob1;have HR3 := Lib.hid (HR2.out.below ((Below.refl _ _).alloc (Nat.le_refl _) (.cells #[.iface ty2 pv2] 45)));have HI3 := Lib.hid (show IsA (w2.alloc (.cells #[.iface ty2 pv2] 45)) (nrm x) (.iface ty2 pv2) fp2 from HI2.out.same fun y hy => heap_alloc_old w2 _ (HI2.out.lt y hy));simp only []
   go_at_K
   go_wp2_with ((at_builtin; refine wpList_append_o el74 rfl (.tmp 16) (.tmp 23) rfl (w.heap.size + 1) A j cap vs (by rfl) HR3.out.own _ 1 1 [.iface ty2 pv2] (by rfl) (by rfl) (Laid.of_lb (Lb.new' _ _ _ rfl)) (fun u hu => by simp at hu; rw [hu]; rfl) (j + 1) rfl (by omega) (by simp; omega) ?_); intro A3 cap3 w3 hown3 hgr3 hat3; have HR4 := Lib.hid (HR3.out.grow HI3.out HN2.out HG.out hown3 hgr3 hat3); clear hown3 hgr3 hat3)
   go_roundg g
   case measure => omega
   case rel =>
    refine ⟨j + 1, by go_num, by omega, A3, cap3, vs ++ [.iface ty2 pv2], fs ++ [fp2], rfl, ?_⟩;rw [List.take_add_one, HXQ.out, nrms_eq, List.map_append, ← nrms_eq];exact HR4.out
  ·obtain rfl : gk = 0 := (by omega);obtain rfl : j = t.kids.length := (by omega);rw [List.take_length] at hR;have HR := Lib.hid hR;clear hR;go_wp21;go_ret;obtain ⟨rb, hr1, hr2, hr3, hr4⟩ := Rw.of_own HR.out.own;refine ⟨A, cap, vs, fs, rb, rfl, HR.out.b, HR.out.hk, ⟨hr1, own_capk HR.out.own⟩, ?_, fun y hy => ?_⟩
   ·rw [List.nodup_append];refine ⟨hr2, HR.out.nd, fun y hy z hz hyz => ?_⟩;obtain ⟨a, ha, hab⟩ := hr4 y hy;exact HR.out.ap z hz a ha (hab.trans hyz)
   ·rcases List.mem_append.1 hy with hy | hy
    ·have := hr3 y hy; omega
    ·have := HR.out.ge y hy; omega
set_option maxHeartbeats 1600000 in
set_option maxRecDepth 100000 in
theorem made_kid (t : Tr) (i : Nat) (x : Tr) (hx : t.kids[i]? = some x) (ih : MadeOk 34 x) (hW : WholeT x) (k : Nat → Prop) (f : Nat) (a : Option Addr) (c : Nat) (a' : Option Addr) (c' : Nat) (p q : Int) (w : World) (ht : IsT w k t (tcells t f a c a' c' p q)) :
 Calls Try.prog 72 #[ta t f a c a' c' p q, .int .i64 i] w (Md x w) := by
 have hil : t.kids.length ≤ 1172812402927 := ht.inv.2.2.2.2.2.1;have hi := (List.getElem?_eq_some_iff.1 hx).1;obtain ⟨b, o, rfl, hkb, hbs, f3, a3, c3, a4, c4, p3, q3, hX, h12⟩ := kid_at ht hx;have d0 := h12.c0; have d1 := h12.c1; have d2 := h12.c2; have d3 := h12.c3; have d4 := h12.c4; have d5 := h12.c5; have d6 := h12.c6; have d7 := h12.c7; have d8 := h12.c8; have d9 := h12.c9; have d10 := h12.c10; have d11 := h12.c11;have zi0 : (0 : Int) ≤ (i : Int) := by omega
 have zi1 : (i : Int) < (t.kids.length : Int) := by omega
 have IH := Lib.hid ih; have HX := Lib.hid hX; have HW := Lib.hid hW;clear ih hX hW ht h12 hx;go_enter Try.func72, Try.ntmps72
 go_wp2_with fail
 apply Calls.mono
 ·exact IH.out HW.out _ _ _ _ _ _ _ _ _ (HX.out.ext (.of (by go_grown)) (Nat.le_refl _))
 rintro e w2 ⟨ty2, pv2, fp2, rfl, hb2, hI2, hn2, hg2⟩;have hg3 : ∀ y ∈ fp2, w.heap.size ≤ y := fun y hy => by have := hg2 y hy; simp at this; omega
 have HR := Lib.hid (And.intro (show Below w.heap.size w w2 from Below.trans (by go_grown) (hb2.mono (by simp))) (And.intro hI2 (And.intro hn2 hg3)));clear hb2 hI2 hn2 hg2 hg3;go_wp21;go_ret;exact ⟨ty2, pv2, fp2, rfl, HR.out⟩
end
section
attribute [local go_sem ↓] Go.wp_at_zero Go.wp_at_succ
open Go.RowKit
structure Cq (w0 : World) (ts : List Tr) (A : Option Addr) (n cap : Nat) (vs : List Value) (w : World) : Prop where
 b : Below w0.heap.size w0 w
 own : w.ownsRow w0.heap.size 20 1 (.slice A n cap) n vs
 hk : IsCs ts vs
section
variable {w0 : World} {ts : List Tr} {A : Option Addr} {n cap : Nat} {vs : List Value} {w w1 : World}
theorem Cq.below (h : Cq w0 ts A n cap vs w) (e : Below w.heap.size w w1) : Cq w0 ts A n cap vs w1 :=
 ⟨h.b.trans (e.mono h.b.size), own_ext (k := fun _ => False) h.own (.of e) (Nat.le_refl _) (fun _ _ h => h), h.hk⟩
theorem Cq.grow (h : Cq w0 ts A n cap vs w) {x : Tr} {v : Value} (hx : IsC x v) {A3 : Option Addr} {n3 cap3 : Nat} (hown : w1.ownsRow w0.heap.size 20 1 (.slice A3 n3 cap3) n3 (vs ++ [v])) (g : w.grownBy w1 (A.map (·.block))) : Cq w0 (ts ++ [x]) A3 n3 cap3 (vs ++ [v]) w1 := by
 have hob := own_base h.own;have hsm : ∀ b, b < w0.heap.size → some b ≠ A.map (·.block) := fun b hb he => by
  cases A with
  |none => cases he
  |some a => have := (hob a rfl).1; simp at he; omega
 exact ⟨h.b.trans ⟨g.os, g.tape, g.output, g.size, fun b hb => g.block b (Nat.lt_of_lt_of_le hb h.b.size) (hsm b (by omega))⟩, hown, h.hk.append (.cons hx .nil)⟩
end
def Mc (ts : List Tr) (w : World) (e : Ending) (w' : World) : Prop := ∃ A cap vs rb, e = .returned (.slice A ts.length cap) ∧ Below w.heap.size w w' ∧ IsCs (nrms ts) vs ∧ Rw w' A vs rb ∧ rb.Nodup ∧ ∀ x ∈ rb, w.heap.size ≤ x
theorem nrm_leaf {x : Tr} (hW : WholeT x) (h : x.kind = 3 ∨ x.kind = 4 ∨ x.kind = 5 ∨ x.kind = 6) (hi : I64 x.int) (ht : x.name.length ≤ 140737488355328) : (nrm x).kids = [] ∧ I64 (nrm x).int ∧ (nrm x).name.length ≤ 140737488355328 := by
 have hk : x.kids = [] := by
  have := hW.parts.2.2.2.1;apply List.eq_nil_of_length_eq_zero;unfold Shape at this;omega
 refine ⟨by rw [nrm_kids, hk, nrms], ?_, ?_⟩
 ·rw [nrm_eq]; unfold strike; dsimp only; split
  ·exact hi
  ·unfold I64; omega
 ·rw [nrm_eq]; unfold strike; dsimp only; split
  ·exact ht
  ·simp
theorem isC_of {x : Tr} (hW : WholeT x) (hi : I64 x.int) (ht : x.name.length ≤ 140737488355328) {f : Nat} (hf : cn f = x.flt) :
 (x.kind = 3 → IsC (nrm x) (.iface 3 (.int .i64 x.int))) ∧ (x.kind = 4 → IsC (nrm x) (.iface 22 (.float .f64 f))) ∧ (x.kind = 5 → IsC (nrm x) (.iface 4 (.bool x.flag))) ∧ (x.kind = 6 → IsC (nrm x) (.iface 9 (.string (str x.name)))) := by
 have hn : ∀ h : x.kind = 3 ∨ x.kind = 4 ∨ x.kind = 5 ∨ x.kind = 6, _ := fun h => nrm_leaf hW h hi ht;refine ⟨fun h => ?_, fun h => ?_, fun h => ?_, fun h => ?_⟩
 ·obtain ⟨h1, h2, h3⟩ := hn (.inl h);exact ⟨nrm_strike x, h1, h2, h3, .inl ⟨by rw [nrm_kind, h], by rw [nrm_eq]; simp [strike, h]⟩⟩
 ·obtain ⟨h1, h2, h3⟩ := hn (.inr (.inl h));exact ⟨nrm_strike x, h1, h2, h3, .inr (.inl ⟨by rw [nrm_kind, h], f, by rw [nrm_eq]; simp [strike, h, hf], rfl⟩)⟩
 ·obtain ⟨h1, h2, h3⟩ := hn (.inr (.inr (.inl h)));exact ⟨nrm_strike x, h1, h2, h3, .inr (.inr (.inl ⟨by rw [nrm_kind, h], by rw [nrm_eq]; simp [strike, h]⟩))⟩
 ·obtain ⟨h1, h2, h3⟩ := hn (.inr (.inr (.inr h)));exact ⟨nrm_strike x, h1, h2, h3, .inr (.inr (.inr ⟨by rw [nrm_kind, h], by rw [nrm_eq]; simp [strike, h, named]⟩))⟩
set_option maxHeartbeats 6400000 in
set_option maxRecDepth 100000 in
theorem constants_any (t : Tr) (hW : ∀ x ∈ t.kids, WholeT x) (hkk : ∀ x ∈ t.kids, x.kind = 3 ∨ x.kind = 4 ∨ x.kind = 5 ∨ x.kind = 6) (k : Nat → Prop) (f : Nat) (a : Option Addr) (c : Nat) (a' : Option Addr) (c' : Nat) (p q : Int) (w : World) (ht : IsT w k t (tcells t f a c a' c' p q)) :
 Calls Try.prog 71 #[.slice a t.kids.length c] w (Mc t.kids w) := by
 have hil : t.kids.length ≤ 1172812402927 := ht.inv.2.2.2.2.2.1;have HT := Lib.hid ht; have HW := Lib.hid hW; have HKK := Lib.hid hkk;clear ht hW hkk;go_enter Try.func71, Try.ntmps71
 go_wp2_with fail
 refine forget (fun w' => Cq w [] (some ⟨w.heap.size, 0, none⟩) 0 0 [] w') ?_ ?_
 ·exact ⟨by go_grown, own_empty (Lb.new' _ _ _ (by simp)) (Nat.le_refl _), .nil⟩
 intro W hW;have HKS := Lib.hid hW;clear hW
 go_loopg [3, 9] t.kids.length (fun g o i wr => ∃ j : Nat, i = .int .i64 j ∧ j + g = t.kids.length ∧ ∃ A cap vs, o = .slice A j cap ∧ Cq w (nrms (t.kids.take j)) A j cap vs wr)
 case atStart => exact ⟨0, rfl, by omega, _, 0, [], rfl, by rw [List.take_zero, nrms]; exact HKS.out⟩
 case round =>
  obtain ⟨j, rfl, hj, A, cap, vs, rfl, hR⟩ := hrel;clear HKS
  by_cases hlt : 0 < gk
  ·obtain ⟨g, rfl⟩ : ∃ g, gk = g + 1 := ⟨gk - 1, by omega⟩;obtain ⟨x, hx⟩ : ∃ x, t.kids[j]? = some x := ⟨t.kids[j]'(by omega), by simp⟩;obtain ⟨b, o, rfl, hkb, hbs, f3, a3, c3, a4, c4, p3, q3, hX, h12⟩ := kid_at HT.out hx;have h12r := h12.ext (k := fun _ => False) (.of hR.b) hbs id;have d0 := h12r.c0; have d1 := h12r.c1; have d2 := h12r.c2; have d3 := h12r.c3; have d4 := h12r.c4; have d5 := h12r.c5; have d6 := h12r.c6; have d7 := h12r.c7; have d8 := h12r.c8; have d9 := h12r.c9; have d10 := h12r.c10; have d11 := h12r.c11;have hbr := Nat.lt_of_lt_of_le hbs hR.b.size;have zi0 : (0 : Int) ≤ (j : Int) := (by omega);have zi1 : (j : Int) < (t.kids.length : Int) := (by omega);have hm := List.mem_of_getElem? hx;have hC := isC_of (HW.out x hm) hX.inv.2.2.1 hX.inv.2.2.2.2.1 hX.inv.1;have hks := HKK.out x hm;have HXQ := Lib.hid hx; have HR := Lib.hid hR;have zs := hR.b.size;clear hX h12 h12r hx hR hm
   rcases hks with hk | hk | hk | hk
   all_goals
    rw [hk] at d0;have HC := Lib.hid (by first | exact hC.1 hk | exact hC.2.1 hk | exact hC.2.2.1 hk | exact hC.2.2.2 hk);clear hC hk
    go_wp2_with ((at_builtin; refine wpList_append_o el162 rfl _ _ rfl w.heap.size A j cap vs (by rfl) (Cq.below HR.out (by go_grown)).own _ 1 1 [_] (by rfl) (by rfl) (Laid.of_lb (Lb.new' _ _ _ (by simp))) (fun u hu => by simp at hu; rw [hu]; rfl) (j + 1) rfl (by omega) (by simp; omega) ?_); intro A3 cap3 w3 hown3 hgr3 hat3; have HR4 := Lib.hid ((Cq.below HR.out (by go_grown)).grow HC.out hown3 hgr3); clear hown3 hgr3 hat3)
    go_roundg g
    case measure => omega
    case rel =>
     have e2 : nrms (t.kids.take (j + 1)) = nrms (t.kids.take j) ++ [nrm x] := (by rw [List.take_add_one, HXQ.out, nrms_eq, List.map_append, ← nrms_eq]; rfl);have e3 := HR4.out;rw [← e2] at e3;exact ⟨j + 1, by go_num, by omega, A3, cap3, _, rfl, e3⟩
  ·obtain rfl : gk = 0 := (by omega);obtain rfl : j = t.kids.length := (by omega);rw [List.take_length] at hR;have HR := Lib.hid hR;clear hR;go_wp21;go_ret;obtain ⟨rb, hr1, hr2, hr3, hr4⟩ := Rw.of_own HR.out.own;exact ⟨A, cap, vs, rb, rfl, HR.out.b, HR.out.hk, hr1, hr2, hr3⟩
end
end Go.Proofs.Ytafhhdimjkgihaa.Mn
