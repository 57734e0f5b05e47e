/- What the program does, function by function, and what trees mean: part 11. -/
import Derived.Test.YtafhhdimjkgihaaM10
set_option linter.unusedSimpArgs false
set_option linter.unusedVariables false
namespace Go.Proofs.Ytafhhdimjkgihaa.Mn
attribute [local go_sem ↓] Go.wp_at_zero Go.wp_at_succ
open Go.RowKit
theorem headC_nrm (t : Tr) (f : Nat) : headC (nrm t) f = headC t f := by
 rw [nrm_eq]; unfold headC strike named; dsimp only; (repeat' split) <;> simp_all
theorem tailC_nrm (t : Tr) (m th : Value) : tailC (nrm t) m th = tailC t m th := by
 rw [nrm_eq]; unfold tailC strike; dsimp only; (repeat' split) <;> simp_all
theorem acells_nrm (t : Tr) (f : Nat) (p q : Int) (mid : List Value) (m th : Value) : acells (nrm t) f p q mid m th = acells t f p q mid m th := by unfold acells; rw [headC_nrm, tailC_nrm]
theorem nrms_len (l : List Tr) : (nrms l).length = l.length := by rw [nrms_eq, List.length_map]
theorem Hx.of {k : Nat → Prop} {t : Tr} {f : Nat} {a : Option Addr} {c : Nat} {a' : Option Addr} {c' : Nat} {p q : Int} {w : World} (ht : IsT w k t (tcells t f a c a' c' p q)) : Hx (nrm t) (if t.kind = 4 then f else 0) 0 0 := by
 obtain ⟨h1, h2, h3, h4, h5, h6, h7, h8⟩ := ht.inv;have z : I64 0 := by unfold I64; omega
 refine ⟨nrm_strike t, ?_, ?_, ?_, z, z, ?_, by rw [nrm_kids, nrms_len]; exact h6⟩
 ·rw [nrm_eq]; unfold strike; dsimp only; split
  ·exact h1
  ·exact cn_zero
 ·rw [nrm_eq]; unfold strike; dsimp only; split
  ·exact h3
  ·exact z
 ·rw [nrm_eq]; unfold strike; dsimp only; split
  ·exact h4
  ·exact z
 ·rw [nrm_eq]; unfold strike; dsimp only; split
  ·exact h5
  ·simp
theorem headC_if (t : Tr) (f : Nat) : headC t (if t.kind = 4 then f else 0) = headC t f := by unfold headC; (repeat' split) <;> simp_all
section
variable {k : Nat → Prop} {t : Tr} {f : Nat} {a : Option Addr} {c : Nat} {a' : Option Addr} {c' : Nat} {p q : Int} {w w' : World} {b : Nat} {vs : List Value} {fs : List (List Nat)}
theorem IsA.mkNode (ht : IsT w k t (tcells t f a c a' c' p q)) (ha : ari t.kind = some t.kids.length) (hb : Lb w' b (acells t f 0 0 vs .nilIface (.pointer none)) (sty t.kind)) (hk : IsAs w' (nrms t.kids) vs fs) : IsA w' (nrm t) (nv t.kind b) ([b] ++ fs.flatten ++ []) := by
 have := IsA.node (w := w') (nrm t) b (if t.kind = 4 then f else 0) 0 0 vs fs (by rw [nrm_kids, nrms_len, nrm_kind]; exact ha) (.of ht) (by rw [acells_nrm, nrm_kind]; unfold acells; rw [headC_if]; exact hb) (by rw [nrm_kids]; exact hk);rw [nrm_kind] at this; exact this
theorem IsA.mkList {A : Option Addr} {cap : Nat} {rb : List Nat} (ht : IsT w k t (tcells t f a c a' c' p q)) (hW : WholeT t) (ha : listy t.kind = true) (hb : Lb w' b (acells t f 0 0 [.slice A t.kids.length cap] .nilIface (.pointer none)) (sty t.kind)) (hr : Rw w' A vs rb ∧ t.kids.length ≤ cap) (hk : IsAs w' (nrms t.kids) vs fs) : IsA w' (nrm t) (nv t.kind b) ((b :: rb) ++ fs.flatten ++ []) := by
 have hm : (nrm t).map = [] := by rw [nrm_eq, hW.parts.1, nrms]; unfold strike; dsimp only; split <;> rfl
 have hl : (nrm t).limited = false := by rw [nrm_eq]; unfold strike; dsimp only; rw [hW.parts.2.1]; split <;> rfl
 have := IsA.list (w := w') (nrm t) b (if t.kind = 4 then f else 0) 0 0 A cap vs fs rb [] [] (.pointer none) [] (by rw [nrm_kind]; exact ha) (.of ht) (by rw [acells_nrm, nrm_kind, nrm_kids, nrms_len]; unfold acells; rw [headC_if]; exact hb) hr.1 (by rw [nrm_kids]; exact hk) ⟨by rw [hm]; simp, fun _ => by rw [nrm_kids, nrms_len]; exact hr.2⟩ (by rw [hm]; exact .nil) (.inl ⟨hl, rfl, rfl⟩);rw [nrm_kind] at this; exact this
theorem IsA.mkConst {A : Option Addr} {cap : Nat} {rb : List Nat} (ht : IsT w k t (tcells t f a c a' c' p q)) (ha : t.kind = 8) (hb : Lb w' b (acells t f 0 0 [.iface 162 (.slice A t.kids.length cap)] .nilIface (.pointer none)) (sty t.kind)) (hr : Rw w' A vs rb) (hk : IsCs (nrms t.kids) vs) : IsA w' (nrm t) (nv t.kind b) (b :: rb) := by
 have := IsA.const (w := w') (nrm t) b (if t.kind = 4 then f else 0) 0 0 A cap vs rb (by rw [nrm_kind]; exact ha) (.of ht) (by rw [acells_nrm, nrm_kind, nrm_kids, nrms_len]; unfold acells; rw [headC_if]; exact hb) hr (by rw [nrm_kids]; exact hk);rw [nrm_kind] at this; exact this
end
theorem made_kid' {v iv : Value} (t : Tr) (i : Nat) (x : Tr) (k : Nat → Prop) (f : Nat) (a : Option Addr) (c : Nat) (a' : Option Addr) (c' : Nat) (p q : Int) (w : World) (hv : v = ta t f a c a' c' p q) (hiv : iv = .int .i64 i) (hx : t.kids[i]? = some x) (ih : MadeOk 34 x) (hW : WholeT x) (ht : IsT w k t (tcells t f a c a' c' p q)) : Calls Try.prog 72 #[v, iv] w (Md x w) := by
 subst hv hiv; exact made_kid t i x hx ih hW k f a c a' c' p q w ht
theorem made_kids' {v : Value} (t : Tr) (k : Nat → Prop) (f : Nat) (a : Option Addr) (c : Nat) (a' : Option Addr) (c' : Nat) (p q : Int) (w : World) (hv : v = ta t f a c a' c' p q) (ih : ∀ x ∈ t.kids, MadeOk 34 x) (hW : ∀ x ∈ t.kids, WholeT x) (ht : IsT w k t (tcells t f a c a' c' p q)) : Calls Try.prog 73 #[v, .int .i64 0] w (Mk t.kids w) := by
 subst hv; exact made_kids t ih hW k f a c a' c' p q w ht
structure Gk (w0 w : World) (ts : List Tr) (vs : List Value) (fs : List (List Nat)) : Prop where
 b : Below w0.heap.size w0 w
 hk : IsAs w ts vs fs
 nd : fs.flatten.Nodup
 ge : ∀ x ∈ fs.flatten, w0.heap.size ≤ x
theorem Gk.nil {w0 w : World} (h : Below w0.heap.size w0 w) : Gk w0 w [] [] [] := ⟨h, .nil, by simp, fun x hx => by simp at hx⟩
theorem Gk.snoc {w0 w w' : World} {ts : List Tr} {vs : List Value} {fs : List (List Nat)} (h : Gk w0 w ts vs fs) (hb : Below w.heap.size w w') {x : Tr} {v : Value} {fp : List Nat} (hi : IsA w' x v fp) (hn : fp.Nodup) (hg : ∀ y ∈ fp, w.heap.size ≤ y) : Gk w0 w' (ts ++ [x]) (vs ++ [v]) (fs ++ [fp]) := by
 refine ⟨h.b.trans (hb.mono h.b.size), (h.hk.same fun y hy => hb.block y (h.hk.lt y hy)).append (.cons hi .nil), ?_, fun y hy => ?_⟩
 ·rw [List.flatten_append, List.nodup_append];refine ⟨h.nd, by simpa using hn, fun y hy z hz hyz => ?_⟩;have h1 := h.hk.lt y hy;have h2 := hg z (by simpa using hz);omega
 ·rw [List.flatten_append, List.mem_append] at hy;rcases hy with hy | hy
  ·exact h.ge y hy
  ·have := hg y (by simpa using hy); have := h.b.size; omega
theorem Gk.fin {w0 w : World} {ts : List Tr} {vs : List Value} {fs : List (List Nat)} (h : Gk w0 w ts vs fs) (o : Obj) : IsAs (w.alloc o) ts vs fs ∧ ([w.heap.size] ++ fs.flatten ++ []).Nodup ∧ (∀ x ∈ [w.heap.size] ++ fs.flatten ++ [], w0.heap.size ≤ x) ∧ Below w0.heap.size w0 (w.alloc o) := by
 refine ⟨h.hk.same fun y hy => heap_alloc_old w o (h.hk.lt y hy), ?_, fun x hx => ?_, h.b.alloc h.b.size o⟩
 ·simp only [List.append_nil, List.cons_append, List.nil_append, List.nodup_cons];exact ⟨fun hm => by have := h.hk.lt _ hm; omega, h.nd⟩
 ·simp only [List.append_nil, List.cons_append, List.nil_append, List.mem_cons] at hx;rcases hx with rfl | hx
  ·exact h.b.size
  ·exact h.ge x hx
theorem mk_fin {w0 w : World} {l : List Tr} {A : Option Addr} {vs : List Value} {fs : List (List Nat)} {rb : List Nat} {cap : Nat} (hb : Below w0.heap.size w0 w) (hk : IsAs w (nrms l) vs fs) (hr : Rw w A vs rb ∧ l.length ≤ cap) (hn : (rb ++ fs.flatten).Nodup) (hg : ∀ x ∈ rb ++ fs.flatten, w0.heap.size ≤ x) (o : Obj) :
 (Rw (w.alloc o) A vs rb ∧ l.length ≤ cap) ∧ IsAs (w.alloc o) (nrms l) vs fs ∧ ((w.heap.size :: rb) ++ fs.flatten ++ []).Nodup ∧ (∀ x ∈ (w.heap.size :: rb) ++ fs.flatten ++ [], w0.heap.size ≤ x) ∧ Below w0.heap.size w0 (w.alloc o) := by
 refine ⟨⟨hr.1.same fun y hy => heap_alloc_old w o (hr.1.lt y hy), hr.2⟩, hk.same fun y hy => heap_alloc_old w o (hk.lt y hy), ?_, fun x hx => ?_, hb.alloc hb.size o⟩
 ·rw [List.append_nil, List.cons_append, List.nodup_cons];refine ⟨fun hm => ?_, hn⟩;rcases List.mem_append.1 hm with hm | hm
  ·have := hr.1.lt _ hm; omega
  ·have := hk.lt _ hm; omega
 ·rw [List.append_nil, List.cons_append, List.mem_cons] at hx;rcases hx with rfl | hx
  ·exact hb.size
  ·exact hg x hx
set_option maxHeartbeats 6400000 in
set_option maxRecDepth 100000 in
theorem bare_leaf (t : Tr) (hW : WholeT t) (k : Nat → Prop) (f : Nat) (a : Option Addr) (c : Nat) (a' : Option Addr) (c' : Nat) (p q : Int) (w : World) (ht : IsT w k t (tcells t f a c a' c' p q)) (hk : t.kind = 1 ∨ t.kind = 2 ∨ t.kind = 3 ∨ t.kind = 4 ∨ t.kind = 5 ∨ t.kind = 6 ∨ t.kind = 17) :
 Calls Try.prog 53 #[ta t f a c a' c' p q] w (Md t w) := by
 have hkids : t.kids = [] := by
  have := hW.parts.2.2.2.1;apply List.eq_nil_of_length_eq_zero;unfold Shape at this;omega
 have HT := Lib.hid ht;have HA := Lib.hid (show ∀ w' b ty cs T, ty = pty t.kind → cs = acells t f 0 0 [] .nilIface (.pointer none) → T = sty t.kind → Lb w' b cs T → w.heap.size ≤ b → Below w.heap.size w w' → Md t w (.returned (.iface ty (.pointer (some ⟨b, 0, none⟩)))) w' from fun w' b ty cs T e1 e2 e3 hb hge hbw => by
  subst e1 e2 e3;exact ⟨_, _, _, rfl, hbw, IsA.mkNode ht (by rcases hk with h | h | h | h | h | h | h <;> rw [h, hkids] <;> rfl) hb (fs := []) (by rw [hkids, nrms]; exact .nil), by simp, fun x hx => by simp at hx; omega⟩)
 clear ht hW hkids;rcases hk with hk | hk | hk | hk | hk | hk | hk
 all_goals
  go_enter Try.func53, Try.ntmps53
  go_wp2_with fail
  go_ret;exact HA.out _ _ _ _ _ (by rw [hk]; rfl) (by simp [acells, headC, tailC, named, hk] <;> rfl) (by rw [hk]; rfl) (Lb.new' _ _ _ (by simp)) (by omega) (by go_grown)
set_option maxHeartbeats 6400000 in
set_option maxRecDepth 100000 in
theorem bare_9 (t : Tr) {k0 : Tr} (hW : WholeT t) (k : Nat → Prop) (f : Nat) (a : Option Addr) (c : Nat) (a' : Option Addr) (c' : Nat) (p q : Int) (w : World) (ht : IsT w k t (tcells t f a c a' c' p q)) (hkk : t.kids = [k0]) (ih : ∀ x ∈ t.kids, MadeOk 34 x) (hk : t.kind = 9) : Calls Try.prog 53 #[ta t f a c a' c' p q] w (Md t w) := by
 have HT := Lib.hid ht; have HW := Lib.hid hW.parts.2.2.2.2; have IH := Lib.hid ih; have HKK := Lib.hid hkk;have HA := Lib.hid (show ∀ w' b ty cs T vs fs, ty = pty t.kind → cs = acells t f 0 0 vs .nilIface (.pointer none) → T = sty t.kind → Lb w' b cs T → IsAs w' (nrms t.kids) vs fs → ([b] ++ fs.flatten ++ []).Nodup → (∀ x ∈ [b] ++ fs.flatten ++ [], w.heap.size ≤ x) → Below w.heap.size w w' → Md t w (.returned (.iface ty (.pointer (some ⟨b, 0, none⟩)))) w' from fun w' b ty cs T vs fs e1 e2 e3 hb hks hnd hge hbw => by
  subst e1 e2 e3;exact ⟨_, _, _, rfl, hbw, IsA.mkNode ht (by rw [hk, hkk]; rfl) hb hks, hnd, hge⟩)
 clear ht hW ih hkk;go_enter Try.func53, Try.ntmps53
 go_wp2_with fail
 refine forget (fun W => Below w.heap.size w W ∧ Lb W w.heap.size (tcells t f a c a' c' p q) 25) ?_ ?_
 ·exact ⟨by go_grown, by unfold tcells; rw [hk]; exact Lb.new' _ _ _ rfl⟩
 rintro W0 ⟨hB0, hL0⟩;have HK := Lib.hid hk;clear hk;refine AnyL.start (S := fun w' => Lb w' w.heap.size (tcells t f a c a' c' p q) 25) (late := fun j => [].contains j) (by kernel_rfl) ?_;have hB0 := hB0.drew; have hs0 := hL0.drew;refine AnyL.tk [] [] 0 ?_ rfl (by kernel_rfl) (by rfl) ?_ hs0 (AnyL.tk [] [] 1 ?_ rfl (by kernel_rfl) (by rfl) ?_ hs0 (AnyL.tk [] [] 2 ?_ rfl (by kernel_rfl) (by rfl) ?_ hs0 ?_))
 iterate 3
  rotate_left
  ·intro w' hw'; (try simp only [Act.put, sb0, sb1, sb2]);have r0 := (show Lb _ _ _ _ from hw').cell; have z0 := (show Lb _ _ _ _ from hw').lt;unfold tcells at r0;go_simp
   try (with_reducible rfl)
 try simp only [Act.put, sb0, sb1, sb2]
 refine AnyL.one 3 (by kernel_rfl) rfl fun K hK => ?_;go_simp;apply Calls.mono
 ·exact made_kid t 0 k0 (by rw [HKK.out]; rfl) (IH.out _ (by rw [HKK.out]; simp)) (HW.out _ (by rw [HKK.out]; simp)) k f a c a' c' p q _ (HT.out.ext (.of hB0) (Nat.le_refl _))
 rintro e1 w1 ⟨ty1, pv1, fp1, rfl, hb1, hi1, hn1, hg1⟩;have hs1 := hs0.below hb1 hs0.lt; have hB1 := hB0.trans (hb1.mono hB0.size)
 (try go_wp2_with fail)
 refine hK.out _ _ (fun _ => hs1) ?_;clear hK K
 try simp only [Act.put, sb0, sb1, sb2]
 refine AnyL.one 4 (by kernel_rfl) rfl fun K hK => ?_;go_simp;refine hK.out _ _ (fun _ => hs1) ?_;clear hK K
 try simp only [Act.put, sb0, sb1, sb2]
 refine AnyL.one 5 (by kernel_rfl) rfl fun K hK => ?_;go_simp;refine hK.out _ _ (fun _ => (hs1.alloc _)) ?_;clear hK K
 try simp only [Act.put, sb0, sb1, sb2]
 refine AnyL.one 6 (by kernel_rfl) rfl fun K hK => ?_;go_simp;refine hK.out _ _ (fun _ => (hs1.alloc _)) ?_;clear hK K
 try simp only [Act.put, sb0, sb1, sb2]
 refine AnyL.one 7 (by kernel_rfl) rfl fun K hK => ?_;go_simp;refine hK.out _ _ (fun _ => (hs1.alloc _)) ?_;clear hK K
 try simp only [Act.put, sb0, sb1, sb2]
 refine AnyL.done (by kernel_rfl) ?_ _;have G := ((Gk.nil hB0).snoc hb1 hi1 hn1 hg1);obtain ⟨g1, g2, g3, g4⟩ := G.fin _;go_wp21;go_ret;exact HA.out _ _ _ _ _ [.iface ty1 pv1] _ (by rw [HK.out]; rfl) (by simp [acells, headC, tailC, named, HK.out]; try rfl) (by rw [HK.out]; rfl) (Lb.new' _ _ _ (by simp)) (by rw [HKK.out]; exact g1) g2 g3 g4
set_option maxHeartbeats 6400000 in
set_option maxRecDepth 100000 in
theorem bare_10 (t : Tr) {k0 k1 : Tr} (hW : WholeT t) (k : Nat → Prop) (f : Nat) (a : Option Addr) (c : Nat) (a' : Option Addr) (c' : Nat) (p q : Int) (w : World) (ht : IsT w k t (tcells t f a c a' c' p q)) (hkk : t.kids = [k0, k1]) (ih : ∀ x ∈ t.kids, MadeOk 34 x) (hk : t.kind = 10) : Calls Try.prog 53 #[ta t f a c a' c' p q] w (Md t w) := by
 have HT := Lib.hid ht; have HW := Lib.hid hW.parts.2.2.2.2; have IH := Lib.hid ih; have HKK := Lib.hid hkk;have HA := Lib.hid (show ∀ w' b ty cs T vs fs, ty = pty t.kind → cs = acells t f 0 0 vs .nilIface (.pointer none) → T = sty t.kind → Lb w' b cs T → IsAs w' (nrms t.kids) vs fs → ([b] ++ fs.flatten ++ []).Nodup → (∀ x ∈ [b] ++ fs.flatten ++ [], w.heap.size ≤ x) → Below w.heap.size w w' → Md t w (.returned (.iface ty (.pointer (some ⟨b, 0, none⟩)))) w' from fun w' b ty cs T vs fs e1 e2 e3 hb hks hnd hge hbw => by
  subst e1 e2 e3;exact ⟨_, _, _, rfl, hbw, IsA.mkNode ht (by rw [hk, hkk]; rfl) hb hks, hnd, hge⟩)
 clear ht hW ih hkk;go_enter Try.func53, Try.ntmps53
 go_wp2_with fail
 refine forget (fun W => Below w.heap.size w W ∧ Lb W w.heap.size (tcells t f a c a' c' p q) 25) ?_ ?_
 ·exact ⟨by go_grown, by unfold tcells; rw [hk]; exact Lb.new' _ _ _ rfl⟩
 rintro W0 ⟨hB0, hL0⟩;have HK := Lib.hid hk;clear hk;refine AnyL.start (S := fun w' => Lb w' w.heap.size (tcells t f a c a' c' p q) 25) (late := fun j => [].contains j) (by kernel_rfl) ?_;have hB0 := hB0.drew; have hs0 := hL0.drew;refine AnyL.tk [] [] 0 ?_ rfl (by kernel_rfl) (by rfl) ?_ hs0 (AnyL.tk [] [] 1 ?_ rfl (by kernel_rfl) (by rfl) ?_ hs0 (AnyL.tk [] [] 2 ?_ rfl (by kernel_rfl) (by rfl) ?_ hs0 (AnyL.tk [] [] 4 ?_ rfl (by kernel_rfl) (by rfl) ?_ hs0 ?_)))
 iterate 4
  rotate_left
  ·intro w' hw'; (try simp only [Act.put, sb0, sb1, sb2]);have r0 := (show Lb _ _ _ _ from hw').cell; have z0 := (show Lb _ _ _ _ from hw').lt;unfold tcells at r0;go_simp
   try (with_reducible rfl)
 try simp only [Act.put, sb0, sb1, sb2]
 refine AnyL.one 3 (by kernel_rfl) rfl fun K hK => ?_;go_simp;apply Calls.mono
 ·exact made_kid t 0 k0 (by rw [HKK.out]; rfl) (IH.out _ (by rw [HKK.out]; simp)) (HW.out _ (by rw [HKK.out]; simp)) k f a c a' c' p q _ (HT.out.ext (.of hB0) (Nat.le_refl _))
 rintro e1 w1 ⟨ty1, pv1, fp1, rfl, hb1, hi1, hn1, hg1⟩;have hs1 := hs0.below hb1 hs0.lt; have hB1 := hB0.trans (hb1.mono hB0.size)
 (try go_wp2_with fail)
 refine hK.out _ _ (fun _ => hs1) ?_;clear hK K
 try simp only [Act.put, sb0, sb1, sb2]
 refine AnyL.one 5 (by kernel_rfl) rfl fun K hK => ?_;go_simp;apply Calls.mono
 ·exact made_kid t 1 k1 (by rw [HKK.out]; rfl) (IH.out _ (by rw [HKK.out]; simp)) (HW.out _ (by rw [HKK.out]; simp)) k f a c a' c' p q _ (HT.out.ext (.of hB1) (Nat.le_refl _))
 rintro e2 w2 ⟨ty2, pv2, fp2, rfl, hb2, hi2, hn2, hg2⟩;have hs2 := hs1.below hb2 hs1.lt; have hB2 := hB1.trans (hb2.mono hB1.size)
 (try go_wp2_with fail)
 refine hK.out _ _ (fun _ => hs2) ?_;clear hK K
 try simp only [Act.put, sb0, sb1, sb2]
 refine AnyL.one 6 (by kernel_rfl) rfl fun K hK => ?_;go_simp;refine hK.out _ _ (fun _ => hs2) ?_;clear hK K
 try simp only [Act.put, sb0, sb1, sb2]
 refine AnyL.one 7 (by kernel_rfl) rfl fun K hK => ?_;go_simp;refine hK.out _ _ (fun _ => (hs2.alloc _)) ?_;clear hK K
 try simp only [Act.put, sb0, sb1, sb2]
 refine AnyL.one 8 (by kernel_rfl) rfl fun K hK => ?_;go_simp;refine hK.out _ _ (fun _ => (hs2.alloc _)) ?_;clear hK K
 try simp only [Act.put, sb0, sb1, sb2]
 refine AnyL.one 9 (by kernel_rfl) rfl fun K hK => ?_;go_simp;refine hK.out _ _ (fun _ => (hs2.alloc _)) ?_;clear hK K
 try simp only [Act.put, sb0, sb1, sb2]
 refine AnyL.done (by kernel_rfl) ?_ _;have G := (((Gk.nil hB0).snoc hb1 hi1 hn1 hg1).snoc hb2 hi2 hn2 hg2);obtain ⟨g1, g2, g3, g4⟩ := G.fin _;go_wp21;go_ret;exact HA.out _ _ _ _ _ [.iface ty1 pv1, .iface ty2 pv2] _ (by rw [HK.out]; rfl) (by simp [acells, headC, tailC, named, HK.out]; try rfl) (by rw [HK.out]; rfl) (Lb.new' _ _ _ (by simp)) (by rw [HKK.out]; exact g1) g2 g3 g4
set_option maxHeartbeats 6400000 in
set_option maxRecDepth 100000 in
theorem bare_12 (t : Tr) {k0 k1 : Tr} (hW : WholeT t) (k : Nat → Prop) (f : Nat) (a : Option Addr) (c : Nat) (a' : Option Addr) (c' : Nat) (p q : Int) (w : World) (ht : IsT w k t (tcells t f a c a' c' p q)) (hkk : t.kids = [k0, k1]) (ih : ∀ x ∈ t.kids, MadeOk 34 x) (hk : t.kind = 12) : Calls Try.prog 53 #[ta t f a c a' c' p q] w (Md t w) := by
 have HT := Lib.hid ht; have HW := Lib.hid hW.parts.2.2.2.2; have IH := Lib.hid ih; have HKK := Lib.hid hkk;have HA := Lib.hid (show ∀ w' b ty cs T vs fs, ty = pty t.kind → cs = acells t f 0 0 vs .nilIface (.pointer none) → T = sty t.kind → Lb w' b cs T → IsAs w' (nrms t.kids) vs fs → ([b] ++ fs.flatten ++ []).Nodup → (∀ x ∈ [b] ++ fs.flatten ++ [], w.heap.size ≤ x) → Below w.heap.size w w' → Md t w (.returned (.iface ty (.pointer (some ⟨b, 0, none⟩)))) w' from fun w' b ty cs T vs fs e1 e2 e3 hb hks hnd hge hbw => by
  subst e1 e2 e3;exact ⟨_, _, _, rfl, hbw, IsA.mkNode ht (by rw [hk, hkk]; rfl) hb hks, hnd, hge⟩)
 clear ht hW ih hkk;go_enter Try.func53, Try.ntmps53
 go_wp2_with fail
 refine forget (fun W => Below w.heap.size w W ∧ Lb W w.heap.size (tcells t f a c a' c' p q) 25) ?_ ?_
 ·exact ⟨by go_grown, by unfold tcells; rw [hk]; exact Lb.new' _ _ _ rfl⟩
 rintro W0 ⟨hB0, hL0⟩;have HK := Lib.hid hk;clear hk;refine AnyL.start (S := fun w' => Lb w' w.heap.size (tcells t f a c a' c' p q) 25) (late := fun j => [].contains j) (by kernel_rfl) ?_;have hB0 := hB0.drew; have hs0 := hL0.drew;refine AnyL.tk [] [] 0 ?_ rfl (by kernel_rfl) (by rfl) ?_ hs0 (AnyL.tk [] [] 2 ?_ rfl (by kernel_rfl) (by rfl) ?_ hs0 (AnyL.tk [] [] 4 ?_ rfl (by kernel_rfl) (by rfl) ?_ hs0 (AnyL.tk [] [] 5 ?_ rfl (by kernel_rfl) (by rfl) ?_ hs0 (AnyL.tk [] [] 6 ?_ rfl (by kernel_rfl) (by rfl) ?_ hs0 (AnyL.tk [] [] 7 ?_ rfl (by kernel_rfl) (by rfl) ?_ hs0 ?_)))))
 iterate 6
  rotate_left
  ·intro w' hw'; (try simp only [Act.put, sb0, sb1, sb2]);have r0 := (show Lb _ _ _ _ from hw').cell; have z0 := (show Lb _ _ _ _ from hw').lt;unfold tcells at r0;go_simp
   try (with_reducible rfl)
 try simp only [Act.put, sb0, sb1, sb2]
 refine AnyL.one 1 (by kernel_rfl) rfl fun K hK => ?_;go_simp;apply Calls.mono
 ·exact made_kid t 0 k0 (by rw [HKK.out]; rfl) (IH.out _ (by rw [HKK.out]; simp)) (HW.out _ (by rw [HKK.out]; simp)) k f a c a' c' p q _ (HT.out.ext (.of hB0) (Nat.le_refl _))
 rintro e1 w1 ⟨ty1, pv1, fp1, rfl, hb1, hi1, hn1, hg1⟩;have hs1 := hs0.below hb1 hs0.lt; have hB1 := hB0.trans (hb1.mono hB0.size)
 (try go_wp2_with fail)
 refine hK.out _ _ (fun _ => hs1) ?_;clear hK K
 try simp only [Act.put, sb0, sb1, sb2]
 refine AnyL.one 3 (by kernel_rfl) rfl fun K hK => ?_;go_simp;apply Calls.mono
 ·exact made_kid t 1 k1 (by rw [HKK.out]; rfl) (IH.out _ (by rw [HKK.out]; simp)) (HW.out _ (by rw [HKK.out]; simp)) k f a c a' c' p q _ (HT.out.ext (.of hB1) (Nat.le_refl _))
 rintro e2 w2 ⟨ty2, pv2, fp2, rfl, hb2, hi2, hn2, hg2⟩;have hs2 := hs1.below hb2 hs1.lt; have hB2 := hB1.trans (hb2.mono hB1.size)
 (try go_wp2_with fail)
 refine hK.out _ _ (fun _ => hs2) ?_;clear hK K
 try simp only [Act.put, sb0, sb1, sb2]
 refine AnyL.one 8 (by kernel_rfl) rfl fun K hK => ?_;go_simp;refine hK.out _ _ (fun _ => hs2) ?_;clear hK K
 try simp only [Act.put, sb0, sb1, sb2]
 refine AnyL.one 9 (by kernel_rfl) rfl fun K hK => ?_;go_simp;refine hK.out _ _ (fun _ => (hs2.alloc _)) ?_;clear hK K
 try simp only [Act.put, sb0, sb1, sb2]
 refine AnyL.one 10 (by kernel_rfl) rfl fun K hK => ?_;go_simp;refine hK.out _ _ (fun _ => (hs2.alloc _)) ?_;clear hK K
 try simp only [Act.put, sb0, sb1, sb2]
 refine AnyL.one 11 (by kernel_rfl) rfl fun K hK => ?_;go_simp;refine hK.out _ _ (fun _ => (hs2.alloc _)) ?_;clear hK K
 try simp only [Act.put, sb0, sb1, sb2]
 refine AnyL.done (by kernel_rfl) ?_ _;have G := (((Gk.nil hB0).snoc hb1 hi1 hn1 hg1).snoc hb2 hi2 hn2 hg2);obtain ⟨g1, g2, g3, g4⟩ := G.fin _;go_wp21;go_ret;exact HA.out _ _ _ _ _ [.iface ty1 pv1, .iface ty2 pv2] _ (by rw [HK.out]; rfl) (by simp [acells, headC, tailC, named, HK.out]; try rfl) (by rw [HK.out]; rfl) (Lb.new' _ _ _ (by simp)) (by rw [HKK.out]; exact g1) g2 g3 g4
set_option maxHeartbeats 6400000 in
set_option maxRecDepth 100000 in
theorem bare_18 (t : Tr) {k0 k1 k2 : Tr} (hW : WholeT t) (k : Nat → Prop) (f : Nat) (a : Option Addr) (c : Nat) (a' : Option Addr) (c' : Nat) (p q : Int) (w : World) (ht : IsT w k t (tcells t f a c a' c' p q)) (hkk : t.kids = [k0, k1, k2]) (ih : ∀ x ∈ t.kids, MadeOk 34 x) (hk : t.kind = 18) : Calls Try.prog 53 #[ta t f a c a' c' p q] w (Md t w) := by
 have HT := Lib.hid ht; have HW := Lib.hid hW.parts.2.2.2.2; have IH := Lib.hid ih; have HKK := Lib.hid hkk;have HA := Lib.hid (show ∀ w' b ty cs T vs fs, ty = pty t.kind → cs = acells t f 0 0 vs .nilIface (.pointer none) → T = sty t.kind → Lb w' b cs T → IsAs w' (nrms t.kids) vs fs → ([b] ++ fs.flatten ++ []).Nodup → (∀ x ∈ [b] ++ fs.flatten ++ [], w.heap.size ≤ x) → Below w.heap.size w w' → Md t w (.returned (.iface ty (.pointer (some ⟨b, 0, none⟩)))) w' from fun w' b ty cs T vs fs e1 e2 e3 hb hks hnd hge hbw => by
  subst e1 e2 e3;exact ⟨_, _, _, rfl, hbw, IsA.mkNode ht (by rw [hk, hkk]; rfl) hb hks, hnd, hge⟩)
 clear ht hW ih hkk;go_enter Try.func53, Try.ntmps53
 go_wp2_with fail
 refine forget (fun W => Below w.heap.size w W ∧ Lb W w.heap.size (tcells t f a c a' c' p q) 25) ?_ ?_
 ·exact ⟨by go_grown, by unfold tcells; rw [hk]; exact Lb.new' _ _ _ rfl⟩
 rintro W0 ⟨hB0, hL0⟩;have HK := Lib.hid hk;clear hk;refine AnyL.start (S := fun w' => Lb w' w.heap.size (tcells t f a c a' c' p q) 25) (late := fun j => [].contains j) (by kernel_rfl) ?_;have hB0 := hB0.drew; have hs0 := hL0.drew;refine AnyL.tk [] [] 0 ?_ rfl (by kernel_rfl) (by rfl) ?_ hs0 (AnyL.tk [] [] 1 ?_ rfl (by kernel_rfl) (by rfl) ?_ hs0 (AnyL.tk [] [] 2 ?_ rfl (by kernel_rfl) (by rfl) ?_ hs0 (AnyL.tk [] [] 4 ?_ rfl (by kernel_rfl) (by rfl) ?_ hs0 (AnyL.tk [] [] 6 ?_ rfl (by kernel_rfl) (by rfl) ?_ hs0 ?_))))
 iterate 5
  rotate_left
  ·intro w' hw'; (try simp only [Act.put, sb0, sb1, sb2]);have r0 := (show Lb _ _ _ _ from hw').cell; have z0 := (show Lb _ _ _ _ from hw').lt;unfold tcells at r0;go_simp
   try (with_reducible rfl)
 try simp only [Act.put, sb0, sb1, sb2]
 refine AnyL.one 3 (by kernel_rfl) rfl fun K hK => ?_;go_simp;apply Calls.mono
 ·exact made_kid t 0 k0 (by rw [HKK.out]; rfl) (IH.out _ (by rw [HKK.out]; simp)) (HW.out _ (by rw [HKK.out]; simp)) k f a c a' c' p q _ (HT.out.ext (.of hB0) (Nat.le_refl _))
 rintro e1 w1 ⟨ty1, pv1, fp1, rfl, hb1, hi1, hn1, hg1⟩;have hs1 := hs0.below hb1 hs0.lt; have hB1 := hB0.trans (hb1.mono hB0.size)
 (try go_wp2_with fail)
 refine hK.out _ _ (fun _ => hs1) ?_;clear hK K
 try simp only [Act.put, sb0, sb1, sb2]
 refine AnyL.one 5 (by kernel_rfl) rfl fun K hK => ?_;go_simp;apply Calls.mono
 ·exact made_kid t 1 k1 (by rw [HKK.out]; rfl) (IH.out _ (by rw [HKK.out]; simp)) (HW.out _ (by rw [HKK.out]; simp)) k f a c a' c' p q _ (HT.out.ext (.of hB1) (Nat.le_refl _))
 rintro e2 w2 ⟨ty2, pv2, fp2, rfl, hb2, hi2, hn2, hg2⟩;have hs2 := hs1.below hb2 hs1.lt; have hB2 := hB1.trans (hb2.mono hB1.size)
 (try go_wp2_with fail)
 refine hK.out _ _ (fun _ => hs2) ?_;clear hK K
 try simp only [Act.put, sb0, sb1, sb2]
 refine AnyL.one 7 (by kernel_rfl) rfl fun K hK => ?_;go_simp;apply Calls.mono
 ·exact made_kid t 2 k2 (by rw [HKK.out]; rfl) (IH.out _ (by rw [HKK.out]; simp)) (HW.out _ (by rw [HKK.out]; simp)) k f a c a' c' p q _ (HT.out.ext (.of hB2) (Nat.le_refl _))
 rintro e3 w3 ⟨ty3, pv3, fp3, rfl, hb3, hi3, hn3, hg3⟩;have hs3 := hs2.below hb3 hs2.lt; have hB3 := hB2.trans (hb3.mono hB2.size)
 (try go_wp2_with fail)
 refine hK.out _ _ (fun _ => hs3) ?_;clear hK K
 try simp only [Act.put, sb0, sb1, sb2]
 refine AnyL.one 8 (by kernel_rfl) rfl fun K hK => ?_;go_simp;refine hK.out _ _ (fun _ => hs3) ?_;clear hK K
 try simp only [Act.put, sb0, sb1, sb2]
 refine AnyL.one 9 (by kernel_rfl) rfl fun K hK => ?_;go_simp;refine hK.out _ _ (fun _ => (hs3.alloc _)) ?_;clear hK K
 try simp only [Act.put, sb0, sb1, sb2]
 refine AnyL.one 10 (by kernel_rfl) rfl fun K hK => ?_;go_simp;refine hK.out _ _ (fun _ => (hs3.alloc _)) ?_;clear hK K
 try simp only [Act.put, sb0, sb1, sb2]
 refine AnyL.one 11 (by kernel_rfl) rfl fun K hK => ?_;go_simp;refine hK.out _ _ (fun _ => (hs3.alloc _)) ?_;clear hK K
 try simp only [Act.put, sb0, sb1, sb2]
 refine AnyL.done (by kernel_rfl) ?_ _;have G := ((((Gk.nil hB0).snoc hb1 hi1 hn1 hg1).snoc hb2 hi2 hn2 hg2).snoc hb3 hi3 hn3 hg3);obtain ⟨g1, g2, g3, g4⟩ := G.fin _;go_wp21;go_ret;exact HA.out _ _ _ _ _ [.iface ty1 pv1, .iface ty2 pv2, .iface ty3 pv3] _ (by rw [HK.out]; rfl) (by simp [acells, headC, tailC, named, HK.out]; try rfl) (by rw [HK.out]; rfl) (Lb.new' _ _ _ (by simp)) (by rw [HKK.out]; exact g1) g2 g3 g4
set_option maxHeartbeats 6400000 in
set_option maxRecDepth 100000 in
theorem bare_19 (t : Tr) {k0 k1 : Tr} (hW : WholeT t) (k : Nat → Prop) (f : Nat) (a : Option Addr) (c : Nat) (a' : Option Addr) (c' : Nat) (p q : Int) (w : World) (ht : IsT w k t (tcells t f a c a' c' p q)) (hkk : t.kids = [k0, k1]) (ih : ∀ x ∈ t.kids, MadeOk 34 x) (hk : t.kind = 19) : Calls Try.prog 53 #[ta t f a c a' c' p q] w (Md t w) := by
 have HT := Lib.hid ht; have HW := Lib.hid hW.parts.2.2.2.2; have IH := Lib.hid ih; have HKK := Lib.hid hkk;have HA := Lib.hid (show ∀ w' b ty cs T vs fs, ty = pty t.kind → cs = acells t f 0 0 vs .nilIface (.pointer none) → T = sty t.kind → Lb w' b cs T → IsAs w' (nrms t.kids) vs fs → ([b] ++ fs.flatten ++ []).Nodup → (∀ x ∈ [b] ++ fs.flatten ++ [], w.heap.size ≤ x) → Below w.heap.size w w' → Md t w (.returned (.iface ty (.pointer (some ⟨b, 0, none⟩)))) w' from fun w' b ty cs T vs fs e1 e2 e3 hb hks hnd hge hbw => by
  subst e1 e2 e3;exact ⟨_, _, _, rfl, hbw, IsA.mkNode ht (by rw [hk, hkk]; rfl) hb hks, hnd, hge⟩)
 clear ht hW ih hkk;go_enter Try.func53, Try.ntmps53
 go_wp2_with fail
 refine forget (fun W => Below w.heap.size w W ∧ Lb W w.heap.size (tcells t f a c a' c' p q) 25) ?_ ?_
 ·exact ⟨by go_grown, by unfold tcells; rw [hk]; exact Lb.new' _ _ _ rfl⟩
 rintro W0 ⟨hB0, hL0⟩;have HK := Lib.hid hk;clear hk;refine AnyL.start (S := fun w' => Lb w' w.heap.size (tcells t f a c a' c' p q) 25) (late := fun j => [].contains j) (by kernel_rfl) ?_;have hB0 := hB0.drew; have hs0 := hL0.drew;refine AnyL.tk [] [] 0 ?_ rfl (by kernel_rfl) (by rfl) ?_ hs0 (AnyL.tk [] [] 1 ?_ rfl (by kernel_rfl) (by rfl) ?_ hs0 (AnyL.tk [] [] 2 ?_ rfl (by kernel_rfl) (by rfl) ?_ hs0 (AnyL.tk [] [] 4 ?_ rfl (by kernel_rfl) (by rfl) ?_ hs0 ?_)))
 iterate 4
  rotate_left
  ·intro w' hw'; (try simp only [Act.put, sb0, sb1, sb2]);have r0 := (show Lb _ _ _ _ from hw').cell; have z0 := (show Lb _ _ _ _ from hw').lt;unfold tcells at r0;go_simp
   try (with_reducible rfl)
 try simp only [Act.put, sb0, sb1, sb2]
 refine AnyL.one 3 (by kernel_rfl) rfl fun K hK => ?_;go_simp;apply Calls.mono
 ·exact made_kid t 0 k0 (by rw [HKK.out]; rfl) (IH.out _ (by rw [HKK.out]; simp)) (HW.out _ (by rw [HKK.out]; simp)) k f a c a' c' p q _ (HT.out.ext (.of hB0) (Nat.le_refl _))
 rintro e1 w1 ⟨ty1, pv1, fp1, rfl, hb1, hi1, hn1, hg1⟩;have hs1 := hs0.below hb1 hs0.lt; have hB1 := hB0.trans (hb1.mono hB0.size)
 (try go_wp2_with fail)
 refine hK.out _ _ (fun _ => hs1) ?_;clear hK K
 try simp only [Act.put, sb0, sb1, sb2]
 refine AnyL.one 5 (by kernel_rfl) rfl fun K hK => ?_;go_simp;apply Calls.mono
 ·exact made_kid t 1 k1 (by rw [HKK.out]; rfl) (IH.out _ (by rw [HKK.out]; simp)) (HW.out _ (by rw [HKK.out]; simp)) k f a c a' c' p q _ (HT.out.ext (.of hB1) (Nat.le_refl _))
 rintro e2 w2 ⟨ty2, pv2, fp2, rfl, hb2, hi2, hn2, hg2⟩;have hs2 := hs1.below hb2 hs1.lt; have hB2 := hB1.trans (hb2.mono hB1.size)
 (try go_wp2_with fail)
 refine hK.out _ _ (fun _ => hs2) ?_;clear hK K
 try simp only [Act.put, sb0, sb1, sb2]
 refine AnyL.one 6 (by kernel_rfl) rfl fun K hK => ?_;go_simp;refine hK.out _ _ (fun _ => hs2) ?_;clear hK K
 try simp only [Act.put, sb0, sb1, sb2]
 refine AnyL.one 7 (by kernel_rfl) rfl fun K hK => ?_;go_simp;refine hK.out _ _ (fun _ => (hs2.alloc _)) ?_;clear hK K
 try simp only [Act.put, sb0, sb1, sb2]
 refine AnyL.one 8 (by kernel_rfl) rfl fun K hK => ?_;go_simp;refine hK.out _ _ (fun _ => (hs2.alloc _)) ?_;clear hK K
 try simp only [Act.put, sb0, sb1, sb2]
 refine AnyL.one 9 (by kernel_rfl) rfl fun K hK => ?_;go_simp;refine hK.out _ _ (fun _ => (hs2.alloc _)) ?_;clear hK K
 try simp only [Act.put, sb0, sb1, sb2]
 refine AnyL.done (by kernel_rfl) ?_ _;have G := (((Gk.nil hB0).snoc hb1 hi1 hn1 hg1).snoc hb2 hi2 hn2 hg2);obtain ⟨g1, g2, g3, g4⟩ := G.fin _;go_wp21;go_ret;exact HA.out _ _ _ _ _ [.iface ty1 pv1, .iface ty2 pv2] _ (by rw [HK.out]; rfl) (by simp [acells, headC, tailC, named, HK.out]; try rfl) (by rw [HK.out]; rfl) (Lb.new' _ _ _ (by simp)) (by rw [HKK.out]; exact g1) g2 g3 g4
set_option maxHeartbeats 6400000 in
set_option maxRecDepth 100000 in
theorem bare_23 (t : Tr) {k0 k1 : Tr} (hW : WholeT t) (k : Nat → Prop) (f : Nat) (a : Option Addr) (c : Nat) (a' : Option Addr) (c' : Nat) (p q : Int) (w : World) (ht : IsT w k t (tcells t f a c a' c' p q)) (hkk : t.kids = [k0, k1]) (ih : ∀ x ∈ t.kids, MadeOk 34 x) (hk : t.kind = 23) : Calls Try.prog 53 #[ta t f a c a' c' p q] w (Md t w) := by
 have HT := Lib.hid ht; have HW := Lib.hid hW.parts.2.2.2.2; have IH := Lib.hid ih; have HKK := Lib.hid hkk;have HA := Lib.hid (show ∀ w' b ty cs T vs fs, ty = pty t.kind → cs = acells t f 0 0 vs .nilIface (.pointer none) → T = sty t.kind → Lb w' b cs T → IsAs w' (nrms t.kids) vs fs → ([b] ++ fs.flatten ++ []).Nodup → (∀ x ∈ [b] ++ fs.flatten ++ [], w.heap.size ≤ x) → Below w.heap.size w w' → Md t w (.returned (.iface ty (.pointer (some ⟨b, 0, none⟩)))) w' from fun w' b ty cs T vs fs e1 e2 e3 hb hks hnd hge hbw => by
  subst e1 e2 e3;exact ⟨_, _, _, rfl, hbw, IsA.mkNode ht (by rw [hk, hkk]; rfl) hb hks, hnd, hge⟩)
 clear ht hW ih hkk;go_enter Try.func53, Try.ntmps53
 go_wp2_with fail
 refine forget (fun W => Below w.heap.size w W ∧ Lb W w.heap.size (tcells t f a c a' c' p q) 25) ?_ ?_
 ·exact ⟨by go_grown, by unfold tcells; rw [hk]; exact Lb.new' _ _ _ rfl⟩
 rintro W0 ⟨hB0, hL0⟩;have HK := Lib.hid hk;clear hk;refine AnyL.start (S := fun w' => Lb w' w.heap.size (tcells t f a c a' c' p q) 25) (late := fun j => [].contains j) (by kernel_rfl) ?_;have hB0 := hB0.drew; have hs0 := hL0.drew;refine AnyL.tk [] [] 0 ?_ rfl (by kernel_rfl) (by rfl) ?_ hs0 (AnyL.tk [] [] 2 ?_ rfl (by kernel_rfl) (by rfl) ?_ hs0 ?_)
 iterate 2
  rotate_left
  ·intro w' hw'; (try simp only [Act.put, sb0, sb1, sb2]);have r0 := (show Lb _ _ _ _ from hw').cell; have z0 := (show Lb _ _ _ _ from hw').lt;unfold tcells at r0;go_simp
   try (with_reducible rfl)
 try simp only [Act.put, sb0, sb1, sb2]
 refine AnyL.one 1 (by kernel_rfl) rfl fun K hK => ?_;go_simp;apply Calls.mono
 ·exact made_kid t 0 k0 (by rw [HKK.out]; rfl) (IH.out _ (by rw [HKK.out]; simp)) (HW.out _ (by rw [HKK.out]; simp)) k f a c a' c' p q _ (HT.out.ext (.of hB0) (Nat.le_refl _))
 rintro e1 w1 ⟨ty1, pv1, fp1, rfl, hb1, hi1, hn1, hg1⟩;have hs1 := hs0.below hb1 hs0.lt; have hB1 := hB0.trans (hb1.mono hB0.size)
 (try go_wp2_with fail)
 refine hK.out _ _ (fun _ => hs1) ?_;clear hK K
 try simp only [Act.put, sb0, sb1, sb2]
 refine AnyL.one 3 (by kernel_rfl) rfl fun K hK => ?_;go_simp;apply Calls.mono
 ·exact made_kid t 1 k1 (by rw [HKK.out]; rfl) (IH.out _ (by rw [HKK.out]; simp)) (HW.out _ (by rw [HKK.out]; simp)) k f a c a' c' p q _ (HT.out.ext (.of hB1) (Nat.le_refl _))
 rintro e2 w2 ⟨ty2, pv2, fp2, rfl, hb2, hi2, hn2, hg2⟩;have hs2 := hs1.below hb2 hs1.lt; have hB2 := hB1.trans (hb2.mono hB1.size)
 (try go_wp2_with fail)
 refine hK.out _ _ (fun _ => hs2) ?_;clear hK K
 try simp only [Act.put, sb0, sb1, sb2]
 refine AnyL.one 4 (by kernel_rfl) rfl fun K hK => ?_;go_simp;refine hK.out _ _ (fun _ => hs2) ?_;clear hK K
 try simp only [Act.put, sb0, sb1, sb2]
 refine AnyL.one 5 (by kernel_rfl) rfl fun K hK => ?_;go_simp;refine hK.out _ _ (fun _ => (hs2.alloc _)) ?_;clear hK K
 try simp only [Act.put, sb0, sb1, sb2]
 refine AnyL.one 6 (by kernel_rfl) rfl fun K hK => ?_;go_simp;refine hK.out _ _ (fun _ => (hs2.alloc _)) ?_;clear hK K
 try simp only [Act.put, sb0, sb1, sb2]
 refine AnyL.one 7 (by kernel_rfl) rfl fun K hK => ?_;go_simp;refine hK.out _ _ (fun _ => (hs2.alloc _)) ?_;clear hK K
 try simp only [Act.put, sb0, sb1, sb2]
 refine AnyL.done (by kernel_rfl) ?_ _;have G := (((Gk.nil hB0).snoc hb1 hi1 hn1 hg1).snoc hb2 hi2 hn2 hg2);obtain ⟨g1, g2, g3, g4⟩ := G.fin _;go_wp21;go_ret;exact HA.out _ _ _ _ _ [.iface ty1 pv1, .iface ty2 pv2] _ (by rw [HK.out]; rfl) (by simp [acells, headC, tailC, named, HK.out]; try rfl) (by rw [HK.out]; rfl) (Lb.new' _ _ _ (by simp)) (by rw [HKK.out]; exact g1) g2 g3 g4
set_option maxHeartbeats 6400000 in
set_option maxRecDepth 100000 in
theorem bare_16 (t : Tr) {k0 : Tr} (hW : WholeT t) (k : Nat → Prop) (f : Nat) (a : Option Addr) (c : Nat) (a' : Option Addr) (c' : Nat) (p q : Int) (w : World) (ht : IsT w k t (tcells t f a c a' c' p q)) (hkk : t.kids = [k0]) (ih : ∀ x ∈ t.kids, MadeOk 34 x) (hk : t.kind = 16) : Calls Try.prog 53 #[ta t f a c a' c' p q] w (Md t w) := by
 have HT := Lib.hid ht; have HW := Lib.hid hW.parts.2.2.2.2; have IH := Lib.hid ih; have HKK := Lib.hid hkk;have HA := Lib.hid (show ∀ w' b ty cs T vs fs, ty = pty t.kind → cs = acells t f 0 0 vs .nilIface (.pointer none) → T = sty t.kind → Lb w' b cs T → IsAs w' (nrms t.kids) vs fs → ([b] ++ fs.flatten ++ []).Nodup → (∀ x ∈ [b] ++ fs.flatten ++ [], w.heap.size ≤ x) → Below w.heap.size w w' → Md t w (.returned (.iface ty (.pointer (some ⟨b, 0, none⟩)))) w' from fun w' b ty cs T vs fs e1 e2 e3 hb hks hnd hge hbw => by
  subst e1 e2 e3;exact ⟨_, _, _, rfl, hbw, IsA.mkNode ht (by rw [hk, hkk]; rfl) hb hks, hnd, hge⟩)
 clear ht hW ih hkk;go_enter Try.func53, Try.ntmps53
 go_wp2_with fail
 apply Calls.mono
 ·refine made_kid' t 0 k0 k f a c a' c' p q _ (by simp only [ta, hk]) rfl (by rw [HKK.out]; rfl) (IH.out _ (by rw [HKK.out]; simp)) (HW.out _ (by rw [HKK.out]; simp)) (HT.out.ext (.of ?_) (Nat.le_refl _))
  go_grown
 rintro e1 w1 ⟨ty1, pv1, fp1, rfl, hb1, hi1, hn1, hg1⟩;have HK := Lib.hid hk;clear hk;have G := (Gk.nil (w0 := w) (by go_grown)).snoc hb1 hi1 hn1 hg1;clear hb1 hi1 hn1 hg1;have HG := Lib.hid G;clear G;go_wp21;go_ret;obtain ⟨g1, g2, g3, g4⟩ := HG.out.fin _;exact HA.out _ _ _ _ _ _ _ (by rw [HK.out]; rfl) (by simp [acells, headC, tailC, named, HK.out]; try rfl) (by rw [HK.out]; rfl) (Lb.new' _ _ _ (by simp)) (by rw [HKK.out]; exact g1) g2 g3 g4
set_option maxHeartbeats 6400000 in
set_option maxRecDepth 100000 in
theorem bare_20 (t : Tr) (hW : WholeT t) (k : Nat → Prop) (f : Nat) (a : Option Addr) (c : Nat) (a' : Option Addr) (c' : Nat) (p q : Int) (w : World) (ht : IsT w k t (tcells t f a c a' c' p q)) (ih : ∀ x ∈ t.kids, MadeOk 34 x) (hk : t.kind = 20) : Calls Try.prog 53 #[ta t f a c a' c' p q] w (Md t w) := by
 have HT := Lib.hid ht; have HW := Lib.hid hW.parts.2.2.2.2; have IH := Lib.hid ih;have HA := Lib.hid (show ∀ w' b ty cs T A cap vs fs rb, ty = pty t.kind → cs = acells t f 0 0 [.slice A t.kids.length cap] .nilIface (.pointer none) → T = sty t.kind → Lb w' b cs T → Rw w' A vs rb ∧ t.kids.length ≤ cap → IsAs w' (nrms t.kids) vs fs → ((b :: rb) ++ fs.flatten ++ []).Nodup → (∀ x ∈ (b :: rb) ++ fs.flatten ++ [], w.heap.size ≤ x) → Below w.heap.size w w' → Md t w (.returned (.iface ty (.pointer (some ⟨b, 0, none⟩)))) w' from fun w' b ty cs T A cap vs fs rb e1 e2 e3 hb hr hks hnd hge hbw => by
  subst e1 e2 e3;exact ⟨_, _, _, rfl, hbw, IsA.mkList ht hW (by rw [hk]; rfl) hb hr hks, hnd, hge⟩)
 clear ht hW ih;go_enter Try.func53, Try.ntmps53
 go_wp2_with fail
 apply Calls.mono
 ·refine made_kids' t k f a c a' c' p q _ (by simp only [ta, hk]) IH.out HW.out (HT.out.ext (.of ?_) (Nat.le_refl _))
  go_grown
 rintro e1 w1 ⟨A, cap, vs, fs, rb, rfl, hb1, hks, hr, hn1, hg1⟩;have HK := Lib.hid hk;have hg2 : ∀ y ∈ rb ++ fs.flatten, w.heap.size ≤ y := fun y hy => by have := hg1 y hy; simp at this; omega
 have HG := Lib.hid (mk_fin (w0 := w) (Below.trans (by go_grown) (hb1.mono (by simp))) hks hr hn1 hg2);clear hb1 hks hr hn1 hg1 hg2 hk;go_wp21;go_ret;obtain ⟨g1, g2, g3, g4, g5⟩ := HG.out _;exact HA.out _ _ _ _ _ A cap vs fs rb (by rw [HK.out]; rfl) (by simp [acells, headC, tailC, named, HK.out]; try rfl) (by rw [HK.out]; rfl) (Lb.new' _ _ _ (by simp)) g1 g2 g3 g4 g5
set_option maxHeartbeats 6400000 in
set_option maxRecDepth 100000 in
theorem bare_21 (t : Tr) (hW : WholeT t) (k : Nat → Prop) (f : Nat) (a : Option Addr) (c : Nat) (a' : Option Addr) (c' : Nat) (p q : Int) (w : World) (ht : IsT w k t (tcells t f a c a' c' p q)) (ih : ∀ x ∈ t.kids, MadeOk 34 x) (hk : t.kind = 21) : Calls Try.prog 53 #[ta t f a c a' c' p q] w (Md t w) := by
 have HT := Lib.hid ht; have HW := Lib.hid hW.parts.2.2.2.2; have IH := Lib.hid ih;have HA := Lib.hid (show ∀ w' b ty cs T A cap vs fs rb, ty = pty t.kind → cs = acells t f 0 0 [.slice A t.kids.length cap] .nilIface (.pointer none) → T = sty t.kind → Lb w' b cs T → Rw w' A vs rb ∧ t.kids.length ≤ cap → IsAs w' (nrms t.kids) vs fs → ((b :: rb) ++ fs.flatten ++ []).Nodup → (∀ x ∈ (b :: rb) ++ fs.flatten ++ [], w.heap.size ≤ x) → Below w.heap.size w w' → Md t w (.returned (.iface ty (.pointer (some ⟨b, 0, none⟩)))) w' from fun w' b ty cs T A cap vs fs rb e1 e2 e3 hb hr hks hnd hge hbw => by
  subst e1 e2 e3;exact ⟨_, _, _, rfl, hbw, IsA.mkList ht hW (by rw [hk]; rfl) hb hr hks, hnd, hge⟩)
 clear ht hW ih;go_enter Try.func53, Try.ntmps53
 go_wp2_with fail
 apply Calls.mono
 ·refine made_kids' t k f a c a' c' p q _ (by simp only [ta, hk]) IH.out HW.out (HT.out.ext (.of ?_) (Nat.le_refl _))
  go_grown
 rintro e1 w1 ⟨A, cap, vs, fs, rb, rfl, hb1, hks, hr, hn1, hg1⟩;have HK := Lib.hid hk;have hg2 : ∀ y ∈ rb ++ fs.flatten, w.heap.size ≤ y := fun y hy => by have := hg1 y hy; simp at this; omega
 have HG := Lib.hid (mk_fin (w0 := w) (Below.trans (by go_grown) (hb1.mono (by simp))) hks hr hn1 hg2);clear hb1 hks hr hn1 hg1 hg2 hk;go_wp21;go_ret;obtain ⟨g1, g2, g3, g4, g5⟩ := HG.out _;exact HA.out _ _ _ _ _ A cap vs fs rb (by rw [HK.out]; rfl) (by simp [acells, headC, tailC, named, HK.out]; try rfl) (by rw [HK.out]; rfl) (Lb.new' _ _ _ (by simp)) g1 g2 g3 g4 g5
set_option maxHeartbeats 6400000 in
set_option maxRecDepth 100000 in
theorem bare_22 (t : Tr) (hW : WholeT t) (k : Nat → Prop) (f : Nat) (a : Option Addr) (c : Nat) (a' : Option Addr) (c' : Nat) (p q : Int) (w : World) (ht : IsT w k t (tcells t f a c a' c' p q)) (ih : ∀ x ∈ t.kids, MadeOk 34 x) (hk : t.kind = 22) : Calls Try.prog 53 #[ta t f a c a' c' p q] w (Md t w) := by
 have HT := Lib.hid ht; have HW := Lib.hid hW.parts.2.2.2.2; have IH := Lib.hid ih;have HA := Lib.hid (show ∀ w' b ty cs T A cap vs fs rb, ty = pty t.kind → cs = acells t f 0 0 [.slice A t.kids.length cap] .nilIface (.pointer none) → T = sty t.kind → Lb w' b cs T → Rw w' A vs rb ∧ t.kids.length ≤ cap → IsAs w' (nrms t.kids) vs fs → ((b :: rb) ++ fs.flatten ++ []).Nodup → (∀ x ∈ (b :: rb) ++ fs.flatten ++ [], w.heap.size ≤ x) → Below w.heap.size w w' → Md t w (.returned (.iface ty (.pointer (some ⟨b, 0, none⟩)))) w' from fun w' b ty cs T A cap vs fs rb e1 e2 e3 hb hr hks hnd hge hbw => by
  subst e1 e2 e3;exact ⟨_, _, _, rfl, hbw, IsA.mkList ht hW (by rw [hk]; rfl) hb hr hks, hnd, hge⟩)
 clear ht hW ih;go_enter Try.func53, Try.ntmps53
 go_wp2_with fail
 apply Calls.mono
 ·refine made_kids' t k f a c a' c' p q _ (by simp only [ta, hk]) IH.out HW.out (HT.out.ext (.of ?_) (Nat.le_refl _))
  go_grown
 rintro e1 w1 ⟨A, cap, vs, fs, rb, rfl, hb1, hks, hr, hn1, hg1⟩;have HK := Lib.hid hk;have hg2 : ∀ y ∈ rb ++ fs.flatten, w.heap.size ≤ y := fun y hy => by have := hg1 y hy; simp at this; omega
 have HG := Lib.hid (mk_fin (w0 := w) (Below.trans (by go_grown) (hb1.mono (by simp))) hks hr hn1 hg2);clear hb1 hks hr hn1 hg1 hg2 hk;go_wp21;go_ret;obtain ⟨g1, g2, g3, g4, g5⟩ := HG.out _;exact HA.out _ _ _ _ _ A cap vs fs rb (by rw [HK.out]; rfl) (by simp [acells, headC, tailC, named, HK.out]; try rfl) (by rw [HK.out]; rfl) (Lb.new' _ _ _ (by simp)) g1 g2 g3 g4 g5
set_option maxHeartbeats 6400000 in
set_option maxRecDepth 100000 in
theorem bare_8 (t : Tr) (hW : WholeT t) (k : Nat → Prop) (f : Nat) (a : Option Addr) (c : Nat) (a' : Option Addr) (c' : Nat) (p q : Int) (w : World) (ht : IsT w k t (tcells t f a c a' c' p q)) (hk : t.kind = 8) : Calls Try.prog 53 #[ta t f a c a' c' p q] w (Md t w) := by
 have HT := Lib.hid ht; have HW := Lib.hid hW.parts.2.2.2.2;have HC := Lib.hid (show ∀ x ∈ t.kids, x.kind = 3 ∨ x.kind = 4 ∨ x.kind = 5 ∨ x.kind = 6 from by
  have := hW.parts.2.2.2.1;unfold Shape at this;have h8 : ∀ j, t.kind = j → j = 8 := fun j h => by omega
  rcases this with h | h | h | h | h | h | h | h | h | h | h <;> first | exact h.2 | (exfalso; omega))
 have HA := Lib.hid (show ∀ w' b ty cs T A cap vs rb, ty = pty t.kind → cs = acells t f 0 0 [.iface 162 (.slice A t.kids.length cap)] .nilIface (.pointer none) → T = sty t.kind → Lb w' b cs T → Rw w' A vs rb → IsCs (nrms t.kids) vs → (b :: rb).Nodup → (∀ x ∈ b :: rb, w.heap.size ≤ x) → Below w.heap.size w w' → Md t w (.returned (.iface ty (.pointer (some ⟨b, 0, none⟩)))) w' from fun w' b ty cs T A cap vs rb e1 e2 e3 hb hr hks hnd hge hbw => by
  subst e1 e2 e3;exact ⟨_, _, _, rfl, hbw, IsA.mkConst ht hk hb hr hks, hnd, hge⟩)
 clear ht hW;go_enter Try.func53, Try.ntmps53
 go_wp2_with fail
 apply Calls.mono
 ·refine constants_any t HW.out HC.out k f a c a' c' p q _ (HT.out.ext (.of ?_) (Nat.le_refl _))
  go_grown
 rintro e1 w1 ⟨A, cap, vs, rb, rfl, hb1, hks, hr, hn1, hg1⟩;have HK := Lib.hid hk;have hg2 : ∀ y ∈ rb, w.heap.size ≤ y := fun y hy => by have := hg1 y hy; simp at this; omega
 have HB := Lib.hid (show Below w.heap.size w w1 from Below.trans (by go_grown) (hb1.mono (by simp)));have HR := Lib.hid hr; have HS := Lib.hid (And.intro hks (And.intro hn1 hg2));clear hb1 hks hr hn1 hg1 hg2 hk;go_wp21;go_ret;refine HA.out _ _ _ _ _ A cap vs rb (by rw [HK.out]; rfl) (by simp [acells, headC, tailC, named, HK.out]; try rfl) (by rw [HK.out]; rfl) (Lb.new' _ _ _ (by simp)) (HR.out.same fun y hy => heap_alloc_old w1 _ (HR.out.lt y hy)) HS.out.1 (List.nodup_cons.2 ⟨fun hm => by have := HR.out.lt _ hm; omega, HS.out.2.1⟩) (fun y hy => ?_) (HB.out.alloc HB.out.size _);rcases List.mem_cons.1 hy with rfl | hy
 ·exact HB.out.size
 ·exact HS.out.2.2 y hy
set_option maxHeartbeats 6400000 in
set_option maxRecDepth 100000 in
theorem bare_15 (t : Tr) (hW : WholeT t) (k : Nat → Prop) (f : Nat) (a : Option Addr) (c : Nat) (a' : Option Addr) (c' : Nat) (p q : Int) (w : World) (ht : IsT w k t (tcells t f a c a' c' p q)) (ih : ∀ x ∈ t.kids, MadeOk 34 x) (hk : t.kind = 15) : Calls Try.prog 53 #[ta t f a c a' c' p q] w (Md t w) := by
 have HT := Lib.hid ht; have HW := Lib.hid hW.parts.2.2.2.2; have IH := Lib.hid ih;have HA := Lib.hid (show ∀ w' b ty cs T A cap vs fs rb, ty = pty t.kind → cs = acells t f 0 0 [.slice A t.kids.length cap] .nilIface (.pointer none) → T = sty t.kind → Lb w' b cs T → Rw w' A vs rb ∧ t.kids.length ≤ cap → IsAs w' (nrms t.kids) vs fs → ((b :: rb) ++ fs.flatten ++ []).Nodup → (∀ x ∈ (b :: rb) ++ fs.flatten ++ [], w.heap.size ≤ x) → Below w.heap.size w w' → Md t w (.returned (.iface ty (.pointer (some ⟨b, 0, none⟩)))) w' from fun w' b ty cs T A cap vs fs rb e1 e2 e3 hb hr hks hnd hge hbw => by
  subst e1 e2 e3;exact ⟨_, _, _, rfl, hbw, IsA.mkList ht hW (by rw [hk]; rfl) hb hr hks, hnd, hge⟩)
 have hlm : t.limited = false := hW.parts.2.1;have hmp : t.map.length = 0 := by rw [hW.parts.1]; rfl
 have HLM := Lib.hid hlm; have HMP := Lib.hid hmp;clear ht hW ih hlm hmp;go_enter Try.func53, Try.ntmps53
 go_wp2_with fail
 refine forget (fun W => Below w.heap.size w W ∧ Lb W w.heap.size (tcells t f a c a' c' p q) 25) ?_ ?_
 ·exact ⟨by go_grown, by unfold tcells; rw [hk]; exact Lb.new' _ _ _ rfl⟩
 rintro W0 ⟨hB0, hL0⟩;have HK := Lib.hid hk;clear hk;refine AnyL.start (S := fun w' => Lb w' w.heap.size (tcells t f a c a' c' p q) 25) (late := fun j => [].contains j) (by kernel_rfl) ?_;have hB0 := hB0.drew; have hs0 := hL0.drew;refine AnyL.tk [] [] 0 ?_ rfl (by kernel_rfl) (by rfl) ?_ hs0 (AnyL.tk [] [] 1 ?_ rfl (by kernel_rfl) (by rfl) ?_ hs0 (AnyL.tk [] [] 2 ?_ rfl (by kernel_rfl) (by rfl) ?_ hs0 (AnyL.tk [] [] 4 ?_ rfl (by kernel_rfl) (by rfl) ?_ hs0 (AnyL.tk [] [] 5 ?_ rfl (by kernel_rfl) (by rfl) ?_ hs0 ?_))))
 iterate 5
  rotate_left
  ·intro w' hw'; (try simp only [Act.put, sb0, sb1, sb2]);have r0 := (show Lb _ _ _ _ from hw').cell; have z0 := (show Lb _ _ _ _ from hw').lt;unfold tcells at r0;go_simp
   try (with_reducible rfl)
 try simp only [Act.put, sb0, sb1, sb2]
 refine AnyL.one 3 (by kernel_rfl) rfl fun K hK => ?_;go_simp;apply Calls.mono
 ·exact made_kids t IH.out HW.out k f a c a' c' p q _ (HT.out.ext (.of hB0) (Nat.le_refl _))
 rintro e1 w1 ⟨A, cap, vs, fs, rb, rfl, hb1, hks, hr, hn1, hg1⟩;have hs1 := hs0.below hb1 hs0.lt; have hB1 := hB0.trans (hb1.mono hB0.size)
 (try go_wp2_with fail)
 refine hK.out _ _ (fun _ => hs1) ?_;clear hK K
 try simp only [Act.put, sb0, sb1, sb2]
 refine AnyL.one 6 (by kernel_rfl) rfl fun K hK => ?_;go_simp;refine hK.out _ _ (fun _ => hs1) ?_;clear hK K
 try simp only [Act.put, sb0, sb1, sb2]
 refine AnyL.one 7 (by kernel_rfl) rfl fun K hK => ?_;go_simp;refine hK.out _ _ (fun _ => (hs1.alloc _)) ?_;clear hK K
 try simp only [Act.put, sb0, sb1, sb2]
 refine AnyL.one 8 (by kernel_rfl) rfl fun K hK => ?_;go_simp;refine hK.out _ _ (fun _ => (hs1.alloc _)) ?_;clear hK K
 try simp only [Act.put, sb0, sb1, sb2]
 refine AnyL.done (by kernel_rfl) ?_ _;have G := mk_fin (hB0.trans (hb1.mono hB0.size)) hks hr hn1 fun y hy => Nat.le_trans hB0.size (hg1 y hy);have HG := Lib.hid G;have r0 := hs1.cell; have z0 := hs1.lt;unfold tcells at r0;rw [HLM.out, HMP.out] at r0;clear hb1 hks hr hn1 hg1 G hs0 hs1 hB0 hB1 hL0;go_wp21;go_ret;obtain ⟨g1, g2, g3, g4, g5⟩ := HG.out _;exact HA.out _ _ _ _ _ A cap vs fs rb (by rw [HK.out]; rfl) (by simp [acells, headC, tailC, named, HK.out]; try rfl) (by rw [HK.out]; rfl) (Lb.new' _ _ _ (by simp)) g1 g2 g3 g4 g5
theorem bare_any (t : Tr) (ih : ∀ x ∈ t.kids, MadeOk 34 x) : MadeOk 53 t := by
 intro hW k f a c a' c' p q w ht;have hs := hW.parts.2.2.2.1;unfold Shape at hs;have one : t.kids.length = 1 → ∃ x, t.kids = [x] := fun h => by
  match hq : t.kids, h with
  |[a], _ => exact ⟨a, rfl⟩
 have two : t.kids.length = 2 → ∃ x y, t.kids = [x, y] := fun h => by
  match hq : t.kids, h with
  |[a, b], _ => exact ⟨a, b, rfl⟩
 have three : t.kids.length = 3 → ∃ x y z, t.kids = [x, y, z] := fun h => by
  match hq : t.kids, h with
  |[a, b, c], _ => exact ⟨a, b, c, rfl⟩
 rcases hs with ⟨h, _⟩ | ⟨h, _⟩ | ⟨h | h, h2⟩ | ⟨h, h2⟩ | ⟨h, h2, _⟩ | ⟨h, _⟩ | ⟨h, h2⟩ | ⟨h | h, h2⟩ | ⟨h, _⟩ | h | ⟨h, _⟩
 ·exact bare_leaf t hW k f a c a' c' p q w ht h
 ·exact bare_8 t hW k f a c a' c' p q w ht h
 ·obtain ⟨x, hx⟩ := one h2; exact bare_9 t hW k f a c a' c' p q w ht hx ih h
 ·obtain ⟨x, hx⟩ := one h2; exact bare_16 t hW k f a c a' c' p q w ht hx ih h
 ·obtain ⟨x, y, hx⟩ := two h2; exact bare_10 t hW k f a c a' c' p q w ht hx ih h
 ·obtain ⟨x, y, hx⟩ := two h2; exact bare_12 t hW k f a c a' c' p q w ht hx ih h
 ·exact bare_15 t hW k f a c a' c' p q w ht ih h
 ·obtain ⟨x, y, z, hx⟩ := three h2; exact bare_18 t hW k f a c a' c' p q w ht hx ih h
 ·obtain ⟨x, y, hx⟩ := two h2; exact bare_19 t hW k f a c a' c' p q w ht hx ih h
 ·obtain ⟨x, y, hx⟩ := two h2; exact bare_23 t hW k f a c a' c' p q w ht hx ih h
 ·exact bare_20 t hW k f a c a' c' p q w ht ih h
 ·exact bare_21 t hW k f a c a' c' p q w ht ih h
 ·exact bare_22 t hW k f a c a' c' p q w ht ih h
end Go.Proofs.Ytafhhdimjkgihaa.Mn
