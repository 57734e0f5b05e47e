/- What the program does, function by function, and what trees mean: part 13. -/
import Derived.Deep.LoopGhost
import Derived.Deep.DrawnRows
import Derived.Test.YtafhhdimjkgihaaM02
import Derived.Test.YtafhhdimjkgihaaM12
set_option linter.unusedSimpArgs false
set_option linter.unusedVariables false
namespace Go.Proofs.Ytafhhdimjkgihaa.Mn
section
open Go.RowKit
structure Turn (pb : Nat) (fp : List Nat) (K : Nat → Prop) (w w' : World) : Prop where
 os : w'.os = w.os
 tape : w'.tape = w.tape
 output : w'.output = w.output
 size : w.heap.size ≤ w'.heap.size
 block : ∀ b, b < w.heap.size → b ≠ pb → b ∉ fp → ¬ K b → w'.heap[b]? = w.heap[b]?
theorem Turn.refl (pb : Nat) (fp : List Nat) (K : Nat → Prop) (w : World) : Turn pb fp K w w := ⟨rfl, rfl, rfl, Nat.le_refl _, fun _ _ _ _ _ => rfl⟩
theorem Turn.trans {pb : Nat} {fp fp1 : List Nat} {K : Nat → Prop} {w w1 w2 : World} (h : Turn pb fp K w w1) (g : Turn pb fp1 K w1 w2) (hs : ∀ b ∈ fp1, b ∈ fp ∨ w.heap.size ≤ b) : Turn pb fp K w w2 :=
 ⟨g.os.trans h.os, g.tape.trans h.tape, g.output.trans h.output, Nat.le_trans h.size g.size, fun b hb h1 h2 h3 => (g.block b (Nat.lt_of_lt_of_le hb h.size) h1 (fun hx => (hs b hx).elim h2 (by omega)) h3).trans (h.block b hb h1 h2 h3)⟩
structure Pos (w : World) (pb po : Nat) (cs : List Value) (Tp : TypeId) (v : Value) (t : Tr) (fp : List Nat) (K : Nat → Prop) : Prop where
 lb : Lb w pb cs Tp
 get : cs[po]? = some v
 tree : IsA w t v fp
 nd : fp.Nodup
 out : pb ∉ fp
 kn : ∀ b, K b → b < w.heap.size ∧ b ≠ pb ∧ b ∉ fp
def Wd (t : Tr) (pb po : Nat) (cs : List Value) (Tp : TypeId) (fp : List Nat) (K : Nat → Prop) (S' : World → Prop) (w : World) (e : Ending) (w' : World) : Prop :=
 (∃ x, e = .returned x) ∧ ∃ v' fp', Turn pb fp K w w' ∧ Lb w' pb (cs.set po v') Tp ∧ IsA w' t v' fp' ∧ fp'.Nodup ∧ (∀ b ∈ fp', b ∈ fp ∨ w.heap.size ≤ b) ∧ S' w'
theorem Wd.after {t : Tr} {pb po : Nat} {cs : List Value} {Tp : TypeId} {fp fp1 : List Nat} {K : Nat → Prop} {S' : World → Prop} {w w1 : World} {e : Ending} {w' : World} (h : Turn pb fp K w w1) (hs : ∀ b ∈ fp1, b ∈ fp ∨ w.heap.size ≤ b)
 (g : Wd t pb po cs Tp fp1 K S' w1 e w') : Wd t pb po cs Tp fp K S' w e w' := by
 obtain ⟨h1, v', fp', g1, g2, g3, g4, g5, g6⟩ := g;refine ⟨h1, v', fp', h.trans g1 hs, g2, g3, g4, fun b hb => ?_, g6⟩;rcases g5 b hb with h5 | h5
 ·exact hs b h5
 ·exact .inr (Nat.le_trans h.size h5)
def VisOk (fn : FuncId) (recv : Value) (st : Tr → Tr) (sg : Tr → Bool) (K : Nat → Prop) (S : Bool → World → Prop) (P : Tr → Prop) : Prop :=
 ∀ t, P t → ∀ v fp pb po cs Tp w s, Pos w pb po cs Tp v t fp K → S s w → Calls Try.prog fn #[recv, .pointer (some ⟨pb, po, none⟩)] w (Wd (st t) pb po cs Tp fp K (S (s || sg t)) w)
mutual
def hits (st : Tr → Tr) (sg : Tr → Bool) : Tr → Bool
 |⟨a, b, c, d, e, f, g, h, ks, ms⟩ => hitss st sg ks || sg ⟨a, b, c, d, e, f, g, h, Ts st ks, ms⟩
def hitss (st : Tr → Tr) (sg : Tr → Bool) : List Tr → Bool
 |[] => false
 |k :: ks => hits st sg k || hitss st sg ks
end
theorem hits_eq (st : Tr → Tr) (sg : Tr → Bool) (t : Tr) : hits st sg t = (hitss st sg t.kids || sg { t with kids := Ts st t.kids }) := by cases t; rw [hits]
theorem hitss_append (st : Tr → Tr) (sg : Tr → Bool) (l m : List Tr) : hitss st sg (l ++ m) = (hitss st sg l || hitss st sg m) := by
 induction l with
 |nil => rw [hitss, List.nil_append, Bool.false_or]
 |cons a l ih => rw [List.cons_append, hitss, hitss, ih, Bool.or_assoc]
def WalkOk (vt : TypeId) (recv : Value) (st : Tr → Tr) (sg : Tr → Bool) (K : Nat → Prop) (S : Bool → World → Prop) (t : Tr) : Prop :=
 ∀ v fp pb po cs Tp w s, Pos w pb po cs Tp v t fp K → S s w → Calls Try.prog 54 #[.pointer (some ⟨pb, po, none⟩), .iface vt recv] w (Wd (T st t) pb po cs Tp fp K (S (s || hits st sg t)) w)
structure Kd (w0 : World) (pb : Nat) (cs : List Value) (Tp : TypeId) (fp : List Nat) (K : Nat → Prop) (A C : List Nat) (rr : Nat) (X Y : List Value) (R : TypeId) (w : World) (ks : List Tr) (vs : List Value) (fs : List (List Nat)) : Prop where
 turn : Turn pb fp K w0 w
 lp : Lb w pb cs Tp
 lr : Lb w rr (X ++ (vs ++ Y)) R
 hk : IsAs w ks vs fs
 nd : (A ++ fs.flatten ++ C).Nodup
 fr : ∀ x ∈ fs.flatten, x ∈ fp ∨ w0.heap.size ≤ x
 ac : ∀ x ∈ A ++ C, x ≠ rr → w.heap[x]? = w0.heap[x]?
 rA : rr ∈ A
 sub : ∀ x ∈ A ++ C, x ∈ fp
 lt : ∀ x ∈ fp, x < w0.heap.size
 out : pb ∉ fp
 pl : pb < w0.heap.size
 kn : ∀ b, K b → b < w0.heap.size ∧ b ≠ pb ∧ b ∉ fp
section
variable {w0 : World} {pb : Nat} {cs : List Value} {Tp : TypeId} {fp : List Nat} {K : Nat → Prop} {A C : List Nat} {rr : Nat} {X Y : List Value} {R : TypeId} {w : World} {ks : List Tr} {vs : List Value} {fs : List (List Nat)}
theorem Kd.pos (h : Kd w0 pb cs Tp fp K A C rr X Y R w ks vs fs) {i : Nat} {k : Tr} (hi : ks[i]? = some k) : ∃ v fi, vs[i]? = some v ∧ fs[i]? = some fi ∧ Pos w rr (X.length + i) (X ++ (vs ++ Y)) R v k fi K := by
 obtain ⟨v, fi, h1, h2, h3⟩ := h.hk.get hi;have hfi : ∀ x ∈ fi, x ∈ fs.flatten := fun x hx => List.mem_flatten.2 ⟨fi, List.mem_of_getElem? h2, hx⟩;have hvl : i < vs.length := (List.getElem?_eq_some_iff.1 h1).1;have hnd := h.nd;refine ⟨v, fi, h1, h2, h.lr, ?_, h3, ?_, fun hx => ?_, fun b hb => ?_⟩
 ·rw [List.getElem?_append_right (by omega), Nat.add_sub_cancel_left, List.getElem?_append_left hvl, h1]
 ·obtain ⟨l1, l2, e1, _⟩ := split_at h2;rw [e1] at hnd;simp only [List.flatten_append, List.flatten_cons, List.append_assoc, List.nodup_append] at hnd;exact hnd.2.1.2.1.1
 ·simp only [List.append_assoc, List.nodup_append] at hnd;exact hnd.2.2 rr h.rA rr (List.mem_append.2 (.inl (hfi rr hx))) rfl
 ·obtain ⟨g1, g2, g3⟩ := h.kn b hb;refine ⟨Nat.lt_of_lt_of_le g1 h.turn.size, ?_, fun hx => ?_⟩
  ·rintro rfl; exact g3 (h.sub _ (List.mem_append.2 (.inl h.rA)))
  ·rcases h.fr b (hfi b hx) with g | g
   ·exact g3 g
   ·omega
theorem Kd.step (h : Kd w0 pb cs Tp fp K A C rr X Y R w ks vs fs) {i : Nat} {k k' : Tr} (hi : ks[i]? = some k) {v : Value} {fi : List Nat} (h1 : vs[i]? = some v) (h2 : fs[i]? = some fi) {S' : World → Prop} {e : Ending} {w' : World}
 {o : Nat} (g : Wd k' rr o (X ++ (vs ++ Y)) R fi K S' w e w') (ho : o = X.length + i) : (∃ x, e = .returned x) ∧ S' w' ∧ ∃ v' fi', Kd w0 pb cs Tp fp K A C rr X Y R w' (ks.set i k') (vs.set i v') (fs.set i fi') := by
 subst ho;obtain ⟨he, v', fi', g1, g2, g3, g4, g5, g6⟩ := g;have hfi : ∀ x ∈ fi, x ∈ fs.flatten := fun x hx => List.mem_flatten.2 ⟨fi, List.mem_of_getElem? h2, hx⟩;have hvl : i < vs.length := (List.getElem?_eq_some_iff.1 h1).1;have hrp : rr ∈ fp := h.sub _ (List.mem_append.2 (.inl h.rA));have hnd := h.nd;have hall : ∀ x ∈ A ++ fs.flatten ++ C, x < w.heap.size := fun x hx => by
  have hAC : x ∈ A ++ C → x < w.heap.size := fun hx => Nat.lt_of_lt_of_le (h.lt x (h.sub x hx)) h.turn.size;simp only [List.mem_append] at hx hAC;rcases hx with (hx | hx) | hx
  ·exact hAC (.inl hx)
  ·exact h.hk.lt x hx
  ·exact hAC (.inr hx)
 have hdis : ∀ x ∈ A ++ C, x ∉ fi := fun x hx hf => by
  simp only [List.append_assoc, List.nodup_append, List.mem_append] at hnd hx;rcases hx with hx | hx
  ·exact hnd.2.2 x hx x (.inl (hfi x hf)) rfl
  ·exact hnd.2.1.2.2 x (hfi x hf) x hx rfl
 have hK : ∀ x, x ∈ fp ∨ w0.heap.size ≤ x → ¬ K x := fun x hx hk => by
  obtain ⟨q1, q2, q3⟩ := h.kn x hk;rcases hx with hx | hx
  ·exact q3 hx
  ·omega
 have hflr : ∀ x ∈ fs.flatten, x ≠ rr := fun x hx hr => by
  simp only [List.append_assoc, List.nodup_append, List.mem_append] at hnd;exact hnd.2.2 rr h.rA x (.inl hx) hr.symm
 refine ⟨he, g6, v', fi', ?_, ?_, ?_, ?_, ?_, ?_, ?_, h.rA, h.sub, h.lt, h.out, h.pl, h.kn⟩
 ·refine ⟨g1.os.trans h.turn.os, g1.tape.trans h.turn.tape, g1.output.trans h.turn.output, Nat.le_trans h.turn.size g1.size, fun b hb q1 q2 q3 => ?_⟩;refine (g1.block b (Nat.lt_of_lt_of_le hb h.turn.size) (by rintro rfl; exact q2 hrp) (fun hx => ?_) q3).trans (h.turn.block b hb q1 q2 q3);rcases h.fr b (hfi b hx) with g | g
  ·exact q2 g
  ·omega
 ·refine (g1.block pb h.lp.lt (by rintro rfl; exact h.out hrp) (fun hx => ?_) fun hk => (h.kn pb hk).2.1 rfl).trans h.lp;rcases h.fr pb (hfi pb hx) with g | g
  ·exact h.out g
  ·have := h.pl; omega
 ·have : (X ++ (vs ++ Y)).set (X.length + i) v' = X ++ (vs.set i v' ++ Y) := by
   rw [List.set_append_right _ _ (by omega), Nat.add_sub_cancel_left, List.set_append_left _ _ hvl]
  rw [← this]; exact g2
 ·refine h.hk.set h2 ?_ (fun b hb hx => ?_) g3
  ·simp only [List.append_assoc, List.nodup_append] at hnd; exact hnd.2.1.1
  ·exact g1.block b (h.hk.lt b hb) (hflr b hb) hx (hK b (h.fr b hb))
 ·exact nodup_set hnd hall h2 g4 g5
 ·intro x hx;rcases mem_set hx with hx | hx
  ·exact h.fr x hx
  ·rcases g5 x hx with g | g
   ·exact h.fr x (hfi x g)
   ·exact .inr (Nat.le_trans h.turn.size g)
 ·intro x hx hr;refine (g1.block x (Nat.lt_of_lt_of_le (h.lt x (h.sub x hx)) h.turn.size) hr (hdis x hx) (hK x (.inl (h.sub x hx)))).trans (h.ac x hx hr)
end
theorem Hx.with {t : Tr} {f : Nat} {p q : Int} (h : Hx t f p q) (ks : List Tr) (hl : ks.length = t.kids.length) : Hx { t with kids := ks } f p q :=
 ⟨congrArg (fun u : Tr => { u with kids := ks }) h.hn, h.hf, h.hi, h.hl, h.hp, h.hq, h.ht, by show ks.length ≤ most; rw [hl]; exact h.hk⟩
section
variable {w0 : World} {pb po : Nat} {cs : List Value} {Tp : TypeId} {fp : List Nat} {K : Nat → Prop} {w : World} {ks : List Tr} {vs : List Value} {fs : List (List Nat)} {t : Tr} {b f : Nat} {p q : Int}
abbrev headX (t : Tr) (f : Nat) (p q : Int) : List Value := .int .i64 p :: .int .i64 q :: headC t f
theorem Kd.node (h : Pos w0 pb po cs Tp (nv t.kind b) t ([b] ++ fs.flatten ++ []) K) (hb : Lb w0 b (acells t f p q vs .nilIface (.pointer none)) (sty t.kind)) (hk : IsAs w0 t.kids vs fs) :
 Kd w0 pb cs Tp ([b] ++ fs.flatten ++ []) K [b] [] b (headX t f p q) (tailC t .nilIface (.pointer none)) (sty t.kind) w0 t.kids vs fs :=
 ⟨.refl _ _ _ _, h.lb, hb, hk, h.nd, fun x hx => .inl (by simp [hx]), fun x hx hr => by simp at hx; exact absurd hx hr, by simp, fun x hx => by simp at hx; simp [hx], h.tree.lt, h.out, h.lb.lt, h.kn⟩
theorem Kd.endNode (h : Kd w0 pb cs Tp fp K [b] [] b (headX t f p q) (tailC t .nilIface (.pointer none)) (sty t.kind) w ks vs fs) (hl : ks.length = t.kids.length) (ha : ari t.kind = some t.kids.length) (hx : Hx t f p q) (hg : cs[po]? = some (nv t.kind b)) :
 Pos w pb po cs Tp (nv t.kind b) { t with kids := ks } ([b] ++ fs.flatten ++ []) K ∧ Turn pb fp K w0 w ∧ ∀ x ∈ [b] ++ fs.flatten ++ [], x ∈ fp ∨ w0.heap.size ≤ x := by
 have hfr : ∀ x ∈ [b] ++ fs.flatten ++ [], x ∈ fp ∨ w0.heap.size ≤ x := fun x hx => by
  simp only [List.append_nil, List.cons_append, List.nil_append, List.mem_cons] at hx;rcases hx with rfl | hx
  ·exact .inl (h.sub _ (by simp))
  ·exact h.fr x hx
 refine ⟨⟨h.lp, hg, .node { t with kids := ks } b f p q vs fs (by show ari t.kind = some ks.length; rw [hl]; exact ha) (hx.with ks hl) h.lr h.hk, h.nd, fun hm => ?_, fun x hk => ?_⟩, h.turn, hfr⟩
 ·rcases hfr _ hm with g | g
  ·exact h.out g
  ·have := h.pl; omega
 ·obtain ⟨g1, g2, g3⟩ := h.kn x hk;refine ⟨Nat.lt_of_lt_of_le g1 h.turn.size, g2, fun hm => ?_⟩;rcases hfr _ hm with g | g
  ·exact g3 g
  ·omega
end
theorem half_get {α : Type} (g : α → α) (l : List α) (q : Nat) (x : α) (hx : l[q]? = some x) : ((l.take q).map g ++ l.drop q)[q]? = some x := by
 have hq := (List.getElem?_eq_some_iff.1 hx).1;rw [List.getElem?_append_right (by simp; omega), List.length_map, List.length_take, Nat.min_eq_left (by omega), Nat.sub_self, List.getElem?_drop, Nat.add_zero, hx]
theorem half_set {α : Type} (g : α → α) (l : List α) (q : Nat) (x : α) (hx : l[q]? = some x) : ((l.take q).map g ++ l.drop q).set q (g x) = (l.take (q + 1)).map g ++ l.drop (q + 1) := by
 have hq := (List.getElem?_eq_some_iff.1 hx).1;rw [List.set_append_right _ _ (by simp; omega), List.length_map, List.length_take, Nat.min_eq_left (by omega), Nat.sub_self, List.take_add_one, hx, List.map_append, List.append_assoc]
 congr 1
 rw [List.drop_eq_getElem_cons hq, List.set_cons_zero];rw [List.getElem?_eq_getElem hq] at hx;rfl
section
variable {w0 : World} {pb po : Nat} {cs : List Value} {Tp : TypeId} {K : Nat → Prop} {w : World} {ks : List Tr} {vs vs' : List Value} {fs fs' : List (List Nat)} {t : Tr} {b f : Nat} {p q : Int} {a : Option Addr} {c : Nat} {rb : List Nat} {ms : List Value} {gs : List (List Nat)} {th : Value} {ft : List Nat} {r : Nat} {sp : List Value} {R : TypeId}
theorem Kd.list (h : Pos w0 pb po cs Tp (nv t.kind b) t ((b :: [r]) ++ fs.flatten ++ (gs.flatten ++ ft)) K) (hr : Lb w0 r (vs ++ sp) R) (hk : IsAs w0 t.kids vs fs) :
 Kd w0 pb cs Tp ((b :: [r]) ++ fs.flatten ++ (gs.flatten ++ ft)) K (b :: [r]) (gs.flatten ++ ft) r [] sp R w0 t.kids vs fs :=
 ⟨.refl _ _ _ _, h.lb, hr, hk, h.nd, fun x hx => .inl (by simp only [List.mem_append]; exact .inl (.inr hx)), fun x hx hr => rfl, by simp, fun x hx => by
  simp only [List.mem_append] at hx ⊢;rcases hx with hx | hx
  ·exact .inl (.inl hx)
  ·exact .inr hx, h.tree.lt, h.out, h.lb.lt, h.kn⟩
theorem Kd.nodeList {fp : List Nat} (h : Kd w0 pb cs Tp fp K (b :: [r]) (gs.flatten ++ ft) r [] sp R w ks vs' fs') {l : List Value} {Q : TypeId} (hb : Lb w0 b l Q) : Lb w b l Q := by
 refine (h.ac b (by simp) ?_).trans hb;have := h.nd;simp only [List.cons_append, List.nodup_cons] at this;intro hbr;exact this.1 (by rw [hbr]; simp)
theorem Kd.endList {fp : List Nat} (h : Kd w0 pb cs Tp fp K (b :: [r]) (gs.flatten ++ ft) r [] sp R w ks vs' fs') (hl : ks.length = t.kids.length) (ha : listy t.kind = true) (hx : Hx t f p q)
 (hb : Lb w0 b (acells t f p q [.slice (some ⟨r, 0, none⟩) t.kids.length c] (ms.headD .nilIface) th) (sty t.kind)) (h1 : t.map.length ≤ 1 ∧ (t.kind = 21 → t.kids.length ≤ c)) (hm : IsAs w0 t.map ms gs) (ht : Th w0 t th ft) (hg : cs[po]? = some (nv t.kind b)) :
 Pos w pb po cs Tp (nv t.kind b) { t with kids := ks } ((b :: [r]) ++ fs'.flatten ++ (gs.flatten ++ ft)) K ∧ Turn pb fp K w0 w ∧ ∀ x ∈ (b :: [r]) ++ fs'.flatten ++ (gs.flatten ++ ft), x ∈ fp ∨ w0.heap.size ≤ x := by
 have hfr : ∀ x ∈ (b :: [r]) ++ fs'.flatten ++ (gs.flatten ++ ft), x ∈ fp ∨ w0.heap.size ≤ x := fun x hx => by
  rcases List.mem_append.1 hx with hx | hx
  ·rcases List.mem_append.1 hx with hx | hx
   ·exact .inl (h.sub _ (List.mem_append.2 (.inl hx)))
   ·exact h.fr x hx
  ·exact .inl (h.sub _ (List.mem_append.2 (.inr hx)))
 have hC : ∀ x ∈ gs.flatten ++ ft, w.heap[x]? = w0.heap[x]? := fun x hx => h.ac x (List.mem_append.2 (.inr hx)) fun hr => by
  have := h.nd;rw [List.nodup_append] at this;exact this.2.2 r (by simp) x hx hr.symm
 refine ⟨⟨h.lp, hg, ?_, h.nd, fun hm => ?_, fun x hk => ?_⟩, h.turn, hfr⟩
 ·refine .list { t with kids := ks } b f p q (some ⟨r, 0, none⟩) c vs' fs' [r] ms gs th ft ha (hx.with ks hl) ?_ (.inr ⟨r, sp, R, rfl, rfl, h.lr⟩) h.hk ⟨h1.1, fun h21 => by show ks.length ≤ c; rw [hl]; exact h1.2 h21⟩ (hm.same fun x hx => hC x (List.mem_append.2 (.inl hx))) (ht.same fun x hx => hC x (List.mem_append.2 (.inr hx)))
  show Lb w b (acells t f p q [.slice (some ⟨r, 0, none⟩) ks.length c] _ th) (sty t.kind);rw [hl];exact h.nodeList hb
 ·rcases hfr _ hm with g | g
  ·exact h.out g
  ·have := h.pl; omega
 ·obtain ⟨g1, g2, g3⟩ := h.kn x hk;refine ⟨Nat.lt_of_lt_of_le g1 h.turn.size, g2, fun hm => ?_⟩;rcases hfr _ hm with g | g
  ·exact g3 g
  ·omega
end
end
section
attribute [local go_sem ↓] Go.wp_at_zero Go.wp_at_succ
open Go.RowKit
structure Door (vt : TypeId) (recv : Value) (fn : FuncId) : Prop where
 find : ∀ n w, (method (n + 1) vt recv "Visit").run Try.prog w = .ok (fn, recv) w
 call : ∀ args w, (callFunc fn args).run Try.prog w = .ok (.enter fn args) w
theorem Wd.finish {t : Tr} {st : Tr → Tr} {sg : Tr → Bool} {pb po : Nat} {cs : List Value} {Tp : TypeId} {fp fp1 : List Nat} {K : Nat → Prop} {S : Bool → World → Prop} {s s1 : Bool} {w w1 : World} {e : Ending} {w' : World} (ht : Turn pb fp K w w1) (hs : ∀ b ∈ fp1, b ∈ fp ∨ w.heap.size ≤ b)
 (g : Wd (st { t with kids := Ts st t.kids }) pb po cs Tp fp1 K (S (s1 || sg { t with kids := Ts st t.kids })) w1 e w') (hs1 : s1 = (s || hitss st sg t.kids)) (x : Value) : Wd (T st t) pb po cs Tp fp K (S (s || hits st sg t)) w (.returned x) w' := by
 have g2 := g.after ht hs;rw [T_eq, hits_eq, ← Bool.or_assoc, ← hs1];exact ⟨⟨_, rfl⟩, g2.2⟩
section
variable {fn : FuncId} {vt : TypeId} {recv : Value} {st : Tr → Tr} {sg : Tr → Bool} {K : Nat → Prop} {S : Bool → World → Prop} {P : Tr → Prop}
set_option maxHeartbeats 6400000 in
set_option maxRecDepth 100000 in
theorem walk_leaf (hd : Door vt recv fn) (hv : VisOk fn recv st sg K S P) (t : Tr) (hp : P { t with kids := Ts st t.kids }) (ty hh : Nat) (hkk : t.kids = [])
 (hk : t.kind = 1 ∧ ty = 141 ∧ hh = 0 ∨ t.kind = 2 ∧ ty = 144 ∧ hh = 0 ∨ t.kind = 3 ∧ ty = 147 ∧ hh = 0 ∨ t.kind = 4 ∧ ty = 150 ∧ hh = 0 ∨ t.kind = 5 ∧ ty = 153 ∧ hh = 0 ∨ t.kind = 6 ∧ ty = 156 ∧ hh = 0 ∨ t.kind = 17 ∧ ty = 166 ∧ hh = 0) : WalkOk vt recv st sg K S t := by
 intro v fp pb po cs Tp w s hP hS;have r0 : w.cell? ⟨pb, po, none⟩ = some v := by rw [hP.lb.cell]; exact hP.get
 have g0 := hP.lb.frozen; have z0 := hP.lb.lt; have hd1 := hd.find; have hd2 := hd.call;have htree := hP.tree;cases htree with
 |list t b f p q a c vs fs rb ms gs th ft ha hx hb hr hk2 h1 hm ht => exfalso; rcases hk with ⟨hk, -, -⟩ | ⟨hk, -, -⟩ | ⟨hk, -, -⟩ | ⟨hk, -, -⟩ | ⟨hk, -, -⟩ | ⟨hk, -, -⟩ | ⟨hk, -, -⟩ <;> (rw [hk] at ha; simp [listy] at ha)
 |const t b f p q a c vs rb ha hx hb hr hc => exfalso; rcases hk with ⟨hk, -, -⟩ | ⟨hk, -, -⟩ | ⟨hk, -, -⟩ | ⟨hk, -, -⟩ | ⟨hk, -, -⟩ | ⟨hk, -, -⟩ | ⟨hk, -, -⟩ <;> (rw [hk] at ha; simp at ha)
 |node t b f p q vs fs ha hx hb hks =>
  rw [show nv t.kind b = .iface ty (.pointer (some ⟨b, 0, none⟩)) by rcases hk with ⟨hk, rfl, rfl⟩ | ⟨hk, rfl, rfl⟩ | ⟨hk, rfl, rfl⟩ | ⟨hk, rfl, rfl⟩ | ⟨hk, rfl, rfl⟩ | ⟨hk, rfl, rfl⟩ | ⟨hk, rfl, rfl⟩ <;> (rw [hk]; rfl)] at r0
  have hgo : cs[po]? = some (nv t.kind b) := hP.get;have K0 := Kd.node hP hb hks;have HV := Lib.hid hv; have H1 := Lib.hid hp; have HA := Lib.hid ha; have HX := Lib.hid hx; have HG := Lib.hid hgo; have HKK := Lib.hid hkk;have HK0 := Lib.hid K0; have HS0 := Lib.hid hS;clear hP hS hx ha hks hb hv hp hgo K0 hd hkk;rcases hk with ⟨hk, rfl, rfl⟩ | ⟨hk, rfl, rfl⟩ | ⟨hk, rfl, rfl⟩ | ⟨hk, rfl, rfl⟩ | ⟨hk, rfl, rfl⟩ | ⟨hk, rfl, rfl⟩ | ⟨hk, rfl, rfl⟩
  all_goals
   clear hk;go_enter Try.func54, Try.ntmps54
   go_wp2_with fail
   have HE := Lib.hid (Kd.endNode (ks := Ts st t.kids) (by rw [HKK.out]; rw [HKK.out] at HK0; exact HK0.out) (by rw [Ts_eq, List.length_map]) HA.out HX.out HG.out);apply Calls.mono
   ·exact HV.out _ H1.out _ _ _ _ _ _ _ _ HE.out.1 HS0.out
   rintro e9 w9 h9;obtain ⟨x9, rfl⟩ := h9.1;have H9 := Lib.hid h9;clear h9;go_wp21;refine bodyPost_end (v := .tuple #[]) (by first | rfl | (simp [results, Try.results54, go_sem]; try rfl)) rfl ?_;exact Wd.finish HE.out.2.1 HE.out.2.2 H9.out (by rw [HKK.out]; simp [hitss, Bool.or_assoc]) _
set_option maxHeartbeats 6400000 in
set_option maxRecDepth 100000 in
theorem walk_one (hd : Door vt recv fn) (hv : VisOk fn recv st sg K S P) (t : Tr) (hp : P { t with kids := Ts st t.kids }) (ty hh : Nat) {k0 : Tr} (ih0 : WalkOk vt recv st sg K S k0) (hkk : t.kids = [k0])
 (hk : t.kind = 9 ∧ ty = 82 ∧ hh = 3 ∨ t.kind = 16 ∧ ty = 103 ∧ hh = 2) : WalkOk vt recv st sg K S t := by
 intro v fp pb po cs Tp w s hP hS;have r0 : w.cell? ⟨pb, po, none⟩ = some v := by rw [hP.lb.cell]; exact hP.get
 have g0 := hP.lb.frozen; have z0 := hP.lb.lt; have hd1 := hd.find; have hd2 := hd.call;have htree := hP.tree;cases htree with
 |list t b f p q a c vs fs rb ms gs th ft ha hx hb hr hk2 h1 hm ht => exfalso; rcases hk with ⟨hk, -, -⟩ | ⟨hk, -, -⟩ <;> (rw [hk] at ha; simp [listy] at ha)
 |const t b f p q a c vs rb ha hx hb hr hc => exfalso; rcases hk with ⟨hk, -, -⟩ | ⟨hk, -, -⟩ <;> (rw [hk] at ha; simp at ha)
 |node t b f p q vs fs ha hx hb hks =>
  rw [show nv t.kind b = .iface ty (.pointer (some ⟨b, 0, none⟩)) by rcases hk with ⟨hk, rfl, rfl⟩ | ⟨hk, rfl, rfl⟩ <;> (rw [hk]; rfl)] at r0
  have hgo : cs[po]? = some (nv t.kind b) := hP.get;have K0 := Kd.node hP hb hks;have HV := Lib.hid hv; have H1 := Lib.hid hp; have HA := Lib.hid ha; have HX := Lib.hid hx; have HG := Lib.hid hgo; have HKK := Lib.hid hkk;have hl : (headX t f p q).length = hh := by rcases hk with ⟨hk, rfl, rfl⟩ | ⟨hk, rfl, rfl⟩ <;> simp [headX, headC, named, hk]
  have HL := Lib.hid hl;rw [hkk] at K0;have HK0 := Lib.hid K0; have HS0 := Lib.hid hS;clear hP hS hx ha hks hb hv hp hgo K0 hd hkk hl;rcases hk with ⟨hk, rfl, rfl⟩ | ⟨hk, rfl, rfl⟩
  all_goals
   clear hk;go_enter Try.func54, Try.ntmps54
   go_wp2_with fail
   obtain ⟨v0, f0, hv0, hf0, hp0⟩ := HK0.out.pos (i := 0) rfl;rw [HL.out] at hp0;have HP0 := Lib.hid hp0; have HVF0 := Lib.hid (And.intro hv0 hf0);clear hp0 hv0 hf0;apply Calls.mono
   ·exact ih0 _ _ _ _ _ _ _ _ HP0.out HS0.out
   rintro e1 w1 h1;obtain ⟨⟨x1, rfl⟩, hs1, v1', f1', hk1⟩ := HK0.out.step (i := 0) rfl HVF0.out.1 HVF0.out.2 h1 (by rw [HL.out]);have HK1 := Lib.hid hk1; have HS1 := Lib.hid hs1;clear hk1 hs1 h1
   go_wp2_with fail
   have HE := Lib.hid (Kd.endNode (ks := Ts st t.kids) (by rw [HKK.out]; simp only [Ts]; exact HK1.out) (by rw [Ts_eq, List.length_map]) HA.out HX.out HG.out);apply Calls.mono
   ·exact HV.out _ H1.out _ _ _ _ _ _ _ _ HE.out.1 HS1.out
   rintro e9 w9 h9;obtain ⟨x9, rfl⟩ := h9.1;have H9 := Lib.hid h9;clear h9;go_wp21;refine bodyPost_end (v := .tuple #[]) (by first | rfl | (simp [results, Try.results54, go_sem]; try rfl)) rfl ?_;exact Wd.finish HE.out.2.1 HE.out.2.2 H9.out (by rw [HKK.out]; simp [hitss, Bool.or_assoc]) _
set_option maxHeartbeats 6400000 in
set_option maxRecDepth 100000 in
theorem walk_two (hd : Door vt recv fn) (hv : VisOk fn recv st sg K S P) (t : Tr) (hp : P { t with kids := Ts st t.kids }) (ty hh : Nat) {k0 : Tr} (ih0 : WalkOk vt recv st sg K S k0) {k1 : Tr} (ih1 : WalkOk vt recv st sg K S k1) (hkk : t.kids = [k0, k1])
 (hk : t.kind = 10 ∧ ty = 85 ∧ hh = 3 ∨ t.kind = 19 ∧ ty = 108 ∧ hh = 3 ∨ t.kind = 12 ∧ ty = 91 ∧ hh = 2 ∨ t.kind = 23 ∧ ty = 119 ∧ hh = 2) : WalkOk vt recv st sg K S t := by
 intro v fp pb po cs Tp w s hP hS;have r0 : w.cell? ⟨pb, po, none⟩ = some v := by rw [hP.lb.cell]; exact hP.get
 have g0 := hP.lb.frozen; have z0 := hP.lb.lt; have hd1 := hd.find; have hd2 := hd.call;have htree := hP.tree;cases htree with
 |list t b f p q a c vs fs rb ms gs th ft ha hx hb hr hk2 h1 hm ht => exfalso; rcases hk with ⟨hk, -, -⟩ | ⟨hk, -, -⟩ | ⟨hk, -, -⟩ | ⟨hk, -, -⟩ <;> (rw [hk] at ha; simp [listy] at ha)
 |const t b f p q a c vs rb ha hx hb hr hc => exfalso; rcases hk with ⟨hk, -, -⟩ | ⟨hk, -, -⟩ | ⟨hk, -, -⟩ | ⟨hk, -, -⟩ <;> (rw [hk] at ha; simp at ha)
 |node t b f p q vs fs ha hx hb hks =>
  rw [show nv t.kind b = .iface ty (.pointer (some ⟨b, 0, none⟩)) by rcases hk with ⟨hk, rfl, rfl⟩ | ⟨hk, rfl, rfl⟩ | ⟨hk, rfl, rfl⟩ | ⟨hk, rfl, rfl⟩ <;> (rw [hk]; rfl)] at r0
  have hgo : cs[po]? = some (nv t.kind b) := hP.get;have K0 := Kd.node hP hb hks;have HV := Lib.hid hv; have H1 := Lib.hid hp; have HA := Lib.hid ha; have HX := Lib.hid hx; have HG := Lib.hid hgo; have HKK := Lib.hid hkk;have hl : (headX t f p q).length = hh := by rcases hk with ⟨hk, rfl, rfl⟩ | ⟨hk, rfl, rfl⟩ | ⟨hk, rfl, rfl⟩ | ⟨hk, rfl, rfl⟩ <;> simp [headX, headC, named, hk]
  have HL := Lib.hid hl;rw [hkk] at K0;have HK0 := Lib.hid K0; have HS0 := Lib.hid hS;clear hP hS hx ha hks hb hv hp hgo K0 hd hkk hl;rcases hk with ⟨hk, rfl, rfl⟩ | ⟨hk, rfl, rfl⟩ | ⟨hk, rfl, rfl⟩ | ⟨hk, rfl, rfl⟩
  all_goals
   clear hk;go_enter Try.func54, Try.ntmps54
   go_wp2_with fail
   obtain ⟨v0, f0, hv0, hf0, hp0⟩ := HK0.out.pos (i := 0) rfl;rw [HL.out] at hp0;have HP0 := Lib.hid hp0; have HVF0 := Lib.hid (And.intro hv0 hf0);clear hp0 hv0 hf0;apply Calls.mono
   ·exact ih0 _ _ _ _ _ _ _ _ HP0.out HS0.out
   rintro e1 w1 h1;obtain ⟨⟨x1, rfl⟩, hs1, v1', f1', hk1⟩ := HK0.out.step (i := 0) rfl HVF0.out.1 HVF0.out.2 h1 (by rw [HL.out]);have HK1 := Lib.hid hk1; have HS1 := Lib.hid hs1;clear hk1 hs1 h1
   go_wp2_with fail
   obtain ⟨v1, f1, hv1, hf1, hp1⟩ := HK1.out.pos (i := 1) rfl;rw [HL.out] at hp1;have HP1 := Lib.hid hp1; have HVF1 := Lib.hid (And.intro hv1 hf1);clear hp1 hv1 hf1;apply Calls.mono
   ·exact ih1 _ _ _ _ _ _ _ _ HP1.out HS1.out
   rintro e2 w2 h2;obtain ⟨⟨x2, rfl⟩, hs2, v2', f2', hk2⟩ := HK1.out.step (i := 1) rfl HVF1.out.1 HVF1.out.2 h2 (by rw [HL.out]);have HK2 := Lib.hid hk2; have HS2 := Lib.hid hs2;clear hk2 hs2 h2
   go_wp2_with fail
   have HE := Lib.hid (Kd.endNode (ks := Ts st t.kids) (by rw [HKK.out]; simp only [Ts]; exact HK2.out) (by rw [Ts_eq, List.length_map]) HA.out HX.out HG.out);apply Calls.mono
   ·exact HV.out _ H1.out _ _ _ _ _ _ _ _ HE.out.1 HS2.out
   rintro e9 w9 h9;obtain ⟨x9, rfl⟩ := h9.1;have H9 := Lib.hid h9;clear h9;go_wp21;refine bodyPost_end (v := .tuple #[]) (by first | rfl | (simp [results, Try.results54, go_sem]; try rfl)) rfl ?_;exact Wd.finish HE.out.2.1 HE.out.2.2 H9.out (by rw [HKK.out]; simp [hitss, Bool.or_assoc]) _
set_option maxHeartbeats 6400000 in
set_option maxRecDepth 100000 in
theorem walk_three (hd : Door vt recv fn) (hv : VisOk fn recv st sg K S P) (t : Tr) (hp : P { t with kids := Ts st t.kids }) (ty hh : Nat) {k0 : Tr} (ih0 : WalkOk vt recv st sg K S k0) {k1 : Tr} (ih1 : WalkOk vt recv st sg K S k1) {k2 : Tr} (ih2 : WalkOk vt recv st sg K S k2) (hkk : t.kids = [k0, k1, k2])
 (hk : t.kind = 18 ∧ ty = 105 ∧ hh = 3) : WalkOk vt recv st sg K S t := by
 intro v fp pb po cs Tp w s hP hS;have r0 : w.cell? ⟨pb, po, none⟩ = some v := by rw [hP.lb.cell]; exact hP.get
 have g0 := hP.lb.frozen; have z0 := hP.lb.lt; have hd1 := hd.find; have hd2 := hd.call;have htree := hP.tree;cases htree with
 |list t b f p q a c vs fs rb ms gs th ft ha hx hb hr hk2 h1 hm ht => exfalso; rcases hk with ⟨hk, -, -⟩ <;> (rw [hk] at ha; simp [listy] at ha)
 |const t b f p q a c vs rb ha hx hb hr hc => exfalso; rcases hk with ⟨hk, -, -⟩ <;> (rw [hk] at ha; simp at ha)
 |node t b f p q vs fs ha hx hb hks =>
  rw [show nv t.kind b = .iface ty (.pointer (some ⟨b, 0, none⟩)) by rcases hk with ⟨hk, rfl, rfl⟩ <;> (rw [hk]; rfl)] at r0
  have hgo : cs[po]? = some (nv t.kind b) := hP.get;have K0 := Kd.node hP hb hks;have HV := Lib.hid hv; have H1 := Lib.hid hp; have HA := Lib.hid ha; have HX := Lib.hid hx; have HG := Lib.hid hgo; have HKK := Lib.hid hkk;have hl : (headX t f p q).length = hh := by rcases hk with ⟨hk, rfl, rfl⟩ <;> simp [headX, headC, named, hk]
  have HL := Lib.hid hl;rw [hkk] at K0;have HK0 := Lib.hid K0; have HS0 := Lib.hid hS;clear hP hS hx ha hks hb hv hp hgo K0 hd hkk hl;rcases hk with ⟨hk, rfl, rfl⟩
  all_goals
   clear hk;go_enter Try.func54, Try.ntmps54
   go_wp2_with fail
   obtain ⟨v0, f0, hv0, hf0, hp0⟩ := HK0.out.pos (i := 0) rfl;rw [HL.out] at hp0;have HP0 := Lib.hid hp0; have HVF0 := Lib.hid (And.intro hv0 hf0);clear hp0 hv0 hf0;apply Calls.mono
   ·exact ih0 _ _ _ _ _ _ _ _ HP0.out HS0.out
   rintro e1 w1 h1;obtain ⟨⟨x1, rfl⟩, hs1, v1', f1', hk1⟩ := HK0.out.step (i := 0) rfl HVF0.out.1 HVF0.out.2 h1 (by rw [HL.out]);have HK1 := Lib.hid hk1; have HS1 := Lib.hid hs1;clear hk1 hs1 h1
   go_wp2_with fail
   obtain ⟨v1, f1, hv1, hf1, hp1⟩ := HK1.out.pos (i := 1) rfl;rw [HL.out] at hp1;have HP1 := Lib.hid hp1; have HVF1 := Lib.hid (And.intro hv1 hf1);clear hp1 hv1 hf1;apply Calls.mono
   ·exact ih1 _ _ _ _ _ _ _ _ HP1.out HS1.out
   rintro e2 w2 h2;obtain ⟨⟨x2, rfl⟩, hs2, v2', f2', hk2⟩ := HK1.out.step (i := 1) rfl HVF1.out.1 HVF1.out.2 h2 (by rw [HL.out]);have HK2 := Lib.hid hk2; have HS2 := Lib.hid hs2;clear hk2 hs2 h2
   go_wp2_with fail
   obtain ⟨v2, f2, hv2, hf2, hp2⟩ := HK2.out.pos (i := 2) rfl;rw [HL.out] at hp2;have HP2 := Lib.hid hp2; have HVF2 := Lib.hid (And.intro hv2 hf2);clear hp2 hv2 hf2;apply Calls.mono
   ·exact ih2 _ _ _ _ _ _ _ _ HP2.out HS2.out
   rintro e3 w3 h3;obtain ⟨⟨x3, rfl⟩, hs3, v3', f3', hk3⟩ := HK2.out.step (i := 2) rfl HVF2.out.1 HVF2.out.2 h3 (by rw [HL.out]);have HK3 := Lib.hid hk3; have HS3 := Lib.hid hs3;clear hk3 hs3 h3
   go_wp2_with fail
   have HE := Lib.hid (Kd.endNode (ks := Ts st t.kids) (by rw [HKK.out]; simp only [Ts]; exact HK3.out) (by rw [Ts_eq, List.length_map]) HA.out HX.out HG.out);apply Calls.mono
   ·exact HV.out _ H1.out _ _ _ _ _ _ _ _ HE.out.1 HS3.out
   rintro e9 w9 h9;obtain ⟨x9, rfl⟩ := h9.1;have H9 := Lib.hid h9;clear h9;go_wp21;refine bodyPost_end (v := .tuple #[]) (by first | rfl | (simp [results, Try.results54, go_sem]; try rfl)) rfl ?_;exact Wd.finish HE.out.2.1 HE.out.2.2 H9.out (by rw [HKK.out]; simp [hitss, Bool.or_assoc]) _
end
end
end Go.Proofs.Ytafhhdimjkgihaa.Mn
