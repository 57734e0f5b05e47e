/- What the program does, function by function, and what trees mean: part 12. -/
import Derived.KernelRfl
import Derived.Test.YtafhhdimjkgihaaM11
import Derived.Test.YtafhhdimjkgihaaM01
set_option linter.unusedSimpArgs false
set_option linter.unusedVariables false
namespace Go.Proofs.Ytafhhdimjkgihaa.Mn
section
attribute [local go_sem ↓] Go.wp_at_zero Go.wp_at_succ
open Go.RowKit
theorem strike_parts {t : Tr} (h : strike t = t) : (named t.kind = false → t.name = []) ∧ (t.kind ≠ 3 → t.int = 0) ∧ (t.kind ≠ 4 → t.flt = 0) ∧ (¬ (t.kind = 5 ∨ t.kind = 12 ∨ t.kind = 15 ∨ t.kind = 18) → t.flag = false) ∧ (t.kind ≠ 12 → t.method = false) ∧ (t.kind ≠ 15 → t.limited = false) ∧ (¬ (t.kind = 15 ∧ t.limited = true) → t.limit = 0) ∧ (t.kind ≠ 15 → t.map = []) := by
 refine ⟨fun g => ?_, fun g => ?_, fun g => ?_, fun g => ?_, fun g => ?_, fun g => ?_, fun g => ?_, fun g => ?_⟩
 ·have := congrArg Tr.name h; simp only [strike, g] at this; exact this.symm
 ·have := congrArg Tr.int h; simp only [strike] at this; rw [if_neg g] at this; exact this.symm
 ·have := congrArg Tr.flt h; simp only [strike] at this; rw [if_neg g] at this; exact this.symm
 ·have := congrArg Tr.flag h; simp only [strike] at this; rw [if_neg g] at this; exact this.symm
 ·have := congrArg Tr.method h; simp only [strike] at this; rw [if_neg g] at this; exact this.symm
 ·have := congrArg Tr.limited h; simp only [strike] at this; rw [if_neg g] at this; exact this.symm
 ·have := congrArg Tr.limit h; simp only [strike] at this; rw [if_neg g] at this; exact this.symm
 ·have := congrArg Tr.map h; simp only [strike] at this; rw [if_neg g] at this; exact this.symm
def okk (k : Int) : Prop := k = 1 ∨ k = 2 ∨ k = 3 ∨ k = 4 ∨ k = 5 ∨ k = 6 ∨ k = 8 ∨ k = 9 ∨ k = 10 ∨ k = 12 ∨ k = 15 ∨ k = 16 ∨ k = 17 ∨ k = 18 ∨ k = 19 ∨ k = 20 ∨ k = 21 ∨ k = 22 ∨ k = 23
theorem disp_set {k : Int} (hk : okk k) (n : Nat) (w : World) (b : Nat) : (method (n + 1) (pty k) (.pointer (some ⟨b, 0, none⟩)) "SetLocation").run Try.prog w = .ok (111, .pointer (some ⟨b, 0, none⟩)) w := by
 rcases hk with rfl | rfl | rfl | rfl | rfl | rfl | rfl | rfl | rfl | rfl | rfl | rfl | rfl | rfl | rfl | rfl | rfl | rfl | rfl <;> kernel_rfl
theorem disp_loc {k : Int} (hk : okk k) (n : Nat) (w : World) (b : Nat) : (method (n + 1) (pty k) (.pointer (some ⟨b, 0, none⟩)) "Location").run Try.prog w = .ok (110, .pointer (some ⟨b, 0, none⟩)) w := by
 rcases hk with rfl | rfl | rfl | rfl | rfl | rfl | rfl | rfl | rfl | rfl | rfl | rfl | rfl | rfl | rfl | rfl | rfl | rfl | rfl <;> kernel_rfl
theorem okk_ari {k : Int} {n : Nat} (h : ari k = some n) : okk k := by
 unfold ari at h; unfold okk
 split at h
 ·omega
 ·split at h
  ·omega
  ·split at h
   ·omega
   ·split at h
    ·omega
    ·cases h
theorem okk_listy {k : Int} (h : listy k = true) : okk k := by
 unfold listy at h; unfold okk;simp at h;omega
theorem IsA.place {w : World} {t : Tr} {v : Value} {fp : List Nat} (h : IsA w t v fp) (hn : fp.Nodup) : ∃ b rest p0 q0, okk t.kind ∧ v = nv t.kind b ∧ b ∈ fp ∧ I64 p0 ∧ I64 q0 ∧ Lb w b (.int .i64 p0 :: .int .i64 q0 :: rest) (sty t.kind) ∧
 ∀ w' p q, I64 p → I64 q → Lb w' b (.int .i64 p :: .int .i64 q :: rest) (sty t.kind) → (∀ x ∈ fp, x ≠ b → w'.heap[x]? = w.heap[x]?) → IsA w' t v fp := by
 cases h with
 |node t b f p q vs fs ha hx hb hk =>
  refine ⟨b, _, p, q, okk_ari ha, rfl, by simp, hx.hp, hx.hq, hb, fun w' p' q' hp' hq' hb' he => ?_⟩;simp only [List.append_nil, List.cons_append, List.nil_append, List.nodup_cons] at hn;exact .node t b f p' q' vs fs ha ⟨hx.hn, hx.hf, hx.hi, hx.hl, hp', hq', hx.ht, hx.hk⟩ hb' (hk.same fun x hx2 => he x (by simp [hx2]) fun e => hn.1 (e ▸ hx2))
 |list t b f p q a c vs fs rb ms gs th ft ha hx hb hr hk h1 hm ht =>
  refine ⟨b, _, p, q, okk_listy ha, rfl, by simp, hx.hp, hx.hq, hb, fun w' p' q' hp' hq' hb' he => ?_⟩;simp only [List.cons_append, List.nodup_cons, List.mem_append, not_or] at hn;obtain ⟨⟨⟨n1, n2⟩, n3, n4⟩, _⟩ := hn;exact .list t b f p' q' a c vs fs rb ms gs th ft ha ⟨hx.hn, hx.hf, hx.hi, hx.hl, hp', hq', hx.ht, hx.hk⟩ hb' (hr.same fun x hx2 => he x (by simp [hx2]) fun e => n1 (e ▸ hx2)) (hk.same fun x hx2 => he x (by simp only [List.mem_append]; exact .inl (.inr hx2)) fun e => n2 (e ▸ hx2)) h1
   (hm.same fun x hx2 => he x (by simp only [List.mem_append]; exact .inr (.inl hx2)) fun e => n3 (e ▸ hx2)) (ht.same fun x hx2 => he x (by simp [hx2]) fun e => n4 (e ▸ hx2))
 |const t b f p q a c vs rb ha hx hb hr hc =>
  refine ⟨b, _, p, q, by unfold okk; omega, rfl, by simp, hx.hp, hx.hq, hb, fun w' p' q' hp' hq' hb' he => ?_⟩;simp only [List.nodup_cons] at hn;exact .const t b f p' q' a c vs rb ha ⟨hx.hn, hx.hf, hx.hi, hx.hl, hp', hq', hx.ht, hx.hk⟩ hb' (hr.same fun x hx2 => he x (by simp [hx2]) fun e => hn.1 (e ▸ hx2)) hc
set_option maxHeartbeats 1600000 in
set_option maxRecDepth 100000 in
theorem made_step (t : Tr) (ih : MadeOk 53 t) : MadeOk 34 t := by
 intro hW k f a c a' c' p q w ht;have HI := Lib.hid (ih hW); have HT := Lib.hid ht; have HPQ := Lib.hid ht.pq;clear ih hW ht;go_enter Try.func34, Try.ntmps34
 go_wp2_with fail
 apply Calls.mono
 ·exact HI.out k f a c a' c' p q _ (HT.out.ext (.of (by go_grown)) (Nat.le_refl _))
 rintro e1 w1 ⟨ty, pv, fp, rfl, hb1, hi1, hn1, hg1⟩;obtain ⟨b, rest, p0, q0, hok, hv, hbf, hp0, hq0, hL, hput⟩ := hi1.place hn1;simp only [nv, Value.iface.injEq] at hv;obtain ⟨rfl, rfl⟩ := hv;have L0 : Lb w1 w.heap.size (tcells t f a c a' c' p q) 25 := (Lb.new' w (tcells t f a c a' c' p q) 25 rfl).below hb1 (by simp);have hd1 := fun n w => disp_set hok n w b;have hB1 : Below w.heap.size w w1 := Below.trans (by go_grown) (hb1.mono (by simp));have hg2 : ∀ y ∈ fp, w.heap.size ≤ y := fun y hy => by have := hg1 y hy; simp at this; omega
 have r0 := L0.cell; have z0 := L0.lt;unfold tcells at r0;have HL := Lib.hid hL; have HPUT := Lib.hid hput; have HB := Lib.hid hB1; have HG := Lib.hid hg2; have HN := Lib.hid hn1; have HI1 := Lib.hid hi1; have HBF := Lib.hid hbf; have HG1 := Lib.hid hg1;clear hL hput hB1 hg2 hn1 hi1 L0 hb1 hg1 hok hp0 hq0 hbf
 go_wp2_with fail
 apply Calls.mono
 ·exact setloc_any b _ _ rest _ p q _ HL.out
 rintro e2 w2 ⟨⟨x2, rfl⟩, hE, hL2⟩;have HR := Lib.hid (show Md t w (.returned (.iface (pty (nrm t).kind) (.pointer (some ⟨b, 0, none⟩)))) w2 from by
  refine ⟨_, _, fp, rfl, HB.out.trans ⟨hE.os, hE.tape, hE.output, hE.size, fun x hx => hE.block x (Nat.lt_of_lt_of_le hx HB.out.size) ?_⟩, HPUT.out w2 p q HPQ.out.1 HPQ.out.2 hL2 fun x hx hne => hE.block x (HI1.out.lt x hx) hne, HN.out, HG.out⟩;have := HG.out b HBF.out;omega)
 clear hE hL2;go_wp21;go_ret;exact HR.out
mutual
theorem made_ok : (t : Tr) → MadeOk 34 t
 |⟨a, b, c, d, e, f, g, h, ks, ms⟩ => made_step _ (bare_any _ fun x hx => mades_ok ks x hx)
theorem mades_ok : (l : List Tr) → ∀ x ∈ l, MadeOk 34 x
 |[] => fun x h => by cases h
 |v :: l => fun x h => by
  rcases List.mem_cons.1 h with h | h
  ·rw [h]; exact made_ok v
  ·exact mades_ok l x h
end
end
section
def Rl (k : Bool) {α : Type} (r r' : Option α) : Prop := r = r' ∨ (k = true ∧ r = none)
theorem Rl.refl {k : Bool} {α : Type} (r : Option α) : Rl k r r := .inl rfl
theorem Rl.bind {k : Bool} {α β : Type} {r r' : Option α} {f f' : α → Option β} (h : Rl k r r') (hf : ∀ v, Rl k (f v) (f' v)) : Rl k (r.bind f) (r'.bind f') := by
 rcases h with rfl | ⟨hk, rfl⟩
 ·cases r with
  |none => exact .refl _
  |some a => exact hf a
 ·exact .inr ⟨hk, rfl⟩
theorem Rl.both {k : Bool} {α β : Type} {r r' : Option α} {q q' : Option β} (h : Rl k r r') (hq : Rl k q q') : Rl k (pr r q) (pr r' q') := by
 rcases h with rfl | ⟨hk, rfl⟩
 ·rcases hq with rfl | ⟨hk, rfl⟩
  ·exact .refl _
  ·cases r <;> exact .inr ⟨hk, rfl⟩
 ·exact .inr ⟨hk, rfl⟩
theorem Rl.mono {α : Type} {r r' : Option α} (h : Rl false r r') : Rl true r r' := by
 rcases h with h | ⟨h, _⟩
 ·exact .inl h
 ·cases h
theorem Rl.trans {k : Bool} {α : Type} {a b c : Option α} (h : Rl k a b) (g : Rl k b c) : Rl k a c := by
 rcases h with rfl | ⟨hk, rfl⟩
 ·exact g
 ·exact .inr ⟨hk, rfl⟩
structure Ok (G : Vl → Prop) (env : Env) : Prop where
 names : ∀ p ∈ env.names, G p.2
 item : ∀ x i, env.item = some (x, i) → G x
theorem Ok.here {G : Vl → Prop} {env : Env} (h : Ok G env) {x : Vl} (i : Int) (hx : G x) : Ok G (here env x i) where
 names := h.names
 item := by rintro y j ⟨rfl, rfl⟩; exact hx
theorem Ok.with {G : Vl → Prop} {env : Env} (h : Ok G env) (n : Nm) {v : Vl} (hv : G v) : Ok G { env with names := env.names ++ [(n, v)] } where
 names := by
  intro p hp;simp only [List.mem_append, List.mem_cons, List.not_mem_nil, or_false] at hp;rcases hp with hp | rfl
  ·exact h.names p hp
  ·exact hv
 item := h.item
def Rf (k : Bool) (G : Vl → Prop) (f f' : Env → Option Vl) : Prop := ∀ env, Ok G env → Rl k (f env) (f' env)
theorem Rf.refl {k : Bool} {G : Vl → Prop} (f : Env → Option Vl) : Rf k G f f := fun _ _ => .refl _
theorem Rf.trans {k : Bool} {G : Vl → Prop} {a b c : Env → Option Vl} (h : Rf k G a b) (g : Rf k G b c) : Rf k G a c := fun env he => (h env he).trans (g env he)
inductive Ro (k : Bool) (G : Vl → Prop) : Option (Env → Option Vl) → Option (Env → Option Vl) → Prop
 |none : Ro k G none none
 |some {f f'} (h : Rf k G f f') : Ro k G (some f) (some f')
inductive Rp (k : Bool) (G : Vl → Prop) : Option ((Env → Option Vl) × (Env → Option Vl)) → Option ((Env → Option Vl) × (Env → Option Vl)) → Prop
 |none : Rp k G none none
 |some {f f' g g'} (h : Rf k G f f') (h' : Rf k G g g') : Rp k G (some (f, g)) (some (f', g'))
structure Rd (k : Bool) (G : Vl → Prop) (d d' : Dn) : Prop where
 val : Rf k G d.val d'.val
 body : Ro k G d.body d'.body
 pair : Rp k G d.pair d'.pair
theorem Ro.refl {k : Bool} {G : Vl → Prop} (o : Option (Env → Option Vl)) : Ro k G o o := by
 cases o
 ·exact .none
 ·exact .some (.refl _)
theorem Rp.refl {k : Bool} {G : Vl → Prop} (o : Option ((Env → Option Vl) × (Env → Option Vl))) : Rp k G o o := by
 rcases o with _ | ⟨a, b⟩
 ·exact .none
 ·exact .some (.refl _) (.refl _)
theorem Ro.trans {k : Bool} {G : Vl → Prop} {a b c : Option (Env → Option Vl)} (h : Ro k G a b) (g : Ro k G b c) : Ro k G a c := by
 cases h with
 |none => cases g; exact .none
 |some h => cases g with
  |some g => exact .some (h.trans g)
theorem Rp.trans {k : Bool} {G : Vl → Prop} {a b c : Option ((Env → Option Vl) × (Env → Option Vl))} (h : Rp k G a b) (g : Rp k G b c) : Rp k G a c := by
 cases h with
 |none => cases g; exact .none
 |some h h' => cases g with
  |some g g' => exact .some (h.trans g) (h'.trans g')
theorem Rd.refl {k : Bool} {G : Vl → Prop} (d : Dn) : Rd k G d d := ⟨.refl _, .refl _, .refl _⟩
theorem Rd.trans {k : Bool} {G : Vl → Prop} {a b c : Dn} (h : Rd k G a b) (g : Rd k G b c) : Rd k G a c := ⟨h.val.trans g.val, h.body.trans g.body, h.pair.trans g.pair⟩
def Gives (G : Vl → Prop) (d : Dn) : Prop := ∀ env, Ok G env → ∀ v, d.val env = some v → G v
inductive Rs (k : Bool) (G : Vl → Prop) : List Dn → List Dn → Prop
 |nil : Rs k G [] []
 |cons {d d' l l'} (h : Rd k G d d') (hg : Gives G d) (hl : Rs k G l l') : Rs k G (d :: l) (d' :: l')
section
variable {k : Bool} {G : Vl → Prop}
theorem Rl.bindG {α β : Type} {P : α → Prop} {r r' : Option α} {f f' : α → Option β} (h : Rl k r r') (hg : ∀ v, r = some v → P v) (hf : ∀ v, P v → Rl k (f v) (f' v)) : Rl k (r.bind f) (r'.bind f') := by
 rcases h with rfl | ⟨hk, rfl⟩
 ·cases r with
  |none => exact .refl _
  |some a => exact hf a (hg a rfl)
 ·exact .inr ⟨hk, rfl⟩
theorem truth_rel {d d' : Env → Option Vl} (h : Rf k G d d') (env : Env) (he : Ok G env) : Rl k (truth d env) (truth d' env) := (h env he).bind fun _ => .refl _
theorem list_rel (env : Env) (he : Ok G env) {l l' : List Dn} (h : Rs k G l l') : Rl k (list env l) (list env l') := by
 induction h with
 |nil => exact .refl _
 |cons h _ _ ih => exact (h.val env he).bind fun v => ih.bind fun _ => .refl _
theorem pairs_rel (env : Env) (he : Ok G env) {l l' : List Dn} (h : Rs k G l l') : ∀ out, Rl k (pairs env out l) (pairs env out l') := by
 induction h with
 |nil => intro out; exact .refl _
 |@cons d d' l l' h _ _ ih =>
  intro out;have hp := h.pair;unfold pairs
  generalize d.pair = p at hp
  generalize d'.pair = p' at hp
  cases hp with
  |none => exact .refl _
  |some h1 h2 =>
   refine ((h1 env he).both (h2 env he)).bind fun x => ?_
   split
   ·exact ih _
   ·exact .refl _
theorem mapped_rel {p p' : Env → Option Vl} (h : Rf k G p p') (env : Env) (he : Ok G env) (l : List (Vl × Int)) (hl : ∀ x ∈ l, G x.1) : Rl k (mapped p env l) (mapped p' env l) := by
 induction l with
 |nil => exact .refl _
 |cons x l ih => exact (h _ (he.here _ (hl x (by simp)))).bind fun y => (ih fun z hz => hl z (by simp [hz])).bind fun _ => .refl _
structure Rc (k : Bool) (G : Vl → Prop) (c c' : Ch) : Prop where
 name : c.name = c'.name
 limited : c.limited = c'.limited
 limit : c.limit = c'.limit
 flag : c.flag = c'.flag
 map : Ro k G c.map c'.map
theorem chosen_rel {c c' : Ch} (hc : Rc k G c c') {p p' : Env → Option Vl} (h : Rf k G p p') (env : Env) (he : Ok G env) (l : List (Vl × Int)) (hl : ∀ x ∈ l, G x.1) :
 ∀ kept many, Rl k (chosen c p env l kept many) (chosen c' p' env l kept many) := by
 obtain ⟨n, li, lm, fl, m⟩ := c;obtain ⟨n', li', lm', fl', m'⟩ := c';obtain ⟨rfl, rfl, rfl, rfl, hm⟩ := hc;simp only at hm
 induction l with
 |nil => intro kept many; exact .refl _
 |cons x l ih =>
  intro kept many;have hx := he.here x.2 (hl x (by simp));have ih := ih fun z hz => hl z (by simp [hz]);obtain ⟨x, i⟩ := x;unfold chosen;refine (truth_rel h _ hx).bind fun is => ?_;simp only
  by_cases c1 : n = nm "all" ∧ is = false
  ·rw [if_pos c1, if_pos c1]; exact .refl _
  rw [if_neg c1, if_neg c1]
  by_cases c2 : n = nm "any" ∧ is = true
  ·rw [if_pos c2, if_pos c2]; exact .refl _
  rw [if_neg c2, if_neg c2]
  by_cases c3 : n = nm "none" ∧ is = true
  ·rw [if_pos c3, if_pos c3]; exact .refl _
  rw [if_neg c3, if_neg c3]
  by_cases c4 : is = false
  ·rw [if_pos c4, if_pos c4]; exact ih _ _
  rw [if_neg c4, if_neg c4]
  by_cases c5 : n = nm "find" ∨ n = nm "findLast"
  ·rw [if_pos c5, if_pos c5];cases hm with
   |none => exact .refl _
   |some hm => exact hm _ hx
  rw [if_neg c5, if_neg c5]
  by_cases c6 : n = nm "findIndex" ∨ n = nm "findLastIndex"
  ·rw [if_pos c6, if_pos c6]; exact .refl _
  rw [if_neg c6, if_neg c6]
  by_cases c7 : n = nm "count" ∧ li = true ∧ many + 1 ≥ lm
  ·rw [if_pos c7, if_pos c7]; exact .refl _
  rw [if_neg c7, if_neg c7];cases hm with
  |none => exact ih _ _
  |some hm => exact (hm _ hx).bind fun y => ih _ _
theorem zipIdx_mem {l : List Vl} {x : Vl × Int} (h : x ∈ zipIdx l) : x.1 ∈ l := by
 unfold zipIdx at h;obtain ⟨p, hp, rfl⟩ := List.mem_map.1 h;have := List.mem_zipIdx hp;simp only [Nat.zero_le, Nat.sub_zero, Nat.zero_add, true_and] at this;exact this.2 ▸ List.getElem_mem _
theorem order_mem {n : Nm} {l : List (Vl × Int)} {x : Vl × Int} (h : x ∈ order n l) : x ∈ l := by
 unfold order at h
 split at h
 ·simpa using h
 ·exact h
theorem builtin2_rel {c c' : Ch} (hc : Rc k G c c') {p p' : Env → Option Vl} (h : Rf k G p p') (env : Env) (he : Ok G env) (v : Vl) (hv : ∀ x ∈ v.items, G x) : Rl k (builtin2 c p env v) (builtin2 c' p' env v) := by
 unfold builtin2;have hn := hc.name;rw [← hn]
 by_cases c1 : c.name = nm "map"
 ·rw [if_pos c1, if_pos c1]; exact (mapped_rel h _ he _ fun x hx => hv _ (zipIdx_mem hx)).bind fun _ => .refl _
 rw [if_neg c1, if_neg c1]
 by_cases c2 : c.name = nm "sum"
 ·rw [if_pos c2, if_pos c2]; exact (mapped_rel h _ he _ fun x hx => hv _ (zipIdx_mem hx)).bind fun _ => .refl _
 rw [if_neg c2, if_neg c2]
 by_cases c3 : isChosen c.name = true
 ·rw [if_pos c3, if_pos c3]; exact chosen_rel hc h _ he _ (fun x hx => hv _ (zipIdx_mem (order_mem hx))) _ _
 rw [if_neg c3, if_neg c3]; exact .refl _
theorem blt_rel (hG : ∀ v, G v → ∀ x ∈ v.items, G x) {c c' : Ch} (hc : Rc k G c c') (env : Env) (he : Ok G env) {l l' : List Dn} (h : Rs k G l l') : Rl k (builtin c env l) (builtin c' env l') := by
 cases h with
 |nil => exact .refl _
 |@cons d d' l l' h hg hl =>
  cases hl with
  |nil =>
   unfold builtin;rw [hc.name];exact (h.val env he).bind fun _ => .refl _
  |@cons e e' l l' h2 hg2 hl =>
   unfold builtin;refine (h.val env he).bindG (hg env he) fun v gv => ?_;cases hl with
   |nil =>
    have hb := h2.body
    generalize e.body = p at hb
    generalize e'.body = p' at hb
    cases hb with
    |none => exact .refl _
    |some hb =>
     simp only
     split
     ·exact builtin2_rel hc hb _ he _ (hG v gv)
     ·exact .refl _
   |cons _ _ _ => exact .refl _
theorem binary_rel (name : Nm) (env : Env) (he : Ok G env) {l l' : List Dn} (h : Rs k G l l') : Rl k (binary name env l) (binary name env l') := by
 cases h with
 |nil => exact .refl _
 |@cons d d' l l' h _ hl =>
  cases hl with
  |nil => exact .refl _
  |@cons e e' l l' h2 _ hl =>
   cases hl with
   |cons _ _ _ => exact .refl _
   |nil =>
    unfold binary
    dsimp only
    by_cases c1 : name = nm "and" ∨ name = nm "&&" ∨ name = nm "or" ∨ name = nm "||"
    ·rw [if_pos c1, if_pos c1];refine (truth_rel h.val env he).bind fun x => ?_
     by_cases c2 : x = decide (name = nm "or" ∨ name = nm "||")
     ·rw [if_pos c2, if_pos c2]; exact .refl _
     ·rw [if_neg c2, if_neg c2]; exact (truth_rel h2.val env he).bind fun _ => .refl _
    rw [if_neg c1, if_neg c1]
    by_cases c2 : name = nm "??"
    ·rw [if_pos c2, if_pos c2];refine (h.val env he).bind fun x => ?_
     by_cases c3 : x.kind ≠ 0
     ·rw [if_pos c3, if_pos c3]; exact .refl _
     ·rw [if_neg c3, if_neg c3]; exact h2.val env he
    rw [if_neg c2, if_neg c2];exact ((h.val env he).both (h2.val env he)).bind fun _ => .refl _
theorem one_rel {ms ms' : List Dn} (h : Rs k G ms ms') : Ro k G (oneOf ms) (oneOf ms') := by
 cases h with
 |nil => exact .none
 |cons h _ hl =>
  cases hl with
  |nil => exact .some h.val
  |cons _ _ _ => exact .none
theorem two_rel {ms ms' : List Dn} (h : Rs k G ms ms') : Rp k G (twoOf ms) (twoOf ms') := by
 cases h with
 |nil => exact .none
 |cons h _ hl =>
  cases hl with
  |nil => exact .none
  |cons h2 _ hl =>
   cases hl with
   |nil => exact .some h.val h2.val
   |cons _ _ _ => exact .none
theorem sem_rel (hG : ∀ v, G v → ∀ x ∈ v.items, G x) (t : Tr) {ks ks' ms ms' : List Dn} (h : Rs k G ks ks') (hm : Rs k G ms ms') (env : Env) (he : Ok G env) : Rl k (sem t ks ms env) (sem t ks' ms' env) := by
 unfold sem
 by_cases c1 : t.kind = 1
 ·rw [if_pos c1, if_pos c1]; exact .refl _
 rw [if_neg c1, if_neg c1]
 by_cases c2 : t.kind = 2
 ·rw [if_pos c2, if_pos c2]; exact .refl _
 rw [if_neg c2, if_neg c2]
 by_cases c3 : t.kind = 3
 ·rw [if_pos c3, if_pos c3]; exact .refl _
 rw [if_neg c3, if_neg c3]
 by_cases c4 : t.kind = 4
 ·rw [if_pos c4, if_pos c4]; exact .refl _
 rw [if_neg c4, if_neg c4]
 by_cases c5 : t.kind = 5
 ·rw [if_pos c5, if_pos c5]; exact .refl _
 rw [if_neg c5, if_neg c5]
 by_cases c6 : t.kind = 6
 ·rw [if_pos c6, if_pos c6]; exact .refl _
 rw [if_neg c6, if_neg c6]
 by_cases c8 : t.kind = 8 ∨ t.kind = 21
 ·rw [if_pos c8, if_pos c8]; exact (list_rel env he h).bind fun _ => .refl _
 rw [if_neg c8, if_neg c8]
 by_cases c9 : t.kind = 9
 ·rw [if_pos c9, if_pos c9];cases h with
  |nil => exact .refl _
  |cons h _ hl =>
   cases hl with
   |nil => exact (h.val env he).bind fun _ => .refl _
   |cons _ _ _ => exact .refl _
 rw [if_neg c9, if_neg c9]
 by_cases c10 : t.kind = 10
 ·rw [if_pos c10, if_pos c10]; exact binary_rel _ _ he h
 rw [if_neg c10, if_neg c10]
 by_cases c12 : t.kind = 12
 ·rw [if_pos c12, if_pos c12];cases h with
  |nil => exact .refl _
  |cons h _ hl =>
   cases hl with
   |nil => exact .refl _
   |cons h2 _ hl =>
    cases hl with
    |cons _ _ _ => exact .refl _
    |nil =>
     by_cases cm : t.method = true
     ·simp only [cm, if_true]; exact .refl _
     ·simp only [cm, if_false]; exact ((h.val env he).both (h2.val env he)).bind fun _ => .refl _
 rw [if_neg c12, if_neg c12]
 by_cases c15 : t.kind = 15
 ·rw [if_pos c15, if_pos c15]; exact blt_rel hG (c := { name := t.name, limited := t.limited, limit := t.limit, flag := t.flag, map := oneOf ms }) (c' := { name := t.name, limited := t.limited, limit := t.limit, flag := t.flag, map := oneOf ms' }) ⟨rfl, rfl, rfl, rfl, one_rel hm⟩ env he h
 rw [if_neg c15, if_neg c15]
 by_cases c17 : t.kind = 17
 ·rw [if_pos c17, if_pos c17]; exact .refl _
 rw [if_neg c17, if_neg c17]
 by_cases c18 : t.kind = 18
 ·rw [if_pos c18, if_pos c18];cases h with
  |nil => exact .refl _
  |cons h _ hl =>
   cases hl with
   |nil => exact .refl _
   |cons h2 _ hl =>
    cases hl with
    |nil => exact .refl _
    |cons h3 _ hl =>
     cases hl with
     |cons _ _ _ => exact .refl _
     |nil =>
      refine (truth_rel h.val env he).bind fun x => ?_;cases x
      ·exact h3.val env he
      ·exact h2.val env he
 rw [if_neg c18, if_neg c18]
 by_cases c19 : t.kind = 19
 ·rw [if_pos c19, if_pos c19];cases h with
  |nil => exact .refl _
  |cons h hg hl =>
   cases hl with
   |nil => exact .refl _
   |cons h2 _ hl =>
    cases hl with
    |cons _ _ _ => exact .refl _
    |nil => exact (h.val env he).bindG (hg env he) fun v gv => h2.val _ (he.with _ gv)
 rw [if_neg c19, if_neg c19]
 by_cases c20 : t.kind = 20
 ·rw [if_pos c20, if_pos c20]; exact (list_rel env he h).bind fun _ => .refl _
 rw [if_neg c20, if_neg c20]
 by_cases c22 : t.kind = 22
 ·rw [if_pos c22, if_pos c22]; exact pairs_rel env he h _
 rw [if_neg c22, if_neg c22]; exact .refl _
theorem node_rel (hG : ∀ v, G v → ∀ x ∈ v.items, G x) (t : Tr) {ks ks' ms ms' : List Dn} (h : Rs k G ks ks') (hm : Rs k G ms ms') : Rd k G (node t ks ms) (node t ks' ms') where
 val := sem_rel hG t h hm
 body := by
  unfold node;simp only
  split
  ·exact one_rel h
  ·exact .none
 pair := by
  unfold node;simp only
  split
  ·exact two_rel h
  ·exact .none
end
mutual
def T (st : Tr → Tr) : Tr → Tr
 |⟨a, b, c, d, e, f, g, h, ks, ms⟩ => st ⟨a, b, c, d, e, f, g, h, Ts st ks, ms⟩
def Ts (st : Tr → Tr) : List Tr → List Tr
 |[] => []
 |k :: ks => T st k :: Ts st ks
end
theorem T_eq (st : Tr → Tr) (t : Tr) : T st t = st { t with kids := Ts st t.kids } := by cases t; rw [T]
theorem Ts_eq (st : Tr → Tr) (l : List Tr) : Ts st l = l.map (T st) := by
 induction l with
 |nil => rw [Ts]; rfl
 |cons a l ih => rw [Ts, ih]; rfl
theorem D_with (t : Tr) (ks : List Tr) : D { t with kids := ks } = node t (Ds ks) (Ds t.map) := by
 rw [D_eq];rfl
mutual
theorem T_rel {k : Bool} {G : Vl → Prop} (hG : ∀ v, G v → ∀ x ∈ v.items, G x) (st : Tr → Tr) (W : Tr → Prop) (hW : ∀ t, W t → ∀ x ∈ t.kids, W x)
 (hg : ∀ t, W t → Gives G (D t)) (hm : ∀ t, W t → t.map = [])
 (hst : ∀ t, W t → Rd k G (D { t with kids := Ts st t.kids }) (D (T st t))) : (t : Tr) → W t → Rd k G (D t) (D (T st t))
 |⟨a, b, c, d, e, f, g, h, ks, ms⟩, w => by
  refine Rd.trans ?_ (hst _ w);rw [D_eq ⟨a, b, c, d, e, f, g, h, ks, ms⟩, D_with];refine node_rel hG _ (Ts_rel hG st W hW hg hm hst ks fun x hx => hW _ w x hx) ?_;have := hm _ w;simp only at this;subst this;simp only [Ds];exact .nil
theorem Ts_rel {k : Bool} {G : Vl → Prop} (hG : ∀ v, G v → ∀ x ∈ v.items, G x) (st : Tr → Tr) (W : Tr → Prop) (hW : ∀ t, W t → ∀ x ∈ t.kids, W x)
 (hg : ∀ t, W t → Gives G (D t)) (hm : ∀ t, W t → t.map = [])
 (hst : ∀ t, W t → Rd k G (D { t with kids := Ts st t.kids }) (D (T st t))) : (l : List Tr) → (∀ x ∈ l, W x) → Rs k G (Ds l) (Ds (Ts st l))
 |[], _ => by rw [Ts]; simp only [Ds]; exact .nil
 |x :: l, w => by
  rw [Ts];simp only [Ds];exact .cons (T_rel hG st W hW hg hm hst x (w x (by simp))) (hg x (w x (by simp))) (Ts_rel hG st W hW hg hm hst l fun y hy => w y (by simp [hy]))
end
end
end Go.Proofs.Ytafhhdimjkgihaa.Mn
