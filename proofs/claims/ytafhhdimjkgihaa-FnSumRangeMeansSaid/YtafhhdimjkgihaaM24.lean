/- What the program does, function by function, and what trees mean: part 24. -/
import Derived.Deep.CutRange
import Derived.Test.YtafhhdimjkgihaaM22
import Derived.Test.YtafhhdimjkgihaaM23
set_option linter.unusedSimpArgs false
set_option linter.unusedVariables false
namespace Go.Proofs.Ytafhhdimjkgihaa.Mn
section
open Go.RowKit
theorem truth_sv {k K1 : Nat → Prop} {wk : Nat} {env env1 : Env} {m m1 : Nat} {an : Option Addr} {cn : Nat} {ai : Option Addr} {ni ci : Nat} {ai1 : Option Addr} {ni1 ci1 : Nat} {left0 : Int} {over0 : Bool} {w W w1 w' : World} {left : Int} {over : Bool} (hp : Pre k wk env m an cn ai ni ci left0 over0 w) (e0 : Ext (· = wk) w.heap.size w W) (h : Sv wk left over W w')
 (hm0 : over = false → (m1 : Int) + left ≤ room) (hK : ∀ b, k b → K1 b) (hK2 : ∀ b, K1 b → k b ∨ w.heap.size ≤ b) (hK3 : ∀ b, K1 b → b < w1.heap.size) (hsc : IsSc w1 K1 wk env1 m1 an cn ai1 ni1 ci1) (e1 : Below w1.heap.size w1 w') (hz : w.heap.size ≤ w1.heap.size)
 {t : Tr} (hok : EvalOk t) {f : Nat} {a : Option Addr} {c : Nat} {a' : Option Addr} {c' : Nat} {p q : Int} (ht : IsT w k t (tcells t f a c a' c' p q)) :
 Calls Try.prog 74 #[sa env1.names.length wk an cn ai1 ni1 ci1, ta t f a c a' c' p q] w' fun e w2 => ∃ is ok left2 over2, e = .returned (.tuple #[.bool is, .bool ok]) ∧ Ext (· = wk) w'.heap.size w' w2 ∧ Work w2 wk left2 over2 ∧ (over2 = false → over = false ∧ left2 ≤ left) ∧
  (over2 = false → truth (D t).val env1 = if ok then some is else none) ∧ Sv wk left over W w2 := by
 obtain ⟨left', over', hw, hm⟩ := h.work;have e2 : Ext (· = wk) w.heap.size w w' := e0.trans (h.p.mono e0.size);have hx : ∀ b, (K1 b ∨ w1.heap.size ≤ b ∧ b < w'.heap.size) → K1 b ∨ w1.heap.size ≤ b := fun b h => h.imp id (·.1);have z1 := e1.size;have hP : Pre (fun b => K1 b ∨ w1.heap.size ≤ b ∧ b < w'.heap.size) wk env1 m1 an cn ai1 ni1 ci1 left' over' w' := ⟨.inl (hK _ hp.kw), fun b h => by rcases h with h | h; (have := hK3 b h; omega); exact h.2, (hsc.other hx).ext (.of e1) (Nat.le_refl _), hw, fun ho => by have h1 := hm ho; have h2 := hm0 h1.1; omega⟩
 have hT : IsT w' (fun b => K1 b ∨ w1.heap.size ≤ b ∧ b < w'.heap.size) t (tcells t f a c a' c' p q) := (ht.other (fun b h => by
  rcases h with h | h
  ·exact hK2 b h
  ·exact .inr (Nat.le_trans hz h.1))).ext (e2.weak fun b hb => by rw [hb]; exact .inl (hK _ hp.kw)) (Nat.le_refl _)
 refine (truth_any t hok _ _ _ _ _ _ _ _ _ _ _ _ _ _ _ _ _ _ _ hP hT).mono ?_;rintro e w2 ⟨is, ok, left2, over2, he, hE, hW2, hm2, hr2⟩;have hm3 := mono_trans hm hm2;exact ⟨is, ok, left2, over2, he, hE, hW2, hm3, hr2, h.call hE hW2 hm3⟩
def backs (n : Nm) : Bool := decide (n = nm "findLast" ∨ n = nm "findLastIndex")
def place (n : Nm) (l : List Vl) (q : Nat) : Nat := if backs n then l.length - 1 - q else q
theorem order_get (n : Nm) (l : List Vl) (q : Nat) (hq : q < l.length) : ∃ x, l[place n l q]? = some x ∧ (order n (zipIdx l))[q]? = some (x, (place n l q : Int)) := by
 by_cases hb : n = nm "findLast" ∨ n = nm "findLastIndex"
 ·have hp : place n l q = l.length - 1 - q := by unfold place backs; rw [decide_eq_true hb]; rfl
  have hx : l[l.length - 1 - q]? = some l[l.length - 1 - q] := List.getElem?_eq_getElem (by omega);refine ⟨l[l.length - 1 - q], by rw [hp]; exact hx, ?_⟩;rw [order, if_pos hb, List.getElem?_reverse (by rw [zip_length]; exact hq), zip_length, hp];exact zip_get l _ _ hx
 ·have hp : place n l q = q := by unfold place backs; rw [decide_eq_false hb]; rfl
  refine ⟨l[q], by rw [hp]; exact List.getElem?_eq_getElem hq, ?_⟩;rw [order, if_neg hb, hp];exact zip_get l _ _ (List.getElem?_eq_getElem hq)
theorem order_length (n : Nm) (l : List Vl) : (order n (zipIdx l)).length = l.length := by
 unfold order; split
 ·rw [List.length_reverse, zip_length]
 ·exact zip_length l
structure F4 (w0 : World) (wk : Nat) (l0 l1 l2 l3 : List Value) (t0 t1 t2 t3 : TypeId) (w : World) : Prop where
 f : F3 w0 wk l0 l1 l2 t0 t1 t2 w
 b3 : Lb w (w0.heap.size + 1 + 1 + 1) l3 t3
structure Cr (k : Nat → Prop) (wk : Nat) (env : Env) (sc nn tn : List Value) (ch : Ch) (l : List Vl) (d : Env → Option Vl) (left : Int) (w : World) (q : Nat) (A : Option Addr) (n cap : Nat) (ocs : List Value) (ys : List Vl) (many : Nat) (left' : Int) (over' : Bool) (wr : World) : Prop where
 f : F3 w wk sc nn tn 62 25 25 wr
 r : Lb wr (w.heap.size + 1 + 1 + 1) zcells 39
 o : Lb wr (w.heap.size + 1 + 1 + 1 + 1) (lcells A n cap) 39
 work : Work wr wk left' over'
 mono : over' = false → left' ≤ left
 own : wr.ownsRow (w.heap.size + 1 + 1 + 1 + 1 + 1) 39 7 (.slice A n cap) n ocs
 vs : IsVs wr (Xs (fun b => k b ∨ b = w.heap.size + 1 + 1 + 1 ∨ b = w.heap.size + 1 + 1 + 1 + 1) A) ys ocs
 len : ys.length = n
 nq : n ≤ q
 mq : many ≤ q
 mean : over' = false → chosen ch d env (order ch.name (zipIdx l)) [] 0 = chosen ch d env ((order ch.name (zipIdx l)).drop q) ys many
theorem Cr.ext {k : Nat → Prop} {wk : Nat} {env : Env} {sc nn tn : List Value} {ch : Ch} {l : List Vl} {d : Env → Option Vl} {left : Int} {w : World} {q : Nat} {A : Option Addr} {n cap : Nat} {ocs : List Value} {ys : List Vl} {many : Nat} {left' : Int} {over' : Bool} {wr w1 : World} (h : Cr k wk env sc nn tn ch l d left w q A n cap ocs ys many left' over' wr) (hk : k wk) (zk : wk < w.heap.size)
 (e : Ext (· = wk) wr.heap.size wr w1) {left2 : Int} {over2 : Bool} (hw : Work w1 wk left2 over2) (hm : over2 = false → over' = false ∧ left2 ≤ left') : Cr k wk env sc nn tn ch l d left w q A n cap ocs ys many left2 over2 w1 where
 f := h.f.call e zk
 r := h.r.ext e h.r.lt (by omega)
 o := h.o.ext e h.o.lt (by omega)
 work := hw
 mono := fun ho => by have h1 := hm ho; have h2 := h.mono h1.1; omega
 own := own_ext h.own e (Nat.le_refl _) (fun b hb => by omega)
 vs := h.vs.ext (e.weak fun b hb => by rw [hb]; exact .inl (.inl hk)) (Nat.le_refl _)
 len := h.len
 nq := h.nq
 mq := h.mq
 mean := fun ho => h.mean (hm ho).1
theorem Cr.next {k : Nat → Prop} {wk : Nat} {env : Env} {sc nn tn : List Value} {ch : Ch} {l : List Vl} {d : Env → Option Vl} {left : Int} {w : World} {q : Nat} {A : Option Addr} {n cap : Nat} {ocs : List Value} {ys : List Vl} {many : Nat} {left' : Int} {over' : Bool} {wr : World} (h : Cr k wk env sc nn tn ch l d left w q A n cap ocs ys many left' over' wr)
 (hm : over' = false → chosen ch d env ((order ch.name (zipIdx l)).drop q) ys many = chosen ch d env ((order ch.name (zipIdx l)).drop (q + 1)) ys many) : Cr k wk env sc nn tn ch l d left w (q + 1) A n cap ocs ys many left' over' wr :=
 { h with nq := by have := h.nq; omega, mq := by have := h.mq; omega, mean := fun ho => (h.mean ho).trans (hm ho) }
theorem Cr.append {k : Nat → Prop} {wk : Nat} {env : Env} {sc nn tn : List Value} {ch : Ch} {l : List Vl} {d : Env → Option Vl} {left : Int} {w : World} {q : Nat} {A : Option Addr} {n cap : Nat} {ocs : List Value} {ys : List Vl} {many : Nat} {left' : Int} {over' : Bool} {wr w1 w3 : World} (h : Cr k wk env sc nn tn ch l d left w q A n cap ocs ys many left' over' wr) (zk : wk < w.heap.size)
 {y : Vl} {cs : List Value} (hV : IsV wr (Xs (fun b => k b ∨ b = w.heap.size + 1 + 1 + 1 ∨ b = w.heap.size + 1 + 1 + 1 + 1) A) y cs) (hb : Below wr.heap.size wr w1) {A3 : Option Addr} {cap3 : Nat}
 (hown3 : w3.ownsRow (w.heap.size + 1 + 1 + 1 + 1 + 1) 39 7 (.slice A3 (n + 1) cap3) (n + 1) (ocs ++ cs)) (hgr : w1.grownBy w3 (A.map (·.block))) (hat : A3 = A ∨ A3 = some ⟨w1.heap.size, 0, none⟩)
 (hmean : over' = false → chosen ch d env ((order ch.name (zipIdx l)).drop q) ys many = chosen ch d env ((order ch.name (zipIdx l)).drop (q + 1)) (ys ++ [y]) (many + 1 : Nat)) :
 Cr k wk env sc nn tn ch l d left w (q + 1) A3 (n + 1) cap3 (ocs ++ cs) (ys ++ [y]) (many + 1) left' over' (w3.setCell ⟨w.heap.size + 1 + 1 + 1 + 1, 5, none⟩ (.slice A3 (n + 1) cap3)) := by
 have z := h.f.size;have zo := h.o.lt;have zr := h.r.lt;have zb := hb.size;have hob := own_base h.own;have hne : ∀ b, b ≤ w.heap.size + 1 + 1 + 1 + 1 → some b ≠ A.map (·.block) := fun b hb he => by
  cases A with
  |none => cases he
  |some a => have := (hob a rfl).1; simp at he; omega
 have f1 : F3 w wk sc nn tn 62 25 25 w1 := h.f.call (.of hb) zk;have f3 : F3 w wk sc nn tn 62 25 25 w3 := f1.grown hgr fun a ha => by have := (hob a ha).1; omega
 have r3 : Lb w3 (w.heap.size + 1 + 1 + 1) zcells 39 := (h.r.below hb zr).grown hgr (hne _ (by omega));have o3 : Lb w3 (w.heap.size + 1 + 1 + 1 + 1) (lcells A n cap) 39 := (h.o.below hb zo).grown hgr (hne _ (by omega));refine ⟨⟨f3.ext.setCell (.inr (show w.heap.size ≤ w.heap.size + 1 + 1 + 1 + 1 by omega)) _, f3.b0.other _ _ (show w.heap.size + 1 + 1 + 1 + 1 ≠ _ by omega), f3.b1.other _ _ (show w.heap.size + 1 + 1 + 1 + 1 ≠ _ by omega), f3.b2.other _ _ (show w.heap.size + 1 + 1 + 1 + 1 ≠ _ by omega)⟩, r3.other _ _ (show w.heap.size + 1 + 1 + 1 + 1 ≠ _ by omega), o3.set 5 _,
  ((h.work.below hb (by omega)).grown hgr fun a ha => by have := (hob a ha).1; omega).set (by show w.heap.size + 1 + 1 + 1 + 1 ≠ wk; omega) _, h.mono, own_set hown3 (by show w.heap.size + 1 + 1 + 1 + 1 < _; omega) _, ?_, by rw [List.length_append, h.len]; rfl, by have := h.nq; omega, by have := h.mq; omega, fun ho => (h.mean ho).trans (hmean ho)⟩
 have h1 := IsVs.grown hgr hat (h.vs.ext (.of hb) (Nat.le_refl _));have h2 := IsV.grown hgr hat (hV.ext (.of hb) (Nat.le_refl _));exact (h1.append (.one h2)).ext ((Ext.refl _ _ _).setCell (.inl (.inl (.inr (.inr rfl)))) _) (Nat.le_refl _)
end
section
attribute [local go_sem ↓] Go.wp_at_zero Go.wp_at_succ
open Go.RowKit
theorem Sv.s3 {W w : World} {wk : Nat} {left : Int} {over : Bool} (h : Sv wk left over W w) (hk : wk < W.heap.size) {b : Nat} (hb : W.heap.size ≤ b) (x y z : Value) : Sv wk left over W (((w.setCell ⟨b, 0, none⟩ x).setCell ⟨b, 1, none⟩ y).setCell ⟨b, 2, none⟩ z) :=
 ((h.set hk (p := ⟨b, 0, none⟩) hb x).set hk (p := ⟨b, 1, none⟩) hb y).set hk (p := ⟨b, 2, none⟩) hb z
theorem Work.s7 {w : World} {wk : Nat} {left : Int} {over : Bool} (hw : Work w wk left over) {b6 : Nat} (h : b6 ≠ wk) (x : Vl) (fx : Nat) (a : Option Addr) (c : Nat) (a' : Option Addr) (c' : Nat) : Work (S7 w b6 x fx a c a' c') wk left over :=
 ((((((hw.set (p := ⟨b6, 0, none⟩) h _).set (p := ⟨b6, 1, none⟩) h _).set (p := ⟨b6, 2, none⟩) h _).set (p := ⟨b6, 3, none⟩) h _).set (p := ⟨b6, 4, none⟩) h _).set (p := ⟨b6, 5, none⟩) h _).set (p := ⟨b6, 6, none⟩) h _
theorem map_at {k : Nat → Prop} {w : World} {t : Tr} {f : Nat} {a : Option Addr} {c : Nat} {a' : Option Addr} {c' : Nat} {p q : Int} (h : IsT w k t (tcells t f a c a' c' p q)) {j : Nat} {t1 : Tr} (hj : t.map[j]? = some t1) :
 ∃ b o, a' = some ⟨b, o, none⟩ ∧ ¬ k b ∧ b < w.heap.size ∧ ∃ f1 a1 c1 b1 e1 p1 q1, IsT w k t1 (tcells t1 f1 a1 c1 b1 e1 p1 q1) ∧ C12 w b (o + j * 12) t1 f1 a1 c1 b1 e1 p1 q1 := by
 generalize hc : tcells t f a c a' c' p q = cs at h
 cases h with
 |mk t f a c a' c' p q ks ms hf hk' hi' hl hp hq ht hn hn' hr hs' hr' hs2 =>
  simp only [tcells, List.cons.injEq, Value.float.injEq, Value.slice.injEq, Value.int.injEq, and_true, true_and] at hc;obtain ⟨rfl, ⟨rfl, rfl⟩, ⟨rfl, rfl⟩, rfl, rfl⟩ := hc;have hne : ms ≠ [] := hs2.ne (List.getElem?_eq_some_iff.1 hj).1;obtain ⟨b, o, rfl⟩ := hr'.some_of hne;obtain ⟨h1, h2, f1, a1, c1, b1, e1, p1, q1, h3, h4⟩ := IsTs.cells hr' hs2 hj;exact ⟨b, o, rfl, h1, h2, f1, a1, c1, b1, e1, p1, q1, h3, h4⟩
structure GotH (w0 : World) (wk : Nat) (k : Nat → Prop) (left : Int) (over : Bool) (env1 : Env) (m1 : Nat) (an : Option Addr) (nn cn : Nat) (bh : Nat) (A : Option Addr) (n1 cap : Nat) (K : Nat → Prop) (W w : World) : Prop where
 sv : Sv wk left over W w
 ath : W.heap.size ≤ bh
 blk : Lb w bh [.slice an nn cn, .slice A n1 cap, .pointer (some ⟨wk, 0, none⟩)] 62
 sc : IsSc w K wk env1 m1 an cn A n1 cap
 sub : ∀ b, k b → K b
 back : ∀ b, K b → k b ∨ w0.heap.size ≤ b
 lt : ∀ b, K b → b < w.heap.size
 mid : ∀ b, w0.heap.size ≤ b → b < W.heap.size → K b
theorem GotH.fresh {w0 : World} {wk : Nat} {k : Nat → Prop} {left : Int} {over : Bool} {env1 : Env} {m1 : Nat} {an : Option Addr} {nn cn : Nat} {A : Option Addr} {n1 cap : Nat} {W w1 : World} {K : Nat → Prop} (h : Sv wk left over W w1) (hsc : IsSc w1 K wk env1 m1 an cn A n1 cap) (h1 : ∀ b, k b → K b) (h2 : ∀ b, K b → k b ∨ w0.heap.size ≤ b) (h3 : ∀ b, K b → b < w1.heap.size) (h4 : ∀ b, w0.heap.size ≤ b → b < W.heap.size → K b) :
 GotH w0 wk k left over env1 m1 an nn cn w1.heap.size A n1 cap K W (w1.alloc (.cells [.slice an nn cn, .slice A n1 cap, .pointer (some ⟨wk, 0, none⟩)].toArray 62)) where
 sv := h.alloc _
 ath := h.p.size
 blk := Lb.new _ _ _
 sc := hsc.ext ((Ext.refl _ _ _).alloc (Nat.le_refl _) _) (Nat.le_refl _)
 sub := h1
 back := h2
 lt := fun b hb => by have := h3 b hb; simp; omega
 mid := h4
theorem GotH.there {w0 : World} {wk : Nat} {k : Nat → Prop} {left : Int} {over : Bool} {env1 : Env} {m1 : Nat} {an : Option Addr} {nn cn : Nat} {A : Option Addr} {n1 cap : Nat} {W w1 : World} {K : Nat → Prop} (h : Sv wk left over W w1) (hk : wk < W.heap.size) (hsc : IsSc w1 K wk env1 m1 an cn A n1 cap) (h1 : ∀ b, k b → K b) (h2 : ∀ b, K b → k b ∨ w0.heap.size ≤ b) (h3 : ∀ b, K b → b < w1.heap.size) (h4 : ∀ b, w0.heap.size ≤ b → b < W.heap.size → K b)
 {bh : Nat} (hb : W.heap.size ≤ bh) (hK : K bh) {x y z : Value} (L : Lb w1 bh [x, y, z] 62) :
 GotH w0 wk k left over env1 m1 an nn cn bh A n1 cap K W (((w1.setCell ⟨bh, 0, none⟩ (.slice an nn cn)).setCell ⟨bh, 1, none⟩ (.slice A n1 cap)).setCell ⟨bh, 2, none⟩ (.pointer (some ⟨wk, 0, none⟩))) where
 sv := h.s3 hk hb _ _ _
 ath := hb
 blk := by
  have := ((L.set 0 (.slice an nn cn)).set 1 (.slice A n1 cap)).set 2 (.pointer (some ⟨wk, 0, none⟩));simp only [List.set_cons_zero, List.set_cons_succ] at this;exact this
 sc := hsc.ext ((((Ext.refl _ _ _).setCell (.inl hK) _).setCell (.inl hK) _).setCell (.inl hK) _) (Nat.le_refl _)
 sub := h1
 back := h2
 lt := fun b hb => by have := h3 b hb; simpa using this
 mid := h4
theorem chosen_cons (c : Ch) (p : Env → Option Vl) (env : Env) (x : Vl) (i : Int) (l : List (Vl × Int)) (kept : List Vl) (many : Int) : chosen c p env ((x, i) :: l) kept many = (truth p (here env x i)).bind fun is =>
 if c.name = nm "all" ∧ is = false then .some (yes false)
 else if c.name = nm "any" ∧ is = true then .some (yes true)
 else if c.name = nm "none" ∧ is = true then .some (yes false)
 else if is = false then chosen c p env l kept many
 else if c.name = nm "find" ∨ c.name = nm "findLast" then (match c.map with
  |some m => m (here env x i)
  |none => .some x)
 else if c.name = nm "findIndex" ∨ c.name = nm "findLastIndex" then .some { kind := 1, int := i }
 else if c.name = nm "count" ∧ c.limited = true ∧ many + 1 ≥ c.limit then .some { kind := 1, int := many + 1 }
 else match c.map with
  |some m => (m (here env x i)).bind fun y => chosen c p env l (kept ++ [y]) (many + 1)
  |none => chosen c p env l (kept ++ [x]) (many + 1) := rfl
theorem nmne : nm "all" ≠ nm "any" ∧ nm "all" ≠ nm "none" ∧ nm "all" ≠ nm "find" ∧ nm "all" ≠ nm "findLast" ∧ nm "all" ≠ nm "findIndex" ∧ nm "all" ≠ nm "findLastIndex" ∧ nm "all" ≠ nm "count" ∧ nm "all" ≠ nm "one" ∧ nm "all" ≠ nm "filter" ∧ nm "any" ≠ nm "all" ∧ nm "any" ≠ nm "none" ∧ nm "any" ≠ nm "find" ∧ nm "any" ≠ nm "findLast" ∧ nm "any" ≠ nm "findIndex" ∧ nm "any" ≠ nm "findLastIndex" ∧ nm "any" ≠ nm "count" ∧ nm "any" ≠ nm "one" ∧ nm "any" ≠ nm "filter" ∧ nm "none" ≠ nm "all" ∧ nm "none" ≠ nm "any" ∧ nm "none" ≠ nm "find" ∧ nm "none" ≠ nm "findLast" ∧ nm "none" ≠ nm "findIndex" ∧ nm "none" ≠ nm "findLastIndex" ∧ nm "none" ≠ nm "count" ∧ nm "none" ≠ nm "one" ∧ nm "none" ≠ nm "filter" ∧ nm "find" ≠ nm "all" ∧ nm "find" ≠ nm "any" ∧ nm "find" ≠ nm "none" ∧ nm "find" ≠ nm "findLast" ∧ nm "find" ≠ nm "findIndex" ∧ nm "find" ≠ nm "findLastIndex" ∧ nm "find" ≠ nm "count" ∧ nm "find" ≠ nm "one" ∧ nm "find" ≠ nm "filter" ∧ nm "findLast" ≠ nm "all" ∧ nm "findLast" ≠ nm "any" ∧ nm "findLast" ≠ nm "none" ∧ nm "findLast" ≠ nm "find" ∧ nm "findLast" ≠ nm "findIndex" ∧ nm "findLast" ≠ nm "findLastIndex" ∧ nm "findLast" ≠ nm "count" ∧ nm "findLast" ≠ nm "one" ∧ nm "findLast" ≠ nm "filter" ∧ nm "findIndex" ≠ nm "all" ∧ nm "findIndex" ≠ nm "any" ∧ nm "findIndex" ≠ nm "none" ∧ nm "findIndex" ≠ nm "find" ∧ nm "findIndex" ≠ nm "findLast" ∧ nm "findIndex" ≠ nm "findLastIndex" ∧ nm "findIndex" ≠ nm "count" ∧ nm "findIndex" ≠ nm "one" ∧ nm "findIndex" ≠ nm "filter" ∧ nm "findLastIndex" ≠ nm "all" ∧ nm "findLastIndex" ≠ nm "any" ∧ nm "findLastIndex" ≠ nm "none" ∧ nm "findLastIndex" ≠ nm "find" ∧ nm "findLastIndex" ≠ nm "findLast" ∧ nm "findLastIndex" ≠ nm "findIndex" ∧ nm "findLastIndex" ≠ nm "count" ∧ nm "findLastIndex" ≠ nm "one" ∧ nm "findLastIndex" ≠ nm "filter" ∧ nm "count" ≠ nm "all" ∧ nm "count" ≠ nm "any" ∧ nm "count" ≠ nm "none" ∧ nm "count" ≠ nm "find" ∧ nm "count" ≠ nm "findLast" ∧ nm "count" ≠ nm "findIndex" ∧ nm "count" ≠ nm "findLastIndex" ∧ nm "count" ≠ nm "one" ∧ nm "count" ≠ nm "filter" ∧ nm "one" ≠ nm "all" ∧ nm "one" ≠ nm "any" ∧ nm "one" ≠ nm "none" ∧ nm "one" ≠ nm "find" ∧ nm "one" ≠ nm "findLast" ∧ nm "one" ≠ nm "findIndex" ∧ nm "one" ≠ nm "findLastIndex" ∧ nm "one" ≠ nm "count" ∧ nm "one" ≠ nm "filter" ∧ nm "filter" ≠ nm "all" ∧ nm "filter" ≠ nm "any" ∧ nm "filter" ≠ nm "none" ∧ nm "filter" ≠ nm "find" ∧ nm "filter" ≠ nm "findLast" ∧ nm "filter" ≠ nm "findIndex" ∧ nm "filter" ≠ nm "findLastIndex" ∧ nm "filter" ≠ nm "count" ∧ nm "filter" ≠ nm "one" := by
 (repeat' refine And.intro ?_ ?_) <;> decide
end
end Go.Proofs.Ytafhhdimjkgihaa.Mn
