/- What the program does, function by function, and what trees mean: part 02. -/
import Derived.Deep.Upon
import Derived.Deep.AppendLies
import Derived.Maps.AppendAt
import Derived.Deep.DrawnRows
import Derived.Test.YtafhhdimjkgihaaM01
set_option linter.unusedSimpArgs false
set_option linter.unusedVariables false
namespace Go.Proofs.Ytafhhdimjkgihaa.Mn
section
open Go.RowKit
structure El (P : Program) (T e : TypeId) (size bytes : Nat) : Prop where
 und : P.underlying T = some (.slice e)
 info : ∃ i z, P.info? e = some i ∧ i.zero = some z ∧ i.size = size ∧ i.bytes = bytes ∧ z.cells.size = size
 pos : 0 < size
def Laid (w : World) (ad : Option Addr) (news : List Value) : Prop := news = [] ∨ ∃ b o, ad = some ⟨b, o, none⟩ ∧ w.rangeAt b o news
def Ones (l : List Value) : Prop := ∀ u ∈ l, u.oneCell' = true
theorem Ones.append {l m : List Value} (h : Ones l) (g : Ones m) : Ones (l ++ m) := fun u hu => (List.mem_append.1 hu).elim (h u) (g u)
theorem Laid.drew {w : World} {ad : Option Addr} {news : List Value} (h : Laid w ad news) : Laid w.drew ad news := h
theorem Laid.alloc {w : World} {ad : Option Addr} {news : List Value} (h : Laid w ad news) (o : Obj) : Laid (w.alloc o) ad news := by
 rcases h with h | ⟨b, of, h1, h2⟩
 ·exact .inl h
 ·exact .inr ⟨b, of, h1, World.rangeAt_alloc h2 o⟩
theorem run_append_o {P : Program} {T e : TypeId} {size bytes : Nat} (E : El P T e size bytes) (ty : TypeId) (w : World) (base : Nat) (A : Option Addr) (n cap : Nat) (xs : List Value) (hown : w.ownsRow base e size (.slice A n cap) n xs)
 (ad : Option Addr) (m c : Nat) (news : List Value) (hl : news.length = m * size) (hnews : Laid w ad news) (h1 : Ones news)
 (hbytes : (n + m) * bytes ≤ 140737488355328 ∧ n + m ≤ 8796093022208) (hbase : base ≤ w.heap.size) :
 ∃ A' cap' w', (Builtin.append_ #[T, T] ty #[.slice A n cap, .slice ad m c]).run P w = .ok (.slice A' (n + m) cap') w' ∧ w'.ownsRow base e size (.slice A' (n + m) cap') (n + m) (xs ++ news) ∧
  w.grownBy w' (A.map (·.block)) ∧ (A' = A ∨ A' = some ⟨w.heap.size, 0, none⟩) := by
 obtain ⟨i, z, hi, hz, hsz, hby, hzc⟩ := E.info;have hownB : (Value.slice A n cap).ownBlock = A.map (·.block) := by cases A <;> rfl
 rcases hnews with rfl | ⟨b, o, rfl, hr⟩
 ·have hm0 : m = 0 := by
   have := E.pos;simp only [List.length_nil] at hl;rcases Nat.mul_eq_zero.1 hl.symm with h | h <;> omega
  subst hm0;have hle : n ≤ cap := by
   rcases hown.2 with ⟨h, h2⟩ | ⟨g, cap', cur, h, _, _, hnc, _⟩
   ·omega
   ·cases h; exact hnc
  refine ⟨A, cap, w, ?_, by simpa using hown, ⟨rfl, rfl, rfl, Nat.le_refl _, fun _ _ _ => rfl⟩, .inl rfl⟩;have hs : Src P i.size T (.slice ad 0 c) 0 [] w := by
   cases ad with
   |none => exact Src.ofNil w E.und c
   |some a => exact Src.ofSlice w E.und a 0 c [] (by simp) (fun j u h => by simp at h) (fun u h => by cases h)
  exact run_append_nothing w T T ty e i E.und hi A n cap hle _ hs
 ·obtain ⟨v', w', h2, h3, h4, h5, h6⟩ := run_append_own_at (P := P) w base T ty e i z size bytes E.und hi hz hsz hby hzc E.pos (.slice A n cap) n xs hown ⟨b, o, none⟩ m c news hl
   (fun j u hj => by rw [Addr.add_lit]; exact hr j u hj) h1 (by unfold maxLen; omega) hbytes.1 hbase
  rw [hownB] at h4 h6;rcases h3.2 with ⟨rfl, hn0⟩ | ⟨g, cap', cur, rfl, hrest⟩
  ·have := h5.1 rfl;obtain ⟨he, hm0⟩ := this;cases he;refine ⟨none, 0, w', ?_, ?_, h4, .inl rfl⟩
   ·rw [h2, hn0]
   ·rw [hn0] at h3 ⊢; exact h3
  ·refine ⟨some ⟨g, 0, none⟩, cap', w', h2, h3, h4, ?_⟩;rcases h6 with h6 | h6
   ·simp only [Value.ownBlock] at h6;cases hA : A with
    |none => rw [hA] at h6; cases h6
    |some a =>
     rw [hA] at h6;simp only [Option.map_some, Option.some.injEq] at h6;rcases hown.2 with ⟨h, _⟩ | ⟨g', cap'', cur', h, _⟩
     ·rw [hA] at h; cases h
     ·rw [hA] at h;simp only [Value.slice.injEq, Option.some.injEq] at h;left;rw [h.1] at h6 ⊢;simp only at h6;rw [h6]
   ·simp only [Value.ownBlock, Option.some.injEq] at h6;right; rw [h6]
theorem wp_append_o {P : Program} {T e : TypeId} {size bytes : Nat} (E : El P T e size bytes) {w : World} {o : Oper} {a : Act} {K : Act → World → Prop} {Q : Exit → Act → World → Prop} (s x : Operand)
 (ho : o.op = .call { callee := .builtin .append, args := #[s, x], argTypes := #[T, T] })
 (base : Nat) (A : Option Addr) (n cap : Nat) (xs : List Value) (hs : a.eval s = .slice A n cap) (hown : w.ownsRow base e size (.slice A n cap) n xs)
 (ad : Option Addr) (m c : Nat) (news : List Value) (hx : a.eval x = .slice ad m c) (hl : news.length = m * size) (hnews : Laid w ad news) (h1 : Ones news)
 (N : Nat) (hN : n + m = N) (hbytes : N * bytes ≤ 140737488355328 ∧ N ≤ 8796093022208) (hbase : base ≤ w.heap.size)
 (h : ∀ A' cap' w', w'.ownsRow base e size (.slice A' N cap') N (xs ++ news) → w.grownBy w' (A.map (·.block)) → (A' = A ∨ A' = some ⟨w.heap.size, 0, none⟩) → K (a.put o.dst (.slice A' N cap')) w') : o.wp P a w K Q := by
 subst hN;obtain ⟨A', cap', w', hr, h2, h3, h4⟩ := run_append_o E o.type w base A n cap xs hown ad m c news hl hnews h1 hbytes hbase;unfold Oper.wp execOp;simp only [ho, resolve, invoke, Go.builtin, Sem.run_bind, Sem.run_pure, Result.andThen_ok, List.map_toArray, List.map_cons, List.map_nil, hs, hx, hr];exact h A' cap' w' h2 h3 h4
theorem wpList_append_o {P : Program} {T e : TypeId} {size bytes : Nat} (E : El P T e size bytes) {w : World} {ops : Array Oper} {rest : List Oper} {o : Oper} {a : Act} {Q : Exit → Act → World → Prop} (hgd : o.guard = none) (s x : Operand)
 (ho : o.op = .call { callee := .builtin .append, args := #[s, x], argTypes := #[T, T] })
 (base : Nat) (A : Option Addr) (n cap : Nat) (xs : List Value) (hs : a.eval s = .slice A n cap) (hown : w.ownsRow base e size (.slice A n cap) n xs)
 (ad : Option Addr) (m c : Nat) (news : List Value) (hx : a.eval x = .slice ad m c) (hl : news.length = m * size) (hnews : Laid w ad news) (h1 : Ones news)
 (N : Nat) (hN : n + m = N) (hbytes : N * bytes ≤ 140737488355328 ∧ N ≤ 8796093022208) (hbase : base ≤ w.heap.size)
 (h : ∀ A' cap' w', w'.ownsRow base e size (.slice A' N cap') N (xs ++ news) → w.grownBy w' (A.map (·.block)) → (A' = A ∨ A' = some ⟨w.heap.size, 0, none⟩) → wpList P ops Q rest (a.put o.dst (.slice A' N cap')) w') : wpList P ops Q (o :: rest) a w :=
 wpList_plain hgd fun _ hK => wp_append_o E s x ho base A n cap xs hs hown ad m c news hx hl hnews h1 N hN hbytes hbase fun A' cap' w' h2 h3 h4 => hK _ _ (h A' cap' w' h2 h3 h4)
theorem step_append_o {P : Program} {T e : TypeId} {size bytes : Nat} (E : El P T e size bytes) {w : World} {ops : Array Oper} {o : Oper} {a : Act} {K : Act → World → Prop} {Q : Exit → Act → World → Prop} {E' : Prop} (hgd : o.guard = none) (s x : Operand)
 (ho : o.op = .call { callee := .builtin .append, args := #[s, x], argTypes := #[T, T] })
 (base : Nat) (A : Option Addr) (n cap : Nat) (xs : List Value) (hs : a.eval s = .slice A n cap) (hown : w.ownsRow base e size (.slice A n cap) n xs)
 (ad : Option Addr) (m c : Nat) (news : List Value) (hx : a.eval x = .slice ad m c) (hl : news.length = m * size) (hnews : Laid w ad news) (h1 : Ones news)
 (N : Nat) (hN : n + m = N) (hbytes : N * bytes ≤ 140737488355328 ∧ N ≤ 8796093022208) (hbase : base ≤ w.heap.size)
 (h : ∀ A' cap' w', w'.ownsRow base e size (.slice A' N cap') N (xs ++ news) → w.grownBy w' (A.map (·.block)) → (A' = A ∨ A' = some ⟨w.heap.size, 0, none⟩) → K (a.put o.dst (.slice A' N cap')) w') :
 if Region.wanted o (yielded ops a.tmps) = true then Oper.wp P o a w K Q else E' := by
 have hw : Region.wanted o (yielded ops a.tmps) = true := by simp [Region.wanted, hgd]
 rw [if_pos hw];exact wp_append_o E s x ho base A n cap xs hs hown ad m c news hx hl hnews h1 N hN hbytes hbase h
theorem El.of {T e : TypeId} {size bytes : Nat} {z : Value} (hu : Try.prog.underlying T = some (.slice e)) (h : (Try.prog.info? e).map (fun i => (i.zero, i.size, i.bytes)) = some (some z, size, bytes)) (hz : z.cells.size = size) (hp : 0 < size) : El Try.prog T e size bytes := by
 obtain ⟨i, h1, h2, h3, h4⟩ := info_parts h;exact ⟨hu, ⟨i, z, h1, h2, h3, h4, hz⟩, hp⟩
def zV : Value := .agg #[.int .i64 0, .int .i64 0, .float .f64 0, .string ⟨#[]⟩, .bool false, .slice none 0 0, .slice none 0 0]
theorem el36 : El Try.prog 36 39 7 96 := El.of (z := zV) (by kernel_rfl) (by kernel_rfl) rfl (by decide)
theorem el37 : El Try.prog 37 9 1 16 := El.of (z := .string ⟨#[]⟩) (by kernel_rfl) (by kernel_rfl) rfl (by decide)
theorem el26 : El Try.prog 26 53 8 112 := El.of (z := .agg #[.string ⟨#[]⟩, .int .i64 0, .int .i64 0, .float .f64 0, .string ⟨#[]⟩, .bool false, .slice none 0 0, .slice none 0 0]) (by kernel_rfl) (by kernel_rfl) rfl (by decide)
theorem el60 : El Try.prog 60 185 15 200 := El.of (z := .agg #[.int .i64 0, .int .i64 0, .float .f64 0, .string ⟨#[]⟩, .bool false, .slice none 0 0, .slice none 0 0, .int .i64 0, .int .i64 0, .float .f64 0, .string ⟨#[]⟩, .bool false, .slice none 0 0, .slice none 0 0, .int .i64 0]) (by kernel_rfl) (by kernel_rfl) rfl (by decide)
end
section
open Go.RowKit
abbrev va (v : Vl) (f : Nat) (a : Option Addr) (c : Nat) (a' : Option Addr) (c' : Nat) : Value :=
 .agg #[.int .i64 v.kind, .int .i64 v.int, .float .f64 f, .string (str v.text), .bool v.bool, .slice a v.items.length c, .slice a' v.keys.length c']
abbrev ta (t : Tr) (f : Nat) (a : Option Addr) (c : Nat) (a' : Option Addr) (c' : Nat) (p q : Int) : Value :=
 .agg #[.int .i64 t.kind, .string (str t.name), .int .i64 t.int, .float .f64 f, .bool t.flag, .bool t.method, .bool t.limited, .int .i64 t.limit, .slice a t.kids.length c, .slice a' t.map.length c', .int .i64 p, .int .i64 q]
abbrev zero : Value := .agg #[.int .i64 0, .int .i64 0, .float .f64 0, .string ⟨#[]⟩, .bool false, .slice none 0 0, .slice none 0 0]
def Ret (w : World) (v : Value) (e : Ending) (w' : World) : Prop := e = .returned v ∧ Below w.heap.size w w'
theorem yes_any (b : Bool) (w : World) : Calls Try.prog 75 #[.bool b] w (Ret w (.agg #[.int .i64 4, .int .i64 0, .float .f64 0, .string ⟨#[]⟩, .bool b, .slice none 0 0, .slice none 0 0])) := by
 go_enter Try.func75, Try.ntmps75;go_wp2
 go_returns
 exact ⟨rfl, by go_grown⟩
theorem kids_any (t : Tr) (f : Nat) (a : Option Addr) (c : Nat) (a' : Option Addr) (c' : Nat) (p q many : Int) (w : World) :
 Calls Try.prog 67 #[ta t f a c a' c' p q, .int .i64 many] w (Ret w (.bool ((t.kids.length : Int) == many))) := by
 go_enter Try.func67, Try.ntmps67;go_wp2;go_ret;exact ⟨rfl, by go_grown⟩
def Work (w : World) (k : Nat) (left : Int) (over : Bool) : Prop := w.heap[k]? = some (.cells #[.int .i64 left, .bool over] 59 (0, 0)) ∧ I64 left ∧ (over = false → 0 ≤ left ∧ left ≤ 1073741824)
def Step (k : Nat) (n left : Int) (over : Bool) (w : World) (e : Ending) (w' : World) : Prop :=
 ∃ left' over', e = .returned (.bool (!over')) ∧ Ext (· = k) w.heap.size w w' ∧ Work w' k left' over' ∧ (over' = false → over = false ∧ left' = left - n)
theorem Work.lt {w : World} {k : Nat} {left : Int} {over : Bool} (h : Work w k left over) : k < w.heap.size := (Array.getElem?_eq_some_iff.1 h.1).1
theorem heap_set (w : World) (g i : Nat) (u : Value) (cs : Array Value) (t : TypeId) (h : w.heap[g]? = some (.cells cs t (0, 0))) :
 (w.setCell ⟨g, i, none⟩ u).heap[g]? = some (.cells (cs.setIfInBounds i u) t (0, 0)) := by
 simp [World.setCell, Array.getElem?_modify, h]
theorem wrap_in (n : Int) : I64 (wrap64 n) := by unfold I64 wrap64; omega
theorem Ext.set2 {k : Nat} {w : World} (u v : Value) : Ext (· = k) w.heap.size w ((w.setCell ⟨k, 0, none⟩ u).setCell ⟨k, 1, none⟩ v) := ((Ext.refl (· = k) _ _).setCell (.inl rfl) _).setCell (.inl rfl) _
theorem step_any (k : Nat) (left n : Int) (over : Bool) (w : World) (h : Work w k left over) (hn : 0 ≤ n ∧ n ≤ 9223372036854775807) :
 Calls Try.prog 58 #[.pointer (some ⟨k, 0, none⟩), .int .i64 n] w (Step k n left over w) := by
 have c0 : w.cell? ⟨k, 0, none⟩ = some (.int .i64 left) := by simp [World.cell?, h.1]
 have c1 : w.cell? ⟨k, 1, none⟩ = some (.bool over) := by simp [World.cell?, h.1]
 have f0 : w.frozen? ⟨k, 0, none⟩ = false := by simp [World.frozen?, h.1]
 have f1 : w.frozen? ⟨k, 1, none⟩ = false := by simp [World.frozen?, h.1]
 obtain ⟨h1, h2, h3⟩ := h;have H1 := Lib.hid h1;have H3 := Lib.hid h3;unfold I64 at h2;clear h1 h3;go_enter Try.func58, Try.ntmps58
 by_cases hw : wrap64 (left - n) < 0
 ·go_wp2;go_ret;refine ⟨wrap64 (left - n), true, rfl, Ext.set2 _ _, ⟨?_, wrap_in _, fun h => by cases h⟩, fun h => by cases h⟩;rw [heap_set _ _ _ _ _ _ (heap_set _ _ _ _ _ _ H1.out)]; rfl
 ·go_wp2;go_ret;refine ⟨wrap64 (left - n), over, rfl, (Ext.refl (· = k) _ _).setCell (.inl rfl) _, ⟨?_, wrap_in _, fun h => ?_⟩, fun h => ⟨h, ?_⟩⟩
  ·rw [heap_set _ _ _ _ _ _ H1.out]; rfl
  ·have := H3.out h;unfold wrap64 at *; omega
  ·have := H3.out h;unfold wrap64 at *; omega
theorem num_of (v : Vl) (f : Nat) (h : cn f = v.flt) : num v = if v.kind = 1 then some (cn (floatOfInt .f64 v.int)) else if v.kind = 2 then some (cn f) else none := by
 rw [h]; rfl
def Num (v : Vl) (w : World) (e : Ending) (w' : World) : Prop := ∃ g, e = .returned (.tuple #[.float .f64 g, .bool (num v).isSome]) ∧ (∀ x, num v = some x → cn g = x) ∧ Below w.heap.size w w'
theorem number_any (v : Vl) (f : Nat) (a : Option Addr) (c : Nat) (a' : Option Addr) (c' : Nat) (w : World) (hf : cn f = v.flt) :
 Calls Try.prog 91 #[va v f a c a' c'] w (Num v w) := by
 have H := Lib.hid (num_of v f hf);clear hf
 by_cases h1 : v.kind = 1
 ·have b1 : (v.kind == 1) = true := by simp [h1]
  have h := H.out; rw [if_pos h1] at h;have H2 := Lib.hid h; clear h h1 H;go_enter Try.func91, Try.ntmps91;go_wp2
  go_ret2
  exact ⟨_, by rw [H2.out]; rfl, fun x hx => by rw [H2.out] at hx; exact Option.some.inj hx, by go_grown⟩
 ·have b1 : (v.kind == 1) = false := by simp [h1]
  by_cases h2 : v.kind = 2
  ·have b2 : (v.kind == 2) = true := (by simp [h2]);have h := H.out; rw [if_neg h1, if_pos h2] at h;have H2 := Lib.hid h; clear h h1 h2 H;go_enter Try.func91, Try.ntmps91;go_wp2
   go_ret2
   exact ⟨_, by rw [H2.out]; rfl, fun x hx => by rw [H2.out] at hx; exact Option.some.inj hx, by go_grown⟩
  ·have b2 : (v.kind == 2) = false := (by simp [h2]);have h := H.out; rw [if_neg h1, if_neg h2] at h;have H2 := Lib.hid h; clear h h1 h2 H;go_enter Try.func91, Try.ntmps91;go_wp2
   go_ret2
   exact ⟨0, by rw [H2.out]; rfl, fun x hx => (by rw [H2.out] at hx; cases hx), by go_grown⟩
end
section
open Go.RowKit
def Lb (w : World) (b : Nat) (cs : List Value) (t : TypeId) : Prop := w.heap[b]? = some (.cells cs.toArray t (0, 0))
section
variable {w w1 : World} {b : Nat} {cs : List Value} {t : TypeId}
theorem Lb.cell (h : Lb w b cs t) (i : Nat) : w.cell? ⟨b, i, none⟩ = cs[i]? := by
 simp [World.cell?, show w.heap[b]? = _ from h]
theorem Lb.frozen (h : Lb w b cs t) (i : Nat) : w.frozen? ⟨b, i, none⟩ = false := by
 simp [World.frozen?, show w.heap[b]? = _ from h]
theorem Lb.lt (h : Lb w b cs t) : b < w.heap.size := (Array.getElem?_eq_some_iff.1 h).1
theorem Lb.new (w : World) (cs : List Value) (t : TypeId) : Lb (w.alloc (.cells cs.toArray t)) w.heap.size cs t := heap_alloc_new w _
theorem Lb.new' (w : World) (cs : List Value) (t : TypeId) {n : Nat} (hn : w.heap.size = n) : Lb (w.alloc (.cells cs.toArray t)) n cs t := hn ▸ heap_alloc_new w _
theorem Lb.alloc (h : Lb w b cs t) (o : Obj) : Lb (w.alloc o) b cs t := (heap_alloc_old w o h.lt).trans h
theorem Lb.drew (h : Lb w b cs t) : Lb w.drew b cs t := h
theorem Lb.drewN (h : Lb w b cs t) (n : Nat) : Lb (w.drewN n) b cs t := h
theorem Lb.ext {k : Nat → Prop} {B : Nat} (h : Lb w b cs t) (e : Ext k B w w1) (hb : b < B) (hk : ¬ k b) : Lb w1 b cs t := (e.block b hb hk).trans h
theorem Lb.below {B : Nat} (h : Lb w b cs t) (e : Below B w w1) (hb : b < B) : Lb w1 b cs t := (e.block b hb).trans h
theorem Lb.grown {row : Option Nat} (h : Lb w b cs t) (e : w.grownBy w1 row) (hb : some b ≠ row) : Lb w1 b cs t := (e.block b h.lt hb).trans h
theorem Lb.set (h : Lb w b cs t) (i : Nat) (u : Value) : Lb (w.setCell ⟨b, i, none⟩ u) b (cs.set i u) t := by
 have := heap_set w b i u cs.toArray t h;rw [Lb, this];simp
theorem Lb.other (h : Lb w b cs t) (p : Addr) (u : Value) (hp : p.block ≠ b) : Lb (w.setCell p u) b cs t := (Below.heap_setCell w p u b (by rintro rfl; exact hp rfl)).trans h
end
abbrev S7 (w : World) (b : Nat) (v : Vl) (f : Nat) (a : Option Addr) (c : Nat) (a' : Option Addr) (c' : Nat) : World :=
 ((((((w.setCell ⟨b, 0, none⟩ (.int .i64 v.kind)).setCell ⟨b, 1, none⟩ (.int .i64 v.int)).setCell ⟨b, 2, none⟩ (.float .f64 f)).setCell ⟨b, 3, none⟩ (.string (str v.text))).setCell ⟨b, 4, none⟩ (.bool v.bool)).setCell ⟨b, 5, none⟩ (.slice a v.items.length c)).setCell ⟨b, 6, none⟩ (.slice a' v.keys.length c')
theorem Ext.s7 {k : Nat → Prop} {B : Nat} {u w : World} (h : Ext k B u w) {b : Nat} (hb : k b ∨ B ≤ b) (v : Vl) (f : Nat) (a : Option Addr) (c : Nat) (a' : Option Addr) (c' : Nat) : Ext k B u (S7 w b v f a c a' c') :=
 ((((((h.setCell (p := ⟨b, 0, none⟩) hb _).setCell (p := ⟨b, 1, none⟩) hb _).setCell (p := ⟨b, 2, none⟩) hb _).setCell (p := ⟨b, 3, none⟩) hb _).setCell (p := ⟨b, 4, none⟩) hb _).setCell (p := ⟨b, 5, none⟩) hb _).setCell (p := ⟨b, 6, none⟩) hb _
theorem Lb.s7 {w : World} {b : Nat} {x0 x1 x2 x3 x4 x5 x6 : Value} {t : TypeId} (h : Lb w b [x0, x1, x2, x3, x4, x5, x6] t) (v : Vl) (f : Nat) (a : Option Addr) (c : Nat) (a' : Option Addr) (c' : Nat) : Lb (S7 w b v f a c a' c') b (vcells v f a c a' c') t := by
 have := ((((((h.set 0 (.int .i64 v.kind)).set 1 (.int .i64 v.int)).set 2 (.float .f64 f)).set 3 (.string (str v.text))).set 4 (.bool v.bool)).set 5 (.slice a v.items.length c)).set 6 (.slice a' v.keys.length c');simp only [List.set_cons_zero, List.set_cons_succ] at this;exact this
theorem Lb.s7o {w : World} {b d : Nat} {cs : List Value} {t : TypeId} (h : Lb w d cs t) (hb : b ≠ d) (v : Vl) (f : Nat) (a : Option Addr) (c : Nat) (a' : Option Addr) (c' : Nat) : Lb (S7 w b v f a c a' c') d cs t :=
 ((((((h.other ⟨b, 0, none⟩ _ hb).other ⟨b, 1, none⟩ _ hb).other ⟨b, 2, none⟩ _ hb).other ⟨b, 3, none⟩ _ hb).other ⟨b, 4, none⟩ _ hb).other ⟨b, 5, none⟩ _ hb).other ⟨b, 6, none⟩ _ hb
theorem Laid.of_lb {w : World} {b : Nat} {cs : List Value} {t : TypeId} (h : Lb w b cs t) : Laid w (some ⟨b, 0, none⟩) cs := .inr ⟨b, 0, rfl, fun j v hv => by rw [h.cell, Nat.zero_add]; exact hv⟩
end
section
open Go.RowKit
def pty (k : Int) : Nat := if k = 1 then 141 else if k = 2 then 144 else if k = 3 then 147 else if k = 4 then 150 else if k = 5 then 153 else if k = 6 then 156 else if k = 8 then 76 else if k = 9 then 82 else if k = 10 then 85 else if k = 12 then 91 else if k = 15 then 100 else if k = 16 then 103 else if k = 17 then 166 else if k = 18 then 105 else if k = 19 then 108 else if k = 20 then 111 else if k = 21 then 114 else if k = 22 then 116 else 119
def sty (k : Int) : Nat := if k = 1 then 143 else if k = 2 then 146 else if k = 3 then 149 else if k = 4 then 152 else if k = 5 then 155 else if k = 6 then 157 else if k = 8 then 81 else if k = 9 then 84 else if k = 10 then 87 else if k = 12 then 93 else if k = 15 then 102 else if k = 16 then 104 else if k = 17 then 168 else if k = 18 then 107 else if k = 19 then 110 else if k = 20 then 113 else if k = 21 then 115 else if k = 22 then 118 else 121
def listy (k : Int) : Bool := k = 15 || k = 20 || k = 21 || k = 22
def ari (k : Int) : Option Nat :=
 if k = 1 ∨ k = 2 ∨ k = 3 ∨ k = 4 ∨ k = 5 ∨ k = 6 ∨ k = 17 then some 0 else if k = 9 ∨ k = 16 then some 1
 else if k = 10 ∨ k = 12 ∨ k = 19 ∨ k = 23 then some 2 else if k = 18 then some 3 else none
def named (k : Int) : Bool := k = 2 || k = 6 || k = 17 || k = 9 || k = 10 || k = 15 || k = 19
def strike (t : Tr) : Tr where
 kind := t.kind
 name := if named t.kind = true then t.name else []
 int := if t.kind = 3 then t.int else 0
 flt := if t.kind = 4 then t.flt else 0
 flag := if t.kind = 5 ∨ t.kind = 12 ∨ t.kind = 15 ∨ t.kind = 18 then t.flag else false
 method := if t.kind = 12 then t.method else false
 limited := if t.kind = 15 then t.limited else false
 limit := if t.kind = 15 ∧ t.limited = true then t.limit else 0
 kids := t.kids
 map := if t.kind = 15 then t.map else []
def headC (t : Tr) (f : Nat) : List Value :=
 if named t.kind = true then [.string (str t.name)]
 else if t.kind = 3 then [.int .i64 t.int] else if t.kind = 4 then [.float .f64 f] else if t.kind = 5 ∨ t.kind = 18 then [.bool t.flag] else []
def tailC (t : Tr) (m th : Value) : List Value := if t.kind = 12 then [.bool t.flag, .bool t.method] else if t.kind = 15 then [.bool t.flag, m, th] else []
def acells (t : Tr) (f : Nat) (p q : Int) (mid : List Value) (m th : Value) : List Value := .int .i64 p :: .int .i64 q :: (headC t f ++ (mid ++ tailC t m th))
abbrev nv (k : Int) (b : Nat) : Value := .iface (pty k) (.pointer (some ⟨b, 0, none⟩))
structure Hx (t : Tr) (f : Nat) (p q : Int) : Prop where
 hn : strike t = t
 hf : cn f = t.flt
 hi : I64 t.int
 hl : I64 t.limit
 hp : I64 p
 hq : I64 q
 ht : t.name.length ≤ 140737488355328
 hk : t.kids.length ≤ most
def Rw (w : World) (a : Option Addr) (vs : List Value) (rb : List Nat) : Prop := (vs = [] ∧ rb = []) ∨ ∃ r sp T, a = some ⟨r, 0, none⟩ ∧ rb = [r] ∧ Lb w r (vs ++ sp) T
def Th (w : World) (t : Tr) (th : Value) (ft : List Nat) : Prop :=
 (t.limited = false ∧ th = .pointer none ∧ ft = []) ∨ ∃ l, t.limited = true ∧ th = .pointer (some ⟨l, 0, none⟩) ∧ ft = [l] ∧ Lb w l [.int .i64 t.limit] 3
def IsC (k : Tr) (v : Value) : Prop := strike k = k ∧ k.kids = [] ∧ I64 k.int ∧ k.name.length ≤ 140737488355328 ∧
 ((k.kind = 3 ∧ v = .iface 3 (.int .i64 k.int)) ∨ (k.kind = 4 ∧ ∃ f, cn f = k.flt ∧ v = .iface 22 (.float .f64 f)) ∨ (k.kind = 5 ∧ v = .iface 4 (.bool k.flag)) ∨ (k.kind = 6 ∧ v = .iface 9 (.string (str k.name))))
inductive IsCs : List Tr → List Value → Prop
 |nil : IsCs [] []
 |cons {k v l vs} (h : IsC k v) (hl : IsCs l vs) : IsCs (k :: l) (v :: vs)
mutual
inductive IsA (w : World) : Tr → Value → List Nat → Prop
 |node (t : Tr) (b f : Nat) (p q : Int) (vs : List Value) (fs : List (List Nat)) (ha : ari t.kind = some t.kids.length) (hx : Hx t f p q)
   (hb : Lb w b (acells t f p q vs .nilIface (.pointer none)) (sty t.kind)) (hk : IsAs w t.kids vs fs) : IsA w t (nv t.kind b) ([b] ++ fs.flatten ++ [])
 |list (t : Tr) (b f : Nat) (p q : Int) (a : Option Addr) (c : Nat) (vs : List Value) (fs : List (List Nat)) (rb : List Nat) (ms : List Value) (gs : List (List Nat)) (th : Value) (ft : List Nat) (ha : listy t.kind = true) (hx : Hx t f p q)
   (hb : Lb w b (acells t f p q [.slice a t.kids.length c] (ms.headD .nilIface) th) (sty t.kind)) (hr : Rw w a vs rb) (hk : IsAs w t.kids vs fs) (h1 : t.map.length ≤ 1 ∧ (t.kind = 21 → t.kids.length ≤ c)) (hm : IsAs w t.map ms gs) (ht : Th w t th ft) : IsA w t (nv t.kind b) ((b :: rb) ++ fs.flatten ++ (gs.flatten ++ ft))
 |const (t : Tr) (b f : Nat) (p q : Int) (a : Option Addr) (c : Nat) (vs : List Value) (rb : List Nat) (ha : t.kind = 8) (hx : Hx t f p q)
   (hb : Lb w b (acells t f p q [.iface 162 (.slice a t.kids.length c)] .nilIface (.pointer none)) (sty t.kind)) (hr : Rw w a vs rb) (hc : IsCs t.kids vs) : IsA w t (nv t.kind b) (b :: rb)
inductive IsAs (w : World) : List Tr → List Value → List (List Nat) → Prop
 |nil : IsAs w [] [] []
 |cons {t v fp l vs fs} (h : IsA w t v fp) (hl : IsAs w l vs fs) : IsAs w (t :: l) (v :: vs) (fp :: fs)
end
theorem Rw.same {w w' : World} {a : Option Addr} {vs : List Value} {rb : List Nat} (h : Rw w a vs rb) (e : ∀ b ∈ rb, w'.heap[b]? = w.heap[b]?) : Rw w' a vs rb := by
 rcases h with h | ⟨r, sp, T, h1, h2, h3⟩
 ·exact .inl h
 ·exact .inr ⟨r, sp, T, h1, h2, (e r (by rw [h2]; simp)).trans h3⟩
theorem Th.same {w w' : World} {t : Tr} {th : Value} {ft : List Nat} (h : Th w t th ft) (e : ∀ b ∈ ft, w'.heap[b]? = w.heap[b]?) : Th w' t th ft := by
 rcases h with h | ⟨r, h1, h2, h3, h4⟩
 ·exact .inl h
 ·exact .inr ⟨r, h1, h2, h3, (e r (by rw [h3]; simp)).trans h4⟩
mutual
theorem IsA.same {w w' : World} : {t : Tr} → {v : Value} → {fp : List Nat} → IsA w t v fp → (∀ b ∈ fp, w'.heap[b]? = w.heap[b]?) → IsA w' t v fp
 |_, _, _, .node t b f p q vs fs ha hx hb hk, e => .node t b f p q vs fs ha hx ((e b (by simp)).trans hb) (IsAs.same hk fun x hx => e x (by simp [hx]))
 |_, _, _, .list t b f p q a c vs fs rb ms gs th ft ha hx hb hr hk h1 hm ht, e => .list t b f p q a c vs fs rb ms gs th ft ha hx ((e b (by simp)).trans hb) (hr.same fun x hx => e x (by simp [hx])) (IsAs.same hk fun x hx => e x (by simp only [List.mem_append]; exact .inl (.inr hx))) h1 (IsAs.same hm fun x hx => e x (by simp only [List.mem_append]; exact .inr (.inl hx))) (ht.same fun x hx => e x (by simp [hx]))
 |_, _, _, .const t b f p q a c vs rb ha hx hb hr hc, e => .const t b f p q a c vs rb ha hx ((e b (by simp)).trans hb) (hr.same fun x hx => e x (by simp [hx])) hc
theorem IsAs.same {w w' : World} : {l : List Tr} → {vs : List Value} → {fs : List (List Nat)} → IsAs w l vs fs → (∀ b ∈ fs.flatten, w'.heap[b]? = w.heap[b]?) → IsAs w' l vs fs
 |_, _, _, .nil, e => .nil
 |_, _, _, .cons h hl, e => .cons (IsA.same h fun x hx => e x (by simp [hx])) (IsAs.same hl fun x hx => e x (by simp only [List.flatten_cons, List.mem_append]; exact .inr hx))
end
theorem Rw.lt {w : World} {a : Option Addr} {vs : List Value} {rb : List Nat} (h : Rw w a vs rb) : ∀ b ∈ rb, b < w.heap.size := by
 rcases h with ⟨_, rfl⟩ | ⟨r, sp, T, h1, rfl, h3⟩
 ·intro b hb; cases hb
 ·intro b hb; simp at hb; subst hb; exact h3.lt
theorem Th.lt {w : World} {t : Tr} {th : Value} {ft : List Nat} (h : Th w t th ft) : ∀ b ∈ ft, b < w.heap.size := by
 rcases h with ⟨_, _, rfl⟩ | ⟨r, h1, h2, rfl, h4⟩
 ·intro b hb; cases hb
 ·intro b hb; simp at hb; subst hb; exact h4.lt
mutual
theorem IsA.lt {w : World} : {t : Tr} → {v : Value} → {fp : List Nat} → IsA w t v fp → ∀ x ∈ fp, x < w.heap.size
 |_, _, _, .node t b f p q vs fs ha hx hb hk, x, h => by
  simp only [List.append_nil, List.cons_append, List.nil_append, List.mem_cons] at h;rcases h with h | h
  ·rw [h]; exact hb.lt
  ·exact IsAs.lt hk x h
 |_, _, _, .list t b f p q a c vs fs rb ms gs th ft ha hx hb hr hk h1 hm ht, x, h => by
  simp only [List.mem_append, List.mem_cons] at h;rcases h with ((h | h) | h) | (h | h)
  ·rw [h]; exact hb.lt
  ·exact hr.lt x h
  ·exact IsAs.lt hk x h
  ·exact IsAs.lt hm x h
  ·exact ht.lt x h
 |_, _, _, .const t b f p q a c vs rb ha hx hb hr hc, x, h => by
  rcases List.mem_cons.1 h with h | h
  ·rw [h]; exact hb.lt
  ·exact hr.lt x h
theorem IsAs.lt {w : World} : {l : List Tr} → {vs : List Value} → {fs : List (List Nat)} → IsAs w l vs fs → ∀ x ∈ fs.flatten, x < w.heap.size
 |_, _, _, .nil, x, h => by cases h
 |_, _, _, .cons h hl, x, hx => by
  simp only [List.flatten_cons, List.mem_append] at hx;rcases hx with hx | hx
  ·exact IsA.lt h x hx
  ·exact IsAs.lt hl x hx
end
theorem IsAs.len {w : World} {l : List Tr} {vs : List Value} {fs : List (List Nat)} (h : IsAs w l vs fs) : vs.length = l.length ∧ fs.length = l.length := by
 induction l generalizing vs fs with
 |nil => cases h; exact ⟨rfl, rfl⟩
 |cons t l ih => cases h with | cons h hl => exact ⟨by simp [(ih hl).1], by simp [(ih hl).2]⟩
theorem IsAs.get {w : World} {l : List Tr} {vs : List Value} {fs : List (List Nat)} (h : IsAs w l vs fs) {i : Nat} {t : Tr} (hi : l[i]? = some t) : ∃ v fp, vs[i]? = some v ∧ fs[i]? = some fp ∧ IsA w t v fp := by
 induction l generalizing vs fs i with
 |nil => simp at hi
 |cons u l ih =>
  cases h with
  |cons h hl =>
   cases i with
   |zero => simp at hi; subst hi; exact ⟨_, _, rfl, rfl, h⟩
   |succ i => simpa using ih hl (by simpa using hi)
theorem IsAs.set {w w' : World} {l : List Tr} {vs : List Value} {fs : List (List Nat)} (h : IsAs w l vs fs) {i : Nat} {fp fp' : List Nat} {t' : Tr} {v' : Value} (hi : fs[i]? = some fp) (hn : fs.flatten.Nodup)
 (e : ∀ b ∈ fs.flatten, b ∉ fp → w'.heap[b]? = w.heap[b]?) (h' : IsA w' t' v' fp') : IsAs w' (l.set i t') (vs.set i v') (fs.set i fp') := by
 induction l generalizing vs fs i with
 |nil => cases h; simp at hi
 |cons u l ih =>
  cases h with
  |@cons _ _ g _ _ fs h hl =>
   rw [List.flatten_cons, List.nodup_append] at hn;cases i with
   |zero =>
    simp at hi;subst hi;exact .cons h' (hl.same fun b hb => e b (by simp only [List.flatten_cons, List.mem_append]; exact .inr hb) fun hx => hn.2.2 b hx b hb rfl)
   |succ i =>
    have hi : fs[i]? = some fp := (by simpa using hi);refine .cons (h.same fun b hb => e b (by simp [hb]) fun hx => hn.2.2 b hb b ?_ rfl) (ih hl hi hn.2.1 fun b hb hx => e b (by simp only [List.flatten_cons, List.mem_append]; exact .inr hb) hx);exact List.mem_flatten.2 ⟨fp, List.mem_of_getElem? hi, hx⟩
theorem split_at {α : Type} {l : List α} {i : Nat} {x : α} (h : l[i]? = some x) : ∃ l1 l2, l = l1 ++ x :: l2 ∧ ∀ y, l.set i y = l1 ++ y :: l2 := by
 induction l generalizing i with
 |nil => simp at h
 |cons a l ih =>
  cases i with
  |zero => simp at h; subst h; exact ⟨[], l, rfl, fun y => rfl⟩
  |succ i =>
   obtain ⟨l1, l2, h1, h2⟩ := ih (by simpa using h);exact ⟨a :: l1, l2, by rw [h1]; rfl, fun y => by rw [List.set_cons_succ, h2]; rfl⟩
theorem nodup_mid {N : Nat} {X Y f f' : List Nat} (h : (X ++ (f ++ Y)).Nodup) (hl : ∀ x ∈ X ++ (f ++ Y), x < N) (h' : f'.Nodup) (hs : ∀ x ∈ f', x ∈ f ∨ N ≤ x) : (X ++ (f' ++ Y)).Nodup := by
 simp only [List.nodup_append, List.mem_append] at h hl ⊢;refine ⟨h.1, ⟨h', h.2.1.2.1, fun a ha b hb => ?_⟩, fun a ha b hb => ?_⟩
 ·rcases hs a ha with g | g
  ·exact h.2.1.2.2 a g b hb
  ·have := hl b (.inr (.inr hb)); omega
 ·rcases hb with hb | hb
  ·rcases hs b hb with g | g
   ·exact h.2.2 a ha b (.inl g)
   ·have := hl a (.inl ha); omega
  ·exact h.2.2 a ha b (.inr hb)
theorem nodup_set {N : Nat} {A C : List Nat} {fs : List (List Nat)} {i : Nat} {fp fp' : List Nat} (h : (A ++ fs.flatten ++ C).Nodup) (hl : ∀ x ∈ A ++ fs.flatten ++ C, x < N) (hi : fs[i]? = some fp) (h' : fp'.Nodup) (hs : ∀ x ∈ fp', x ∈ fp ∨ N ≤ x) :
 (A ++ (fs.set i fp').flatten ++ C).Nodup := by
 obtain ⟨l1, l2, h1, h2⟩ := split_at hi;rw [h2];rw [h1] at h hl;simp only [List.flatten_append, List.flatten_cons, List.append_assoc] at h hl ⊢;have := nodup_mid (X := A ++ l1.flatten) (f := fp) (f' := fp') (Y := l2.flatten ++ C) (N := N) (by simpa only [List.append_assoc] using h) (by simpa only [List.append_assoc] using hl) h' hs;simpa only [List.append_assoc] using this
theorem mem_set {fs : List (List Nat)} {i : Nat} {fp' : List Nat} {x : Nat} (h : x ∈ (fs.set i fp').flatten) : x ∈ fs.flatten ∨ x ∈ fp' := by
 obtain ⟨l, hl, hx⟩ := List.mem_flatten.1 h;rcases List.mem_or_eq_of_mem_set hl with h | h
 ·exact .inl (List.mem_flatten.2 ⟨l, h, hx⟩)
 ·exact .inr (h ▸ hx)
theorem acells_set (t : Tr) (f : Nat) (p q : Int) (mid : List Value) (m th : Value) (i : Nat) (hi : i < mid.length) (v : Value) (n : Nat) (hn : n = 2 + (headC t f).length + i) : (acells t f p q mid m th).set n v = acells t f p q (mid.set i v) m th := by
 unfold acells;subst hn;rw [show 2 + (headC t f).length + i = ((headC t f).length + i + 1) + 1 by omega, List.set_cons_succ, List.set_cons_succ, List.set_append_right _ _ (by omega), Nat.add_sub_cancel_left, List.set_append_left _ _ hi]
end
section
attribute [local go_sem ↓] Go.wp_at_zero Go.wp_at_succ
open Go.RowKit
set_option maxHeartbeats 800000 in
set_option maxRecDepth 100000 in
theorem setloc_any (b : Nat) (x0 x1 : Value) (rest : List Value) (T : TypeId) (p q : Int) (w : World) (h : Lb w b (x0 :: x1 :: rest) T) :
 Calls Try.prog 111 #[.pointer (some ⟨b, 0, none⟩), .agg #[.int .i64 p, .int .i64 q]] w (fun e w' => (∃ v, e = .returned v) ∧ Ext (· = b) w.heap.size w w' ∧ Lb w' b (.int .i64 p :: .int .i64 q :: rest) T) := by
 have c0 : w.cell? ⟨b, 0, none⟩ = some x0 := h.cell 0;have c1 : w.cell? ⟨b, 1, none⟩ = some x1 := h.cell 1;have f0 := h.frozen;have zb := h.lt;have H := Lib.hid h;clear h;go_enter Try.func111, Try.ntmps111;go_wp2;refine bodyPost_end (v := .tuple #[]) (by first | rfl | (simp [results, Try.results111, go_sem]; try rfl)) rfl ⟨⟨_, rfl⟩, ?_, ?_⟩
 ·exact (((Ext.refl (· = b) _ _).setCell (p := ⟨b, 0, none⟩) (.inl rfl) _).setCell (p := ⟨b, 1, none⟩) (.inl rfl) _).alloc (by simp) _
 ·exact ((H.out.set 0 (.int .i64 p)).set 1 (.int .i64 q)).alloc (.cells #[.int .i64 p, .int .i64 q] 69)
set_option maxHeartbeats 800000 in
set_option maxRecDepth 100000 in
theorem loc_any (b : Nat) (p q : Int) (rest : List Value) (T : TypeId) (w : World) (h : Lb w b (.int .i64 p :: .int .i64 q :: rest) T) :
 Calls Try.prog 110 #[.pointer (some ⟨b, 0, none⟩)] w (fun e w' => e = .returned (.agg #[.int .i64 p, .int .i64 q]) ∧ Below w.heap.size w w') := by
 have c0 : w.cell? ⟨b, 0, none⟩ = some (.int .i64 p) := h.cell 0;have c1 : w.cell? ⟨b, 1, none⟩ = some (.int .i64 q) := h.cell 1;have zb := h.lt;clear h;go_enter Try.func110, Try.ntmps110;go_wp2
 first
 |(go_ret2; exact ⟨rfl, by go_grown⟩)
 |(refine bodyPost_ret (v := .agg #[.int .i64 p, .int .i64 q]) (by simp [results, Try.results110, go_sem]; try rfl) rfl ?_;exact ⟨rfl, by go_grown⟩)
end
end Go.Proofs.Ytafhhdimjkgihaa.Mn
