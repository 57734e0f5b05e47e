/- What the program does, function by function, and what trees mean: part 01. -/
import Derived.Laws.FloatArith
import Derived.RowKit
import Derived.Test.YtafhhdimjkgihaaRows
import Derived.WalkKit
import Derived.WalkSpells
import Derived.WalkLawsBesides
import Derived.Outline
import Derived.Handy
import Derived.Deep.MidRow
import Derived.Deep.QuietTactic
import Derived.BigQuiet
import Derived.OwnWalk
import Derived.Deep.RegionWith
import Derived.Lib.Hide
import Derived.KernelRfl
import Derived.Laws.Entries
set_option linter.unusedSimpArgs false
set_option linter.unusedVariables false
namespace Go.Proofs.Ytafhhdimjkgihaa.Mn
section
abbrev Nm := List UInt8
def nm (s : String) : Nm := s.toList.map fun c => c.toNat.toUInt8
structure Vl where
 kind : Int := 0
 int : Int := 0
 flt : Nat := 0
 text : Nm := []
 bool : Bool := false
 items : List Vl := []
 keys : List Nm := []
structure Tr where
 kind : Int
 name : Nm
 int : Int
 flt : Nat
 flag : Bool
 method : Bool
 limited : Bool
 limit : Int
 kids : List Tr
 map : List Tr
def pr {α β : Type} : Option α → Option β → Option (α × β)
 |some a, some b => some (a, b)
 |_, _ => none
def qnan : Nat := 9221120237041090561
def cn (f : Nat) : Nat := if (Ieee.double.read f).isNaN then qnan else f
def fop (op : BinOp) (x y : Nat) : Nat := match floatBits op .f64 x y with
 |some r => cn r
 |none => qnan
def fneg (x : Nat) : Nat := cn (Op.negFloat .f64 x)
def fint (n : Int) : Nat := cn (floatOfInt .f64 n)
def flt_lt (x y : Nat) : Bool := Ieee.double.order x y == some .lt
def flt_eq (x y : Nat) : Bool := Ieee.double.order x y == some .eq
abbrev wrap (n : Int) : Int := Go.RowKit.wrap64 n
def num (v : Vl) : Option Nat := if v.kind = 1 then some (fint v.int) else if v.kind = 2 then some v.flt else none
def arith (op : Nm) (a b : Vl) : Option Vl :=
 if op = nm "+" ∧ a.kind = 3 ∧ b.kind = 3 then some { kind := 3, text := a.text ++ b.text }
 else if a.kind = 1 ∧ b.kind = 1 ∧ op ≠ nm "/" then
  if op = nm "+" then some { kind := 1, int := wrap (a.int + b.int) }
  else if op = nm "-" then some { kind := 1, int := wrap (a.int - b.int) }
  else if op = nm "*" then some { kind := 1, int := wrap (a.int * b.int) }
  else if b.int = 0 then none
  else some { kind := 1, int := a.int.tmod b.int }
 else match num a, num b with
  |some x, some y =>
   if op = nm "%" then none
   else if op = nm "+" then some { kind := 2, flt := fop .add x y }
   else if op = nm "-" then some { kind := 2, flt := fop .sub x y }
   else if op = nm "*" then some { kind := 2, flt := fop .mul x y }
   else some { kind := 2, flt := fop .quo x y }
  |_, _ => none
abbrev textLt (a b : Nm) : Bool := Op.bytesLess a b
def less (a b : Vl) : Option Bool :=
 if a.kind = 3 ∧ b.kind = 3 then some (textLt a.text b.text)
 else if a.kind = 1 ∧ b.kind = 1 then some (decide (a.int < b.int))
 else match num a, num b with
  |some x, some y => some (flt_lt x y)
  |_, _ => none
def at_ (keys : List Nm) (items : List Vl) (k : Nm) : Option Vl := match keys, items with
 |k' :: ks, x :: xs => if k' = k then some x else at_ ks xs k
 |_, _ => none
mutual
def eqv : Vl → Vl → Bool
 |⟨k, i, f, t, b, its, ks⟩, w =>
  match num ⟨k, i, f, t, b, its, ks⟩, num w with
  |some x, some y => if k = 1 ∧ w.kind = 1 then decide (i = w.int) else flt_eq x y
  |_, _ =>
   if k ≠ w.kind ∨ its.length ≠ w.items.length ∨ ks.length ≠ w.keys.length then false
   else if k = 3 then decide (t = w.text)
   else if k = 4 then decide (b = w.bool)
   else if k = 5 then eqvs its w.items
   else if k = 6 then eqvm its ks w
   else true
def eqvs : List Vl → List Vl → Bool
 |[], _ => true
 |_ :: _, [] => true
 |a :: l, b :: m => eqv a b && eqvs l m
def eqvm : List Vl → List Nm → Vl → Bool
 |a :: l, k :: ks, w => (match at_ w.keys w.items k with
  |some y => eqv a y
  |none => false) && eqvm l ks w
 |_, _, _ => true
end
def set_ (keys : List Nm) (items : List Vl) (k : Nm) (x : Vl) : List (Nm × Vl) :=
 let l := (keys.zip items).map fun p => if p.1 = k then (p.1, x) else p
 if k ∈ keys then l else l ++ [(k, x)]
def setV (v : Vl) (k : Nm) (x : Vl) : Vl := { kind := 6, items := (set_ v.keys v.items k x).map (·.2), keys := (set_ v.keys v.items k x).map (·.1) }
def yes (b : Bool) : Vl := { kind := 4, bool := b }
def holds (op a b : Nm) : Bool :=
 (List.range (a.length + 1 - b.length)).any fun i => decide (i + b.length ≤ a.length) && decide ((a.drop i).take b.length = b) &&
   (decide (op = nm "contains") || (decide (op = nm "startsWith") && decide (i = 0)) || (decide (op = nm "endsWith") && decide (i + b.length = a.length)))
def within (a b : Vl) : Option Vl :=
 if b.kind = 5 then some (yes (b.items.any (eqv a)))
 else if b.kind = 6 ∧ a.kind = 3 then some (yes (at_ b.keys b.items a.text).isSome)
 else none
def far : Int := 1099511627776
def ints (a : Int) (n : Nat) : List Vl := (List.range n).map fun (i : Nat) => ({ kind := 1, int := a + (i : Int) } : Vl)
def span (a b : Vl) : Option Vl :=
 if a.kind ≠ 1 ∨ b.kind ≠ 1 then .none
 else if a.int > far ∨ b.int < -far then .none
 else if a.int > b.int then .some { kind := 5 }
 else if a.int < -far ∨ b.int > far ∨ b.int - a.int > 1000 then .none
 else .some { kind := 5, items := ints a.int (b.int - a.int + 1).toNat }
def both (op : Nm) (a b : Vl) : Option Vl :=
 if op = nm "+" ∨ op = nm "-" ∨ op = nm "*" ∨ op = nm "/" ∨ op = nm "%" then
  arith op a b
 else if op = nm "==" then .some (yes (eqv a b))
 else if op = nm "!=" then .some (yes (!eqv a b))
 else if op = nm "<" then ((less a b).map yes)
 else if op = nm ">" then ((less b a).map yes)
 else if op = nm "<=" then ((less a b).map fun x => yes (x || eqv a b))
 else if op = nm ">=" then ((less b a).map fun x => yes (x || eqv a b))
 else if op = nm "in" then (within a b)
 else if op = nm ".." then span a b
 else if op = nm "contains" ∨ op = nm "startsWith" ∨ op = nm "endsWith" then
  if a.kind = 3 ∧ b.kind = 3 then .some (yes (holds op a.text b.text)) else .none
 else .none
def element (v a : Vl) : Option Vl :=
 if v.kind = 5 ∧ a.kind = 1 then
  let i := if a.int < 0 then a.int + v.items.length else a.int
  if i < 0 then none else v.items[i.toNat]?
 else if v.kind = 6 ∧ a.kind = 3 then some ((at_ v.keys v.items a.text).getD {})
 else none
def unary (op : Nm) (v : Vl) : Option Vl :=
 if (op = nm "!" ∨ op = nm "not") ∧ v.kind = 4 then some (yes (!v.bool))
 else if op = nm "-" ∧ v.kind = 1 then some { kind := 1, int := wrap (-v.int) }
 else if op = nm "-" ∧ v.kind = 2 then some { kind := 2, flt := fneg v.flt }
 else if op = nm "+" ∧ (v.kind = 1 ∨ v.kind = 2) then some v
 else none
def total : Vl → List Vl → Option Vl
 |out, [] => some out
 |out, x :: l => if x.kind ≠ 1 ∧ x.kind ≠ 2 then none else match arith (nm "+") out x with
  |some o => total o l
  |none => none
def countT : List Vl → Int → Option Int
 |[], n => some n
 |x :: l, n => if x.kind ≠ 4 then none else countT l (if x.bool then n + 1 else n)
def plain (name : Nm) (v : Vl) : Option Vl :=
 if name = nm "len" ∧ (v.kind = 5 ∨ v.kind = 6) then some { kind := 1, int := v.items.length }
 else if name = nm "sum" ∧ v.kind = 5 then total { kind := 1 } v.items
 else if name = nm "first" ∧ v.kind = 5 then some (v.items.head?.getD {})
 else if name = nm "last" ∧ v.kind = 5 then some (v.items.getLast?.getD {})
 else if name = nm "count" ∧ v.kind = 5 then (countT v.items 0).map fun n => { kind := 1, int := n }
 else none
structure Env where
 names : List (Nm × Vl)
 item : Option (Vl × Int)
def lookup (l : List (Nm × Vl)) (n : Nm) : Option Vl := (l.reverse.find? fun p => p.1 = n).map (·.2)
structure Dn where
 val : Env → Option Vl
 body : Option (Env → Option Vl)
 pair : Option ((Env → Option Vl) × (Env → Option Vl))
def oneOf : List Dn → Option (Env → Option Vl)
 |[m] => some m.val
 |_ => none
def twoOf : List Dn → Option ((Env → Option Vl) × (Env → Option Vl))
 |[a, b] => some (a.val, b.val)
 |_ => none
def truth (d : Env → Option Vl) (env : Env) : Option Bool := (d env).bind fun v => if v.kind = 4 then .some v.bool else .none
def list (env : Env) : List Dn → Option (List Vl)
 |[] => .some []
 |d :: l => (d.val env).bind fun v => (list env l).bind fun vs => .some (v :: vs)
def pairs (env : Env) : Vl → List Dn → Option Vl
 |out, [] => .some out
 |out, d :: l => match d.pair with
  |none => .none
  |some (k, v) => (pr (k env) (v env)).bind fun p => if p.1.kind = 3 then pairs env (setV out p.1.text p.2) l else .none
def here (env : Env) (x : Vl) (i : Int) : Env := { env with item := some (x, i) }
def mapped (p : Env → Option Vl) (env : Env) : List (Vl × Int) → Option (List Vl)
 |[] => .some []
 |(x, i) :: l => (p (here env x i)).bind fun y => (mapped p env l).bind fun ys => .some (y :: ys)
def zipIdx (l : List Vl) : List (Vl × Int) := l.zipIdx.map fun p => (p.1, (p.2 : Int))
structure Ch where
 name : Nm
 limited : Bool
 limit : Int
 flag : Bool
 map : Option (Env → Option Vl)
def Ch.done (c : Ch) (kept : List Vl) (many : Int) : Option Vl :=
 if c.name = nm "all" ∨ c.name = nm "none" then .some (yes true)
 else if c.name = nm "any" then .some (yes false)
 else if c.name = nm "one" then .some (yes (decide (many = 1)))
 else if c.name = nm "count" then .some { kind := 1, int := many }
 else if c.name = nm "filter" then .some { kind := 5, items := kept }
 else if c.flag = false ∧ (c.name = nm "find" ∨ c.name = nm "findLast") then .some {} else .none
def chosen (c : Ch) (p : Env → Option Vl) (env : Env) : List (Vl × Int) → List Vl → Int → Option Vl
 |[], kept, many => c.done kept many
 |(x, i) :: l, kept, many =>
  (truth p (here env x i)).bind fun is =>
    if c.name = nm "all" ∧ is = false then .some (yes false)
    else if c.name = nm "any" ∧ is = true then .some (yes true)
    else if c.name = nm "none" ∧ is = true then .some (yes false)
    else if is = false then chosen c p env l kept many
    else if c.name = nm "find" ∨ c.name = nm "findLast" then (match c.map with
     |some m => m (here env x i)
     |none => .some x)
    else if c.name = nm "findIndex" ∨ c.name = nm "findLastIndex" then .some { kind := 1, int := i }
    else if c.name = nm "count" ∧ c.limited = true ∧ many + 1 ≥ c.limit then .some { kind := 1, int := many + 1 }
    else match c.map with
     |some m => (m (here env x i)).bind fun y => chosen c p env l (kept ++ [y]) (many + 1)
     |none => chosen c p env l (kept ++ [x]) (many + 1)
def order (name : Nm) (l : List (Vl × Int)) : List (Vl × Int) := if name = nm "findLast" ∨ name = nm "findLastIndex" then l.reverse else l
def isChosen (n : Nm) : Bool := n ∈ [nm "filter", nm "count", nm "all", nm "any", nm "none", nm "one", nm "find", nm "findIndex", nm "findLast", nm "findLastIndex"]
def builtin2 (c : Ch) (p : Env → Option Vl) (env : Env) (v : Vl) : Option Vl :=
 if c.name = nm "map" then (mapped p env (zipIdx v.items)).bind fun l => .some { kind := 5, items := l }
 else if c.name = nm "sum" then (mapped p env (zipIdx v.items)).bind fun l => (total { kind := 1 } l)
 else if isChosen c.name = true then chosen c p env (order c.name (zipIdx v.items)) [] 0
 else .none
def builtin (c : Ch) (env : Env) : List Dn → Option Vl
 |[] => .none
 |[d] => (d.val env).bind fun v => (plain c.name v)
 |d :: e :: l => (d.val env).bind fun v => match l, e.body with
  |[], some p => if v.kind = 5 then builtin2 c p env v else .none
  |_, _ => .none
def binary (name : Nm) (env : Env) : List Dn → Option Vl
 |[a, b] =>
  if name = nm "and" ∨ name = nm "&&" ∨ name = nm "or" ∨ name = nm "||" then
   (truth a.val env).bind fun x => if x = decide (name = nm "or" ∨ name = nm "||") then .some (yes x) else (truth b.val env).bind fun y => .some (yes y)
  else if name = nm "??" then (a.val env).bind fun x => if x.kind ≠ 0 then .some x else b.val env
  else (pr (a.val env) (b.val env)).bind fun p => both name p.1 p.2
 |_ => .none
def pointer (name : Nm) (env : Env) : Option Vl := match env.item with
 |none => .none
 |some (x, i) => if name = [] then .some x else if name = nm "index" then .some { kind := 1, int := i } else if name = nm "acc" then .some {} else .none
def sem (t : Tr) (ks ms : List Dn) (env : Env) : Option Vl :=
 if t.kind = 1 then .some {}
 else if t.kind = 2 then (lookup env.names t.name)
 else if t.kind = 3 then .some { kind := 1, int := t.int }
 else if t.kind = 4 then .some { kind := 2, flt := t.flt }
 else if t.kind = 5 then .some { kind := 4, bool := t.flag }
 else if t.kind = 6 then .some { kind := 3, text := t.name }
 else if t.kind = 8 ∨ t.kind = 21 then (list env ks).bind fun l => .some { kind := 5, items := l }
 else if t.kind = 9 then (match ks with
  |[d] => (d.val env).bind fun v => (unary t.name v)
  |_ => .none)
 else if t.kind = 10 then binary t.name env ks
 else if t.kind = 12 then (match ks with
  |[d, e] => if t.method = true then .none else (pr (d.val env) (e.val env)).bind fun p => (element p.1 p.2)
  |_ => .none)
 else if t.kind = 15 then builtin { name := t.name, limited := t.limited, limit := t.limit, flag := t.flag, map := oneOf ms } env ks
 else if t.kind = 17 then pointer t.name env
 else if t.kind = 18 then (match ks with
  |[c, a, b] => (truth c.val env).bind fun x => if x = true then a.val env else b.val env
  |_ => .none)
 else if t.kind = 19 then (match ks with
  |[a, b] => (a.val env).bind fun v => b.val { env with names := env.names ++ [(t.name, v)] }
  |_ => .none)
 else if t.kind = 20 then (list env ks).bind fun l => l.getLast?
 else if t.kind = 22 then pairs env { kind := 6 } ks
 else .none
def node (t : Tr) (ks ms : List Dn) : Dn where
 val := sem t ks ms
 body := if t.kind = 16 then oneOf ks else none
 pair := if t.kind = 23 then twoOf ks else none
mutual
def D : Tr → Dn
 |⟨a, b, c, d, e, f, g, h, ks, ms⟩ => node ⟨a, b, c, d, e, f, g, h, ks, ms⟩ (Ds ks) (Ds ms)
def Ds : List Tr → List Dn
 |[] => []
 |k :: ks => D k :: Ds ks
end
theorem D_eq (t : Tr) : D t = node t (Ds t.kids) (Ds t.map) := by cases t; rw [D]
theorem Ds_eq (l : List Tr) : Ds l = l.map D := by
 induction l with
 |nil => rw [Ds]; rfl
 |cons a l ih => rw [Ds, ih]; rfl
end
section
open Go.RowKit
@[go_sem] theorem run_store_float (P : Program) (w : World) (a : Addr) (m : Mode) (k : FloatKind) (b : Nat) : (store a (.float k b) m).run P w = stored P w a (.float k b) m := run_store P w a _ m rfl
def str (t : Nm) : ByteArray := ⟨t.toArray⟩
@[go_sem] theorem str_toList (t : Nm) : (str t).toList = t := by rw [ByteArray.toList_eq]; rfl
@[go_sem] theorem str_size (t : Nm) : (str t).size = t.length := by simp [str, ByteArray.size]
theorem str_of (s : ByteArray) : s = str s.data.toList := rfl
theorem str_nil : str [] = ⟨#[]⟩ := rfl
structure Ext (k : Nat → Prop) (B : Nat) (w w' : World) : Prop where
 os : w'.os = w.os
 tape : w'.tape = w.tape
 output : w'.output = w.output
 size : w.heap.size ≤ w'.heap.size
 block : ∀ b, b < B → ¬ k b → w'.heap[b]? = w.heap[b]?
section
variable {k : Nat → Prop} {B : Nat} {a w w' : World}
theorem Ext.refl (k : Nat → Prop) (B : Nat) (w : World) : Ext k B w w := ⟨rfl, rfl, rfl, Nat.le_refl _, fun _ _ _ => rfl⟩
theorem Ext.of (h : Below B w w') : Ext k B w w' := ⟨h.os, h.tape, h.output, h.size, fun b hb _ => h.block b hb⟩
theorem Ext.trans (h : Ext k B a w) (g : Ext k B w w') : Ext k B a w' := ⟨g.os.trans h.os, g.tape.trans h.tape, g.output.trans h.output, Nat.le_trans h.size g.size, fun b hb hk => (g.block b hb hk).trans (h.block b hb hk)⟩
theorem Ext.mono {B' : Nat} (h : Ext k B w w') (hB : B' ≤ B) : Ext k B' w w' := ⟨h.os, h.tape, h.output, h.size, fun b hb hk => h.block b (Nat.lt_of_lt_of_le hb hB) hk⟩
theorem Ext.drew (h : Ext k B a w) : Ext k B a w.drew := ⟨h.os, h.tape, h.output, h.size, h.block⟩
theorem Ext.drewN (h : Ext k B a w) (n : Nat) : Ext k B a (w.drewN n) := ⟨h.os, h.tape, h.output, h.size, h.block⟩
theorem Ext.alloc (h : Ext k B a w) (hB : B ≤ w.heap.size) (o : Obj) : Ext k B a (w.alloc o) := h.trans (.of ((Below.refl _ _).alloc hB o))
theorem Ext.setCell (h : Ext k B a w) {p : Addr} (hp : k p.block ∨ B ≤ p.block) (u : Value) : Ext k B a (w.setCell p u) :=
 ⟨h.os, h.tape, h.output, by simpa [World.setCell] using h.size, fun b hb hk => (Below.heap_setCell w p u b (by rintro rfl; rcases hp with hp | hp; exact hk hp; omega)).trans (h.block b hb hk)⟩
theorem Ext.weak {k' : Nat → Prop} (h : Ext k B w w') (hk : ∀ b, k b → k' b) : Ext k' B w w' := ⟨h.os, h.tape, h.output, h.size, fun b hb hn => h.block b hb fun x => hn (hk b x)⟩
theorem ecell {W w1 : World} (h : Ext k W.heap.size W w1) : (∀ b o, b < W.heap.size → ¬ k b → w1.cell? ⟨b, o, none⟩ = W.cell? ⟨b, o, none⟩) ∧ (∀ b o, b < W.heap.size → ¬ k b → w1.frozen? ⟨b, o, none⟩ = W.frozen? ⟨b, o, none⟩) :=
 ⟨fun b o hb hk => World.cell?_of_block (w := W) (a := ⟨b, o, none⟩) (h.block b hb hk), fun b o hb hk => World.frozen?_of_block (w := W) (a := ⟨b, o, none⟩) (h.block b hb hk)⟩
theorem bcell {W w1 : World} (hb : Below W.heap.size W w1) : (∀ b o, b < W.heap.size → w1.cell? ⟨b, o, none⟩ = W.cell? ⟨b, o, none⟩) ∧ (∀ b o, b < W.heap.size → w1.frozen? ⟨b, o, none⟩ = W.frozen? ⟨b, o, none⟩) :=
 ⟨fun b o h => hb.cell (p := ⟨b, o, none⟩) h, fun b o h => hb.frozen (p := ⟨b, o, none⟩) h⟩
end
def Row (w : World) (k : Nat → Prop) (a : Option Addr) (cs : List Value) : Prop := cs = [] ∨ ∃ b o, a = some ⟨b, o, none⟩ ∧ ¬ k b ∧ b < w.heap.size ∧ w.rangeAt b o cs
theorem Row.ext {k : Nat → Prop} {B : Nat} {w w' : World} {a : Option Addr} {cs : List Value} (h : Row w k a cs) (e : Ext k B w w') (hB : w.heap.size ≤ B) : Row w' k a cs := by
 rcases h with h | ⟨b, o, h1, h2, h3, h4⟩
 ·exact .inl h
 ·exact .inr ⟨b, o, h1, h2, Nat.lt_of_lt_of_le h3 e.size, fun j v hv => (World.cell?_of_block (w := w) (a := ⟨b, o + j, none⟩) (e.block b (by omega) h2)).trans (h4 j v hv)⟩
theorem Row.other {k k' : Nat → Prop} {w : World} {a : Option Addr} {cs : List Value} (h : Row w k a cs) (hk : ∀ b, k' b → k b ∨ w.heap.size ≤ b) : Row w k' a cs := by
 rcases h with h | ⟨b, o, h1, h2, h3, h4⟩
 ·exact .inl h
 ·exact .inr ⟨b, o, h1, fun x => (hk b x).elim h2 (by omega), h3, h4⟩
def I64 (n : Int) : Prop := -9223372036854775808 ≤ n ∧ n ≤ 9223372036854775807
def most : Nat := 1172812402927
def vcells (v : Vl) (f : Nat) (a : Option Addr) (c : Nat) (a' : Option Addr) (c' : Nat) : List Value :=
 [.int .i64 v.kind, .int .i64 v.int, .float .f64 f, .string (str v.text), .bool v.bool, .slice a v.items.length c, .slice a' v.keys.length c']
def kcells (l : List Nm) : List Value := l.map fun t => .string (str t)
mutual
inductive IsV (w : World) (k : Nat → Prop) : Vl → List Value → Prop
 |mk (v : Vl) (f : Nat) (a : Option Addr) (c : Nat) (a' : Option Addr) (c' : Nat) (its : List Value) (hf : cn f = v.flt) (hk : I64 v.kind) (hi : I64 v.int) (hn : v.items.length ≤ most) (hn' : v.keys.length ≤ most) (ht : v.text.length ≤ 140737488355328)
   (hm : (v.kind = 6 → v.keys.length = v.items.length) ∧ v.keys.length ≤ c') (hr : Row w k a its) (hs : IsVs w k v.items its) (hr' : Row w k a' (kcells v.keys)) : IsV w k v (vcells v f a c a' c')
inductive IsVs (w : World) (k : Nat → Prop) : List Vl → List Value → Prop
 |nil : IsVs w k [] []
 |cons {v l c cs} (h : IsV w k v c) (hl : IsVs w k l cs) : IsVs w k (v :: l) (c ++ cs)
end
theorem IsV.length {w : World} {k : Nat → Prop} {v : Vl} {c : List Value} (h : IsV w k v c) : c.length = 7 := by
 cases h; rfl
theorem IsVs.length {w : World} {k : Nat → Prop} {l : List Vl} {cs : List Value} (h : IsVs w k l cs) : cs.length = l.length * 7 := by
 induction l generalizing cs with
 |nil => cases h; rfl
 |cons v l ih =>
  cases h with
  |cons h hl => rw [List.length_append, h.length, ih hl, List.length_cons]; omega
mutual
theorem IsV.ext {k : Nat → Prop} {B : Nat} {w w' : World} (e : Ext k B w w') (hB : w.heap.size ≤ B) : {v : Vl} → {c : List Value} → IsV w k v c → IsV w' k v c
 |_, _, .mk v f a c a' c' its hf hk hi hn hn' ht hm hr hs hr' => .mk v f a c a' c' its hf hk hi hn hn' ht hm (hr.ext e hB) (IsVs.ext e hB hs) (hr'.ext e hB)
theorem IsVs.ext {k : Nat → Prop} {B : Nat} {w w' : World} (e : Ext k B w w') (hB : w.heap.size ≤ B) : {l : List Vl} → {cs : List Value} → IsVs w k l cs → IsVs w' k l cs
 |_, _, .nil => .nil
 |_, _, .cons h hl => .cons (IsV.ext e hB h) (IsVs.ext e hB hl)
end
mutual
theorem IsV.other {k k' : Nat → Prop} {w : World} (hk' : ∀ b, k' b → k b ∨ w.heap.size ≤ b) : {v : Vl} → {c : List Value} → IsV w k v c → IsV w k' v c
 |_, _, .mk v f a c a' c' its hf hk hi hn hn' ht hm hr hs hr' => .mk v f a c a' c' its hf hk hi hn hn' ht hm (hr.other hk') (IsVs.other hk' hs) (hr'.other hk')
theorem IsVs.other {k k' : Nat → Prop} {w : World} (hk' : ∀ b, k' b → k b ∨ w.heap.size ≤ b) : {l : List Vl} → {cs : List Value} → IsVs w k l cs → IsVs w k' l cs
 |_, _, .nil => .nil
 |_, _, .cons h hl => .cons (IsV.other hk' h) (IsVs.other hk' hl)
end
theorem IsVs.get {w : World} {k : Nat → Prop} {l : List Vl} {cs : List Value} (h : IsVs w k l cs) : ∀ (i : Nat) (v : Vl), l[i]? = some v → ∃ c, IsV w k v c ∧ ∀ j x, c[j]? = some x → cs[i * 7 + j]? = some x := by
 induction l generalizing cs with
 |nil => intro i v hv; simp at hv
 |cons u l ih =>
  cases h with
  |@cons _ _ c cs h hl =>
   intro i v hv;cases i with
   |zero =>
    simp at hv;subst hv;refine ⟨c, h, fun j x hx => ?_⟩;rw [Nat.zero_mul, Nat.zero_add, List.getElem?_append_left (by exact (List.getElem?_eq_some_iff.1 hx).1)];exact hx
   |succ i =>
    obtain ⟨c', h1, h2⟩ := ih hl i v (by simpa using hv);refine ⟨c', h1, fun j x hx => ?_⟩;rw [List.getElem?_append_right (by rw [h.length]; omega), h.length, show (i + 1) * 7 + j - 7 = i * 7 + j by omega];exact h2 j x hx
theorem IsVs.append {w : World} {k : Nat → Prop} {l m : List Vl} {cs ds : List Value} (h : IsVs w k l cs) (g : IsVs w k m ds) : IsVs w k (l ++ m) (cs ++ ds) := by
 induction l generalizing cs with
 |nil => cases h; exact g
 |cons v l ih =>
  cases h with
  |cons h hl => rw [List.append_assoc]; exact .cons h (ih hl)
theorem IsVs.one {w : World} {k : Nat → Prop} {v : Vl} {c : List Value} (h : IsV w k v c) : IsVs w k [v] c := by
 have := IsVs.cons h (.nil : IsVs w k [] []);simpa using this
def tcells (t : Tr) (f : Nat) (a : Option Addr) (c : Nat) (a' : Option Addr) (c' : Nat) (p q : Int) : List Value :=
 [.int .i64 t.kind, .string (str t.name), .int .i64 t.int, .float .f64 f, .bool t.flag, .bool t.method, .bool t.limited, .int .i64 t.limit, .slice a t.kids.length c, .slice a' t.map.length c', .int .i64 p, .int .i64 q]
mutual
inductive IsT (w : World) (k : Nat → Prop) : Tr → List Value → Prop
 |mk (t : Tr) (f : Nat) (a : Option Addr) (c : Nat) (a' : Option Addr) (c' : Nat) (p q : Int) (ks ms : List Value) (hf : cn f = t.flt) (hk : I64 t.kind) (hi : I64 t.int) (hl : I64 t.limit) (hp : I64 p) (hq : I64 q) (ht : t.name.length ≤ 140737488355328)
   (hn : t.kids.length ≤ most) (hn' : t.map.length ≤ most) (hr : Row w k a ks) (hs : IsTs w k t.kids ks) (hr' : Row w k a' ms) (hs' : IsTs w k t.map ms) : IsT w k t (tcells t f a c a' c' p q)
inductive IsTs (w : World) (k : Nat → Prop) : List Tr → List Value → Prop
 |nil : IsTs w k [] []
 |cons {v l c cs} (h : IsT w k v c) (hl : IsTs w k l cs) : IsTs w k (v :: l) (c ++ cs)
end
theorem IsT.length {w : World} {k : Nat → Prop} {v : Tr} {c : List Value} (h : IsT w k v c) : c.length = 12 := by
 cases h; rfl
theorem IsTs.length {w : World} {k : Nat → Prop} {l : List Tr} {cs : List Value} (h : IsTs w k l cs) : cs.length = l.length * 12 := by
 induction l generalizing cs with
 |nil => cases h; rfl
 |cons v l ih =>
  cases h with
  |cons h hl => rw [List.length_append, h.length, ih hl, List.length_cons]; omega
mutual
theorem IsT.ext {k : Nat → Prop} {B : Nat} {w w' : World} (e : Ext k B w w') (hB : w.heap.size ≤ B) : {v : Tr} → {c : List Value} → IsT w k v c → IsT w' k v c
 |_, _, .mk t f a c a' c' p q ks ms hf hk hi hl hp hq ht hn hn' hr hs hr' hs' => .mk t f a c a' c' p q ks ms hf hk hi hl hp hq ht hn hn' (hr.ext e hB) (IsTs.ext e hB hs) (hr'.ext e hB) (IsTs.ext e hB hs')
theorem IsTs.ext {k : Nat → Prop} {B : Nat} {w w' : World} (e : Ext k B w w') (hB : w.heap.size ≤ B) : {l : List Tr} → {cs : List Value} → IsTs w k l cs → IsTs w' k l cs
 |_, _, .nil => .nil
 |_, _, .cons h hl => .cons (IsT.ext e hB h) (IsTs.ext e hB hl)
end
mutual
theorem IsT.other {k k' : Nat → Prop} {w : World} (hk' : ∀ b, k' b → k b ∨ w.heap.size ≤ b) : {v : Tr} → {c : List Value} → IsT w k v c → IsT w k' v c
 |_, _, .mk t f a c a' c' p q ks ms hf hk hi hl hp hq ht hn hn' hr hs hr' hs' => .mk t f a c a' c' p q ks ms hf hk hi hl hp hq ht hn hn' (hr.other hk') (IsTs.other hk' hs) (hr'.other hk') (IsTs.other hk' hs')
theorem IsTs.other {k k' : Nat → Prop} {w : World} (hk' : ∀ b, k' b → k b ∨ w.heap.size ≤ b) : {l : List Tr} → {cs : List Value} → IsTs w k l cs → IsTs w k' l cs
 |_, _, .nil => .nil
 |_, _, .cons h hl => .cons (IsT.other hk' h) (IsTs.other hk' hl)
end
theorem IsTs.get {w : World} {k : Nat → Prop} {l : List Tr} {cs : List Value} (h : IsTs w k l cs) : ∀ (i : Nat) (v : Tr), l[i]? = some v → ∃ c, IsT w k v c ∧ ∀ j x, c[j]? = some x → cs[i * 12 + j]? = some x := by
 induction l generalizing cs with
 |nil => intro i v hv; simp at hv
 |cons u l ih =>
  cases h with
  |@cons _ _ c cs h hl =>
   intro i v hv;cases i with
   |zero =>
    simp at hv;subst hv;refine ⟨c, h, fun j x hx => ?_⟩;rw [Nat.zero_mul, Nat.zero_add, List.getElem?_append_left (by exact (List.getElem?_eq_some_iff.1 hx).1)];exact hx
   |succ i =>
    obtain ⟨c', h1, h2⟩ := ih hl i v (by simpa using hv);refine ⟨c', h1, fun j x hx => ?_⟩;rw [List.getElem?_append_right (by rw [h.length]; omega), h.length, show (i + 1) * 12 + j - 12 = i * 12 + j by omega];exact h2 j x hx
theorem IsTs.append {w : World} {k : Nat → Prop} {l m : List Tr} {cs ds : List Value} (h : IsTs w k l cs) (g : IsTs w k m ds) : IsTs w k (l ++ m) (cs ++ ds) := by
 induction l generalizing cs with
 |nil => cases h; exact g
 |cons v l ih =>
  cases h with
  |cons h hl => rw [List.append_assoc]; exact .cons h (ih hl)
theorem IsTs.one {w : World} {k : Nat → Prop} {v : Tr} {c : List Value} (h : IsT w k v c) : IsTs w k [v] c := by
 have := IsTs.cons h (.nil : IsTs w k [] []);simpa using this
theorem Row.cell {k : Nat → Prop} {w : World} {a : Option Addr} {cs : List Value} (h : Row w k a cs) {j : Nat} {x : Value} (hx : cs[j]? = some x) : ∃ b o, a = some ⟨b, o, none⟩ ∧ ¬ k b ∧ b < w.heap.size := by
 rcases h with rfl | ⟨b, o, h1, h2, h3, h4⟩
 ·simp at hx
 ·exact ⟨b, o, h1, h2, h3⟩
end
section
open Go.RowKit
def NoIface : TypeDesc → Prop
 |.interface _ => False
 |_ => True
theorem ta_gen {P : Program} {T xT : TypeId} {d : TypeDesc} {z : Value} (hu : P.underlying T = some d) (hd : NoIface d) (hz : ∀ w, (zeroValue T).run P w = .ok z w) (t : TypeId) (v : Value) (w : World) :
 (Instr.typeAssert (.iface t v) xT T true).run P w = .ok (.tuple #[if t = T then v else z, .bool (decide (t = T))]) w := by
 unfold Instr.typeAssert
 by_cases h : t = T
 ·cases d <;> first | exact hd.elim | simp [run_underlying hu, h]
 ·cases d <;> first | exact hd.elim | simp [run_underlying hu, h, hz]
theorem zr141 (w : World) : (zeroValue 141).run Try.prog w = .ok (.pointer none) w := by kernel_rfl
@[go_sem] theorem ta141 (t : TypeId) (v : Value) (w : World) : Sem.run Try.prog (Instr.typeAssert (.iface t v) 45 141 true) w = .ok (.tuple #[if t = 141 then v else .pointer none, .bool (decide (t = 141))]) w := ta_gen Try.underlying141 trivial zr141 t v w
theorem zr144 (w : World) : (zeroValue 144).run Try.prog w = .ok (.pointer none) w := by kernel_rfl
@[go_sem] theorem ta144 (t : TypeId) (v : Value) (w : World) : Sem.run Try.prog (Instr.typeAssert (.iface t v) 45 144 true) w = .ok (.tuple #[if t = 144 then v else .pointer none, .bool (decide (t = 144))]) w := ta_gen Try.underlying144 trivial zr144 t v w
theorem zr147 (w : World) : (zeroValue 147).run Try.prog w = .ok (.pointer none) w := by kernel_rfl
@[go_sem] theorem ta147 (t : TypeId) (v : Value) (w : World) : Sem.run Try.prog (Instr.typeAssert (.iface t v) 45 147 true) w = .ok (.tuple #[if t = 147 then v else .pointer none, .bool (decide (t = 147))]) w := ta_gen Try.underlying147 trivial zr147 t v w
theorem zr150 (w : World) : (zeroValue 150).run Try.prog w = .ok (.pointer none) w := by kernel_rfl
@[go_sem] theorem ta150 (t : TypeId) (v : Value) (w : World) : Sem.run Try.prog (Instr.typeAssert (.iface t v) 45 150 true) w = .ok (.tuple #[if t = 150 then v else .pointer none, .bool (decide (t = 150))]) w := ta_gen Try.underlying150 trivial zr150 t v w
theorem zr153 (w : World) : (zeroValue 153).run Try.prog w = .ok (.pointer none) w := by kernel_rfl
@[go_sem] theorem ta153 (t : TypeId) (v : Value) (w : World) : Sem.run Try.prog (Instr.typeAssert (.iface t v) 45 153 true) w = .ok (.tuple #[if t = 153 then v else .pointer none, .bool (decide (t = 153))]) w := ta_gen Try.underlying153 trivial zr153 t v w
theorem zr156 (w : World) : (zeroValue 156).run Try.prog w = .ok (.pointer none) w := by kernel_rfl
@[go_sem] theorem ta156 (t : TypeId) (v : Value) (w : World) : Sem.run Try.prog (Instr.typeAssert (.iface t v) 45 156 true) w = .ok (.tuple #[if t = 156 then v else .pointer none, .bool (decide (t = 156))]) w := ta_gen Try.underlying156 trivial zr156 t v w
theorem zr158 (w : World) : (zeroValue 158).run Try.prog w = .ok (.pointer none) w := by kernel_rfl
@[go_sem] theorem ta158 (t : TypeId) (v : Value) (w : World) : Sem.run Try.prog (Instr.typeAssert (.iface t v) 45 158 true) w = .ok (.tuple #[if t = 158 then v else .pointer none, .bool (decide (t = 158))]) w := ta_gen Try.underlying158 trivial zr158 t v w
theorem zr76 (w : World) : (zeroValue 76).run Try.prog w = .ok (.pointer none) w := by kernel_rfl
@[go_sem] theorem ta76 (t : TypeId) (v : Value) (w : World) : Sem.run Try.prog (Instr.typeAssert (.iface t v) 45 76 true) w = .ok (.tuple #[if t = 76 then v else .pointer none, .bool (decide (t = 76))]) w := ta_gen Try.underlying76 trivial zr76 t v w
theorem zr82 (w : World) : (zeroValue 82).run Try.prog w = .ok (.pointer none) w := by kernel_rfl
@[go_sem] theorem ta82 (t : TypeId) (v : Value) (w : World) : Sem.run Try.prog (Instr.typeAssert (.iface t v) 45 82 true) w = .ok (.tuple #[if t = 82 then v else .pointer none, .bool (decide (t = 82))]) w := ta_gen Try.underlying82 trivial zr82 t v w
theorem zr85 (w : World) : (zeroValue 85).run Try.prog w = .ok (.pointer none) w := by kernel_rfl
@[go_sem] theorem ta85 (t : TypeId) (v : Value) (w : World) : Sem.run Try.prog (Instr.typeAssert (.iface t v) 45 85 true) w = .ok (.tuple #[if t = 85 then v else .pointer none, .bool (decide (t = 85))]) w := ta_gen Try.underlying85 trivial zr85 t v w
theorem zr88 (w : World) : (zeroValue 88).run Try.prog w = .ok (.pointer none) w := by kernel_rfl
@[go_sem] theorem ta88 (t : TypeId) (v : Value) (w : World) : Sem.run Try.prog (Instr.typeAssert (.iface t v) 45 88 true) w = .ok (.tuple #[if t = 88 then v else .pointer none, .bool (decide (t = 88))]) w := ta_gen Try.underlying88 trivial zr88 t v w
theorem zr91 (w : World) : (zeroValue 91).run Try.prog w = .ok (.pointer none) w := by kernel_rfl
@[go_sem] theorem ta91 (t : TypeId) (v : Value) (w : World) : Sem.run Try.prog (Instr.typeAssert (.iface t v) 45 91 true) w = .ok (.tuple #[if t = 91 then v else .pointer none, .bool (decide (t = 91))]) w := ta_gen Try.underlying91 trivial zr91 t v w
theorem zr94 (w : World) : (zeroValue 94).run Try.prog w = .ok (.pointer none) w := by kernel_rfl
@[go_sem] theorem ta94 (t : TypeId) (v : Value) (w : World) : Sem.run Try.prog (Instr.typeAssert (.iface t v) 45 94 true) w = .ok (.tuple #[if t = 94 then v else .pointer none, .bool (decide (t = 94))]) w := ta_gen Try.underlying94 trivial zr94 t v w
theorem zr97 (w : World) : (zeroValue 97).run Try.prog w = .ok (.pointer none) w := by kernel_rfl
@[go_sem] theorem ta97 (t : TypeId) (v : Value) (w : World) : Sem.run Try.prog (Instr.typeAssert (.iface t v) 45 97 true) w = .ok (.tuple #[if t = 97 then v else .pointer none, .bool (decide (t = 97))]) w := ta_gen Try.underlying97 trivial zr97 t v w
theorem zr100 (w : World) : (zeroValue 100).run Try.prog w = .ok (.pointer none) w := by kernel_rfl
@[go_sem] theorem ta100 (t : TypeId) (v : Value) (w : World) : Sem.run Try.prog (Instr.typeAssert (.iface t v) 45 100 true) w = .ok (.tuple #[if t = 100 then v else .pointer none, .bool (decide (t = 100))]) w := ta_gen Try.underlying100 trivial zr100 t v w
theorem zr103 (w : World) : (zeroValue 103).run Try.prog w = .ok (.pointer none) w := by kernel_rfl
@[go_sem] theorem ta103 (t : TypeId) (v : Value) (w : World) : Sem.run Try.prog (Instr.typeAssert (.iface t v) 45 103 true) w = .ok (.tuple #[if t = 103 then v else .pointer none, .bool (decide (t = 103))]) w := ta_gen Try.underlying103 trivial zr103 t v w
theorem zr166 (w : World) : (zeroValue 166).run Try.prog w = .ok (.pointer none) w := by kernel_rfl
@[go_sem] theorem ta166 (t : TypeId) (v : Value) (w : World) : Sem.run Try.prog (Instr.typeAssert (.iface t v) 45 166 true) w = .ok (.tuple #[if t = 166 then v else .pointer none, .bool (decide (t = 166))]) w := ta_gen Try.underlying166 trivial zr166 t v w
theorem zr105 (w : World) : (zeroValue 105).run Try.prog w = .ok (.pointer none) w := by kernel_rfl
@[go_sem] theorem ta105 (t : TypeId) (v : Value) (w : World) : Sem.run Try.prog (Instr.typeAssert (.iface t v) 45 105 true) w = .ok (.tuple #[if t = 105 then v else .pointer none, .bool (decide (t = 105))]) w := ta_gen Try.underlying105 trivial zr105 t v w
theorem zr108 (w : World) : (zeroValue 108).run Try.prog w = .ok (.pointer none) w := by kernel_rfl
@[go_sem] theorem ta108 (t : TypeId) (v : Value) (w : World) : Sem.run Try.prog (Instr.typeAssert (.iface t v) 45 108 true) w = .ok (.tuple #[if t = 108 then v else .pointer none, .bool (decide (t = 108))]) w := ta_gen Try.underlying108 trivial zr108 t v w
theorem zr111 (w : World) : (zeroValue 111).run Try.prog w = .ok (.pointer none) w := by kernel_rfl
@[go_sem] theorem ta111 (t : TypeId) (v : Value) (w : World) : Sem.run Try.prog (Instr.typeAssert (.iface t v) 45 111 true) w = .ok (.tuple #[if t = 111 then v else .pointer none, .bool (decide (t = 111))]) w := ta_gen Try.underlying111 trivial zr111 t v w
theorem zr114 (w : World) : (zeroValue 114).run Try.prog w = .ok (.pointer none) w := by kernel_rfl
@[go_sem] theorem ta114 (t : TypeId) (v : Value) (w : World) : Sem.run Try.prog (Instr.typeAssert (.iface t v) 45 114 true) w = .ok (.tuple #[if t = 114 then v else .pointer none, .bool (decide (t = 114))]) w := ta_gen Try.underlying114 trivial zr114 t v w
theorem zr116 (w : World) : (zeroValue 116).run Try.prog w = .ok (.pointer none) w := by kernel_rfl
@[go_sem] theorem ta116 (t : TypeId) (v : Value) (w : World) : Sem.run Try.prog (Instr.typeAssert (.iface t v) 45 116 true) w = .ok (.tuple #[if t = 116 then v else .pointer none, .bool (decide (t = 116))]) w := ta_gen Try.underlying116 trivial zr116 t v w
theorem zr119 (w : World) : (zeroValue 119).run Try.prog w = .ok (.pointer none) w := by kernel_rfl
@[go_sem] theorem ta119 (t : TypeId) (v : Value) (w : World) : Sem.run Try.prog (Instr.typeAssert (.iface t v) 45 119 true) w = .ok (.tuple #[if t = 119 then v else .pointer none, .bool (decide (t = 119))]) w := ta_gen Try.underlying119 trivial zr119 t v w
end
end Go.Proofs.Ytafhhdimjkgihaa.Mn
