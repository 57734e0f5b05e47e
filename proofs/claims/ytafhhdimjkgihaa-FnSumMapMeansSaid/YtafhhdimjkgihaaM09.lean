/- What the program does, function by function, and what trees mean: part 09. -/
import Derived.Deep.CutRange
import Derived.Test.YtafhhdimjkgihaaM08
import Derived.Test.YtafhhdimjkgihaaM06
set_option linter.unusedSimpArgs false
set_option linter.unusedVariables false
namespace Go.Proofs.Ytafhhdimjkgihaa.Mn
section
attribute [local go_sem ↓] Go.wp_at_zero Go.wp_at_succ
open Go.RowKit
set_option maxHeartbeats 1600000 in
set_option maxRecDepth 100000 in
theorem Whole_any (t : Tr) (k : Nat → Prop) (f : Nat) (a : Option Addr) (c : Nat) (a' : Option Addr) (c' : Nat) (p q : Int) (w : World) (hk : ∀ b, k b → b < w.heap.size) (ht : IsT w k t (tcells t f a c a' c' p q)) :
 Calls Try.prog 13 #[ta t f a c a' c' p q, .int .i64 300] w (Wh t w) := by
 have HK := Lib.hid hk; have HT := Lib.hid ht;clear hk ht;go_enter Try.func13, Try.ntmps13
 go_wp2_with fail
 go_at_call 28;apply Calls.mono
 ·refine within_ok t (fun b => k b ∨ b = w.heap.size + 1) (w.heap.size + 1) 300 _ _ _ _ _ _ _ _ (.inr rfl) (Lb.new' _ _ _ (by simp)) (by omega) ((HT.out.other ?_).ext (.of (by go_grown)) (Nat.le_refl _));intro b hb;rcases hb with hb | hb
  ·exact .inl hb
  ·exact .inr (by omega)
 rintro e w2 ⟨b, left', rfl, hE, hL, hr⟩;have L0 : Lb w2 w.heap.size (tcells t f a c a' c' p q) 25 := Lb.ext ((Lb.new _ _ _).alloc _) hE (by simp; omega) (by omega);have HB := Lib.hid (show Below w.heap.size w w2 from Below.trans (by go_grown) ⟨hE.os, hE.tape, hE.output, hE.size, fun b hb => hE.block b (by simp; omega) (by omega)⟩);have r0 := L0.cell; have z0 := L0.lt;unfold tcells at r0;clear hE hL hr L0;cases b with
 |false =>
  go_wp2_with fail
  go_ret;exact ⟨false, rfl, HB.out, fun h => by cases h⟩
 |true =>
  go_wp2_with fail
  go_at_call 29;apply Calls.mono
  ·exact whole_ok t k _ _ _ _ _ _ _ _ (fun b hb => Nat.lt_of_lt_of_le (HK.out b hb) HB.out.size) (HT.out.ext (.of HB.out) (Nat.le_refl _))
  rintro e w3 ⟨b, rfl, hb, hr⟩;have HB3 := Lib.hid (HB.out.trans (hb.mono HB.out.size)); have HR := Lib.hid hr;clear hb hr;go_wp21;go_ret;exact ⟨b, rfl, HB3.out, HR.out⟩
set_option maxHeartbeats 1600000 in
set_option maxRecDepth 100000 in
theorem fits_any (t : Tr) (f : Nat) (a : Option Addr) (c : Nat) (a' : Option Addr) (c' : Nat) (p q : Int) (w : World) :
 Calls Try.prog 12 #[ta t f a c a' c' p q] w (fun e w' => ∃ b, e = .returned (.bool b) ∧ Below w.heap.size w w') := by
 by_cases h1 : (2147483647 : Int) < (t.name.length : Int)
 ·have d1 : decide ((2147483647 : Int) < (t.name.length : Int)) = true := decide_eq_true h1;go_enter Try.func12, Try.ntmps12
  go_wp2_with fail
  go_ret;exact ⟨_, rfl, by go_grown⟩
 have d1 : decide ((2147483647 : Int) < (t.name.length : Int)) = false := decide_eq_false h1
 by_cases h2 : (2147483647 : Int) < (t.kids.length : Int)
 ·have d2 : decide ((2147483647 : Int) < (t.kids.length : Int)) = true := decide_eq_true h2;clear h1;go_enter Try.func12, Try.ntmps12
  go_wp2_with fail
  go_ret;exact ⟨_, rfl, by go_grown⟩
 have d2 : decide ((2147483647 : Int) < (t.kids.length : Int)) = false := decide_eq_false h2
 by_cases h3 : (2147483647 : Int) < (t.map.length : Int)
 ·have d3 : decide ((2147483647 : Int) < (t.map.length : Int)) = true := decide_eq_true h3;clear h1 h2;go_enter Try.func12, Try.ntmps12
  go_wp2_with fail
  go_ret;exact ⟨_, rfl, by go_grown⟩
 have d3 : decide ((2147483647 : Int) < (t.map.length : Int)) = false := decide_eq_false h3;clear h1 h2 h3;go_enter Try.func12, Try.ntmps12
 go_wp2_with fail
 go_ret;exact ⟨_, rfl, by go_grown⟩
end
section
open Go.RowKit
theorem sb0 {α : Type} (l : List α) (i : Nat) (a : α) : l.toArray.setIfInBounds i a = (l.set i a).toArray := by simp
theorem sb1 {α : Type} (x : α) (l : List α) (b : α) : (x :: l).set 0 b = b :: l := rfl
theorem sb2 {α : Type} (x : α) (l : List α) (n : Nat) (b : α) : (x :: l).set (n + 1) b = x :: l.set n b := rfl
section
variable {P : Program} {ops : Array Oper} {Q : Exit → Act → World → Prop} {md : Region.Mode} {S : World → Prop} {late : Nat → Bool}
def AnyL (P : Program) (md : Region.Mode) (ops : Array Oper) (Q : Exit → Act → World → Prop) (S : World → Prop) (late : Nat → Bool) : Nat → Array Bool → Act → World → Prop
 |0, listed, a, w => Region.ready md ops listed = [] ∧ Q .normal a w
 |n + 1, listed, a, w => (Region.ready md ops listed = [] → Q .normal a w) ∧
  ∀ i ∈ Region.ready md ops listed, wpOp P ops Q i (fun a' w' => (late i = false → S w') ∧ AnyL P md ops Q S late n (listed.setIfInBounds i true) a' w') a w
theorem AnyL.any : (n : Nat) → (listed : Array Bool) → (a : Act) → (w : World) → AnyL P md ops Q S late n listed a w → wpAny P md ops Q n listed a w
 |0, _, _, _, h => h
 |n + 1, _, _, _, h => ⟨h.1, fun i hi => wpOp_mono (fun a' w' g => AnyL.any n _ a' w' g.2) (h.2 i hi)⟩
theorem listed_not {l : Array Bool} {n : Nat} (h : l.getD n true = false) : l.getD n false = true → False := by
 intro g;rcases Nat.lt_or_ge n l.size with hn | hn
 ·simp [hn] at h g; rw [g] at h; cases h
 ·simp [Array.getElem?_eq_none hn] at h
theorem AnyL.first {i : Nat} {oi : Oper} {v : Value} {S' : World → Prop} {late' : Nat → Bool} (hS : ∀ j w, late' j = false → (late j = false → S w) → S' w) (hSi : ∀ w, S' w → late i = false → S w) (hi : ops[i]? = some oi)
 (hsel : ∀ (j : Nat) (o : Oper) cs b, ops[j]? = some o → o.op ≠ .select cs b) (hQ : ∀ c a w, Q (.panic c) (a.put oi.dst v) w → Q (.panic c) a w)
 (hlate : ∀ j oj, ops[j]? = some oj → late' j = true → ∃ e ∈ oj.after, Region.binds md e = true ∧ (e.on = i ∨ late' e.on = true)) :
 (n : Nat) → (listed : Array Bool) → (a : Act) → (w : World) →
   (∀ j oj, ops[j]? = some oj → j ≠ i → listed.getD j true = false → (∀ e ∈ oj.after, Region.binds md e = true → e.on ≠ i) → oi.apart ops oj = true) →
   i ∈ Region.ready md ops listed → (∀ j, late' j = true → listed.getD j true = false) → YieldsIf P ops S' oi v a → S' w →
   AnyL P md ops Q S late n (listed.setIfInBounds i true) (a.put oi.dst v) w → AnyL P md ops Q S late (n + 1) listed a w := by
 have key : ∀ (listed : Array Bool), i ∈ Region.ready md ops listed → (∀ j, late' j = true → listed.getD j true = false) → ∀ j ∈ Region.ready md ops listed, late' j = false := fun listed hr hu j hj => by
  cases hl : late' j with
  |false => rfl
  |true =>
   obtain ⟨_, oj, hoj, hall⟩ := mem_ready.1 hj;obtain ⟨e, he, hb, ho⟩ := hlate j oj hoj hl;rcases ho with ho | ho
   ·exact (listed_not (mem_ready.1 hr).1 (ho ▸ hall e he hb)).elim
   ·exact (listed_not (hu _ ho) (hall e he hb)).elim
 intro n
 induction n with
 |zero =>
  intro listed a w hf hr hu hy hw H;refine ⟨fun h0 => (by rw [h0] at hr; cases hr), fun j hj => ?_⟩
  by_cases hji : j = i
  ·subst hji; exact hy.wpOp hi hw ⟨hSi w hw, H⟩
  ·have h1 := ready_mono hj hji;rw [H.1] at h1;cases h1
 |succ n ih =>
  intro listed a w hf hr hu hy hw H;refine ⟨fun h0 => (by rw [h0] at hr; cases hr), fun j hj => ?_⟩
  by_cases hji : j = i
  ·subst hji; exact hy.wpOp hi hw ⟨hSi w hw, H⟩
  ·have hlj := key listed hr hu j hj;have h1 := H.2 j (ready_mono hj hji);obtain ⟨hjun, oj, hoj, hall⟩ := mem_ready.1 hj;have hno : ∀ e ∈ oj.after, Region.binds md e = true → e.on ≠ i := fun e he hb heq => listed_not (mem_ready.1 hr).1 (heq ▸ hall e he hb);have h2 := wpOp_putIf hoj (hf j oj hoj hji hjun hno) (fun cs b => hsel i oi cs b hi) (fun cs b => hsel j oj cs b hoj) hQ hy h1;refine wpOp_mono (fun a' w' h3 => ⟨h3.2.1, ih (listed.setIfInBounds j true) a' w' ?_ (ready_mono hr (Ne.symm hji)) ?_ h3.1 (hS j w' hlj h3.2.1) ?_⟩) h2
   ·intro k ok hk hki hun hno2;refine hf k ok hk hki ?_ hno2
    by_cases hjk : j = k
    ·subst hjk; exact hjun
    ·rw [getD_set_ne true hjk] at hun; exact hun
   ·intro k hk;have hjk : j ≠ k := fun h => (by rw [h, hk] at hlj; cases hlj);rw [getD_set_ne true hjk]; exact hu k hk
   ·rw [Array.setIfInBounds_comm _ _ hji];exact h3.2.2
def lateOk (md : Region.Mode) (ops : Array Oper) (listed : Array Bool) (late : Nat → Bool) (i : Nat) : Bool :=
 (List.range (max ops.size listed.size)).all fun j => !late j || (!listed.getD j true && match ops[j]? with
   |some oj => oj.after.any fun e => Region.binds md e && (e.on == i || late e.on)
   |none => true)
theorem AnyL.take {L : List Nat} {i : Nat} {oi : Oper} {v : Value} {n : Nat} {listed : Array Bool} {a : Act} {w : World} (late' : List Nat) (hi : ops[i]? = some oi)
 (hs : Region.noSelect ops = true) (hf : Region.free md ops listed i = true) (hr : (Region.ready md ops listed).contains i = true) (hl : lateOk md ops listed (late'.contains ·) i = true) (hb : (late'.all (· < ops.size)) = true) (hsub : (L.all fun j => late'.contains j) = true)
 (hQ : ∀ c a w, Q (.panic c) (a.put oi.dst v) w → Q (.panic c) a w) (hy : YieldsIf P ops S oi v a) (hS : S w)
 (h : AnyL P md ops Q S (fun j => L.contains j) n (listed.setIfInBounds i true) (a.put oi.dst v) w) : AnyL P md ops Q S (fun j => L.contains j) (n + 1) listed a w := by
 have hl2 : ∀ j, late'.contains j = true → listed.getD j true = false ∧ ∀ oj, ops[j]? = some oj → ∃ e ∈ oj.after, Region.binds md e = true ∧ (e.on = i ∨ late'.contains e.on = true) := fun j hj => by
  unfold lateOk at hl;have hb1 : j < ops.size := by simpa using List.all_eq_true.1 hb j (by simpa using hj)
  have h1 := List.all_eq_true.1 hl j (List.mem_range.2 (by omega));simp only [hj, Bool.not_true, Bool.false_or, Bool.and_eq_true, Bool.not_eq_true'] at h1;refine ⟨h1.1, fun oj hoj => ?_⟩;have h2 := h1.2;rw [hoj] at h2;obtain ⟨e, he, h3⟩ := Array.any_eq_true'.1 h2;rw [Bool.and_eq_true] at h3;exact ⟨e, he, h3.1, by simpa using h3.2⟩
 refine AnyL.first (late' := (late'.contains ·)) (S' := S) (fun j w h1 h2 => h2 ?_) (fun w h _ => h) hi (Region.noSelect_spec hs) hQ (fun j oj hoj hj => (hl2 j hj).2 oj hoj) n listed a w (Region.free_spec hi hf) (by simpa using hr) (fun j hj => (hl2 j hj).1) hy hS h;cases hc : L.contains j with
 |false => rfl
 |true =>
  have h3 := List.all_eq_true.1 hsub j (by simpa using hc);have h1 : late'.contains j = false := h1;rw [h3] at h1; cases h1
def takeOk (md : Region.Mode) (ops : Array Oper) (L late' : List Nat) (listed : Array Bool) (i : Nat) : Bool :=
 Region.noSelect ops && (Region.free md ops listed i && ((Region.ready md ops listed).contains i && (lateOk md ops listed (late'.contains ·) i && ((late'.all (· < ops.size)) && (L.all fun j => late'.contains j)))))
theorem AnyL.tk (L late' : List Nat) (i : Nat) (v : Value) {oi : Oper} {n : Nat} {listed : Array Bool} {a : Act} {w : World} (hi : ops[i]? = some oi) (hk : takeOk md ops L late' listed i = true) (hw : Region.wanted oi (yielded ops a.tmps) = true)
 (hy : ∀ w, S w → (execOp a.eval oi).run P w = .ok (.value v) w) (hS : S w)
 (h : AnyL P md ops Q S (fun j => L.contains j) n (listed.setIfInBounds i true) (a.put oi.dst v) w) (hQ : ∀ c a w, Q (.panic c) (a.put oi.dst v) w → Q (.panic c) a w := by exact fun _ _ _ h => h) : AnyL P md ops Q S (fun j => L.contains j) (n + 1) listed a w := by
 unfold takeOk at hk;simp only [Bool.and_eq_true] at hk;exact AnyL.take late' hi hk.1 hk.2.1 hk.2.2.1 hk.2.2.2.1 hk.2.2.2.2.1 hk.2.2.2.2.2 hQ (.inl ⟨hw, hy⟩) hS h
theorem AnyL.tk0 (L late' : List Nat) (i : Nat) {oi : Oper} {n : Nat} {listed : Array Bool} {a : Act} {w : World} (hi : ops[i]? = some oi) (hk : takeOk md ops L late' listed i = true) (hw : Region.wanted oi (yielded ops a.tmps) = false) (hS : S w)
 (h : AnyL P md ops Q S (fun j => L.contains j) n (listed.setIfInBounds i true) (a.put oi.dst undef) w) (hQ : ∀ c a w, Q (.panic c) (a.put oi.dst undef) w → Q (.panic c) a w := by exact fun _ _ _ h => h) : AnyL P md ops Q S (fun j => L.contains j) (n + 1) listed a w := by
 unfold takeOk at hk;simp only [Bool.and_eq_true] at hk;exact AnyL.take late' hi hk.1 hk.2.1 hk.2.2.1 hk.2.2.2.1 hk.2.2.2.2.1 hk.2.2.2.2.2 hQ (.inr ⟨hw, rfl⟩) hS h
theorem AnyL.takeL {i : Nat} {oi : Oper} {v : Value} {n : Nat} {listed : Array Bool} {a : Act} {w : World} (hi : ops[i]? = some oi)
 (hs : Region.noSelect ops = true) (hf : Region.free md ops listed i = true) (hr : (Region.ready md ops listed).contains i = true) (hl : late i = true)
 (hQ : ∀ c a w, Q (.panic c) (a.put oi.dst v) w → Q (.panic c) a w) (hy : Yields P ops oi v a)
 (h : AnyL P md ops Q S late n (listed.setIfInBounds i true) (a.put oi.dst v) w) : AnyL P md ops Q S late (n + 1) listed a w :=
 AnyL.first (S' := fun _ => True) (late' := fun _ => false) (fun _ _ _ _ => trivial) (fun w _ h0 => by rw [hl] at h0; cases h0) hi (Region.noSelect_spec hs) hQ (fun j oj _ hj => by cases hj) n listed a w (Region.free_spec hi hf) (by simpa using hr) (fun j hj => by cases hj) hy.yieldsIf trivial h
def AllL (P : Program) (md : Region.Mode) (ops : Array Oper) (Q : Exit → Act → World → Prop) (S : World → Prop) (late : Nat → Bool) (n : Nat) (listed : Array Bool) (a : Act) (w : World) (rs : List Nat) : Prop :=
 ∀ i ∈ rs, wpOp P ops Q i (fun a' w' => (late i = false → S w') ∧ AnyL P md ops Q S late n (listed.setIfInBounds i true) a' w') a w
theorem AllL.nil {n : Nat} {listed : Array Bool} {a : Act} {w : World} : AllL P md ops Q S late n listed a w [] := fun _ h => by cases h
theorem AllL.cons {n : Nat} {listed : Array Bool} {a : Act} {w : World} {i : Nat} {o : Oper} {rs : List Nat} (ho : ops[i]? = some o)
 (h : ∀ K : Act → World → Prop, Hid (∀ a w, (late i = false → S w) → AnyL P md ops Q S late n (listed.setIfInBounds i true) a w → K a w) → if Region.wanted o (yielded ops a.tmps) = true then Oper.wp P o a w K Q else K (a.put o.dst undef) w)
 (hs : AllL P md ops Q S late n listed a w rs) : AllL P md ops Q S late n listed a w (i :: rs) := fun j hj => by
 rcases List.mem_cons.1 hj with rfl | hj
 ·exact wpOp_step ho (fun K hK => h K (Lib.hid fun a w h1 h2 => hK a w ⟨h1, h2⟩))
 ·exact hs j hj
theorem AnyL.ready {rs : List Nat} {n : Nat} {listed : Array Bool} {a : Act} {w : World} (hr : Region.ready md ops listed = rs) (hne : rs ≠ []) (h : AllL P md ops Q S late n listed a w rs) : AnyL P md ops Q S late (n + 1) listed a w :=
 ⟨fun h0 => absurd (hr ▸ h0) hne, hr ▸ h⟩
theorem AnyL.one (i : Nat) {o : Oper} {n : Nat} {listed : Array Bool} {a : Act} {w : World} (hr : Region.ready md ops listed = [i]) (ho : ops[i]? = some o)
 (h : ∀ K : Act → World → Prop, Hid (∀ a w, (late i = false → S w) → AnyL P md ops Q S late n (listed.setIfInBounds i true) a w → K a w) → if Region.wanted o (yielded ops a.tmps) = true then Oper.wp P o a w K Q else K (a.put o.dst undef) w) : AnyL P md ops Q S late (n + 1) listed a w :=
 AnyL.ready hr (by simp) (AllL.cons ho h AllL.nil)
theorem AnyL.done {listed : Array Bool} {a : Act} {w : World} (hr : Region.ready md ops listed = []) (h : Q .normal a w) : ∀ n, AnyL P md ops Q S late n listed a w
 |0 => ⟨hr, h⟩
 |_ + 1 => ⟨fun _ => h, by rw [hr]; simp⟩
theorem AnyL.start {id : Nat} {a : Act} {w : World} (hm : P.follows .mixedOrders = true) (h : AnyL P .any ops Q S late ops.size (Array.replicate ops.size false) a w.drew) : (Code.region id ops true).wp P Q a w :=
 wp_region_any hm (AnyL.any _ _ _ _ h)
end
end
section
attribute [local go_sem ↓] Go.wp_at_zero Go.wp_at_succ
open Go.RowKit
theorem IsT.pq {w : World} {k : Nat → Prop} {t : Tr} {f : Nat} {a : Option Addr} {c : Nat} {a' : Option Addr} {c' : Nat} {p q : Int} (h : IsT w k t (tcells t f a c a' c' p q)) : I64 p ∧ I64 q := by
 generalize hc : tcells t f a c a' c' p q = cs at h
 cases h with
 |mk t f a c a' c' p q ks ms hf hk' hi' hl hp hq ht hn hn' hr hs' hr' hs2 =>
  simp only [tcells, List.cons.injEq, Value.float.injEq, Value.slice.injEq, Value.int.injEq, and_true, true_and] at hc;obtain ⟨rfl, ⟨rfl, rfl⟩, ⟨rfl, rfl⟩, rfl, rfl⟩ := hc;exact ⟨hp, hq⟩
def zT : Value := .agg #[.int .i64 0, .string ⟨#[]⟩, .int .i64 0, .float .f64 0, .bool false, .bool false, .bool false, .int .i64 0, .slice none 0 0, .slice none 0 0, .int .i64 0, .int .i64 0]
theorem el23 : El Try.prog 23 25 12 120 := El.of (z := zT) (by kernel_rfl) (by kernel_rfl) rfl (by decide)
theorem IsT.grown {w w' : World} {k : Nat → Prop} {A A' : Option Addr} (g : w.grownBy w' (A.map (·.block))) (hat : A' = A ∨ A' = some ⟨w.heap.size, 0, none⟩) {v : Tr} {cs : List Value} (h : IsT w (Xs k A) v cs) : IsT w' (Xs k A') v cs := by
 have h1 : IsT w (Xs (Xs k A) A') v cs := h.other fun b hb => by
  rcases hb with hb | ⟨a, ha, rfl⟩
  ·exact .inl hb
  ·rcases hat with rfl | rfl
   ·exact .inl (.inr ⟨a, ha, rfl⟩)
   ·cases ha; exact .inr (Nat.le_refl _)
 have h2 := h1.ext ((ext_grown (k := k) g).weak fun b hb => .inl hb) (Nat.le_refl _);exact h2.other fun b hb => .inl (hb.elim (fun h => .inl (.inl h)) .inr)
theorem IsTs.grown {w w' : World} {k : Nat → Prop} {A A' : Option Addr} (g : w.grownBy w' (A.map (·.block))) (hat : A' = A ∨ A' = some ⟨w.heap.size, 0, none⟩) {l : List Tr} {cs : List Value} (h : IsTs w (Xs k A) l cs) : IsTs w' (Xs k A') l cs := by
 induction l generalizing cs with
 |nil => cases h; exact .nil
 |cons v l ih => cases h with | cons h hl => exact .cons (h.grown g hat) (ih hl)
theorem ones_t (t : Tr) (f : Nat) (a : Option Addr) (c : Nat) (a' : Option Addr) (c' : Nat) (p q : Int) : Ones (tcells t f a c a' c' p q) := by
 intro u hu;simp only [tcells, List.mem_cons, List.not_mem_nil, or_false] at hu;rcases hu with rfl | rfl | rfl | rfl | rfl | rfl | rfl | rfl | rfl | rfl | rfl | rfl <;> rfl
def Vcd (k : Nat → Prop) (t : Tr) (w : World) (e : Ending) (w' : World) : Prop :=
 ∃ f a c a' c' p q, e = .returned (ta t f a c a' c' p q) ∧ Below w.heap.size w w' ∧ IsT w' k t (tcells t f a c a' c' p q)
def VcOk (t : Tr) : Prop := WholeT t → ∀ (k : Nat → Prop) (f : Nat) (a : Option Addr) (c : Nat) (a' : Option Addr) (c' : Nat) (p q : Int) (w : World), (∀ b, k b → b < w.heap.size) → IsT w k t (tcells t f a c a' c' p q) →
 Calls Try.prog 16 #[ta t f a c a' c' p q] w (Vcd k t w)
def ncells (t : Tr) (f : Nat) (s8 : Value) (p q : Int) : List Value := [.int .i64 t.kind, .string (str t.name), .int .i64 t.int, .float .f64 f, .bool t.flag, .bool t.method, .bool t.limited, .int .i64 t.limit, s8, .slice none 0 0, .int .i64 p, .int .i64 q]
def ztcells : List Value := [.int .i64 0, .string ⟨#[]⟩, .int .i64 0, .float .f64 0, .bool false, .bool false, .bool false, .int .i64 0, .slice none 0 0, .slice none 0 0, .int .i64 0, .int .i64 0]
structure Vh (k : Nat → Prop) (w0 : World) (t : Tr) (f : Nat) (p q : Int) (A : Option Addr) (n cap : Nat) (cs : List Value) (ts : List Tr) (s8 : Value) (w : World) : Prop where
 b : Below w0.heap.size w0 w
 c0 : Lb w w0.heap.size (ncells t f s8 p q) 25
 c1 : Lb w (w0.heap.size + 1) ztcells 25
 own : w.ownsRow (w0.heap.size + 1 + 1) 25 12 (.slice A n cap) n cs
 ts : IsTs w (Xs (fun b => k b ∨ b = w0.heap.size ∨ b = w0.heap.size + 1) A) ts cs
section
variable {k : Nat → Prop} {w0 w w1 : World} {t : Tr} {f : Nat} {p q : Int} {A : Option Addr} {n cap : Nat} {cs : List Value} {ts : List Tr} {s8 : Value}
theorem Vh.below (h : Vh k w0 t f p q A n cap cs ts s8 w) (e : Below w.heap.size w w1) : Vh k w0 t f p q A n cap cs ts s8 w1 :=
 ⟨h.b.trans (e.mono h.b.size), h.c0.below e h.c0.lt, h.c1.below e h.c1.lt, own_ext (k := fun _ => False) h.own (.of e) (Nat.le_refl _) (fun _ _ h => h), h.ts.ext (.of e) (Nat.le_refl _)⟩
theorem Vh.alloc (h : Vh k w0 t f p q A n cap cs ts s8 w) (o : Obj) : Vh k w0 t f p q A n cap cs ts s8 (w.alloc o) := h.below ((Below.refl _ _).alloc (Nat.le_refl _) o)
theorem Vh.drew (h : Vh k w0 t f p q A n cap cs ts s8 w) : Vh k w0 t f p q A n cap cs ts s8 w.drew := h.below (Below.refl _ _).drew
theorem Vh.grow (h : Vh k w0 t f p q A n cap cs ts s8 w) {x : Tr} {ds : List Value} (hx : IsT w (Xs (fun b => k b ∨ b = w0.heap.size ∨ b = w0.heap.size + 1) A) x ds) {A3 : Option Addr} {n3 cap3 : Nat} (hown : w1.ownsRow (w0.heap.size + 1 + 1) 25 12 (.slice A3 n3 cap3) n3 (cs ++ ds)) (g : w.grownBy w1 (A.map (·.block))) (hat : A3 = A ∨ A3 = some ⟨w.heap.size, 0, none⟩) :
 Vh k w0 t f p q A3 n3 cap3 (cs ++ ds) (ts ++ [x]) s8 w1 := by
 have hob := own_base h.own;have hne : ∀ b, b ≤ w0.heap.size + 1 → some b ≠ A.map (·.block) := fun b hb he => by
  cases A with
  |none => cases he
  |some a => have := (hob a rfl).1; simp at he; omega
 exact ⟨h.b.trans ⟨g.os, g.tape, g.output, g.size, fun b hb => g.block b (Nat.lt_of_lt_of_le hb h.b.size) (hne b (by omega))⟩, h.c0.grown g (hne _ (by omega)), h.c1.grown g (hne _ (by omega)), hown, (h.ts.grown g hat).append (.one (hx.grown g hat))⟩
theorem Vh.set8 (h : Vh k w0 t f p q A n cap cs ts s8 w) (u : Value) : Vh k w0 t f p q A n cap cs ts u (w.setCell ⟨w0.heap.size, 8, none⟩ u) :=
 ⟨h.b.setCell (Nat.le_refl _) u, h.c0.set 8 u, h.c1.other _ _ (show w0.heap.size ≠ _ by omega), own_set h.own (by show w0.heap.size < _; omega) u, h.ts.ext ((Ext.refl _ _ _).setCell (.inl (.inl (.inr (.inl rfl)))) u) (Nat.le_refl _)⟩
end
set_option maxHeartbeats 6400000 in
set_option maxRecDepth 100000 in
theorem copy_step (t : Tr) (ih : ∀ x ∈ t.kids, VcOk x) : VcOk t := by
 intro hW k f a c a' c' p q0 w hk ht;obtain ⟨hmap, hwk⟩ : t.map = [] ∧ ∀ x ∈ t.kids, WholeT x := by cases hW with | mk t hm hl hf h16 h23 hs hk => exact ⟨hm, hk⟩
 have hm0 : t.map.length = 0 := by rw [hmap]; rfl
 have hil : t.kids.length ≤ 1172812402927 := ht.inv.2.2.2.2.2.1;have IH := Lib.hid ih; have HT := Lib.hid ht; have HK := Lib.hid hk; have HWK := Lib.hid hwk; have HMP := Lib.hid hmap;clear ih ht hk hwk hW hmap;go_enter Try.func16, Try.ntmps16
 go_wp2_with fail
 go_region
 all_goals
  go_wp2_with fail
  refine forget (fun w' => Vh k w t f p q0 none 0 0 [] [] (.slice none 0 0) w') ?_ ?_
  ·exact (⟨by go_grown, (Lb.new _ _ _).alloc _, Lb.new' _ _ _ (by simp), World.ownsRow_nil _ _ _ _, .nil⟩ : Vh k w t f p q0 none 0 0 [] [] (.slice none 0 0) _).drew
  intro W hW;have HW := Lib.hid hW;clear hW
  go_loopg [17] t.kids.length (fun g i wr => ∃ q : Nat, i = .int .i64 q ∧ q + g = t.kids.length ∧ ∃ A cap cs, Vh k w t f p q0 A q cap cs (t.kids.take q) (.slice A q cap) wr)
  case atStart => exact ⟨0, rfl, by omega, none, 0, [], HW.out⟩
  case round =>
   obtain ⟨q, rfl, hq, A, cap, cs, hR⟩ := hrel;clear HW;have z0 := hR.c0.lt; have z1 := hR.c1.lt
   by_cases hlt : 0 < gk
   ·obtain ⟨g, rfl⟩ : ∃ g, gk = g + 1 := ⟨gk - 1, by omega⟩;have hql : q < t.kids.length := (by omega);obtain ⟨x, hx⟩ : ∃ x, t.kids[q]? = some x := ⟨t.kids[q], by simp⟩;obtain ⟨b, o, rfl, hkb, hbs, f3, a3, c3, a4, c4, p3, q3, hX, h12⟩ := kid_at HT.out hx;have h12r := h12.ext (k := fun _ => False) (.of hR.b) hbs id;have d0 := h12r.c0; have d1 := h12r.c1; have d2 := h12r.c2; have d3 := h12r.c3; have d4 := h12r.c4; have d5 := h12r.c5; have d6 := h12r.c6; have d7 := h12r.c7; have d8 := h12r.c8; have d9 := h12r.c9; have d10 := h12r.c10; have d11 := h12r.c11;have hbr := Nat.lt_of_lt_of_le hbs hR.b.size;have zi0 : (0 : Int) ≤ (q : Int) := (by omega);have zi1 : (q : Int) < (t.kids.length : Int) := (by omega);have HX := Lib.hid hX; have HXQ := Lib.hid hx; have HR := Lib.hid hR;have IHx := Lib.hid (IH.out x (List.mem_of_getElem? hx)); have WX := Lib.hid (HWK.out x (List.mem_of_getElem? hx));clear hX h12 h12r hx hR
    go_upto_region 6 with (fail)
    refine forget (fun W => Vh k w t f p q0 A q cap cs (t.kids.take q) (.slice A q cap) W ∧ Below wr.heap.size wr W ∧ Lb W wr.heap.size (tcells x f3 a3 c3 a4 c4 p3 q3) 25) ?_ ?_
    ·exact ⟨HR.out.alloc _, by go_grown, Lb.new' _ _ _ rfl⟩
    rintro W ⟨hS, hBW, hL⟩;clear d0 d1 d2 d3 d4 d5 d6 d7 d8 d9 d10 d11 z0 z1 hbr;have hS0 := hS.drew;have hL0 : Lb W.drew wr.heap.size (tcells x f3 a3 c3 a4 c4 p3 q3) 25 := hL.drew;have hob := own_base hS.own;have HXW := Lib.hid (show ∀ w', Below w.heap.size w w' → IsT w' (Xs (fun b => k b ∨ b = w.heap.size ∨ b = w.heap.size + 1) A) x (tcells x f3 a3 c3 a4 c4 p3 q3) from fun w' hb => (HX.out.other (fun b hb => by
     rcases hb with (hb | hb | hb) | ⟨a, ha, rfl⟩
     ·exact .inl hb
     ·exact .inr (by omega)
     ·exact .inr (by omega)
     ·have := (hob a ha).1; exact .inr (by omega))).ext (.of hb) (Nat.le_refl _))
    refine AnyL.start (S := fun w' => w'.cell? ⟨w.heap.size, 8, none⟩ = some (.slice A q cap) ∧ w'.cell? ⟨wr.heap.size, 0, none⟩ = some (.int .i64 x.kind) ∧ w'.cell? ⟨wr.heap.size, 1, none⟩ = some (.string (str x.name)) ∧ w'.cell? ⟨wr.heap.size, 2, none⟩ = some (.int .i64 x.int) ∧ w'.cell? ⟨wr.heap.size, 3, none⟩ = some (.float .f64 f3) ∧ w'.cell? ⟨wr.heap.size, 4, none⟩ = some (.bool x.flag) ∧ w'.cell? ⟨wr.heap.size, 5, none⟩ = some (.bool x.method) ∧ w'.cell? ⟨wr.heap.size, 6, none⟩ = some (.bool x.limited) ∧ w'.cell? ⟨wr.heap.size, 7, none⟩ = some (.int .i64 x.limit) ∧ w'.cell? ⟨wr.heap.size, 8, none⟩ = some (.slice a3 x.kids.length c3) ∧ w'.cell? ⟨wr.heap.size, 9, none⟩ = some (.slice a4 x.map.length c4) ∧ w'.cell? ⟨wr.heap.size, 10, none⟩ = some (.int .i64 p3) ∧ w'.cell? ⟨wr.heap.size, 11, none⟩ = some (.int .i64 q3)) (late := fun j => [7].contains j) (by kernel_rfl) ?_;have hs0 : (fun w' => w'.cell? ⟨w.heap.size, 8, none⟩ = some (.slice A q cap) ∧ w'.cell? ⟨wr.heap.size, 0, none⟩ = some (.int .i64 x.kind) ∧ w'.cell? ⟨wr.heap.size, 1, none⟩ = some (.string (str x.name)) ∧ w'.cell? ⟨wr.heap.size, 2, none⟩ = some (.int .i64 x.int) ∧ w'.cell? ⟨wr.heap.size, 3, none⟩ = some (.float .f64 f3) ∧ w'.cell? ⟨wr.heap.size, 4, none⟩ = some (.bool x.flag) ∧ w'.cell? ⟨wr.heap.size, 5, none⟩ = some (.bool x.method) ∧ w'.cell? ⟨wr.heap.size, 6, none⟩ = some (.bool x.limited) ∧ w'.cell? ⟨wr.heap.size, 7, none⟩ = some (.int .i64 x.limit) ∧ w'.cell? ⟨wr.heap.size, 8, none⟩ = some (.slice a3 x.kids.length c3) ∧ w'.cell? ⟨wr.heap.size, 9, none⟩ = some (.slice a4 x.map.length c4) ∧ w'.cell? ⟨wr.heap.size, 10, none⟩ = some (.int .i64 p3) ∧ w'.cell? ⟨wr.heap.size, 11, none⟩ = some (.int .i64 q3)) W.drew := ⟨hS0.c0.cell 8, hL0.cell 0, hL0.cell 1, hL0.cell 2, hL0.cell 3, hL0.cell 4, hL0.cell 5, hL0.cell 6, hL0.cell 7, hL0.cell 8, hL0.cell 9, hL0.cell 10, hL0.cell 11⟩
    refine AnyL.tk [7] [7] 0 ?_ rfl (by kernel_rfl) (by rfl) ?_ hs0 (AnyL.tk [7] [7] 1 ?_ rfl (by kernel_rfl) (by rfl) ?_ hs0 (AnyL.tk [7] [7] 2 ?_ rfl (by kernel_rfl) (by rfl) ?_ hs0 ?_))
    iterate 3
     rotate_left
     ·intro w' hw'; (try simp only [Act.put, sb0, sb1, sb2])
      (try dsimp only at hw')
      go_simp
      try (with_reducible rfl)
    try simp only [Act.put, sb0, sb1, sb2]
    refine AnyL.one 3 (by kernel_rfl) rfl fun K hK => ?_;go_simp;apply Calls.mono
    ·refine IHx.out WX.out (Xs (fun b => k b ∨ b = w.heap.size ∨ b = w.heap.size + 1) A) _ _ _ _ _ _ _ _ (fun b hb => ?_) (HXW.out _ hS0.b);show b < W.heap.size;rcases hb with (hb | hb | hb) | ⟨a, ha, rfl⟩
     ·have h1 := HK.out b hb; have h2 := hS.b.size; omega
     ·have := hS.c0.lt; omega
     ·have := hS.c1.lt; omega
     ·exact (hob a ha).2
    rintro e w5 ⟨f5, a5, c5, a6, c6, p5, q5, rfl, hb5, hX5⟩;have hS5 := hS0.below hb5;have hL5 := hL0.below hb5 hL0.lt;have HX5 := Lib.hid hX5;clear hX5
    (try go_wp2_with fail)
    refine hK.out _ _ (fun _ => ⟨hS5.c0.cell 8, hL5.cell 0, hL5.cell 1, hL5.cell 2, hL5.cell 3, hL5.cell 4, hL5.cell 5, hL5.cell 6, hL5.cell 7, hL5.cell 8, hL5.cell 9, hL5.cell 10, hL5.cell 11⟩) ?_;clear hK K
    try simp only [Act.put, sb0, sb1, sb2]
    refine AnyL.one 4 (by kernel_rfl) rfl fun K hK => ?_;go_simp;have hS6 := hS5.alloc (.cells (tcells x f5 a5 c5 a6 c6 p5 q5).toArray 25);have hL6 := hL5.alloc (.cells (tcells x f5 a5 c5 a6 c6 p5 q5).toArray 25);have HX6 := Lib.hid (HX5.out.ext ((Ext.refl (Xs (fun b => k b ∨ b = w.heap.size ∨ b = w.heap.size + 1) A) _ _).alloc (Nat.le_refl _) (.cells (tcells x f5 a5 c5 a6 c6 p5 q5).toArray 25)) (Nat.le_refl _));refine hK.out _ _ (fun _ => ⟨hS6.c0.cell 8, hL6.cell 0, hL6.cell 1, hL6.cell 2, hL6.cell 3, hL6.cell 4, hL6.cell 5, hL6.cell 6, hL6.cell 7, hL6.cell 8, hL6.cell 9, hL6.cell 10, hL6.cell 11⟩) ?_;clear hK K
    try simp only [Act.put, sb0, sb1, sb2]
    refine AnyL.one 5 (by kernel_rfl) rfl fun K hK => ?_;refine step_append_o el23 (by rfl) (.tmp 22) (.tmp 25) (by rfl) (w.heap.size + 1 + 1) A q cap cs (by rfl) hS6.own _ 1 1 (tcells x f5 a5 c5 a6 c6 p5 q5) (by rfl) (by rfl) (Laid.of_lb (Lb.new' _ _ _ (by simp))) (ones_t _ _ _ _ _ _ _ _) (q + 1) rfl (by omega) hS6.c1.lt ?_;intro A3 cap3 w3 hown3 hgr3 hat3;have hS7 := hS6.grow HX6.out hown3 hgr3 hat3;have hL7 := hL6.grown hgr3 (by
     cases A with
     |none => intro h; cases h
     |some a => have := (own_base HR.out.own a rfl).2; simp only [Option.map_some, ne_eq, Option.some.injEq]; omega)
    refine hK.out _ _ (fun _ => ⟨hS7.c0.cell 8, hL7.cell 0, hL7.cell 1, hL7.cell 2, hL7.cell 3, hL7.cell 4, hL7.cell 5, hL7.cell 6, hL7.cell 7, hL7.cell 8, hL7.cell 9, hL7.cell 10, hL7.cell 11⟩) ?_;clear hK K
    try simp only [Act.put, sb0, sb1, sb2]
    have r7 := hS7.c0.cell; have g7 := hS7.c0.frozen; have z7 := hS7.c0.lt;unfold ncells at r7;refine AnyL.tk [7] [7] 6 ?_ rfl (by kernel_rfl) (by rfl) ?_ (⟨hS7.c0.cell 8, hL7.cell 0, hL7.cell 1, hL7.cell 2, hL7.cell 3, hL7.cell 4, hL7.cell 5, hL7.cell 6, hL7.cell 7, hL7.cell 8, hL7.cell 9, hL7.cell 10, hL7.cell 11⟩) ?_;rotate_left
    ·intro w' hw'
     (try dsimp only at hw')
     go_simp
     try (with_reducible rfl)
    try simp only [Act.put, sb0, sb1, sb2]
    refine AnyL.one 7 (by kernel_rfl) rfl fun K hK => ?_;go_simp;have hS8 := hS7.set8 (.slice A3 (q + 1) cap3);refine hK.out _ _ (fun h => by cases h) ?_;clear hK K r7 g7
    try simp only [Act.put, sb0, sb1, sb2]
    refine AnyL.done (by kernel_rfl) ?_ _;have H8 := Lib.hid hS8;clear hS0 hS hS5 hS6 hS7 hS8 hL hL0 hL5 hL6 hL7 hs0
    go_wp2_with fail
    go_roundg g
    case measure => omega
    case rel =>
     refine ⟨q + 1, by go_num, by omega, A3, cap3, cs ++ tcells x f5 a5 c5 a6 c6 p5 q5, ?_⟩;rw [List.take_add_one, HXQ.out];exact H8.out
   ·obtain rfl : gk = 0 := (by omega);obtain rfl : q = t.kids.length := (by omega);have HR := Lib.hid hR;clear hR
    go_wp2_with fail
    go_loopg [31] 0 (fun g i w2 => i = .int .i64 0 ∧ w2 = wr)
    case atStart => exact ⟨rfl, rfl⟩
    case round =>
     obtain ⟨rfl, rfl⟩ := hrel;have hR := HR.out;have r0 := hR.c0.cell; have r1 := hR.c1.cell; have g1 := hR.c1.frozen;unfold ncells at r0;unfold ztcells at r1;rw [List.take_length] at hR;have HR2 := Lib.hid hR;clear hR;go_wp21;refine bodyPost_ret (v := .agg #[.int .i64 t.kind, .string (str t.name), .int .i64 t.int, .float .f64 f, .bool t.flag, .bool t.method, .bool t.limited, .int .i64 t.limit, .slice A t.kids.length cap, .slice none 0 0, .int .i64 p, .int .i64 q0]) (by simp [results, Try.results16, go_sem, r1, g1, z1]; try rfl) rfl ?_;refine ⟨f, A, cap, none, 0, p, q0, by rw [← hm0], HR2.out.b.trans (by go_grown), ?_⟩;have hI := HT.out.inv;have hT : IsT wr (fun b => k b ∨ b = w.heap.size + 1) t (tcells t f A cap none 0 p q0) := .mk t f A cap none 0 p q0 cs [] hI.1 hI.2.1 hI.2.2.1 hI.2.2.2.1 HT.out.pq.1 HT.out.pq.2 hI.2.2.2.2.1 hI.2.2.2.2.2.1 hI.2.2.2.2.2.2.1 (Row.of_own HR2.out.own fun b hb => by
      rcases hb with hb | hb
      ·have := HK.out b hb; omega
      ·omega) (HR2.out.ts.other fun b hb => .inl (.inl (hb.imp id .inr))) (.inl rfl) (by rw [HMP.out]; exact .nil)
     exact (hT.ext (((((((((((((Ext.refl (fun b => k b ∨ b = w.heap.size + 1) _ _).setCell (.inl (.inr rfl)) _).setCell (.inl (.inr rfl)) _).setCell (.inl (.inr rfl)) _).setCell (.inl (.inr rfl)) _).setCell (.inl (.inr rfl)) _).setCell (.inl (.inr rfl)) _).setCell (.inl (.inr rfl)) _).setCell (.inl (.inr rfl)) _).setCell (.inl (.inr rfl)) _).setCell (.inl (.inr rfl)) _).setCell (.inl (.inr rfl)) _).setCell (.inl (.inr rfl)) _) (Nat.le_refl _)).other fun b hb => .inl (.inl hb)
mutual
theorem copy_ok : (t : Tr) → VcOk t
 |⟨a, b, c, d, e, f, g, h, ks, ms⟩ => copy_step _ fun x hx => copys_ok ks x hx
theorem copys_ok : (l : List Tr) → ∀ x ∈ l, VcOk x
 |[] => fun x h => by cases h
 |v :: l => fun x h => by
  rcases List.mem_cons.1 h with h | h
  ·rw [h]; exact copy_ok v
  ·exact copys_ok l x h
end
end
end Go.Proofs.Ytafhhdimjkgihaa.Mn
