/- SumArray: what belongs to this law alone: part 2. -/
import Derived.Test.YtafhhdimjkgihaaKSumArray1
import Derived.Test.YtafhhdimjkgihaaM09
import Derived.Test.YtafhhdimjkgihaaM42
set_option linter.unusedSimpArgs false
set_option linter.unusedVariables false
namespace Go.Proofs.Ytafhhdimjkgihaa.Mn
section
inductive NoF : Vl → Prop
 |mk (v : Vl) (h : v.kind ≠ 2) (hi : ∀ x ∈ v.items, NoF x) : NoF v
theorem NoF.kind {v : Vl} (h : NoF v) : v.kind ≠ 2 := by cases h; assumption
theorem NoF.items {v : Vl} (h : NoF v) : ∀ x ∈ v.items, NoF x := by cases h; assumption
theorem NoF.flat (v : Vl) (h : v.kind ≠ 2) (hi : v.items = []) : NoF v := .mk v h (by rw [hi]; simp)
theorem NoF.yes (b : Bool) : NoF (yes b) := .flat _ (by show (4 : Int) ≠ 2; omega) rfl
theorem NoF.list {l : List Vl} (h : ∀ x ∈ l, NoF x) : NoF { kind := 5, items := l } := .mk _ (by show (5 : Int) ≠ 2; omega) h
theorem NoF.int (n : Int) : NoF { kind := 1, int := n } := .flat _ (by show (1 : Int) ≠ 2; omega) rfl
theorem NoF.nil : NoF {} := .flat _ (by show (0 : Int) ≠ 2; omega) rfl
def Gv (f : Env → Option Vl) : Prop := ∀ env, Ok NoF env → ∀ v, f env = some v → NoF v
structure Gd (d : Dn) : Prop where
 val : Gv d.val
 body : ∀ b, d.body = some b → Gv b
 pair : ∀ k v, d.pair = some (k, v) → Gv k ∧ Gv v
theorem num_nof {v : Vl} (h : NoF v) {x : Nat} (hx : num v = some x) : v.kind = 1 := by
 unfold num at hx
 split at hx
 ·assumption
 ·rw [if_neg h.kind] at hx; cases hx
theorem arith_nof {op : Nm} (ho : op ≠ nm "/") {a b v : Vl} (ha : NoF a) (hb : NoF b) (h : arith op a b = some v) : NoF v := by
 unfold arith at h
 split at h
 ·cases h; exact .flat _ (by show (3 : Int) ≠ 2; omega) rfl
 ·split at h
  ·(repeat' split at h) <;> first | (cases h; exact .int _) | cases h
  ·rename_i h2
   split at h
   ·rename_i x y hx hy
    exact absurd ⟨num_nof ha hx, num_nof hb hy, ho⟩ h2
   ·cases h
theorem total_nof (l : List Vl) : ∀ out v : Vl, NoF out → (∀ x ∈ l, NoF x) → total out l = some v → NoF v := by
 induction l with
 |nil => intro out v ho _ h; rw [total] at h; cases h; exact ho
 |cons x l ih =>
  intro out v ho hl h;rw [total] at h
  split at h
  ·cases h
  ·cases ha : arith (nm "+") out x with
   |none => rw [ha] at h; cases h
   |some o =>
    rw [ha] at h;exact ih o v (arith_nof (by decide) ho (hl x (by simp)) ha) (fun y hy => hl y (by simp [hy])) h
theorem at_mem : ∀ (keys : List Nm) (items : List Vl) (k : Nm) (x : Vl), at_ keys items k = some x → x ∈ items := by
 intro keys
 induction keys with
 |nil => intro items k x h; rw [at_] at h <;> first | cases h | (intros; simp_all)
 |cons k' ks ih =>
  intro items k x h;cases items with
  |nil => rw [at_] at h <;> first | cases h | (intros; simp_all)
  |cons y ys =>
   rw [at_] at h
   split at h
   ·cases h; simp
   ·exact List.mem_cons_of_mem _ (ih ys k x h)
theorem element_nof {a b v : Vl} (ha : NoF a) (h : element a b = some v) : NoF v := by
 unfold element at h
 split at h
 ·dsimp only at h
  generalize (if b.int < 0 then b.int + (a.items.length : Int) else b.int) = i at h
  split at h
  ·cases h
  ·exact ha.items v (List.mem_of_getElem? h)
 ·split at h
  ·cases h;cases hx : at_ a.keys a.items b.text with
   |none => exact .nil
   |some x => exact ha.items x (at_mem _ _ _ _ hx)
  ·cases h
theorem setV_nof {v x : Vl} (k : Nm) (hv : NoF v) (hx : NoF x) : NoF (setV v k x) := by
 have hl : ∀ p ∈ (v.keys.zip v.items).map (fun p => if p.1 = k then (p.1, x) else p), NoF p.2 := fun p hp => by
  obtain ⟨q, hq, rfl⟩ := List.mem_map.1 hp
  split
  ·exact hx
  ·exact hv.items _ (List.of_mem_zip hq).2
 refine .mk _ (by show (6 : Int) ≠ 2; omega) fun y hy => ?_;obtain ⟨p, hp, rfl⟩ := List.mem_map.1 (show y ∈ (set_ v.keys v.items k x).map (·.2) from hy);unfold set_ at hp;simp only at hp
 split at hp
 ·exact hl p hp
 ·rcases List.mem_append.1 hp with hp | hp
  ·exact hl p hp
  ·have : p = (k, x) := (by simpa using hp);rw [this]; exact hx
theorem unary_nof {op : Nm} {a v : Vl} (ha : NoF a) (h : unary op a = some v) : NoF v := by
 unfold unary at h
 split at h
 ·cases h; exact .yes _
 ·split at h
  ·cases h; exact .int _
  ·split at h
   ·rename_i h2; exact absurd h2.2 ha.kind
   ·split at h
    ·cases h; exact ha
    ·cases h
theorem both_nof {op : Nm} (ho : op ≠ nm "/") {a b v : Vl} (ha : NoF a) (hb : NoF b) (h : both op a b = some v) : NoF v := by
 unfold both at h
 split at h
 ·exact arith_nof ho ha hb h
 split at h
 ·cases h; exact .yes _
 split at h
 ·cases h; exact .yes _
 split at h
 ·obtain ⟨x, _, rfl⟩ := Option.map_eq_some_iff.1 h; exact .yes _
 split at h
 ·obtain ⟨x, _, rfl⟩ := Option.map_eq_some_iff.1 h; exact .yes _
 split at h
 ·obtain ⟨x, _, rfl⟩ := Option.map_eq_some_iff.1 h; exact .yes _
 split at h
 ·obtain ⟨x, _, rfl⟩ := Option.map_eq_some_iff.1 h; exact .yes _
 split at h
 ·unfold within at h
  (repeat' split at h) <;> first | (cases h; exact .yes _) | cases h
 split at h
 ·unfold span at h
  (repeat' split at h) <;> first
    |(cases h; done)
    |(cases h; exact .list (fun x hx => by cases hx))
    |(cases h;refine .list fun x hx => ?_;unfold ints at hx;obtain ⟨i, _, rfl⟩ := List.mem_map.1 hx;exact .int _)
 split at h
 ·split at h
  ·cases h; exact .yes _
  ·cases h
 ·cases h
theorem plain_nof {n : Nm} {a v : Vl} (ha : NoF a) (h : plain n a = some v) : NoF v := by
 unfold plain at h
 split at h
 ·cases h; exact .int _
 split at h
 ·exact total_nof _ _ _ (.int 0) ha.items h
 split at h
 ·cases h;cases hh : a.items.head? with
  |none => exact .nil
  |some x => exact ha.items x (List.mem_of_mem_head? hh)
 split at h
 ·cases h;cases hh : a.items.getLast? with
  |none => exact .nil
  |some x => exact ha.items x (List.mem_of_mem_getLast? hh)
 split at h
 ·obtain ⟨x, _, rfl⟩ := Option.map_eq_some_iff.1 h; exact .int _
 ·cases h
theorem list_nof {env : Env} (he : Ok NoF env) : ∀ (l : List Dn), (∀ d ∈ l, Gd d) → ∀ vs, list env l = some vs → ∀ x ∈ vs, NoF x := by
 intro l
 induction l with
 |nil => intro _ vs h; rw [list] at h; cases h; simp
 |cons d l ih =>
  intro hl vs h x hx;rw [list] at h;obtain ⟨v, hv, h⟩ := Option.bind_eq_some_iff.1 h;obtain ⟨ws, hw, h⟩ := Option.bind_eq_some_iff.1 h;cases h;rcases List.mem_cons.1 hx with rfl | hx
  ·exact (hl d (by simp)).val env he _ hv
  ·exact ih (fun d hd => hl d (by simp [hd])) ws hw x hx
theorem pr_some {α β : Type} {a : Option α} {b : Option β} {p : α × β} (h : pr a b = some p) : a = some p.1 ∧ b = some p.2 := by
 cases a with
 |none => cases h
 |some x => cases b with
  |none => cases h
  |some y => cases h; exact ⟨rfl, rfl⟩
theorem pairs_nof {env : Env} (he : Ok NoF env) : ∀ (l : List Dn), (∀ d ∈ l, Gd d) → ∀ out v, NoF out → pairs env out l = some v → NoF v := by
 intro l
 induction l with
 |nil => intro _ out v ho h; rw [pairs] at h; cases h; exact ho
 |cons d l ih =>
  intro hl out v ho h;rw [pairs] at h;cases hp : d.pair with
  |none => rw [hp] at h; cases h
  |some kv =>
   obtain ⟨k, u⟩ := kv;rw [hp] at h;obtain ⟨p, hpp, h⟩ := Option.bind_eq_some_iff.1 h
   split at h
   ·have hg := (hl d (by simp)).pair k u hp;exact ih (fun d hd => hl d (by simp [hd])) _ v (setV_nof _ ho (hg.2 env he _ (pr_some hpp).2)) h
   ·cases h
theorem mapped_nof {p : Env → Option Vl} (hp : Gv p) {env : Env} (he : Ok NoF env) : ∀ (l : List (Vl × Int)), (∀ x ∈ l, NoF x.1) → ∀ vs, mapped p env l = some vs → ∀ x ∈ vs, NoF x := by
 intro l
 induction l with
 |nil => intro _ vs h; rw [mapped] at h; cases h; simp
 |cons y l ih =>
  intro hl vs h x hx;obtain ⟨y, i⟩ := y;rw [mapped] at h;obtain ⟨v, hv, h⟩ := Option.bind_eq_some_iff.1 h;obtain ⟨ws, hw, h⟩ := Option.bind_eq_some_iff.1 h;cases h;rcases List.mem_cons.1 hx with rfl | hx
  ·exact hp _ (he.here i (hl (y, i) (by simp))) _ hv
  ·exact ih (fun d hd => hl d (by simp [hd])) ws hw x hx
theorem done_nof {c : Ch} {kept : List Vl} {many : Int} {v : Vl} (hk : ∀ x ∈ kept, NoF x) (h : c.done kept many = some v) : NoF v := by
 unfold Ch.done at h
 (repeat' split at h) <;> first
   |(cases h; exact .yes _)
   |(cases h; exact .int _)
   |(cases h; exact .list hk)
   |(cases h; exact .nil)
   |cases h
theorem chosen_nof {c : Ch} (hm : ∀ m, c.map = some m → Gv m) {p : Env → Option Vl} {env : Env} (he : Ok NoF env) : ∀ (l : List (Vl × Int)), (∀ x ∈ l, NoF x.1) → ∀ kept many v, (∀ x ∈ kept, NoF x) → chosen c p env l kept many = some v → NoF v := by
 intro l
 induction l with
 |nil => intro _ kept many v hk h; rw [chosen] at h; exact done_nof hk h
 |cons y l ih =>
  intro hl kept many v hk h;obtain ⟨y, i⟩ := y;have hy : NoF y := hl (y, i) (by simp);have hl2 : ∀ x ∈ l, NoF x.1 := fun d hd => hl d (by simp [hd]);rw [chosen] at h;obtain ⟨is, his, h⟩ := Option.bind_eq_some_iff.1 h
  split at h
  ·cases h; exact .yes _
  split at h
  ·cases h; exact .yes _
  split at h
  ·cases h; exact .yes _
  split at h
  ·exact ih hl2 _ _ _ hk h
  split at h
  ·split at h
   ·rename_i m hmm; exact hm m hmm _ (he.here i hy) _ h
   ·cases h; exact hy
  split at h
  ·cases h; exact .int _
  split at h
  ·cases h; exact .int _
  split at h
  ·rename_i m hmm
   obtain ⟨z, hz, h⟩ := Option.bind_eq_some_iff.1 h;exact ih hl2 _ _ _ (fun x hx => by
    rcases List.mem_append.1 hx with hx | hx
    ·exact hk x hx
    ·have : x = z := (by simpa using hx);rw [this]; exact hm m hmm _ (he.here i hy) _ hz) h
  ·exact ih hl2 _ _ _ (fun x hx => by
    rcases List.mem_append.1 hx with hx | hx
    ·exact hk x hx
    ·have : x = y := (by simpa using hx);rw [this]; exact hy) h
theorem zipIdx_nof {l : List Vl} (h : ∀ x ∈ l, NoF x) : ∀ x ∈ zipIdx l, NoF x.1 := fun x hx => by
 unfold zipIdx at hx;obtain ⟨p, hp, rfl⟩ := List.mem_map.1 hx;exact h _ (List.fst_mem_of_mem_zipIdx hp)
theorem blt_nof {c : Ch} (hm : ∀ m, c.map = some m → Gv m) {env : Env} (he : Ok NoF env) : ∀ (l : List Dn), (∀ d ∈ l, Gd d) → ∀ v, builtin c env l = some v → NoF v := by
 intro l hl v h
 match l, hl, h with
 |[], _, h => cases h
 |[d], hl, h =>
  rw [builtin] at h;obtain ⟨u, hu, h⟩ := Option.bind_eq_some_iff.1 h;exact plain_nof ((hl d (by simp)).val env he _ hu) h
 |d :: e :: x :: l, hl, h =>
  rw [builtin] at h;obtain ⟨u, hu, h⟩ := Option.bind_eq_some_iff.1 h;cases h
 |[d, e], hl, h =>
  rw [builtin] at h;obtain ⟨u, hu, h⟩ := Option.bind_eq_some_iff.1 h;have hun := (hl d (by simp)).val env he _ hu;cases hb : e.body with
  |none => rw [hb] at h; cases h
  |some p =>
   rw [hb] at h;simp only at h;have hp := (hl e (by simp)).body p hb;have hz := zipIdx_nof hun.items
   split at h
   ·unfold builtin2 at h
    split at h
    ·obtain ⟨ws, hw, h⟩ := Option.bind_eq_some_iff.1 h;cases h;exact .list (mapped_nof hp he _ hz _ hw)
    split at h
    ·obtain ⟨ws, hw, h⟩ := Option.bind_eq_some_iff.1 h;exact total_nof _ _ _ (.int 0) (mapped_nof hp he _ hz _ hw) h
    split at h
    ·refine chosen_nof hm he _ (fun x hx => ?_) _ _ _ (by simp) h;unfold order at hx
     split at hx
     ·exact hz x (List.mem_reverse.1 hx)
     ·exact hz x hx
    ·cases h
   ·cases h
theorem sem_nof (t : Tr) (h4 : t.kind ≠ 4) (h10 : ¬ (t.kind = 10 ∧ t.name = nm "/")) (ks ms : List Dn) (hk : ∀ d ∈ ks, Gd d) (hm : ∀ d ∈ ms, Gd d) : Gv (sem t ks ms) := by
 intro env he v h;unfold sem at h
 by_cases c0 : t.kind = 1
 ·rw [if_pos c0] at h;cases h; exact .nil
 rw [if_neg c0] at h
 by_cases c1 : t.kind = 2
 ·rw [if_pos c1] at h;unfold lookup at h;obtain ⟨p, hp, rfl⟩ := Option.map_eq_some_iff.1 h;exact he.names p (by simpa using List.mem_of_find?_eq_some hp)
 rw [if_neg c1] at h
 by_cases c2 : t.kind = 3
 ·rw [if_pos c2] at h;cases h; exact .int _
 rw [if_neg c2] at h
 by_cases c3 : t.kind = 4
 ·rw [if_pos c3] at h;exact absurd c3 h4
 rw [if_neg c3] at h
 by_cases c4 : t.kind = 5
 ·rw [if_pos c4] at h;cases h; exact .flat _ (by show (4 : Int) ≠ 2; omega) rfl
 rw [if_neg c4] at h
 by_cases c5 : t.kind = 6
 ·rw [if_pos c5] at h;cases h; exact .flat _ (by show (3 : Int) ≠ 2; omega) rfl
 rw [if_neg c5] at h
 by_cases c6 : t.kind = 8 ∨ t.kind = 21
 ·rw [if_pos c6] at h;obtain ⟨l, hl, h⟩ := Option.bind_eq_some_iff.1 h;cases h;exact .list (list_nof he _ hk _ hl)
 rw [if_neg c6] at h
 by_cases c7 : t.kind = 9
 ·rw [if_pos c7] at h
  split at h
  ·obtain ⟨u, hu, h⟩ := Option.bind_eq_some_iff.1 h;exact unary_nof ((hk _ (by simp)).val env he _ hu) h
  ·cases h
 rw [if_neg c7] at h
 by_cases c8 : t.kind = 10
 ·rw [if_pos c8] at h;have hn : t.name ≠ nm "/" := fun hn => h10 ⟨c8, hn⟩;unfold binary at h
  split at h
  ·rename_i a b
   have ga := (hk a (by simp)).val env he;have gb := (hk b (by simp)).val env he
   split at h
   ·obtain ⟨x, hx, h⟩ := Option.bind_eq_some_iff.1 h
    split at h
    ·cases h; exact .yes _
    ·obtain ⟨y, hy, h⟩ := Option.bind_eq_some_iff.1 h;cases h; exact .yes _
   ·split at h
    ·obtain ⟨x, hx, h⟩ := Option.bind_eq_some_iff.1 h
     split at h
     ·cases h; exact ga _ hx
     ·exact gb _ h
    ·obtain ⟨p, hp, h⟩ := Option.bind_eq_some_iff.1 h;exact both_nof hn (ga _ (pr_some hp).1) (gb _ (pr_some hp).2) h
  ·cases h
 rw [if_neg c8] at h
 by_cases c9 : t.kind = 12
 ·rw [if_pos c9] at h
  split at h
  ·split at h
   ·cases h
   ·obtain ⟨p, hp, h⟩ := Option.bind_eq_some_iff.1 h;exact element_nof ((hk _ (by simp)).val env he _ (pr_some hp).1) h
  ·cases h
 rw [if_neg c9] at h
 by_cases c10 : t.kind = 15
 ·rw [if_pos c10] at h;refine blt_nof (fun m hmm => ?_) he _ hk _ h
  match ms, hm, hmm with
  |[d], hm, hmm => cases hmm; exact (hm d (by simp)).val
 rw [if_neg c10] at h
 by_cases c11 : t.kind = 17
 ·rw [if_pos c11] at h;unfold pointer at h
  split at h
  ·cases h
  ·rename_i x i hi
   split at h
   ·cases h; exact he.item _ _ hi
   ·split at h
    ·cases h; exact .int _
    ·split at h
     ·cases h; exact .nil
     ·cases h
 rw [if_neg c11] at h
 by_cases c12 : t.kind = 18
 ·rw [if_pos c12] at h
  split at h
  ·rename_i c a b
   obtain ⟨x, hx, h⟩ := Option.bind_eq_some_iff.1 h
   split at h
   ·exact (hk a (by simp)).val env he _ h
   ·exact (hk b (by simp)).val env he _ h
  ·cases h
 rw [if_neg c12] at h
 by_cases c13 : t.kind = 19
 ·rw [if_pos c13] at h
  split at h
  ·rename_i a b
   obtain ⟨x, hx, h⟩ := Option.bind_eq_some_iff.1 h;exact (hk b (by simp)).val _ (he.with _ ((hk a (by simp)).val env he _ hx)) _ h
  ·cases h
 rw [if_neg c13] at h
 by_cases c14 : t.kind = 20
 ·rw [if_pos c14] at h;obtain ⟨l, hl, h⟩ := Option.bind_eq_some_iff.1 h;exact list_nof he _ hk _ hl _ (List.mem_of_mem_getLast? h)
 rw [if_neg c14] at h
 by_cases c15 : t.kind = 22
 ·rw [if_pos c15] at h;exact pairs_nof he _ hk _ _ (.flat _ (by show (6 : Int) ≠ 2; omega) rfl) h
 rw [if_neg c15] at h;cases h
theorem D_nof {t : Tr} (h : NoFl t) : Gd (D t) := by
 induction h with
 |mk t h4 h10 hk hm ihk ihm =>
  have k1 : ∀ d ∈ Ds t.kids, Gd d := fun d hd => by rw [Ds_eq] at hd; obtain ⟨x, hx, rfl⟩ := List.mem_map.1 hd; exact ihk x hx
  have k2 : ∀ d ∈ Ds t.map, Gd d := fun d hd => by rw [Ds_eq] at hd; obtain ⟨x, hx, rfl⟩ := List.mem_map.1 hd; exact ihm x hx
  rw [D_eq t];refine ⟨sem_nof t h4 h10 _ _ k1 k2, fun b hb => ?_, fun k v hp => ?_⟩
  ·unfold node at hb;simp only at hb
   split at hb
   ·match hq : Ds t.kids, hb with
    |[d], hb => rw [hq] at k1; cases hb; exact (k1 d (by simp)).val
   ·cases hb
  ·unfold node at hp;simp only at hp
   split at hp
   ·match hq : Ds t.kids, hp with
    |[a, b], hp => rw [hq] at k1; cases hp; exact ⟨(k1 a (by simp)).val, (k1 b (by simp)).val⟩
   ·cases hp
end
section
attribute [local go_sem ↓] Go.wp_at_zero Go.wp_at_succ
open Go.RowKit
inductive NoSum : Tr → Prop
 |mk (t : Tr) (h : ¬ (t.kind = 15 ∧ t.name = nm "sum")) (hk : ∀ x ∈ t.kids, NoSum x) (hm : ∀ x ∈ t.map, NoSum x) : NoSum t
def Any1 (_ : Tr) : Prop := True
def BlP (P : Prop) (w : World) (e : Ending) (w' : World) : Prop := ∃ b, e = .returned (.bool b) ∧ Below w.heap.size w w' ∧ (b = false → P)
def SmOk (t : Tr) : Prop := ∀ (k : Nat → Prop) (f : Nat) (a : Option Addr) (c : Nat) (a' : Option Addr) (c' : Nat) (p q : Int) (w : World), IsT w k t (tcells t f a c a' c' p q) →
 Calls Try.prog 46 #[ta t f a c a' c' p q] w (BlP (NoSum t) w)
set_option maxHeartbeats 6400000 in
set_option maxRecDepth 100000 in
theorem sums_step (t : Tr) (ih : ∀ x ∈ t.kids, SmOk x) (ihm : ∀ x ∈ t.map, SmOk x) : SmOk t := by
 intro k f a c a' c' p q0 w ht;have IH := Lib.hid (And.intro ih ihm); have HT := Lib.hid ht;have hil : t.kids.length ≤ 1172812402927 := ht.inv.2.2.2.2.2.1;have hml : t.map.length ≤ 1172812402927 := ht.inv.2.2.2.2.2.2.1;clear ih ihm ht;go_enter Try.func46, Try.ntmps46
 go_wp2_with fail
 refine forget (fun w' => Below w.heap.size w w' ∧ Lb w' w.heap.size (tcells t f a c a' c' p q0) 25 ∧ Lb w' (w.heap.size + 1) [.slice a t.kids.length c, .slice a' t.map.length c'] 23) ?_ ?_
 ·exact ⟨by go_grown, (Lb.new _ _ _).alloc _, Lb.new' _ _ _ (by simp)⟩
 intro W hW;have HW := Lib.hid hW;clear hW
 go_loopg [13] 2 (fun g i wr => ∃ j : Nat, i = .int .i64 j ∧ j + g = 2 ∧ Below w.heap.size w wr ∧ Lb wr w.heap.size (tcells t f a c a' c' p q0) 25 ∧ Lb wr (w.heap.size + 1) [.slice a t.kids.length c, .slice a' t.map.length c'] 23 ∧ (0 < j → ∀ x ∈ t.kids, NoSum x) ∧ (1 < j → ∀ x ∈ t.map, NoSum x))
 case atStart => exact ⟨0, rfl, by omega, HW.out.1, HW.out.2.1, HW.out.2.2, fun h => by omega, fun h => by omega⟩
 case round =>
  obtain ⟨j, rfl, hj, hB, hL, hR, hN0, hN1⟩ := hrel;clear HW;have HB := Lib.hid hB; have HL := Lib.hid hL; have HR := Lib.hid hR; have HN := Lib.hid (And.intro hN0 hN1);have z0 := hL.lt; have z1 := hR.lt
  by_cases hlt : 0 < gk
  ·obtain ⟨g, rfl⟩ : ∃ g, gk = g + 1 := ⟨gk - 1, by omega⟩;obtain ⟨l, al, cl, rs, hrow, hts, hcell, hlen, hall, hwh⟩ : ∃ l al cl rs, Row w k al rs ∧ IsTs w k l rs ∧ wr.cell? ⟨w.heap.size + 1, j, none⟩ = some (.slice al l.length cl) ∧ l.length ≤ 1172812402927 ∧ (∀ x ∈ l, SmOk x) ∧ (j = 0 ∧ l = t.kids ∨ j = 1 ∧ l = t.map) := by
    obtain ⟨_, _, _, _, _, _, _, ⟨ks, h1, h2⟩, ⟨ms, h3, h4⟩⟩ := HT.out.inv;rcases (show j = 0 ∨ j = 1 by omega) with rfl | rfl
    ·exact ⟨_, _, _, ks, h1, h2, by rw [hR.cell]; rfl, hil, IH.out.1, .inl ⟨rfl, rfl⟩⟩
    ·exact ⟨_, _, _, ms, h3, h4, by rw [hR.cell]; rfl, hml, IH.out.2, .inr ⟨rfl, rfl⟩⟩
   have HO := Lib.hid (And.intro hrow (And.intro hts (And.intro hall hwh)));have zj0 : (0 : Int) ≤ (j : Int) := (by omega);have zj1 : (j : Int) < 2 := (by omega);clear hB hL hR hN0 hN1 hrow hts hall hwh hil hml
   go_wp2_with fail
   refine forget (fun w' => w' = wr) rfl ?_;rintro W2 rfl;clear hcell
   go_loopg [19] l.length (fun g2 s19 w3 => ∃ q : Nat, s19 = .int .i64 q ∧ q + g2 = l.length ∧ Below w.heap.size w w3 ∧ Lb w3 w.heap.size (tcells t f a c a' c' p q0) 25 ∧ Lb w3 (w.heap.size + 1) [.slice a t.kids.length c, .slice a' t.map.length c'] 23 ∧ ∀ x ∈ l.take q, NoSum x)
   case atStart => exact ⟨0, rfl, by omega, HB.out, HL.out, HR.out, by simp⟩
   case round =>
    obtain ⟨q, rfl, hq, hB3, hL3, hR3, hN3⟩ := hrel;have HB3 := Lib.hid hB3; have HL3 := Lib.hid hL3; have HR3 := Lib.hid hR3; have HN3 := Lib.hid hN3;clear z0 z1;have z0 := hL3.lt; have z1 := hR3.lt
    by_cases hlt2 : 0 < gk
    ·obtain ⟨g2, rfl⟩ : ∃ g, gk = g + 1 := ⟨gk - 1, by omega⟩;have hql : q < l.length := (by omega);obtain ⟨x, hx⟩ : ∃ x, l[q]? = some x := ⟨l[q], by simp⟩;obtain ⟨b, o, rfl⟩ := HO.out.1.some_of (HO.out.2.1.ne hql);obtain ⟨hkb, hbs, f3, a3, c3, a4, c4, p3, q3, hX, h12⟩ := IsTs.cells HO.out.1 HO.out.2.1 hx;have h12r := h12.ext (k := fun _ => False) (.of hB3) hbs id;have d0 := h12r.c0; have d1 := h12r.c1; have d2 := h12r.c2; have d3 := h12r.c3; have d4 := h12r.c4; have d5 := h12r.c5; have d6 := h12r.c6; have d7 := h12r.c7; have d8 := h12r.c8; have d9 := h12r.c9; have d10 := h12r.c10; have d11 := h12r.c11;have hbr := Nat.lt_of_lt_of_le hbs hB3.size;have zi0 : (0 : Int) ≤ (q : Int) := (by omega);have zi1 : (q : Int) < (l.length : Int) := (by omega);have HX := Lib.hid hX; have HXQ := Lib.hid hx;have IHx := Lib.hid (HO.out.2.2.1 x (List.mem_of_getElem? hx));clear hX h12 h12r hx hB3 hL3 hR3 hN3
     go_wp2_with fail
     go_at_call 46;apply Calls.mono
     ·exact IHx.out k _ _ _ _ _ _ _ _ ((HX.out.ext (.of HB3.out) (Nat.le_refl _)).ext (k := k) ((Ext.refl _ _ _).alloc (Nat.le_refl _) _) (Nat.le_refl _))
     rintro e w5 ⟨is, rfl, hb5, hr5⟩;have HB5 := Lib.hid (show Below w.heap.size w w5 from (HB3.out.alloc HB3.out.size _).trans (hb5.mono (by have := HB3.out.size; simp; omega)));have HL5 := Lib.hid ((HL3.out.alloc _).below hb5 (by simp; omega));have HR5 := Lib.hid ((HR3.out.alloc _).below hb5 (by simp; omega));have HQ5 := Lib.hid hr5;clear hb5 hr5 d0 d1 d2 d3 d4 d5 d6 d7 d8 d9 d10 d11;cases is with
     |true =>
      go_wp21;go_ret;exact ⟨true, rfl, HB5.out, fun h => by cases h⟩
     |false =>
      go_wp2_with fail
      go_roundg g2
      case measure => omega
      case rel =>
       refine ⟨q + 1, by go_num, by omega, HB5.out, HL5.out, HR5.out, fun y hy => ?_⟩;rw [List.take_add_one, HXQ.out] at hy;rcases List.mem_append.1 hy with hy | hy
       ·exact HN3.out y hy
       ·have : y = x := (by simpa using hy);rw [this]; exact HQ5.out (by first | rfl | trivial)
    ·obtain rfl : gk = 0 := (by omega);obtain rfl : q = l.length := (by omega);clear hB3 hL3 hR3 hN3;have hjw : wrap64 ((j : Int) + 1) = ((j + 1 : Nat) : Int) := by unfold wrap64; omega
     go_wp2_with fail
     go_roundg g
     case measure => omega
     case rel =>
      have hN4 : ∀ x ∈ l, NoSum x := fun x hx => HN3.out x (by rw [List.take_of_length_le (Nat.le_refl _)]; exact hx);refine ⟨j + 1, by go_num, by omega, HB3.out, HL3.out, HR3.out, ?_, ?_⟩
      ·rcases HO.out.2.2.2 with ⟨h1, h2⟩ | ⟨h1, h2⟩
       ·intro _; rw [← h2]; exact hN4
       ·intro _; exact HN.out.1 (by omega)
      ·rcases HO.out.2.2.2 with ⟨h1, h2⟩ | ⟨h1, h2⟩
       ·intro h; omega
       ·intro _; rw [← h2]; exact hN4
  ·obtain rfl : gk = 0 := (by omega);obtain rfl : j = 2 := (by omega);have r0 := hL.cell;unfold tcells at r0;clear hB hL hR hN0 hN1;cases h15 : (t.kind == 15)
   all_goals cases hn : (t.name == [115, 117, 109])
   all_goals
    go_wp21;go_ret
    first |exact ⟨true, rfl, HB.out, fun h => (by cases h)⟩ |exact ⟨false, rfl, HB.out, fun h => .mk t (fun hh => by rw [hh.1] at h15; exact absurd h15 (by decide)) (HN.out.1 (by omega)) (HN.out.2 (by omega))⟩ |exact ⟨false, rfl, HB.out, fun h => .mk t (fun hh => by rw [hh.2] at hn; exact absurd hn (by decide)) (HN.out.1 (by omega)) (HN.out.2 (by omega))⟩
mutual
theorem sums_ok : (t : Tr) → SmOk t
 |⟨a, b, c, d, e, f, g, h, ks, ms⟩ => sums_step _ (fun x hx => sumss_ok ks x hx) (fun x hx => sumss_ok ms x hx)
theorem sumss_ok : (l : List Tr) → ∀ x ∈ l, SmOk x
 |[] => fun x h => by cases h
 |v :: l => fun x h => by
  rcases List.mem_cons.1 h with h | h
  ·rw [h]; exact sums_ok v
  ·exact sumss_ok l x h
end
def RlOk (t : Tr) : Prop := ∀ (k : Nat → Prop) (f : Nat) (a : Option Addr) (c : Nat) (a' : Option Addr) (c' : Nat) (p q : Int) (w : World), IsT w k t (tcells t f a c a' c' p q) →
 Calls Try.prog 47 #[ta t f a c a' c' p q] w (BlP (Any1 t) w)
set_option maxHeartbeats 6400000 in
set_option maxRecDepth 100000 in
theorem real_step (t : Tr) (ih : ∀ x ∈ t.kids, RlOk x) (ihm : ∀ x ∈ t.map, RlOk x) : RlOk t := by
 intro k f a c a' c' p q0 w ht;have IH := Lib.hid (And.intro ih ihm); have HT := Lib.hid ht;have hil : t.kids.length ≤ 1172812402927 := ht.inv.2.2.2.2.2.1;have hml : t.map.length ≤ 1172812402927 := ht.inv.2.2.2.2.2.2.1;clear ih ihm ht;go_enter Try.func47, Try.ntmps47
 go_wp2_with fail
 refine forget (fun w' => Below w.heap.size w w' ∧ Lb w' w.heap.size (tcells t f a c a' c' p q0) 25 ∧ Lb w' (w.heap.size + 1) [.slice a t.kids.length c, .slice a' t.map.length c'] 23) ?_ ?_
 ·exact ⟨by go_grown, (Lb.new _ _ _).alloc _, Lb.new' _ _ _ (by simp)⟩
 intro W hW;have HW := Lib.hid hW;clear hW
 go_loopg [13] 2 (fun g i wr => ∃ j : Nat, i = .int .i64 j ∧ j + g = 2 ∧ Below w.heap.size w wr ∧ Lb wr w.heap.size (tcells t f a c a' c' p q0) 25 ∧ Lb wr (w.heap.size + 1) [.slice a t.kids.length c, .slice a' t.map.length c'] 23 ∧ (0 < j → ∀ x ∈ t.kids, Any1 x) ∧ (1 < j → ∀ x ∈ t.map, Any1 x))
 case atStart => exact ⟨0, rfl, by omega, HW.out.1, HW.out.2.1, HW.out.2.2, fun h => by omega, fun h => by omega⟩
 case round =>
  obtain ⟨j, rfl, hj, hB, hL, hR, hN0, hN1⟩ := hrel;clear HW;have HB := Lib.hid hB; have HL := Lib.hid hL; have HR := Lib.hid hR; have HN := Lib.hid (And.intro hN0 hN1);have z0 := hL.lt; have z1 := hR.lt
  by_cases hlt : 0 < gk
  ·obtain ⟨g, rfl⟩ : ∃ g, gk = g + 1 := ⟨gk - 1, by omega⟩;obtain ⟨l, al, cl, rs, hrow, hts, hcell, hlen, hall, hwh⟩ : ∃ l al cl rs, Row w k al rs ∧ IsTs w k l rs ∧ wr.cell? ⟨w.heap.size + 1, j, none⟩ = some (.slice al l.length cl) ∧ l.length ≤ 1172812402927 ∧ (∀ x ∈ l, RlOk x) ∧ (j = 0 ∧ l = t.kids ∨ j = 1 ∧ l = t.map) := by
    obtain ⟨_, _, _, _, _, _, _, ⟨ks, h1, h2⟩, ⟨ms, h3, h4⟩⟩ := HT.out.inv;rcases (show j = 0 ∨ j = 1 by omega) with rfl | rfl
    ·exact ⟨_, _, _, ks, h1, h2, by rw [hR.cell]; rfl, hil, IH.out.1, .inl ⟨rfl, rfl⟩⟩
    ·exact ⟨_, _, _, ms, h3, h4, by rw [hR.cell]; rfl, hml, IH.out.2, .inr ⟨rfl, rfl⟩⟩
   have HO := Lib.hid (And.intro hrow (And.intro hts (And.intro hall hwh)));have zj0 : (0 : Int) ≤ (j : Int) := (by omega);have zj1 : (j : Int) < 2 := (by omega);clear hB hL hR hN0 hN1 hrow hts hall hwh hil hml
   go_wp2_with fail
   refine forget (fun w' => w' = wr) rfl ?_;rintro W2 rfl;clear hcell
   go_loopg [19] l.length (fun g2 s19 w3 => ∃ q : Nat, s19 = .int .i64 q ∧ q + g2 = l.length ∧ Below w.heap.size w w3 ∧ Lb w3 w.heap.size (tcells t f a c a' c' p q0) 25 ∧ Lb w3 (w.heap.size + 1) [.slice a t.kids.length c, .slice a' t.map.length c'] 23 ∧ ∀ x ∈ l.take q, Any1 x)
   case atStart => exact ⟨0, rfl, by omega, HB.out, HL.out, HR.out, by simp⟩
   case round =>
    obtain ⟨q, rfl, hq, hB3, hL3, hR3, hN3⟩ := hrel;have HB3 := Lib.hid hB3; have HL3 := Lib.hid hL3; have HR3 := Lib.hid hR3; have HN3 := Lib.hid hN3;clear z0 z1;have z0 := hL3.lt; have z1 := hR3.lt
    by_cases hlt2 : 0 < gk
    ·obtain ⟨g2, rfl⟩ : ∃ g, gk = g + 1 := ⟨gk - 1, by omega⟩;have hql : q < l.length := (by omega);obtain ⟨x, hx⟩ : ∃ x, l[q]? = some x := ⟨l[q], by simp⟩;obtain ⟨b, o, rfl⟩ := HO.out.1.some_of (HO.out.2.1.ne hql);obtain ⟨hkb, hbs, f3, a3, c3, a4, c4, p3, q3, hX, h12⟩ := IsTs.cells HO.out.1 HO.out.2.1 hx;have h12r := h12.ext (k := fun _ => False) (.of hB3) hbs id;have d0 := h12r.c0; have d1 := h12r.c1; have d2 := h12r.c2; have d3 := h12r.c3; have d4 := h12r.c4; have d5 := h12r.c5; have d6 := h12r.c6; have d7 := h12r.c7; have d8 := h12r.c8; have d9 := h12r.c9; have d10 := h12r.c10; have d11 := h12r.c11;have hbr := Nat.lt_of_lt_of_le hbs hB3.size;have zi0 : (0 : Int) ≤ (q : Int) := (by omega);have zi1 : (q : Int) < (l.length : Int) := (by omega);have HX := Lib.hid hX; have HXQ := Lib.hid hx;have IHx := Lib.hid (HO.out.2.2.1 x (List.mem_of_getElem? hx));clear hX h12 h12r hx hB3 hL3 hR3 hN3
     go_wp2_with fail
     go_at_call 47;apply Calls.mono
     ·exact IHx.out k _ _ _ _ _ _ _ _ ((HX.out.ext (.of HB3.out) (Nat.le_refl _)).ext (k := k) ((Ext.refl _ _ _).alloc (Nat.le_refl _) _) (Nat.le_refl _))
     rintro e w5 ⟨is, rfl, hb5, hr5⟩;have HB5 := Lib.hid (show Below w.heap.size w w5 from (HB3.out.alloc HB3.out.size _).trans (hb5.mono (by have := HB3.out.size; simp; omega)));have HL5 := Lib.hid ((HL3.out.alloc _).below hb5 (by simp; omega));have HR5 := Lib.hid ((HR3.out.alloc _).below hb5 (by simp; omega));have HQ5 := Lib.hid hr5;clear hb5 hr5 d0 d1 d2 d3 d4 d5 d6 d7 d8 d9 d10 d11;cases is with
     |true =>
      go_wp21;go_ret;exact ⟨true, rfl, HB5.out, fun h => by cases h⟩
     |false =>
      go_wp2_with fail
      go_roundg g2
      case measure => omega
      case rel =>
       refine ⟨q + 1, by go_num, by omega, HB5.out, HL5.out, HR5.out, fun y hy => ?_⟩;rw [List.take_add_one, HXQ.out] at hy;rcases List.mem_append.1 hy with hy | hy
       ·exact HN3.out y hy
       ·have : y = x := (by simpa using hy);rw [this]; exact HQ5.out (by first | rfl | trivial)
    ·obtain rfl : gk = 0 := (by omega);obtain rfl : q = l.length := (by omega);clear hB3 hL3 hR3 hN3;have hjw : wrap64 ((j : Int) + 1) = ((j + 1 : Nat) : Int) := by unfold wrap64; omega
     go_wp2_with fail
     go_roundg g
     case measure => omega
     case rel =>
      have hN4 : ∀ x ∈ l, Any1 x := fun x hx => HN3.out x (by rw [List.take_of_length_le (Nat.le_refl _)]; exact hx);refine ⟨j + 1, by go_num, by omega, HB3.out, HL3.out, HR3.out, ?_, ?_⟩
      ·rcases HO.out.2.2.2 with ⟨h1, h2⟩ | ⟨h1, h2⟩
       ·intro _; rw [← h2]; exact hN4
       ·intro _; exact HN.out.1 (by omega)
      ·rcases HO.out.2.2.2 with ⟨h1, h2⟩ | ⟨h1, h2⟩
       ·intro h; omega
       ·intro _; rw [← h2]; exact hN4
  ·obtain rfl : gk = 0 := (by omega);obtain rfl : j = 2 := (by omega);have r0 := hL.cell;unfold tcells at r0;clear hB hL hR hN0 hN1;cases h4 : (t.kind == 4)
   all_goals cases h10 : (t.kind == 10)
   all_goals cases hn : (t.name == [47])
   all_goals
    go_wp21;go_ret
    first | exact ⟨true, rfl, HB.out, fun _ => trivial⟩ | exact ⟨false, rfl, HB.out, fun _ => trivial⟩
mutual
theorem real_ok : (t : Tr) → RlOk t
 |⟨a, b, c, d, e, f, g, h, ks, ms⟩ => real_step _ (fun x hx => reals_ok ks x hx) (fun x hx => reals_ok ms x hx)
theorem reals_ok : (l : List Tr) → ∀ x ∈ l, RlOk x
 |[] => fun x h => by cases h
 |v :: l => fun x h => by
  rcases List.mem_cons.1 h with h | h
  ·rw [h]; exact real_ok v
  ·exact reals_ok l x h
end
end
section
theorem fold_has {P : Tr → Prop} (h0 : P (mkI 0)) (hp : ∀ a b, P a → P b → P (mkPlus a b)) : ∀ (ks : List Tr), (∀ x ∈ ks, P x) → P (sumFold ks)
 |[], _ => h0
 |[x], h => h x (by simp)
 |x :: y :: l, h => by rw [sumFold]; exact hp _ _ (h x (by simp)) (fold_has h0 hp (y :: l) fun z hz => h z (List.mem_cons_of_mem _ hz))
theorem bare_sumArray (t : Tr) (h : Bare t) : Bare (stSumArray t) := by
 unfold stSumArray
 split
 ·split
  ·rename_i a hk
   split
   ·exact fold_has (.mk _ rfl fun x h => by cases h) (fun a b ha hb => .mk _ rfl fun x hx => by
     rcases List.mem_cons.1 hx with rfl | hx
     ·exact ha
     ·rcases List.mem_cons.1 hx with rfl | hx
      ·exact hb
      ·cases hx) _ (h.kids a (by rw [hk]; simp)).kids
   ·exact h
  ·exact h
 ·exact h
theorem nofl_sumArray (t : Tr) (h : NoFl t) : NoFl (stSumArray t) := by
 unfold stSumArray
 split
 ·split
  ·rename_i a hk
   split
   ·exact fold_has (.mk _ (by decide) (by decide) (fun x h => by cases h) fun x h => by cases h) (fun a b ha hb => .mk _ (by show (10 : Int) ≠ 4; decide) (by rintro ⟨_, h⟩; revert h; show ¬ nm "+" = nm "/"; decide) (fun x hx => by
     rcases List.mem_cons.1 hx with rfl | hx
     ·exact ha
     ·rcases List.mem_cons.1 hx with rfl | hx
      ·exact hb
      ·cases hx) fun x h => by cases h) _ (h.kids a (by rw [hk]; simp)).kids
   ·exact h
  ·exact h
 ·exact h
theorem nofl_T {t : Tr} (h : NoFl t) : NoFl (T stSumArray t) := by
 induction h with
 |mk t h4 h10 hk hm ihk ihm =>
  rw [T_eq];refine nofl_sumArray _ (.mk _ h4 h10 (fun x hx => ?_) hm);have hx : x ∈ Ts stSumArray t.kids := hx;rw [Ts_eq] at hx;obtain ⟨y, hy, rfl⟩ := List.mem_map.1 hx;exact ihk y hy
theorem nofl_nrm {t : Tr} (hW : WholeT t) (h : NoFl t) : NoFl (nrm t) := by
 induction h with
 |mk t h4 h10 hk hm ihk ihm =>
  refine .mk _ (by rw [nrm_kind]; exact h4) (fun g => ?_) (fun x hx => ?_) (fun x hx => ?_)
  ·rw [nrm_kind] at g;refine h10 ⟨g.1, ?_⟩;have e : (nrm t).name = t.name := (by rw [nrm_eq]; unfold strike; dsimp only; rw [if_pos (by rw [g.1]; rfl)]);rw [← e]; exact g.2
  ·rw [nrm_kids, nrms_eq] at hx;obtain ⟨y, hy, rfl⟩ := List.mem_map.1 hx;exact ihk y hy (hW.parts.2.2.2.2 y hy)
  ·rw [Struck.map ⟨t, hW, rfl⟩] at hx; cases hx
theorem nosum_nrm {t : Tr} (hW : WholeT t) (h : NoSum t) : NoSum (nrm t) := by
 induction h with
 |mk t h15 hk hm ihk ihm =>
  refine .mk _ (fun g => ?_) (fun x hx => ?_) (fun x hx => ?_)
  ·rw [nrm_kind] at g;refine h15 ⟨g.1, ?_⟩;have e : (nrm t).name = t.name := (by rw [nrm_eq]; unfold strike; dsimp only; rw [if_pos (by rw [g.1]; rfl)]);rw [← e]; exact g.2
  ·rw [nrm_kids, nrms_eq] at hx;obtain ⟨y, hy, rfl⟩ := List.mem_map.1 hx;exact ihk y hy (hW.parts.2.2.2.2 y hy)
  ·rw [Struck.map ⟨t, hW, rfl⟩] at hx; cases hx
theorem T_nosum {t : Tr} (h : NoSum t) : T stSumArray t = t := by
 induction h with
 |mk t h15 hk hm ihk ihm =>
  have e : Ts stSumArray t.kids = t.kids := by
   rw [Ts_eq];have : ∀ (l : List Tr), (∀ x ∈ l, T stSumArray x = x) → l.map (T stSumArray) = l := fun l => by
    induction l with
    |nil => intro _; rfl
    |cons a l ih => intro h; rw [List.map_cons, h a (by simp), ih fun x hx => h x (by simp [hx])]
   exact this _ ihk
  rw [T_eq, with_kids e];unfold stSumArray;rw [if_neg h15]
theorem asks_sumArray (names : List (Nm × Vl)) (t : Tr) (hW : WholeT t) (hF : NoFl t) (hS : NoSum t ∨ ∀ p ∈ names, NoF p.2) : Asks true t (T stSumArray (nrm t)) names ∧ fine t ∧ fine (T stSumArray (nrm t)) := by
 refine ⟨fun _ _ => ?_, fine_whole hW, (Bare_T bare_sumArray _ (Struck.bare ⟨t, hW, rfl⟩)).fine⟩;show ∀ v, (D t).val { names := names, item := none } = some v → (D (T stSumArray (nrm t))).val { names := names, item := none } = some v;rcases hS with hS | hS
 ·intro v hv;rw [T_nosum (nosum_nrm hW hS), nrm_D t hW]; exact hv
 have h := T_rel (k := true) (G := NoF) (fun v h => h.items) stSumArray (fun t => Struck t ∧ NoFl t) (fun t h x hx => ⟨h.1.kids x hx, h.2.kids x hx⟩) (fun t h => (D_nof h.2).val) (fun t h => h.1.map) (fun t h => ?_) (nrm t) ⟨⟨t, hW, rfl⟩, nofl_nrm hW hF⟩
 ·rw [nrm_D t hW] at h;have hv := h.val { names := names, item := none } ⟨hS, fun x i h => by cases h⟩;intro v hv1;rcases hv with hv | ⟨_, hv⟩
  ·rw [← hv]; exact hv1
  ·rw [hv] at hv1; cases hv1
 ·rw [T_eq];refine sumArray_ok (fun v h => h.kind) _ fun a ha k hk => ?_;have ha : a ∈ Ts stSumArray t.kids := ha;rw [Ts_eq] at ha;obtain ⟨y, hy, rfl⟩ := List.mem_map.1 ha;exact (D_nof ((nofl_T (h.2.kids y hy)).kids k hk)).val
end
end Go.Proofs.Ytafhhdimjkgihaa.Mn
