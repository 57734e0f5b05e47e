/- FilterMap: what belongs to this law alone: part 2. -/
import Derived.Test.YtafhhdimjkgihaaKFilterMap1
import Derived.Test.YtafhhdimjkgihaaJ14
import Derived.Test.YtafhhdimjkgihaaJ15
import Derived.Test.YtafhhdimjkgihaaJ09
set_option linter.unusedSimpArgs false
set_option linter.unusedVariables false
namespace Go.Proofs.Ytafhhdimjkgihaa.Mn
section
def isHash (t : Tr) : Bool := decide (t.kind = 17) && decide (t.name = [])
def ofSum (p : Tr) (sum many : Int) : Option Int :=
 if p.kind = 16 then match p.kids with
  |[q] => if isHash q = true then some sum
   else if q.kind = 10 then match q.kids with
    |[x, y] => if isHash x = true ∧ y.kind = 3 then (if q.name = nm "*" then some (wrap (y.int * sum)) else if q.name = nm "+" then some (wrap (sum + wrap (many * y.int))) else if q.name = nm "-" then some (wrap (sum - wrap (many * y.int))) else none)
     else if x.kind = 3 ∧ isHash y = true then (if q.name = nm "*" then some (wrap (x.int * sum)) else if q.name = nm "+" then some (wrap (sum + wrap (many * x.int))) else if q.name = nm "-" then some (wrap (wrap (many * x.int) - sum)) else none)
     else none
    |_ => none
   else none
  |_ => none
 else none
def stSumRange (t : Tr) : Tr :=
 if t.kind = 15 ∧ t.name = nm "sum" then match t.kids with
  |r :: ps => if r.kind = 10 ∧ r.name = nm ".." then match r.kids with
   |[i, j] => if i.kind = 3 ∧ j.kind = 3 ∧ i.int ≤ j.int then match ps with
    |[] => mkI (serie i.int j.int)
    |[p] => match ofSum p (serie i.int j.int) (manyOf i.int j.int) with
     |some s => mkI s
     |none => t
    |_ => t
    else t
   |_ => t
   else t
  |_ => t
 else t
theorem val_hash (t : Tr) (h : isHash t = true) (env : Env) (n i : Int) : (D t).val (here env { kind := 1, int := n } i) = some { kind := 1, int := n } := by
 unfold isHash at h;simp only [Bool.and_eq_true, decide_eq_true_eq] at h;rw [D_eq t];show sem t _ _ _ = _;unfold sem;rw [if_neg (by omega), if_neg (by omega), if_neg (by omega), if_neg (by omega), if_neg (by omega), if_neg (by omega), if_neg (by omega), if_neg (by omega), if_neg (by omega), if_neg (by omega), if_neg (by omega), if_pos h.1];unfold pointer here;simp only;rw [if_pos h.2]
theorem binary_arith (n : Nm) (hn : n = nm "*" ∨ n = nm "+" ∨ n = nm "-") (env : Env) (a b : Dn) : binary n env [a, b] = (pr (a.val env) (b.val env)).bind fun p => arith n p.1 p.2 := by
 unfold binary both;rcases hn with rfl | rfl | rfl <;> simp (decide := true)
theorem arith_minus (a b : Int) : arith (nm "-") { kind := 1, int := a } { kind := 1, int := b } = some { kind := 1, int := wrap (a - b) } := by
 unfold arith; simp (decide := true)
theorem arith_times (a b : Int) : arith (nm "*") { kind := 1, int := a } { kind := 1, int := b } = some { kind := 1, int := wrap (a * b) } := by
 unfold arith; simp (decide := true)
theorem wrap_sub_l (a b : Int) : wrap (wrap a - b) = wrap (a - b) := by
 unfold wrap Go.RowKit.wrap64; omega
theorem wrap_sub_r (a b : Int) : wrap (a - wrap b) = wrap (a - b) := by
 unfold wrap Go.RowKit.wrap64; omega
theorem wrap_wrap (a : Int) : wrap (wrap a) = wrap a := by
 unfold wrap Go.RowKit.wrap64; omega
theorem ofSum_ok (p : Tr) (l : List Int) (s : Int) (h : ofSum p (sumI l) l.length = some s) (hw : wrap (sumI l) = sumI l) :
 ∃ b f, (D p).body = some b ∧ (∀ env n i, b (here env { kind := 1, int := n } i) = some { kind := 1, int := f n }) ∧ wrap (sumI (l.map f)) = s := by
 unfold ofSum at h
 split at h
 ·rename_i hp
  split at h
  ·rename_i q hq
   have hb : (D p).body = some (D q).val := by
    rw [D_eq p]; unfold node; simp only; rw [if_pos hp, hq]; rfl
   split at h
   ·rename_i h1
    cases h;exact ⟨_, id, hb, fun env n i => val_hash q h1 env n i, by rw [List.map_id]; exact hw⟩
   ·split at h
    ·rename_i h2
     split at h
     ·rename_i x y hxy
      have hv : ∀ env, (D q).val env = binary q.name env [D x, D y] := fun env => by rw [val_10 q h2, hxy]; rfl
      split at h
      ·rename_i h3
       split at h
       ·rename_i ho
        cases h;refine ⟨_, fun n => wrap (n * y.int), hb, fun env n i => ?_, ?_⟩
        ·rw [hv, binary_arith _ (.inl ho), val_hash x h3.1, val_3 y h3.2, ho]; exact arith_times _ _
        ·rw [wrap_sumI (fun n => wrap (n * y.int)) (fun n => y.int * n) (fun n => by rw [wrap_wrap, Int.mul_comm]), sumI_mul]
       ·split at h
        ·rename_i ho
         cases h;refine ⟨_, fun n => wrap (n + y.int), hb, fun env n i => ?_, ?_⟩
         ·rw [hv, binary_arith _ (.inr (.inl ho)), val_hash x h3.1, val_3 y h3.2, ho]; exact arith_plus _ _
         ·rw [wrap_sumI (fun n => wrap (n + y.int)) (fun n => n + y.int) (fun n => wrap_wrap _), sumI_add, wrap_add_r]
        ·split at h
         ·rename_i ho
          cases h;refine ⟨_, fun n => wrap (n - y.int), hb, fun env n i => ?_, ?_⟩
          ·rw [hv, binary_arith _ (.inr (.inr ho)), val_hash x h3.1, val_3 y h3.2, ho]; exact arith_minus _ _
          ·rw [wrap_sumI (fun n => wrap (n - y.int)) (fun n => n + -y.int) (fun n => by rw [wrap_wrap]; rfl), sumI_add, wrap_sub_r, Int.mul_neg]; rfl
         ·cases h
      ·split at h
       ·rename_i h3
        split at h
        ·rename_i ho
         cases h;refine ⟨_, fun n => wrap (x.int * n), hb, fun env n i => ?_, ?_⟩
         ·rw [hv, binary_arith _ (.inl ho), val_hash y h3.2, val_3 x h3.1, ho]; exact arith_times _ _
         ·rw [wrap_sumI (fun n => wrap (x.int * n)) (fun n => x.int * n) (fun n => wrap_wrap _), sumI_mul]
        ·split at h
         ·rename_i ho
          cases h;refine ⟨_, fun n => wrap (x.int + n), hb, fun env n i => ?_, ?_⟩
          ·rw [hv, binary_arith _ (.inr (.inl ho)), val_hash y h3.2, val_3 x h3.1, ho]; exact arith_plus _ _
          ·rw [wrap_sumI (fun n => wrap (x.int + n)) (fun n => n + x.int) (fun n => by rw [wrap_wrap, Int.add_comm]), sumI_add, wrap_add_r]
         ·split at h
          ·rename_i ho
           cases h;refine ⟨_, fun n => wrap (x.int - n), hb, fun env n i => ?_, ?_⟩
           ·rw [hv, binary_arith _ (.inr (.inr ho)), val_hash y h3.2, val_3 x h3.1, ho]; exact arith_minus _ _
           ·rw [wrap_sumI (fun n => wrap (x.int - n)) (fun n => x.int - n) (fun n => wrap_wrap _), sumI_sub, wrap_sub_l]
          ·cases h
       ·cases h
     ·cases h
    ·cases h
  ·cases h
 ·cases h
theorem pl_plain_sum (ys : List Vl) : plain (nm "sum") { kind := 5, items := ys } = total { kind := 1 } ys := by
 unfold plain; simp (decide := true)
theorem sumRange_ok {G : Vl → Prop} (t : Tr) : Rd true G (D t) (D (stSumRange t)) := by
 unfold stSumRange
 split
 ·rename_i h
  split
  ·rename_i r ps hk
   split
   ·rename_i h2
    split
    ·rename_i i j hij
     split
     ·rename_i h3
      have hr : ∀ env, (D r).val env = span { kind := 1, int := i.int } { kind := 1, int := j.int } := fun env => by
       rw [val_10 r h2.1, h2.2, hij];simp only [Ds];show binary (nm "..") env [D i, D j] = _;unfold binary;simp only [show ¬ (nm ".." = nm "and" ∨ nm ".." = nm "&&" ∨ nm ".." = nm "or" ∨ nm ".." = nm "||") by decide, show nm ".." ≠ nm "??" by decide, if_false];rw [val_3 i h3.1, val_3 j h3.2.1];exact pl_both_span _ _
      split
      ·refine node_15 (.inl h.1) (.inr (.inr (.inr rfl))) fun env _ => ?_;rw [val_15 t h.1, hk, h.2, val_3 (mkI _) rfl];simp only [Ds, builtin];rw [hr];cases hv : span { kind := 1, int := i.int } { kind := 1, int := j.int } with
       |none => exact .inr ⟨rfl, rfl⟩
       |some v =>
        obtain ⟨l, rfl, _, e2, e3⟩ := span_some _ _ h3.2.2 _ hv;left;simp only [Option.bind_some];rw [pl_plain_sum];have := total_ints l 0;rw [wrap_0, Int.zero_add, e3] at this;rw [show (mkI (serie i.int j.int)).int = serie i.int j.int from rfl, e2];exact this
      ·rename_i p
       split
       ·rename_i s hs
        refine node_15 (.inl h.1) (.inr (.inr (.inr rfl))) fun env _ => ?_;rw [val_15 t h.1, hk, h.2, val_3 (mkI _) rfl];simp only [Ds, builtin];rw [hr];cases hv : span { kind := 1, int := i.int } { kind := 1, int := j.int } with
        |none => exact .inr ⟨rfl, rfl⟩
        |some v =>
         obtain ⟨l, rfl, e1, e2, e3⟩ := span_some _ _ h3.2.2 _ hv;rw [e1, e2] at hs;obtain ⟨b, f, hb, hf, hfs⟩ := ofSum_ok p l s hs e3;left;simp only [Option.bind_some];rw [hb];simp only;rw [if_pos trivial];unfold builtin2;rw [if_neg (by show nm "sum" ≠ nm "map"; decide), if_pos rfl];have hm := mapped_ints b env f (hf env) l 0;unfold zipIdx;simp only;rw [hm, Option.bind_some];have := total_ints (l.map f) 0;rw [wrap_0, Int.zero_add, hfs] at this;exact this
       ·exact .refl _
      ·exact .refl _
     ·exact .refl _
    ·exact .refl _
   ·exact .refl _
  ·exact .refl _
 ·exact .refl _
end
section
def mkPlus (a b : Tr) : Tr := { kind := 10, name := nm "+", int := 0, flt := 0, flag := false, method := false, limited := false, limit := 0, kids := [a, b], map := [] }
def sumFold : List Tr → Tr
 |[] => mkI 0
 |[x] => x
 |x :: y :: l => mkPlus x (sumFold (y :: l))
def stSumArray (t : Tr) : Tr :=
 if t.kind = 15 ∧ t.name = nm "sum" then match t.kids with
  |[a] => if a.kind = 21 ∧ 2 ≤ a.kids.length then sumFold a.kids else t
  |_ => t
 else t
theorem total_inv (vs : List Vl) : ∀ (s : Int) (r : Vl), (∀ v ∈ vs, v.kind ≠ 2) → total { kind := 1, int := wrap s } vs = some r →
 (∀ v ∈ vs, v.kind = 1) ∧ r = { kind := 1, int := wrap (s + sumI (vs.map (·.int))) } := by
 induction vs with
 |nil => intro s r _ h; rw [total] at h; cases h; exact ⟨by simp, by simp [sumI]⟩
 |cons v vs ih =>
  intro s r hv h;have h2 := hv v (by simp);rw [total] at h
  split at h
  ·cases h
  ·rename_i h1
   have hk : v.kind = 1 := (by omega);have e : arith (nm "+") { kind := 1, int := wrap s } v = some { kind := 1, int := wrap (s + v.int) } := by
    unfold arith; rw [hk, ← wrap_add_l s v.int]; simp (decide := true)
   rw [e] at h;obtain ⟨i1, i2⟩ := ih _ _ (fun v hv' => hv v (by simp [hv'])) h;refine ⟨?_, ?_⟩
   ·intro u hu;rcases List.mem_cons.1 hu with rfl | hu
    ·exact hk
    ·exact i1 u hu
   ·rw [i2, List.map_cons, sumI]; congr 2; omega
theorem fold_ints (env : Env) : ∀ (ks : List Tr) (vs : List Vl), list env (Ds ks) = some vs → (∀ v ∈ vs, v.kind = 1) → ks ≠ [] →
 ∃ u : Vl, (D (sumFold ks)).val env = some u ∧ u.kind = 1 ∧ wrap u.int = wrap (sumI (vs.map (·.int))) ∧ (2 ≤ ks.length → u = { kind := 1, int := wrap (sumI (vs.map (·.int))) }) := by
 intro ks
 induction ks with
 |nil => intro vs _ _ h; exact absurd rfl h
 |cons k ks ih =>
  intro vs h hv _;rw [Ds, list] at h;cases hk : (D k).val env with
  |none => rw [hk] at h; cases h
  |some v =>
   rw [hk, Option.bind_some] at h;cases hl : list env (Ds ks) with
   |none => rw [hl] at h; cases h
   |some ws =>
    rw [hl, Option.bind_some] at h;cases h;have hv1 := hv v (by simp);cases ks with
    |nil =>
     rw [Ds, list] at hl;cases hl;exact ⟨v, hk, hv1, by simp [sumI], by simp⟩
    |cons y l =>
     obtain ⟨u, u1, u2, u3, _⟩ := ih ws hl (fun v hv' => hv v (by simp [hv'])) (by simp);have e : (D (sumFold (k :: y :: l))).val env = some { kind := 1, int := wrap (v.int + u.int) } := by
      rw [sumFold, val_10 (mkPlus _ _) rfl];show binary (nm "+") env [D k, D (sumFold (y :: l))] = _;rw [binary_arith _ (.inr (.inl rfl)), hk, u1];show arith (nm "+") v u = _;unfold arith; rw [hv1, u2]; simp (decide := true)
     have e2 : wrap (v.int + u.int) = wrap (sumI ((v :: ws).map (·.int))) := by
      rw [List.map_cons, sumI, ← wrap_add_r, u3, wrap_add_r]
     exact ⟨_, e, rfl, by rw [← e2]; exact wrap_wrap _, fun _ => by rw [e2]⟩
theorem sumFold_kind (ks : List Tr) (h : 2 ≤ ks.length) : (sumFold ks).kind = 10 := by
 match ks, h with
 |x :: y :: l, _ => rw [sumFold]; rfl
theorem sumArray_ok {G : Vl → Prop} (hG : ∀ v, G v → v.kind ≠ 2) (t : Tr) (hk : ∀ a ∈ t.kids, ∀ k ∈ a.kids, ∀ env, Ok G env → ∀ v, (D k).val env = some v → G v) : Rd true G (D t) (D (stSumArray t)) := by
 unfold stSumArray
 split
 ·rename_i h
  split
  ·rename_i a ha
   split
   ·rename_i h2
    refine node_15 (.inl h.1) (.inr (.inr (.inl (sumFold_kind _ h2.2)))) fun env he => ?_;have hva : (D a).val env = (list env (Ds a.kids)).bind fun l => some { kind := 5, items := l } := by
     rw [D_eq a];show sem a _ _ env = _;unfold sem;rw [if_neg (by omega), if_neg (by omega), if_neg (by omega), if_neg (by omega), if_neg (by omega), if_neg (by omega), if_pos (.inr h2.1)]
    rw [val_15 t h.1, ha, h.2];simp only [Ds, builtin];rw [hva];cases hl : list env (Ds a.kids) with
    |none => exact .inr ⟨rfl, rfl⟩
    |some vs =>
     simp only [Option.bind_some];rw [pl_plain_sum];have hf : ∀ v ∈ vs, v.kind ≠ 2 := by
      have hkk := hk a (by rw [ha]; simp);clear hva h2 ha
      revert vs
      generalize a.kids = ks at hkk
      induction ks with
      |nil => intro vs hl v hv; rw [Ds, list] at hl; cases hl; cases hv
      |cons k ks ih =>
       intro vs hl v hv;rw [Ds, list] at hl;cases h1 : (D k).val env with
       |none => rw [h1] at hl; cases hl
       |some w =>
        rw [h1, Option.bind_some] at hl;cases h3 : list env (Ds ks) with
        |none => rw [h3] at hl; cases hl
        |some ws =>
         rw [h3, Option.bind_some] at hl;cases hl;rcases List.mem_cons.1 hv with rfl | hv
         ·exact hG _ (hkk k (by simp) env he _ h1)
         ·exact ih (fun k hk' => hkk k (by simp [hk'])) ws h3 v hv
     cases ht : total { kind := 1 } vs with
     |none => exact .inr ⟨rfl, rfl⟩
     |some r =>
      obtain ⟨i1, i2⟩ := total_inv vs 0 r hf (by rw [wrap_0]; exact ht);obtain ⟨u, u1, _, _, u4⟩ := fold_ints env a.kids vs hl i1 (by intro hx; rw [hx] at h2; simp at h2);left;rw [u1, u4 h2.2, i2, Int.zero_add]
   ·exact .refl _
  ·exact .refl _
 ·exact .refl _
end
section
def mapN (q : Env → Option Vl) (env : Env) : List Vl → Option (List Vl)
 |[] => some []
 |x :: l => (q (here env x 0)).bind fun y => (mapN q env l).bind fun ys => some (y :: ys)
theorem mapped_mapN (q : Env → Option Vl) (env : Env) (hq : ∀ x i, q (here env x i) = q (here env x 0)) (l : List Vl) : ∀ k : Nat, mapped q env ((l.zipIdx k).map fun p => (p.1, (p.2 : Int))) = mapN q env l := by
 induction l with
 |nil => intro k; rfl
 |cons x l ih =>
  intro k;rw [List.zipIdx_cons, List.map_cons, mapped, mapN, hq, ih]
theorem mapN_append (q : Env → Option Vl) (env : Env) (l m : List Vl) : mapN q env (l ++ m) = (mapN q env l).bind fun ys => (mapN q env m).bind fun zs => some (ys ++ zs) := by
 induction l with
 |nil => rw [List.nil_append, mapN]; cases mapN q env m <;> rfl
 |cons x l ih =>
  rw [List.cons_append, mapN, mapN, ih];cases q (here env x 0) with
  |none => rfl
  |some y => cases mapN q env l <;> cases mapN q env m <;> rfl
theorem filter_kept (c : Ch) (hn : c.name = nm "filter") (hm : c.map = none) (p : Env → Option Vl) (env : Env) (l : List (Vl × Int)) :
 ∀ (kept : List Vl) (many : Int) (v : Vl), chosen c p env l kept many = some v → ∃ ys, v = { kind := 5, items := kept ++ ys } := by
 intro kept many v h;obtain ⟨ys, h1, _⟩ := filter_find c { name := nm "find", limited := false, limit := 0, flag := false, map := none } { name := nm "find", limited := false, limit := 0, flag := false, map := none } hn (.inl rfl) (.inl rfl) hm.symm hm.symm p env l kept [] many 0 v h;exact ⟨ys, h1⟩
theorem filter_map (c cm : Ch) (hn : c.name = nm "filter") (hnm : cm.name = nm "filter") (hm : c.map = none) (q : Env → Option Vl) (hq : cm.map = some q) (p : Env → Option Vl) (env : Env) (hi : ∀ x i, q (here env x i) = q (here env x 0)) (l : List (Vl × Int)) :
 ∀ (kept : List Vl) (many many2 : Int), (chosen c p env l kept many).bind (fun v => (mapN q env v.items).bind fun r => some ({ kind := 5, items := r } : Vl)) = (mapN q env kept).bind fun k2 => chosen cm p env l k2 many2 := by
 induction l with
 |nil =>
  intro kept many many2;rw [chosen, done_filter c hn];simp only [Option.bind_some]
  congr 1
  funext r
  rw [chosen, done_filter cm hnm]
 |cons x l ih =>
  intro kept many many2;obtain ⟨x, i⟩ := x;rw [step_filter' c hn];simp only [step_filter' cm hnm];have e1 : made1 c env x i = some x := by unfold made1; rw [hm]
  have e2 : made1 cm env x i = q (here env x 0) := by unfold made1; rw [hq]; exact hi x i
  rw [e1, e2];cases ht : truth p (here env x i) with
  |none => cases mapN q env kept <;> rfl
  |some is =>
   simp only [Option.bind_some];cases is with
   |false =>
    simp only [Bool.false_eq_true, if_false];exact ih _ _ _
   |true =>
    simp only [if_true];rw [ih (kept ++ [x]) (many + 1) (many2 + 1), mapN_append, mapN, mapN];cases mapN q env kept with
    |none => rfl
    |some k2 =>
     cases q (here env x 0) <;> rfl
end
section
def mkM (f q : Tr) : Tr := { kind := 15, name := nm "filter", int := 0, flt := 0, flag := false, method := false, limited := false, limit := 0, kids := f.kids, map := [q] }
def stFilterMap (noIdx : Tr → Bool) (t : Tr) : Tr :=
 if t.kind = 15 ∧ t.name = nm "map" then match t.kids with
  |[f, p] => if noIdx p = true ∧ p.kind = 16 ∧ f.kind = 15 ∧ f.name = nm "filter" ∧ f.map.isEmpty = true ∧ f.kids.length = 2 then match p.kids with
   |[q] => mkM f q
   |_ => t
   else t
  |_ => t
 else t
theorem filterMap_ok {G : Vl → Prop} (noIdx : Tr → Bool) (t : Tr)
 (hn : ∀ p ∈ t.kids, noIdx p = true → ∀ q ∈ p.kids, ∀ env x i, (D q).val (here env x i) = (D q).val (here env x 0)) : Rd false G (D t) (D (stFilterMap noIdx t)) := by
 unfold stFilterMap
 split
 ·rename_i h
  split
  ·rename_i f p hk
   split
   ·rename_i h2
    obtain ⟨hx, hp, hf1, hf2, hfm, hf3⟩ := h2
    split
    ·rename_i q hq
     have hfm : f.map = [] := (by simpa using hfm);obtain ⟨a, b, hk2⟩ : ∃ a b, f.kids = [a, b] := by
      match hf : f.kids, hf3 with
      |[a, b], _ => exact ⟨a, b, rfl⟩
     have hi := hn p (by rw [hk]; simp) hx q (by rw [hq]; simp);have hb : (D p).body = some (D q).val := by
      rw [D_eq p]; unfold node; simp only; rw [if_pos hp, hq]; rfl
     refine node_15 (.inl h.1) (.inl rfl) fun env _ => .inl ?_;rw [val_15 t h.1, val_15 (mkM f q) rfl, h.2, hk];simp only [mkM, hk2];simp only [Ds, builtin];rw [val_15 f hf1, hk2, hf2, hfm, hb];simp only [Ds, builtin];cases (D a).val env with
     |none => rfl
     |some v =>
      simp only [Option.bind_some];cases (D b).body with
      |none => rfl
      |some pb =>
       simp only
       by_cases h5 : v.kind = 5
       ·rw [if_pos h5, if_pos h5];rw [builtin2_chosen _ (by show isChosen (nm "filter") = true; decide) (by show nm "filter" ≠ nm "map"; decide) (by show nm "filter" ≠ nm "sum"; decide), builtin2_chosen _ (by show isChosen (nm "filter") = true; decide) (by show nm "filter" ≠ nm "map"; decide) (by show nm "filter" ≠ nm "sum"; decide)];have ho : ∀ l, order (nm "filter") l = l := fun l => (by unfold order; rw [if_neg (by decide)]);rw [ho];have key := filter_map { name := nm "filter", limited := f.limited, limit := f.limit, flag := f.flag, map := oneOf [] } { name := nm "filter", limited := false, limit := 0, flag := false, map := some (D q).val } rfl rfl rfl (D q).val rfl pb env (fun x i => hi env x i) (zipIdx v.items) [] 0 0;rw [mapN, Option.bind_some] at key;refine Eq.trans ?_ key
        generalize hch : chosen { name := nm "filter", limited := f.limited, limit := f.limit, flag := f.flag, map := oneOf [] } pb env (zipIdx v.items) [] 0 = r
        cases r with
        |none => rfl
        |some u =>
         obtain ⟨ys, rfl⟩ := filter_kept _ rfl rfl pb env _ _ _ _ hch;simp only [Option.bind_some];rw [if_pos trivial];unfold builtin2;rw [if_pos rfl];unfold zipIdx;rw [mapped_mapN (D q).val env (fun x i => hi env x i)]
       ·rw [if_neg h5, if_neg h5]; rfl
    ·exact .refl _
   ·exact .refl _
  ·exact .refl _
 ·exact .refl _
end
section
def z (env : Env) : Env := { env with item := env.item.map fun p => (p.1, 0) }
theorem here_z (env : Env) (x : Vl) (i : Int) : here (z env) x i = here env x i := rfl
theorem mapped_z (p : Env → Option Vl) (env : Env) (l : List (Vl × Int)) : mapped p (z env) l = mapped p env l := by
 induction l with
 |nil => rfl
 |cons x l ih => obtain ⟨x, i⟩ := x; rw [mapped, mapped, ih, here_z]
theorem chosen_z (c : Ch) (p : Env → Option Vl) (env : Env) (l : List (Vl × Int)) : ∀ kept many, chosen c p (z env) l kept many = chosen c p env l kept many := by
 induction l with
 |nil => intro kept many; rfl
 |cons x l ih => intro kept many; obtain ⟨x, i⟩ := x; rw [chosen, chosen]; simp only [ih, here_z]
theorem builtin2_z (c : Ch) (p : Env → Option Vl) (env : Env) (v : Vl) : builtin2 c p (z env) v = builtin2 c p env v := by
 unfold builtin2; rw [mapped_z, chosen_z]
structure Zd (d : Dn) : Prop where
 val : ∀ env, d.val (z env) = d.val env
 pair : ∀ k v, d.pair = some (k, v) → (∀ env, k (z env) = k env) ∧ ∀ env, v (z env) = v env
theorem list_z (env : Env) (ks : List Dn) (h : ∀ d ∈ ks, Zd d) : list (z env) ks = list env ks := by
 induction ks with
 |nil => rfl
 |cons d ks ih => rw [list, list, (h d (by simp)).val, ih fun d hd => h d (by simp [hd])]
theorem pairs_z (env : Env) (ks : List Dn) (h : ∀ d ∈ ks, Zd d) : ∀ out, pairs (z env) out ks = pairs env out ks := by
 induction ks with
 |nil => intro out; rfl
 |cons d ks ih =>
  intro out;rw [pairs, pairs];have hp := (h d (by simp)).pair;cases hq : d.pair with
  |none => rfl
  |some q =>
   obtain ⟨k, v⟩ := q;simp only;rw [(hp k v hq).1, (hp k v hq).2];simp only [ih fun d hd => h d (by simp [hd])]
theorem builtin_z (c : Ch) (env : Env) (ks : List Dn) (h : ∀ d ∈ ks, Zd d) : builtin c (z env) ks = builtin c env ks := by
 match ks, h with
 |[], _ => rfl
 |[d], h => rw [builtin, builtin, (h d (by simp)).val]
 |d :: e :: l, h => rw [builtin, builtin, (h d (by simp)).val]; simp only [builtin2_z]
theorem binary_z (n : Nm) (env : Env) (ks : List Dn) (h : ∀ d ∈ ks, Zd d) : binary n (z env) ks = binary n env ks := by
 match ks, h with
 |[], _ => rfl
 |[d], _ => rfl
 |[a, b], h => unfold binary truth; simp only [(h a (by simp)).val env, (h b (by simp)).val env]
 |a :: b :: c :: l, _ => rfl
end
section
theorem sem_z (t : Tr) (ht : ¬ (t.kind = 17 ∧ t.name = nm "index")) (env : Env) (ks ms : List Dn) (h : ∀ d ∈ ks, Zd d) : sem t ks ms (z env) = sem t ks ms env := by
 have hl := list_z env ks h;have hb : ∀ c, builtin c (z env) ks = builtin c env ks := fun c => builtin_z c env ks h;have hn : ∀ n, binary n (z env) ks = binary n env ks := fun n => binary_z n env ks h;have hp : ∀ o, pairs (z env) o ks = pairs env o ks := pairs_z env ks h;have hpt : t.kind = 17 → pointer t.name (z env) = pointer t.name env := by
  intro h17;have : t.name ≠ nm "index" := fun hx => ht ⟨h17, hx⟩;unfold pointer z;cases env.item with
  |none => rfl
  |some q => simp [this]
 have hnames : (z env).names = env.names := rfl
 by_cases h17 : t.kind = 17
 ·unfold sem; simp [h17, hpt h17]
 unfold sem;rw [hl, hnames, if_neg h17, if_neg h17];simp only [hb, hn, hp]
 match ks, h with
 |[], _ => rfl
 |[d], h => simp only [(h d (by simp)).val env]
 |[a, b], h =>
  have hw : ∀ v, b.val { names := env.names ++ [(t.name, v)], item := (z env).item } = b.val { names := env.names ++ [(t.name, v)], item := env.item } := fun v => (h b (by simp)).val { env with names := env.names ++ [(t.name, v)] }
  simp only [(h a (by simp)).val env, (h b (by simp)).val env, hw]
 |[c, a, b], h => unfold truth; simp only [(h c (by simp)).val env, (h a (by simp)).val env, (h b (by simp)).val env]
 |_ :: _ :: _ :: _ :: _, _ => rfl
end
section
inductive NoIdx : Tr → Prop
 |mk (t : Tr) (h : ¬ (t.kind = 17 ∧ t.name = nm "index")) (hk : ∀ k ∈ t.kids, NoIdx k) : NoIdx t
theorem noIdx_z {t : Tr} (h : NoIdx t) : Zd (D t) := by
 induction h with
 |mk t h hk ih =>
  have hks : ∀ d ∈ Ds t.kids, Zd d := by
   intro d hd;rw [Ds_eq] at hd;obtain ⟨k, h1, rfl⟩ := List.mem_map.1 hd;exact ih k h1
  rw [D_eq t];refine ⟨fun env => sem_z t h env _ _ hks, fun k v hp => ?_⟩;unfold node at hp;simp only at hp
  split at hp
  ·match hm : Ds t.kids, hp with
   |[a, b], hp =>
    rw [hm] at hks;cases hp;exact ⟨(hks a (by simp)).val, (hks b (by simp)).val⟩
  ·cases hp
theorem noIdx_here {t : Tr} (h : NoIdx t) (env : Env) (x : Vl) (i : Int) : (D t).val (here env x i) = (D t).val (here env x 0) :=
 ((noIdx_z h).val (here env x i)).symm
end
section
attribute [local go_sem ↓] Go.wp_at_zero Go.wp_at_succ
open Go.RowKit
def isIdx (t : Tr) : Bool := decide (t.kind = 17) && (t.name == [105, 110, 100, 101, 120])
set_option maxHeartbeats 1600000 in
set_option maxRecDepth 100000 in
theorem isIndex_any (t : Tr) (v : Value) (fp : List Nat) (w : World) (h : IsA w t v fp) : Calls Try.prog 133 #[v] w (fun e w' => e = .returned (.bool (isIdx t)) ∧ Below w.heap.size w w') := by
 by_cases hk : t.kind = 17
 ·obtain ⟨b, f, p, q, vs, fs, rfl, hx, hb, hks, hl, rfl⟩ := h.fields (n := 0) (by rw [hk]; rfl);obtain rfl : vs = [] := List.eq_nil_of_length_eq_zero (by rw [hks.len.1, hl]);rw [show acells t f p q [] .nilIface (.pointer none) = [.int .i64 p, .int .i64 q, .string (str t.name)] by simp [acells, headC, tailC, named, hk], show sty t.kind = 168 by rw [hk]; rfl] at hb;rw [show nv t.kind b = .iface 166 (.pointer (some ⟨b, 0, none⟩)) by rw [hk]; rfl];have n0 := hb.cell; have zn := hb.lt;have HI := Lib.hid (show isIdx t = (t.name == [105, 110, 100, 101, 120]) by unfold isIdx; rw [hk]; rfl);clear hx hb hks hl hk h;cases hn : (t.name == [105, 110, 100, 101, 120])
  all_goals
   rw [hn] at HI;go_enter Try.func133, Try.ntmps133
   go_wp2_with fail
   go_ret;exact ⟨by rw [HI.out]; rfl, by go_grown⟩
 ·obtain ⟨b, rfl⟩ := h.ptr;have hpt : ¬ pty t.kind = 166 := fun hh => hk ((pty_eq h.okk).2.2.2.2.2.1.1 hh);have HI := Lib.hid (show isIdx t = false by unfold isIdx; rw [decide_eq_false hk]; rfl);clear hk h;go_enter Try.func133, Try.ntmps133
  go_wp2_with fail
  go_ret;exact ⟨by rw [HI.out]; rfl, by go_grown⟩
theorem door_finder (b : Nat) : Door 217 (.pointer (some ⟨b, 0, none⟩)) 151 := ⟨fun n w => by kernel_rfl, fun args w => by kernel_rfl⟩
def Fs (w0 : World) (fb : Nat) (s : Bool) (w : World) : Prop := Below w0.heap.size w0 w ∧ w0.heap.size ≤ fb ∧ ∃ v0, Lb w fb [v0, .func (.func 133) #[] #[]] 219 ∧ (s = false → v0 = .nilIface) ∧ (s = true → ∃ ty pv, v0 = .iface ty pv)
set_option maxHeartbeats 3200000 in
set_option maxRecDepth 100000 in
theorem visit_finder (w0 : World) (fb : Nat) : VisOk 151 (.pointer (some ⟨fb, 0, none⟩)) (fun t => t) isIdx (fun b => b = fb) (Fs w0 fb) (fun _ => True) := by
 intro t _ v fp pb po cs Tp w s hP hS;obtain ⟨hB, hle, v0, hL, hs0, hs1⟩ := hS;obtain ⟨ty, pv, rfl⟩ : ∃ ty pv, v = .iface ty pv := by obtain ⟨x, hx⟩ := hP.tree.ptr; exact ⟨_, _, hx⟩
 have r0 : w.cell? ⟨pb, po, none⟩ = some (.iface ty pv) := by rw [hP.lb.cell]; exact hP.get
 have g0 := hP.lb.frozen; have z0 := hP.lb.lt;have f0 := hL.cell; have gf := hL.frozen; have zf := hL.lt;have f1 : w.cell? ⟨fb, 1, none⟩ = some (.func (.func 133) #[] #[]) := by rw [hL.cell]; rfl
 have HP := Lib.hid hP; have HB := Lib.hid hB; have HL := Lib.hid hL; have HLE := Lib.hid hle; have HS := Lib.hid (And.intro hs0 hs1);clear hP hB hL hle hs0 hs1 f0;go_enter Try.func151, Try.ntmps151
 go_upto_region 0 with (fail)
 refine AnyL.start (S := fun w' => w'.cell? ⟨pb, po, none⟩ = some (.iface ty pv) ∧ w'.cell? ⟨fb, 1, none⟩ = some (.func (.func 133) #[] #[])) (late := fun j => [].contains j) (by kernel_rfl) ?_;have hs0 : (fun w' : World => w'.cell? ⟨pb, po, none⟩ = some (.iface ty pv) ∧ w'.cell? ⟨fb, 1, none⟩ = some (.func (.func 133) #[] #[])) w.drew := ⟨r0, f1⟩;refine AnyL.tk [] [] 0 ?_ rfl (by kernel_rfl) (by rfl) ?_ hs0 (AnyL.tk [] [] 1 ?_ rfl (by kernel_rfl) (by rfl) ?_ hs0 (AnyL.tk [] [] 2 ?_ rfl (by kernel_rfl) (by rfl) ?_ hs0 (AnyL.tk [] [] 3 ?_ rfl (by kernel_rfl) (by rfl) ?_ hs0 (AnyL.tk [] [] 4 ?_ rfl (by kernel_rfl) (by rfl) ?_ hs0 (AnyL.tk [] [] 5 ?_ rfl (by kernel_rfl) (by rfl) ?_ hs0 (AnyL.tk [] [] 6 ?_ rfl (by kernel_rfl) (by rfl) ?_ hs0 ?_))))))
 iterate 7
  rotate_left
  ·intro w' hw'
   (try simp only [Act.put, sb0, sb1, sb2])
   (try dsimp only at hw')
   obtain ⟨q0, q1⟩ := hw';go_simp
   try (with_reducible rfl)
 try simp only [Act.put, sb0, sb1, sb2]
 refine AnyL.one 7 (by kernel_rfl) rfl fun K hK => ?_;go_simp;apply Calls.mono
 ·exact isIndex_any t (.iface ty pv) fp _ (HP.out.tree.same fun y hy => rfl)
 rintro e1 w1 ⟨rfl, hb1⟩;have hB1 : Below w.heap.size w w1 := ((Below.refl w.heap.size w).drew).trans hb1;have hL1 := HL.out.below hB1 HL.out.lt;have hP1 := HP.out.lb.below hB1 HP.out.lb.lt;have r1 : w1.cell? ⟨pb, po, none⟩ = some (.iface ty pv) := by rw [hP1.cell]; exact HP.out.get
 (try go_wp2_with fail)
 refine hK.out _ _ (fun _ => ⟨r1, by rw [hL1.cell]; rfl⟩) ?_;clear hK K
 try simp only [Act.put, sb0, sb1, sb2]
 refine AnyL.done (by kernel_rfl) ?_ _;have HB1 := Lib.hid hB1; have HL1 := Lib.hid hL1; have HP1 := Lib.hid hP1;have l0 := hL1.cell; have lf := hL1.frozen; have lz := hL1.lt;clear hs0 hb1 hB1 hL1 hP1 f1 r0;cases hi : isIdx t with
 |false =>
  go_wp21;refine bodyPost_end (v := .tuple #[]) (by first | rfl | (simp [results, Try.results151, go_sem]; try rfl)) rfl ?_;refine Wd.same HP.out HB1.out ?_ _;rw [hi, Bool.or_false];exact ⟨HB.out.trans (HB1.out.mono HB.out.size), HLE.out, v0, HL1.out, HS.out⟩
 |true =>
  go_wp21;refine bodyPost_end (v := .tuple #[]) (by first | rfl | (simp [results, Try.results151, go_sem]; try rfl)) rfl ?_;have hkn := HP.out.kn fb rfl;have hL2 := HL1.out.set 0 (.iface ty pv);simp only [List.set_cons_zero] at hL2;have hset : cs.set po (.iface ty pv) = cs := by
   apply List.ext_getElem?;intro j;rw [List.getElem?_set]
   split
   ·rename_i h; subst h
    rw [if_pos (List.getElem?_eq_some_iff.1 HP.out.get).1, HP.out.get]
   ·rfl
  have hsame : ∀ x, x < w.heap.size → x ≠ fb → (w1.setCell ⟨fb, 0, none⟩ (.iface ty pv)).heap[x]? = w.heap[x]? := fun x hx h3 => (Below.heap_setCell w1 ⟨fb, 0, none⟩ _ x h3).trans (HB1.out.block x hx);refine ⟨⟨_, rfl⟩, .iface ty pv, fp, ⟨HB1.out.os, HB1.out.tape, HB1.out.output, by simpa using HB1.out.size, fun x hx h1 h2 h3 => hsame x hx h3⟩, ?_, ?_, HP.out.nd, fun x hx => .inl hx, ?_⟩
  ·rw [hset]; exact HP1.out.other _ _ (Ne.symm hkn.2.1.symm)
  ·exact HP.out.tree.same fun x hx => hsame x (HP.out.tree.lt x hx) fun h => hkn.2.2 (h ▸ hx)
  ·rw [hi, Bool.or_true];exact ⟨(HB.out.trans (HB1.out.mono HB.out.size)).setCell HLE.out _, HLE.out, _, hL2, ⟨fun h => (by cases h), fun _ => ⟨ty, pv, rfl⟩⟩⟩
def hitIdx (p : Tr) : Bool := hits (fun t => t) isIdx p
set_option maxHeartbeats 1600000 in
set_option maxRecDepth 100000 in
theorem find_any (t : Tr) (v : Value) (fp : List Nat) (w : World) (h : IsA w t v fp) (hn : fp.Nodup) : Calls Try.prog 132 #[v, .func (.func 133) #[] #[]] w (fun e w' => Below w.heap.size w w' ∧ ∃ r, e = .returned r ∧ (hitIdx t = false → r = .nilIface) ∧ (hitIdx t = true → ∃ ty pv, r = .iface ty pv)) := by
 obtain ⟨ty, pv, rfl⟩ : ∃ ty pv, v = .iface ty pv := by obtain ⟨x, hx⟩ := h.ptr; exact ⟨_, _, hx⟩
 have HI := Lib.hid h; have HN := Lib.hid hn;clear h hn;go_enter Try.func132, Try.ntmps132
 go_wp2_with fail
 apply Calls.mono
 ·exact walk_tree (st := fun t => t) (door_finder (w.heap.size + 1)) (visit_finder w (w.heap.size + 1)) (fun k hk => ⟨rfl, by unfold isIdx; rw [decide_eq_false (by omega)]; rfl⟩) (fun _ => True) (fun _ _ _ _ => trivial) (fun _ _ => trivial) t trivial (.iface ty pv) fp w.heap.size 0 [.iface ty pv] 45 _ false
   ⟨(Lb.new w _ _).alloc _, rfl, HI.out.same fun y hy => (heap_alloc_old _ _ (by have := HI.out.lt y hy; simp; omega)).trans (heap_alloc_old w _ (HI.out.lt y hy)), HN.out, fun h => by have := HI.out.lt _ h; omega, fun b hb => ⟨by subst hb; simp, by omega, fun h => by have := HI.out.lt _ h; omega⟩⟩
   ⟨by go_grown, by omega, .nilIface, Lb.new' _ _ _ (by simp), fun _ => rfl, fun h => by cases h⟩
 rintro e1 w1 ⟨⟨x1, rfl⟩, v1, fp1, -, -, -, -, -, hS⟩;rw [Bool.false_or] at hS;obtain ⟨hB, -, v0, hL, hs0, hs1⟩ := hS;have l0 := hL.cell; have lz := hL.lt;have HB := Lib.hid hB; have HS := Lib.hid (And.intro hs0 hs1);clear hB hL hs0 hs1
 go_wp2_with fail
 go_ret;exact ⟨HB.out, _, rfl, HS.out⟩
mutual
theorem noIdx_of : (t : Tr) → hitIdx t = false → NoIdx t
 |⟨a, b, c, d, e, f, g, h, ks, ms⟩, hh => by
  unfold hitIdx at hh;rw [hits] at hh;simp only [Bool.or_eq_false_iff] at hh;refine .mk _ (fun ⟨h1, h2⟩ => ?_) (noIdxs_of ks hh.1);have := hh.2;unfold isIdx at this;simp only at h1 h2;subst h1 h2;exact absurd this (by show ¬ (decide ((17 : Int) = 17) && (nm "index" == [105, 110, 100, 101, 120])) = false; decide)
theorem noIdxs_of : (l : List Tr) → hitss (fun t => t) isIdx l = false → ∀ x ∈ l, NoIdx x
 |[], _ => fun x h => by cases h
 |v :: l, hh => fun x h => by
  rw [hitss] at hh;simp only [Bool.or_eq_false_iff] at hh;rcases List.mem_cons.1 h with h | h
  ·rw [h]; exact noIdx_of v hh.1
  ·exact noIdxs_of l hh.2 x h
end
end
section
def stFilterMap2 (t : Tr) : Tr :=
 if t.kind = 15 ∧ t.name = nm "map" then match t.kids with
  |[f, p] => if hitIdx p = false ∧ p.kind = 16 ∧ f.kind = 15 ∧ f.name = nm "filter" ∧ f.map.isEmpty = true then match p.kids with
   |[q] => mkM f q
   |_ => t
   else t
  |_ => t
 else t
theorem NoIdx.kids {t : Tr} (h : NoIdx t) : ∀ x ∈ t.kids, NoIdx x := by cases h; assumption
theorem plain_filter (v : Vl) : plain (nm "filter") v = none := by unfold plain; simp (decide := true)
theorem builtin_short (c : Ch) (hn : c.name = nm "filter") (env : Env) (l : List Dn) (hl : l.length ≠ 2) : builtin c env l = none := by
 match l, hl with
 |[], _ => rfl
 |[d], _ => rw [builtin, hn]; simp only [plain_filter]; cases d.val env <;> rfl
 |a :: b :: x :: l, _ => rw [builtin]; cases a.val env <;> rfl
theorem filterMap2_ok {G : Vl → Prop} (t : Tr) : Rd false G (D t) (D (stFilterMap2 t)) := by
 unfold stFilterMap2
 split
 ·rename_i h
  split
  ·rename_i f p hk
   split
   ·rename_i h2
    obtain ⟨hx, hp, hf1, hf2, hfm⟩ := h2
    split
    ·rename_i q hq
     by_cases hl : f.kids.length = 2
     ·have key := filterMap_ok (G := G) (fun p => !hitIdx p) t fun p hp hx q hq env x i => noIdx_here ((noIdx_of p (by simpa using hx)).kids q hq) env x i;unfold stFilterMap at key;rw [if_pos h, hk] at key;simp only at key;rw [if_pos ⟨by rw [hx]; rfl, hp, hf1, hf2, hfm, hl⟩, hq] at key;exact key
     ·have hD : ∀ l : List Tr, (Ds l).length = l.length := fun l => (by rw [Ds_eq, List.length_map]);refine node_15 (.inl h.1) (.inl rfl) fun env _ => .inl ?_;rw [val_15 t h.1, val_15 (mkM f q) rfl, h.2, hk];have e1 : (D f).val env = none := (by rw [val_15 f hf1]; exact builtin_short _ hf2 env _ (by rw [hD]; exact hl));have e2 : builtin { name := (mkM f q).name, limited := (mkM f q).limited, limit := (mkM f q).limit, flag := (mkM f q).flag, map := oneOf (Ds (mkM f q).map) } env (Ds (mkM f q).kids) = none := builtin_short _ rfl env _ (by rw [hD]; exact hl);rw [e2];simp only [Ds, builtin];rw [e1]; rfl
    ·exact .refl _
   ·exact .refl _
  ·exact .refl _
 ·exact .refl _
end
end Go.Proofs.Ytafhhdimjkgihaa.Mn
