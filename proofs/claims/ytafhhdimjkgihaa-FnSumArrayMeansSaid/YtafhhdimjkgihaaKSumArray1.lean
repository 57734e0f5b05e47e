/- SumArray: what belongs to this law alone: part 1. -/
import Derived.Test.YtafhhdimjkgihaaM15
import Derived.Test.YtafhhdimjkgihaaM01
set_option linter.unusedSimpArgs false
set_option linter.unusedVariables false
namespace Go.Proofs.Ytafhhdimjkgihaa.Mn
section
theorem val_10 (t : Tr) (h : t.kind = 10) (env : Env) : (D t).val env = binary t.name env (Ds t.kids) := by
 rw [D_eq t];show sem t _ _ env = _;unfold sem;rw [if_neg (by omega), if_neg (by omega), if_neg (by omega), if_neg (by omega), if_neg (by omega), if_neg (by omega), if_neg (by omega), if_neg (by omega), if_pos h]
def sumI : List Int → Int
 |[] => 0
 |x :: l => x + sumI l
theorem wrap_add_l (a b : Int) : wrap (wrap a + b) = wrap (a + b) := by
 unfold wrap Go.RowKit.wrap64; omega
theorem wrap_add_r (a b : Int) : wrap (a + wrap b) = wrap (a + b) := by
 unfold wrap Go.RowKit.wrap64; omega
theorem wrap_0 : wrap 0 = 0 := by unfold wrap Go.RowKit.wrap64; omega
def mkI (v : Int) : Tr := { kind := 3, name := [], int := v, flt := 0, flag := false, method := false, limited := false, limit := 0, kids := [], map := [] }
theorem binary_arith (n : Nm) (hn : n = nm "*" ∨ n = nm "+" ∨ n = nm "-") (env : Env) (a b : Dn) : binary n env [a, b] = (pr (a.val env) (b.val env)).bind fun p => arith n p.1 p.2 := by
 unfold binary both;rcases hn with rfl | rfl | rfl <;> simp (decide := true)
theorem wrap_wrap (a : Int) : wrap (wrap a) = wrap a := by
 unfold wrap Go.RowKit.wrap64; omega
theorem pl_plain_sum (ys : List Vl) : plain (nm "sum") { kind := 5, items := ys } = total { kind := 1 } ys := by
 unfold plain; simp (decide := true)
end
section
def mkPlus (a b : Tr) : Tr := { kind := 10, name := nm "+", int := 0, flt := 0, flag := false, method := false, limited := false, limit := 0, kids := [a, b], map := [] }
def sumFold : List Tr → Tr
 |[] => mkI 0
 |[x] => x
 |x :: y :: l => mkPlus x (sumFold (y :: l))
def stSumArray (t : Tr) : Tr :=
 if t.kind = 15 ∧ t.name = nm "sum" then match t.kids with
  |[a] => if a.kind = 21 ∧ 2 ≤ a.kids.length then sumFold a.kids else t
  |_ => t
 else t
theorem total_inv (vs : List Vl) : ∀ (s : Int) (r : Vl), (∀ v ∈ vs, v.kind ≠ 2) → total { kind := 1, int := wrap s } vs = some r →
 (∀ v ∈ vs, v.kind = 1) ∧ r = { kind := 1, int := wrap (s + sumI (vs.map (·.int))) } := by
 induction vs with
 |nil => intro s r _ h; rw [total] at h; cases h; exact ⟨by simp, by simp [sumI]⟩
 |cons v vs ih =>
  intro s r hv h;have h2 := hv v (by simp);rw [total] at h
  split at h
  ·cases h
  ·rename_i h1
   have hk : v.kind = 1 := (by omega);have e : arith (nm "+") { kind := 1, int := wrap s } v = some { kind := 1, int := wrap (s + v.int) } := by
    unfold arith; rw [hk, ← wrap_add_l s v.int]; simp (decide := true)
   rw [e] at h;obtain ⟨i1, i2⟩ := ih _ _ (fun v hv' => hv v (by simp [hv'])) h;refine ⟨?_, ?_⟩
   ·intro u hu;rcases List.mem_cons.1 hu with rfl | hu
    ·exact hk
    ·exact i1 u hu
   ·rw [i2, List.map_cons, sumI]; congr 2; omega
theorem fold_ints (env : Env) : ∀ (ks : List Tr) (vs : List Vl), list env (Ds ks) = some vs → (∀ v ∈ vs, v.kind = 1) → ks ≠ [] →
 ∃ u : Vl, (D (sumFold ks)).val env = some u ∧ u.kind = 1 ∧ wrap u.int = wrap (sumI (vs.map (·.int))) ∧ (2 ≤ ks.length → u = { kind := 1, int := wrap (sumI (vs.map (·.int))) }) := by
 intro ks
 induction ks with
 |nil => intro vs _ _ h; exact absurd rfl h
 |cons k ks ih =>
  intro vs h hv _;rw [Ds, list] at h;cases hk : (D k).val env with
  |none => rw [hk] at h; cases h
  |some v =>
   rw [hk, Option.bind_some] at h;cases hl : list env (Ds ks) with
   |none => rw [hl] at h; cases h
   |some ws =>
    rw [hl, Option.bind_some] at h;cases h;have hv1 := hv v (by simp);cases ks with
    |nil =>
     rw [Ds, list] at hl;cases hl;exact ⟨v, hk, hv1, by simp [sumI], by simp⟩
    |cons y l =>
     obtain ⟨u, u1, u2, u3, _⟩ := ih ws hl (fun v hv' => hv v (by simp [hv'])) (by simp);have e : (D (sumFold (k :: y :: l))).val env = some { kind := 1, int := wrap (v.int + u.int) } := by
      rw [sumFold, val_10 (mkPlus _ _) rfl];show binary (nm "+") env [D k, D (sumFold (y :: l))] = _;rw [binary_arith _ (.inr (.inl rfl)), hk, u1];show arith (nm "+") v u = _;unfold arith; rw [hv1, u2]; simp (decide := true)
     have e2 : wrap (v.int + u.int) = wrap (sumI ((v :: ws).map (·.int))) := by
      rw [List.map_cons, sumI, ← wrap_add_r, u3, wrap_add_r]
     exact ⟨_, e, rfl, by rw [← e2]; exact wrap_wrap _, fun _ => by rw [e2]⟩
theorem sumFold_kind (ks : List Tr) (h : 2 ≤ ks.length) : (sumFold ks).kind = 10 := by
 match ks, h with
 |x :: y :: l, _ => rw [sumFold]; rfl
theorem sumArray_ok {G : Vl → Prop} (hG : ∀ v, G v → v.kind ≠ 2) (t : Tr) (hk : ∀ a ∈ t.kids, ∀ k ∈ a.kids, ∀ env, Ok G env → ∀ v, (D k).val env = some v → G v) : Rd true G (D t) (D (stSumArray t)) := by
 unfold stSumArray
 split
 ·rename_i h
  split
  ·rename_i a ha
   split
   ·rename_i h2
    refine node_15 (.inl h.1) (.inr (.inr (.inl (sumFold_kind _ h2.2)))) fun env he => ?_;have hva : (D a).val env = (list env (Ds a.kids)).bind fun l => some { kind := 5, items := l } := by
     rw [D_eq a];show sem a _ _ env = _;unfold sem;rw [if_neg (by omega), if_neg (by omega), if_neg (by omega), if_neg (by omega), if_neg (by omega), if_neg (by omega), if_pos (.inr h2.1)]
    rw [val_15 t h.1, ha, h.2];simp only [Ds, builtin];rw [hva];cases hl : list env (Ds a.kids) with
    |none => exact .inr ⟨rfl, rfl⟩
    |some vs =>
     simp only [Option.bind_some];rw [pl_plain_sum];have hf : ∀ v ∈ vs, v.kind ≠ 2 := by
      have hkk := hk a (by rw [ha]; simp);clear hva h2 ha
      revert vs
      generalize a.kids = ks at hkk
      induction ks with
      |nil => intro vs hl v hv; rw [Ds, list] at hl; cases hl; cases hv
      |cons k ks ih =>
       intro vs hl v hv;rw [Ds, list] at hl;cases h1 : (D k).val env with
       |none => rw [h1] at hl; cases hl
       |some w =>
        rw [h1, Option.bind_some] at hl;cases h3 : list env (Ds ks) with
        |none => rw [h3] at hl; cases hl
        |some ws =>
         rw [h3, Option.bind_some] at hl;cases hl;rcases List.mem_cons.1 hv with rfl | hv
         ·exact hG _ (hkk k (by simp) env he _ h1)
         ·exact ih (fun k hk' => hkk k (by simp [hk'])) ws h3 v hv
     cases ht : total { kind := 1 } vs with
     |none => exact .inr ⟨rfl, rfl⟩
     |some r =>
      obtain ⟨i1, i2⟩ := total_inv vs 0 r hf (by rw [wrap_0]; exact ht);obtain ⟨u, u1, _, _, u4⟩ := fold_ints env a.kids vs hl i1 (by intro hx; rw [hx] at h2; simp at h2);left;rw [u1, u4 h2.2, i2, Int.zero_add]
   ·exact .refl _
  ·exact .refl _
 ·exact .refl _
end
section
attribute [local go_sem ↓] Go.wp_at_zero Go.wp_at_succ
open Go.RowKit
def Fd (ks : List Tr) (fs : List (List Nat)) (w : World) (e : Ending) (w' : World) : Prop := ∃ bn fp', e = .returned (.pointer (some ⟨bn, 0, none⟩)) ∧ Below w.heap.size w w' ∧ IsA w' (sumFold ks) (.iface 85 (.pointer (some ⟨bn, 0, none⟩))) fp' ∧ fp'.Nodup ∧ ∀ x ∈ fp', x ∈ fs.flatten ∨ w.heap.size ≤ x
theorem IsA.plus {w w1 : World} {x y : Tr} {vx vy : Value} {fx fy : List Nat} (hx : IsA w x vx fx) (hy : IsA w y vy fy) (hb : Below w.heap.size w w1) {bn : Nat} (hL : Lb w1 bn [.int .i64 0, .int .i64 0, .string (str (nm "+")), vx, vy] 87) :
 IsA w1 (mkPlus x y) (.iface 85 (.pointer (some ⟨bn, 0, none⟩))) ([bn] ++ [fx, fy].flatten ++ []) := by
 have z : I64 0 := by unfold I64; omega
 exact IsA.node (w := w1) (mkPlus x y) bn 0 0 0 [vx, vy] [fx, fy] rfl ⟨rfl, cn_zero, z, z, z, z, by show (nm "+").length ≤ _; decide, by show 2 ≤ most; unfold most; omega⟩ hL (.cons (hx.same fun b h => hb.block b (hx.lt b h)) (.cons (hy.same fun b h => hb.block b (hy.lt b h)) .nil))
set_option maxHeartbeats 12800000 in
set_option maxRecDepth 100000 in
theorem fold_two (x y : Tr) (vx vy : Value) (fx fy : List Nat) (w : World) (ab r o cap : Nat) (p q : Value) (pre sp : List Value) (R : TypeId) (hb : Lb w ab [p, q, .slice (some ⟨r, o, none⟩) 2 cap] 115) (hr : Lb w r (pre ++ (vx :: vy :: sp)) R) (hp : pre.length = o) (hx : IsA w x vx fx) (hy : IsA w y vy fy) (hc : 2 ≤ cap) (hn : (fx ++ fy).Nodup) :
 Calls Try.prog 141 #[.pointer (some ⟨ab, 0, none⟩)] w (Fd [x, y] [fx, fy] w) := by
 have d0 : w.cell? ⟨r, o, none⟩ = some vx := by rw [hr.cell]; rw [List.getElem?_append_right (by omega), hp, Nat.sub_self]; rfl
 have d1 : w.cell? ⟨r, o + 1, none⟩ = some vy := by rw [hr.cell]; rw [List.getElem?_append_right (by omega), hp, Nat.add_sub_cancel_left]; rfl
 obtain ⟨tyx, pvx, rfl⟩ : ∃ ty pv, vx = .iface ty pv := by obtain ⟨x, hx⟩ := hx.ptr; exact ⟨_, _, hx⟩
 obtain ⟨tyy, pvy, rfl⟩ : ∃ ty pv, vy = .iface ty pv := by obtain ⟨x, hx⟩ := hy.ptr; exact ⟨_, _, hx⟩
 have n2 : w.cell? ⟨ab, 2, none⟩ = some (.slice (some ⟨r, o, none⟩) 2 cap) := hb.cell 2;have zb := hb.lt; have zr := hr.lt;have HX := Lib.hid hx; have HY := Lib.hid hy; have HN := Lib.hid hn;clear hb hr hp hx hy hn;go_enter Try.func141, Try.ntmps141
 go_upto_region 4 with (fail)
 refine AnyL.start (S := fun w' => w'.cell? ⟨ab, 2, none⟩ = some (.slice (some ⟨r, o, none⟩) 2 cap) ∧ w'.cell? ⟨r, o, none⟩ = some (.iface tyx pvx) ∧ w'.cell? ⟨r, o + 1, none⟩ = some (.iface tyy pvy)) (late := fun j => [].contains j) (by kernel_rfl) ?_;have hs0 : (fun w' : World => w'.cell? ⟨ab, 2, none⟩ = some (.slice (some ⟨r, o, none⟩) 2 cap) ∧ w'.cell? ⟨r, o, none⟩ = some (.iface tyx pvx) ∧ w'.cell? ⟨r, o + 1, none⟩ = some (.iface tyy pvy)) w.drew := ⟨n2, d0, d1⟩;refine AnyL.tk [] [] 0 ?_ rfl (by kernel_rfl) (by rfl) ?_ hs0 (AnyL.tk [] [] 1 ?_ rfl (by kernel_rfl) (by rfl) ?_ hs0 (AnyL.tk [] [] 2 ?_ rfl (by kernel_rfl) (by rfl) ?_ hs0 (AnyL.tk [] [] 3 ?_ rfl (by kernel_rfl) (by rfl) ?_ hs0 (AnyL.tk [] [] 4 ?_ rfl (by kernel_rfl) (by rfl) ?_ hs0 (AnyL.tk [] [] 5 ?_ rfl (by kernel_rfl) (by rfl) ?_ hs0 (AnyL.tk [] [] 6 ?_ rfl (by kernel_rfl) (by rfl) ?_ hs0 (AnyL.tk [] [] 7 ?_ rfl (by kernel_rfl) (by rfl) ?_ hs0 (AnyL.tk [] [] 8 ?_ rfl (by kernel_rfl) (by rfl) ?_ hs0 (AnyL.tk [] [] 9 ?_ rfl (by kernel_rfl) (by rfl) ?_ hs0 (AnyL.tk [] [] 10 ?_ rfl (by kernel_rfl) (by rfl) ?_ hs0 (AnyL.tk [] [] 11 ?_ rfl (by kernel_rfl) (by rfl) ?_ hs0 (AnyL.tk [] [] 12 ?_ rfl (by kernel_rfl) (by rfl) ?_ hs0 ?_))))))))))))
 iterate 13
  rotate_left
  ·intro w' hw'
   (try simp only [Act.put, sb0, sb1, sb2])
   (try dsimp only at hw')
   obtain ⟨q0, q1, q2⟩ := hw';go_simp
   try (with_reducible rfl)
 try simp only [Act.put, sb0, sb1, sb2]
 have hBn : Below w.heap.size w (w.drew.alloc (.cells ([.int .i64 0, .int .i64 0, .string (str (nm "+")), .iface tyx pvx, .iface tyy pvy]).toArray 87)) := ((Below.refl w.heap.size w).drew).alloc (Nat.le_refl _) _;have hs1 : (fun w' : World => w'.cell? ⟨ab, 2, none⟩ = some (.slice (some ⟨r, o, none⟩) 2 cap) ∧ w'.cell? ⟨r, o, none⟩ = some (.iface tyx pvx) ∧ w'.cell? ⟨r, o + 1, none⟩ = some (.iface tyy pvy)) (w.drew.alloc (.cells ([.int .i64 0, .int .i64 0, .string (str (nm "+")), .iface tyx pvx, .iface tyy pvy]).toArray 87)) := ⟨by rw [World.cell?_of_block (w := w.drew) (a := ⟨ab, 2, none⟩) (heap_alloc_old w.drew _ zb)]; exact hs0.1, by rw [World.cell?_of_block (w := w.drew) (a := ⟨r, o, none⟩) (heap_alloc_old w.drew _ zr)]; exact hs0.2.1, by rw [World.cell?_of_block (w := w.drew) (a := ⟨r, o + 1, none⟩) (heap_alloc_old w.drew _ zr)]; exact hs0.2.2⟩;refine AnyL.one 13 (by kernel_rfl) rfl fun K hK => ?_
 go_simp;refine hK.out _ _ (fun _ => hs1) ?_;clear hK K
 try simp only [Act.put, sb0, sb1, sb2]
 refine AnyL.one 14 (by kernel_rfl) rfl fun K hK => ?_;go_simp;refine hK.out _ _ (fun _ => hs1) ?_;clear hK K
 try simp only [Act.put, sb0, sb1, sb2]
 refine AnyL.done (by kernel_rfl) ?_ _;go_wp21;go_ret;refine ⟨_, _, rfl, hBn, IsA.plus HX.out HY.out hBn (Lb.new' _ _ _ (by simp)), ?_, ?_⟩
 ·have h1 : ∀ b ∈ fx ++ fy, b < w.heap.size := fun b hb => by
   rcases List.mem_append.1 hb with h | h
   ·exact HX.out.lt b h
   ·exact HY.out.lt b h
  have := HN.out;simp only [List.flatten_cons, List.flatten_nil, List.append_nil, List.cons_append, List.nil_append, List.nodup_cons];exact ⟨fun h => Nat.lt_irrefl _ (h1 _ h), this⟩
 ·intro b hb;simp only [List.flatten_cons, List.flatten_nil, List.append_nil, List.cons_append, List.nil_append, List.mem_cons] at hb ⊢;rcases hb with rfl | hb
  ·exact .inr (Nat.le_refl _)
  ·exact .inl hb
set_option maxHeartbeats 12800000 in
set_option maxRecDepth 100000 in
theorem fold_more (x : Tr) (ks : List Tr) (vx : Value) (vs : List Value) (fx : List Nat) (fs : List (List Nat)) (w : World) (ab r o g cap : Nat) (p q : Value) (pre sp : List Value) (R : TypeId) (hb : Lb w ab [p, q, .slice (some ⟨r, o, none⟩) g cap] 115) (hr : Lb w r (pre ++ (vx :: vs ++ sp)) R) (hp : pre.length = o) (hx : IsA w x vx fx) (hks : IsAs w ks vs fs) (hg : ks.length + 1 = g) (h2 : 2 ≤ ks.length) (hm : g ≤ 1172812402927) (hc : g ≤ cap) (hn : (fx :: fs).flatten.Nodup)
 (ih : ∀ w' ab', Lb w' ab' [.int .i64 0, .int .i64 0, .slice (some ⟨r, o + 1, none⟩) (g - 1) (cap - 1)] 115 → Below w.heap.size w w' → Calls Try.prog 141 #[.pointer (some ⟨ab', 0, none⟩)] w' (Fd ks fs w')) :
 Calls Try.prog 141 #[.pointer (some ⟨ab, 0, none⟩)] w (Fd (x :: ks) (fx :: fs) w) := by
 have d0 : w.cell? ⟨r, o, none⟩ = some vx := by rw [hr.cell]; rw [List.getElem?_append_right (by omega), hp, Nat.sub_self]; rfl
 obtain ⟨tyx, pvx, rfl⟩ : ∃ ty pv, vx = .iface ty pv := by obtain ⟨x, hx⟩ := hx.ptr; exact ⟨_, _, hx⟩
 have n2 : w.cell? ⟨ab, 2, none⟩ = some (.slice (some ⟨r, o, none⟩) g cap) := hb.cell 2;have zb := hb.lt; have zr := hr.lt;have z0 : 2 < g := by omega
 have z1 : (2 : Int) < (g : Int) := by omega
 have z2 : 0 < g := by omega
 have z3 : (1 : Int) ≤ (g : Int) := by omega
 have z4 : ¬ cap = 1 := by omega
 have HX := Lib.hid hx; have HKS := Lib.hid hks; have HN := Lib.hid hn; have IH := Lib.hid ih; have H2 := Lib.hid h2;clear hb hr hp hx hks hn ih h2 hg;go_enter Try.func141, Try.ntmps141
 go_upto_region 2 with (fail)
 refine AnyL.start (S := fun w' => w'.cell? ⟨ab, 2, none⟩ = some (.slice (some ⟨r, o, none⟩) g cap) ∧ w'.cell? ⟨r, o, none⟩ = some (.iface tyx pvx)) (late := fun j => [].contains j) (by kernel_rfl) ?_;have hs0 : (fun w' : World => w'.cell? ⟨ab, 2, none⟩ = some (.slice (some ⟨r, o, none⟩) g cap) ∧ w'.cell? ⟨r, o, none⟩ = some (.iface tyx pvx)) w.drew := ⟨n2, d0⟩;refine AnyL.tk [] [] 0 ?_ rfl (by kernel_rfl) (by rfl) ?_ hs0 (AnyL.tk [] [] 1 ?_ rfl (by kernel_rfl) (by rfl) ?_ hs0 (AnyL.tk [] [] 2 ?_ rfl (by kernel_rfl) (by rfl) ?_ hs0 (AnyL.tk [] [] 3 ?_ rfl (by kernel_rfl) (by rfl) ?_ hs0 (AnyL.tk [] [] 4 ?_ rfl (by kernel_rfl) (by rfl) ?_ hs0 (AnyL.tk [] [] 5 ?_ rfl (by kernel_rfl) (by rfl) ?_ hs0 (AnyL.tk [] [] 6 ?_ rfl (by kernel_rfl) (by rfl) ?_ hs0 (AnyL.tk [] [] 7 ?_ rfl (by kernel_rfl) (by rfl) ?_ hs0 (AnyL.tk [] [] 8 ?_ rfl (by kernel_rfl) (by rfl) ?_ hs0 (AnyL.tk [] [] 9 ?_ rfl (by kernel_rfl) (by rfl) ?_ hs0 (AnyL.tk [] [] 10 ?_ rfl (by kernel_rfl) (by rfl) ?_ hs0 (AnyL.tk [] [] 11 ?_ rfl (by kernel_rfl) (by rfl) ?_ hs0 ?_)))))))))))
 iterate 12
  rotate_left
  ·intro w' hw'
   (try simp only [Act.put, sb0, sb1, sb2])
   (try dsimp only at hw')
   obtain ⟨q0, q1⟩ := hw';go_simp
   try (with_reducible rfl)
 try simp only [Act.put, sb0, sb1, sb2]
 have hB1 : Below w.heap.size w (w.drew.alloc (.cells ([.int .i64 0, .int .i64 0, .slice (some ⟨r, o + 1, none⟩) (g - 1) (cap - 1)]).toArray 115)) := ((Below.refl w.heap.size w).drew).alloc (Nat.le_refl _) _;have hs1 : (fun w' : World => w'.cell? ⟨ab, 2, none⟩ = some (.slice (some ⟨r, o, none⟩) g cap) ∧ w'.cell? ⟨r, o, none⟩ = some (.iface tyx pvx)) (w.drew.alloc (.cells ([.int .i64 0, .int .i64 0, .slice (some ⟨r, o + 1, none⟩) (g - 1) (cap - 1)]).toArray 115)) := ⟨by rw [World.cell?_of_block (w := w.drew) (a := ⟨ab, 2, none⟩) (heap_alloc_old w.drew _ zb)]; exact hs0.1, by rw [World.cell?_of_block (w := w.drew) (a := ⟨r, o, none⟩) (heap_alloc_old w.drew _ zr)]; exact hs0.2⟩;refine AnyL.one 12 (by kernel_rfl) rfl fun K hK => ?_;go_simp;refine hK.out _ _ (fun _ => hs1) ?_;clear hK K
 try simp only [Act.put, sb0, sb1, sb2]
 refine AnyL.one 13 (by kernel_rfl) rfl fun K hK => ?_;go_simp;apply Calls.mono
 ·exact IH.out _ _ (Lb.new' _ _ _ (by simp)) hB1
 rintro e2 w2 ⟨bn, fp2, rfl, hb2, hi2, hn2, hg2⟩;have hB2 : Below w.heap.size w w2 := hB1.trans (hb2.mono hB1.size);have hs2 : (fun w' : World => w'.cell? ⟨ab, 2, none⟩ = some (.slice (some ⟨r, o, none⟩) g cap) ∧ w'.cell? ⟨r, o, none⟩ = some (.iface tyx pvx)) w2 := ⟨by rw [World.cell?_of_block (a := ⟨ab, 2, none⟩) (hB2.block _ zb)]; exact n2, by rw [World.cell?_of_block (a := ⟨r, o, none⟩) (hB2.block _ zr)]; exact d0⟩;have HI2 := Lib.hid hi2; have HN2 := Lib.hid hn2; have HG2 := Lib.hid (show ∀ b ∈ fp2, b ∈ fs.flatten ∨ w.heap.size ≤ b from fun b hb => (hg2 b hb).imp id fun h => Nat.le_trans hB1.size h);clear hi2 hn2 hg2 hb2
 (try go_wp2_with fail)
 refine hK.out _ _ (fun _ => hs2) ?_;clear hK K
 try simp only [Act.put, sb0, sb1, sb2]
 refine AnyL.one 14 (by kernel_rfl) rfl fun K hK => ?_;go_simp;refine hK.out _ _ (fun _ => hs2) ?_;clear hK K
 try simp only [Act.put, sb0, sb1, sb2]
 refine AnyL.one 15 (by kernel_rfl) rfl fun K hK => ?_;go_simp;refine hK.out _ _ (fun _ => hs2) ?_;clear hK K
 try simp only [Act.put, sb0, sb1, sb2]
 have hBn : Below w2.heap.size w2 (w2.alloc (.cells ([.int .i64 0, .int .i64 0, .string (str (nm "+")), .iface tyx pvx, .iface 85 (.pointer (some ⟨bn, 0, none⟩))]).toArray 87)) := (Below.refl w2.heap.size w2).alloc (Nat.le_refl _) _;have hs3 : (fun w' : World => w'.cell? ⟨ab, 2, none⟩ = some (.slice (some ⟨r, o, none⟩) g cap) ∧ w'.cell? ⟨r, o, none⟩ = some (.iface tyx pvx)) (w2.alloc (.cells ([.int .i64 0, .int .i64 0, .string (str (nm "+")), .iface tyx pvx, .iface 85 (.pointer (some ⟨bn, 0, none⟩))]).toArray 87)) := ⟨by rw [World.cell?_of_block (a := ⟨ab, 2, none⟩) (hBn.block _ (Nat.lt_of_lt_of_le zb hB2.size))]; exact hs2.1, by rw [World.cell?_of_block (a := ⟨r, o, none⟩) (hBn.block _ (Nat.lt_of_lt_of_le zr hB2.size))]; exact hs2.2⟩;refine AnyL.one 16 (by kernel_rfl) rfl fun K hK => ?_;go_simp;refine hK.out _ _ (fun _ => hs3) ?_;clear hK K
 try simp only [Act.put, sb0, sb1, sb2]
 refine AnyL.one 17 (by kernel_rfl) rfl fun K hK => ?_;go_simp;refine hK.out _ _ (fun _ => hs3) ?_;clear hK K
 try simp only [Act.put, sb0, sb1, sb2]
 refine AnyL.done (by kernel_rfl) ?_ _;go_wp21;go_ret;obtain ⟨k1, k2, k3, rfl⟩ : ∃ k1 k2 k3, ks = k1 :: k2 :: k3 := by
  have := H2.out
  match ks, this with
  |a :: b :: c, _ => exact ⟨a, b, c, rfl⟩
 have h1 : ∀ b ∈ fx, b < w.heap.size := fun b hb => HX.out.lt b hb;have h3 : ∀ b ∈ fp2, b < w2.heap.size := fun b hb => HI2.out.lt b hb;refine ⟨_, _, rfl, hB2.trans (hBn.mono hB2.size), IsA.plus (HX.out.same fun b hb => hB2.block b (h1 b hb)) HI2.out hBn (Lb.new' _ _ _ (by simp)), ?_, ?_⟩
 ·have hn := HN.out;rw [List.flatten_cons, List.nodup_append] at hn;simp only [List.flatten_cons, List.flatten_nil, List.append_nil, List.cons_append, List.nil_append, List.nodup_cons];refine ⟨fun h => ?_, List.nodup_append.2 ⟨hn.1, HN2.out, fun a ha b hb => ?_⟩⟩
  ·rcases List.mem_append.1 h with h | h
   ·exact Nat.lt_irrefl _ (Nat.lt_of_lt_of_le (h1 _ h) hB2.size)
   ·exact Nat.lt_irrefl _ (h3 _ h)
  ·rcases HG2.out b hb with g | g
   ·exact hn.2.2 a ha b g
   ·have := h1 a ha; omega
 ·intro b hb;simp only [List.flatten_cons, List.flatten_nil, List.append_nil, List.cons_append, List.nil_append, List.mem_cons, List.mem_append] at hb ⊢;rcases hb with rfl | hb | hb
  ·exact .inr hB2.size
  ·exact .inl (.inl hb)
  ·exact (HG2.out b hb).imp .inr id
theorem fold_any : ∀ (ks : List Tr) (vs : List Value) (fs : List (List Nat)) (w : World) (ab r o g cap : Nat) (p q : Value) (pre sp : List Value) (R : TypeId), Lb w ab [p, q, .slice (some ⟨r, o, none⟩) g cap] 115 → Lb w r (pre ++ (vs ++ sp)) R → pre.length = o → IsAs w ks vs fs → ks.length = g → 2 ≤ g → g ≤ 1172812402927 → g ≤ cap → fs.flatten.Nodup →
 Calls Try.prog 141 #[.pointer (some ⟨ab, 0, none⟩)] w (Fd ks fs w) := by
 intro ks
 induction ks with
 |nil => intro vs fs w ab r o g cap p q pre sp R _ _ _ _ hg h2; simp at hg; omega
 |cons x ks ih =>
  intro vs fs w ab r o g cap p q pre sp R hb hr hp hks hg h2 hm hc hn;cases hks with
  |@cons _ vx fx _ vs fs hx hks =>
   rw [List.length_cons] at hg
   by_cases h3 : 2 ≤ ks.length
   ·refine fold_more x ks vx vs fx fs w ab r o g cap p q pre sp R hb hr hp hx hks hg h3 hm hc hn fun w' ab' hb' hB => ?_;refine ih vs fs w' ab' r (o + 1) (g - 1) (cap - 1) _ _ (pre ++ [vx]) sp R hb' (by simpa using hr.below hB hr.lt) (by simp [hp]) (hks.same fun b h => hB.block b (hks.lt b h)) (by omega) (by omega) (by omega) (by omega) ?_;rw [List.flatten_cons, List.nodup_append] at hn;exact hn.2.1
   ·obtain ⟨y, rfl⟩ : ∃ y, ks = [y] := by
     match ks, h3, hg, h2 with
     |[], _, hg, h2 => simp at hg; omega
     |[y], _, _, _ => exact ⟨y, rfl⟩
     |a :: b :: c, h3, _, _ => exact absurd (by simp) h3
    obtain rfl : g = 2 := (by simpa using hg.symm);cases hks with
    |cons hy hks =>
     cases hks;exact fold_two x y vx _ fx _ w ab r o cap p q pre sp R hb (by simpa using hr) hp hx hy hc (by simpa using hn)
end
section
attribute [local go_sem ↓] Go.wp_at_zero Go.wp_at_succ
open Go.RowKit
theorem IsA.b21 {w : World} {t : Tr} {v : Value} {fp : List Nat} (h : IsA w t v fp) (hk : t.kind = 21) : ∃ b f p q a c vs fs rb C, v = .iface 114 (.pointer (some ⟨b, 0, none⟩)) ∧ Hx t f p q ∧ Lb w b [.int .i64 p, .int .i64 q, .slice a t.kids.length c] 115 ∧ Rw w a vs rb ∧ IsAs w t.kids vs fs ∧ t.kids.length ≤ c ∧ fp = (b :: rb) ++ fs.flatten ++ C := by
 cases h with
 |node t b f p q vs fs ha => exfalso; rw [hk] at ha; simp [ari] at ha
 |const t b f p q a c vs rb ha => exfalso; omega
 |list t b f p q a c vs fs rb ms gs th ft ha hx hb hr hks h1 hm ht =>
  refine ⟨b, f, p, q, a, c, vs, fs, rb, _, by rw [nv, hk]; rfl, hx, ?_, hr, hks, h1.2 hk, rfl⟩;have e : acells t f p q [.slice a t.kids.length c] (ms.headD .nilIface) th = [.int .i64 p, .int .i64 q, .slice a t.kids.length c] := by simp [acells, headC, tailC, named, hk]
  rw [e, hk] at hb;exact hb
theorem door_sumArray (b : Nat) : Door 136 (.pointer (some ⟨b, 0, none⟩)) 140 := ⟨fun n w => by kernel_rfl, fun args w => by kernel_rfl⟩
set_option maxHeartbeats 6400000 in
set_option maxRecDepth 100000 in
theorem visit_sumArray (rb0 : Nat) : VisOk 140 (.pointer (some ⟨rb0, 0, none⟩)) stSumArray (fun _ => false) (fun _ => False) (fun _ _ => True) (fun _ => True) := by
 intro t _ v fp pb po cs Tp w s hP _;have r0 : w.cell? ⟨pb, po, none⟩ = some v := by rw [hP.lb.cell]; exact hP.get
 have g0 := hP.lb.frozen; have z0 := hP.lb.lt;have HP := Lib.hid hP
 by_cases hk : t.kind = 15
 ·obtain ⟨b, f, p, q, a, c, vs, fs, rb, ms, gs, th, ft, rfl, hx, hb, hr, hks, h1, hm, ht, hfp⟩ := hP.tree.b15 hk;have n0 := hb.cell; have zn := hb.lt
  by_cases hnm : (t.name == [115, 117, 109]) = true
  ·by_cases hl : t.kids.length = 1
   ·obtain ⟨x, hkx⟩ : ∃ x, t.kids = [x] := by
     match hq : t.kids, hl with
     |[y], _ => exact ⟨y, rfl⟩
    rw [hkx] at hks;obtain ⟨vx, fx, rfl, rfl, hix⟩ : ∃ vx fx, vs = [vx] ∧ fs = [fx] ∧ IsA w x vx fx := by
     cases hks with | cons h hl => cases hl; exact ⟨_, _, rfl, rfl, h⟩
    obtain ⟨r, sp, R, rfl, rfl, hr2⟩ : ∃ r sp R, a = some ⟨r, 0, none⟩ ∧ rb = [r] ∧ Lb w r ([vx] ++ sp) R := by
     rcases hr with ⟨h, _⟩ | h
     ·cases h
     ·exact h
    have d0 : w.cell? ⟨r, 0, none⟩ = some vx := (by rw [hr2.cell]; rfl);have zr := hr2.lt;rw [hkx] at n0
    by_cases hxk : x.kind = 21
    ·obtain ⟨bx, ffx, px, qx, ax, cx, vsx, fsx, rbx, Cx, rfl, hxx, hbx, hrx, hksx, hcx, hfx⟩ := hix.b21 hxk;have m0 := hbx.cell; have zm := hbx.lt
     by_cases h2 : 2 ≤ x.kids.length
     ·obtain ⟨rx, spx, Rx, rfl, rfl, hrx2⟩ : ∃ r sp R, ax = some ⟨r, 0, none⟩ ∧ rbx = [r] ∧ Lb w r (vsx ++ sp) R := by
       rcases hrx with ⟨h, _⟩ | h
       ·exfalso; have := hksx.len.1; rw [h] at this; simp at this; omega
       ·exact h
      have hsub : ([rx] ++ fsx.flatten).Sublist fp := (by rw [hfp, hfx]; exact sub_args.trans (sub_kid (i := 0) rfl));have hnd : fsx.flatten.Nodup := ((List.sublist_append_right _ _).trans hsub).nodup hP.nd;have hlm := hxx.hk;unfold most at hlm;have HF := Lib.hid (fun (w' : World) (hB : Below w.heap.size w w') => fold_any x.kids vsx fsx w' bx rx 0 x.kids.length cx (.int .i64 px) (.int .i64 qx) [] spx Rx (hbx.below hB hbx.lt) (by simpa using hrx2.below hB hrx2.lt) rfl (hksx.same fun y hy => hB.block y (hksx.lt y hy)) rfl h2 hlm hcx hnd);have HS := Lib.hid (show stSumArray t = sumFold x.kids from by
       unfold stSumArray;rw [if_pos ⟨hk, by rw [show nm "sum" = [115, 117, 109] from by decide]; simpa using hnm⟩, hkx];simp only;rw [if_pos ⟨hxk, h2⟩])
      have FR := Lib.hid (show ∀ y ∈ fsx.flatten, y ∈ fp from fun y hy => hsub.subset (List.mem_append.2 (.inr hy)));have zi : (2 : Int) ≤ (x.kids.length : Int) := (by omega);clear hP hx hb hr hks h1 hm ht hfp hfx hr2 hbx hksx hix hxx hkx hl hk hxk hrx2 hnd hsub hcx h2 hlm;go_enter Try.func140, Try.ntmps140
      go_wp2_with fail
      apply Calls.mono
      ·exact HF.out _ (by go_grown)
      rintro e1 w1 ⟨bn, fp1, rfl, hb1, hi1, hn1, hg1⟩;have HB := Lib.hid (show Below w.heap.size w w1 from Below.trans (by go_grown) (hb1.mono (by simp)));have HG := Lib.hid (show ∀ y ∈ fp1, y ∈ fsx.flatten ∨ w.heap.size ≤ y from fun y hy => (hg1 y hy).imp id fun h => by simpa using h);have HI := Lib.hid hi1; have HN := Lib.hid hn1;clear hb1 hi1 hn1 hg1
      go_wp2_with fail
      apply Calls.mono
      ·refine patch108 pb po cs Tp _ _ t (sumFold x.kids) _ fp1 _ (HP.out.lb.below HB.out HP.out.lb.lt) HP.out.get (HP.out.tree.same fun y hy => HB.out.block y (HP.out.tree.lt y hy)) HP.out.nd HI.out HN.out (fun h => ?_) HP.out.out;rcases HG.out _ h with g | g
       ·exact HP.out.out (FR.out _ g)
       ·have := HP.out.lb.lt; omega
      rintro e2 w2 h2;obtain ⟨x2, rfl⟩ := h2.1;have H2 := Lib.hid h2;clear h2;go_wp21;refine bodyPost_end (v := .tuple #[]) (by first | rfl | (simp [results, Try.results140, go_sem]; try rfl)) rfl ?_;rw [HS.out];exact Wd.patched HP.out HB.out H2.out (fun y hy => (HG.out y hy).imp (FR.out y) id) HN.out trivial _
     ·have zi : ¬ (2 : Int) ≤ (x.kids.length : Int) := (by omega);have HS := Lib.hid (show stSumArray t = t from by
       unfold stSumArray;rw [if_pos ⟨hk, by rw [show nm "sum" = [115, 117, 109] from by decide]; simpa using hnm⟩, hkx];simp only;rw [if_neg fun h => h2 h.2])
      clear hP hx hb hr hks h1 hm ht hfp hr2 hfx hbx hrx hksx hcx hix hxx h2 hkx hl hk hxk;go_enter Try.func140, Try.ntmps140
      go_wp2_with fail
      refine bodyPost_end (v := .tuple #[]) (by first | rfl | (simp [results, Try.results140, go_sem]; try rfl)) rfl ?_;rw [HS.out];exact Wd.same HP.out (Below.refl _ _) trivial _
    ·obtain ⟨bx, rfl⟩ := hix.ptr;have hpx : ¬ pty x.kind = 114 := fun h => hxk ((pty_eq hix.okk).2.2.2.2.2.2.1 h);have HS := Lib.hid (show stSumArray t = t from by unfold stSumArray; (repeat' split) <;> simp_all (decide := true) [nm]);clear hP hx hb hr hks h1 hm ht hfp hr2 hix hxk;go_enter Try.func140, Try.ntmps140
     go_wp2_with fail
     refine bodyPost_end (v := .tuple #[]) (by first | rfl | (simp [results, Try.results140, go_sem]; try rfl)) rfl ?_;rw [HS.out];exact Wd.same HP.out (Below.refl _ _) trivial _
   ·have HS := Lib.hid (show stSumArray t = t from by unfold stSumArray; (repeat' split) <;> simp_all (decide := true) [nm]);clear hP hx hb hr hks h1 hm ht hfp;go_enter Try.func140, Try.ntmps140
    go_wp2_with fail
    refine bodyPost_end (v := .tuple #[]) (by first | rfl | (simp [results, Try.results140, go_sem]; try rfl)) rfl ?_;rw [HS.out];exact Wd.same HP.out (Below.refl _ _) trivial _
  ·have HS := Lib.hid (show stSumArray t = t from by unfold stSumArray; (repeat' split) <;> simp_all (decide := true) [nm]);clear hP hx hb hr hks h1 hm ht hfp;go_enter Try.func140, Try.ntmps140
   go_wp2_with fail
   refine bodyPost_end (v := .tuple #[]) (by first | rfl | (simp [results, Try.results140, go_sem]; try rfl)) rfl ?_;rw [HS.out];exact Wd.same HP.out (Below.refl _ _) trivial _
 ·obtain ⟨b, rfl⟩ := hP.tree.ptr;have hpu : ¬ pty t.kind = 100 := fun h => hk ((pty_eq hP.tree.okk).1.1 h);have HS := Lib.hid (show stSumArray t = t from by unfold stSumArray; (repeat' split) <;> simp_all (decide := true) [nm]);clear hP hk;go_enter Try.func140, Try.ntmps140
  go_wp2_with fail
  refine bodyPost_end (v := .tuple #[]) (by first | rfl | (simp [results, Try.results140, go_sem]; try rfl)) rfl ?_;rw [HS.out];exact Wd.same HP.out (Below.refl _ _) trivial _
end
section
inductive NoFl : Tr → Prop
 |mk (t : Tr) (h4 : t.kind ≠ 4) (h10 : ¬ (t.kind = 10 ∧ t.name = nm "/")) (hk : ∀ x ∈ t.kids, NoFl x) (hm : ∀ x ∈ t.map, NoFl x) : NoFl t
theorem NoFl.kids {t : Tr} (h : NoFl t) : ∀ x ∈ t.kids, NoFl x := by cases h; assumption
end
end Go.Proofs.Ytafhhdimjkgihaa.Mn
