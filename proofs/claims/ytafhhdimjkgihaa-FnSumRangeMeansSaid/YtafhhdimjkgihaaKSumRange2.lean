/- SumRange: what belongs to this law alone: part 2. -/
import Derived.Test.YtafhhdimjkgihaaKSumRange1
import Derived.Test.YtafhhdimjkgihaaM15
set_option linter.unusedSimpArgs false
set_option linter.unusedVariables false
namespace Go.Proofs.Ytafhhdimjkgihaa.Mn
section
def isHash (t : Tr) : Bool := decide (t.kind = 17) && decide (t.name = [])
def ofSum (p : Tr) (sum many : Int) : Option Int :=
 if p.kind = 16 then match p.kids with
  |[q] => if isHash q = true then some sum
   else if q.kind = 10 then match q.kids with
    |[x, y] => if isHash x = true ∧ y.kind = 3 then (if q.name = nm "*" then some (wrap (y.int * sum)) else if q.name = nm "+" then some (wrap (sum + wrap (many * y.int))) else if q.name = nm "-" then some (wrap (sum - wrap (many * y.int))) else none)
     else if x.kind = 3 ∧ isHash y = true then (if q.name = nm "*" then some (wrap (x.int * sum)) else if q.name = nm "+" then some (wrap (sum + wrap (many * x.int))) else if q.name = nm "-" then some (wrap (wrap (many * x.int) - sum)) else none)
     else none
    |_ => none
   else none
  |_ => none
 else none
def stSumRange (t : Tr) : Tr :=
 if t.kind = 15 ∧ t.name = nm "sum" then match t.kids with
  |r :: ps => if r.kind = 10 ∧ r.name = nm ".." then match r.kids with
   |[i, j] => if i.kind = 3 ∧ j.kind = 3 ∧ i.int ≤ j.int then match ps with
    |[] => mkI (serie i.int j.int)
    |[p] => match ofSum p (serie i.int j.int) (manyOf i.int j.int) with
     |some s => mkI s
     |none => t
    |_ => t
    else t
   |_ => t
   else t
  |_ => t
 else t
theorem val_hash (t : Tr) (h : isHash t = true) (env : Env) (n i : Int) : (D t).val (here env { kind := 1, int := n } i) = some { kind := 1, int := n } := by
 unfold isHash at h;simp only [Bool.and_eq_true, decide_eq_true_eq] at h;rw [D_eq t];show sem t _ _ _ = _;unfold sem;rw [if_neg (by omega), if_neg (by omega), if_neg (by omega), if_neg (by omega), if_neg (by omega), if_neg (by omega), if_neg (by omega), if_neg (by omega), if_neg (by omega), if_neg (by omega), if_neg (by omega), if_pos h.1];unfold pointer here;simp only;rw [if_pos h.2]
theorem arith_minus (a b : Int) : arith (nm "-") { kind := 1, int := a } { kind := 1, int := b } = some { kind := 1, int := wrap (a - b) } := by
 unfold arith; simp (decide := true)
theorem arith_times (a b : Int) : arith (nm "*") { kind := 1, int := a } { kind := 1, int := b } = some { kind := 1, int := wrap (a * b) } := by
 unfold arith; simp (decide := true)
theorem wrap_sub_l (a b : Int) : wrap (wrap a - b) = wrap (a - b) := by
 unfold wrap Go.RowKit.wrap64; omega
theorem wrap_sub_r (a b : Int) : wrap (a - wrap b) = wrap (a - b) := by
 unfold wrap Go.RowKit.wrap64; omega
theorem ofSum_ok (p : Tr) (l : List Int) (s : Int) (h : ofSum p (sumI l) l.length = some s) (hw : wrap (sumI l) = sumI l) :
 ∃ b f, (D p).body = some b ∧ (∀ env n i, b (here env { kind := 1, int := n } i) = some { kind := 1, int := f n }) ∧ wrap (sumI (l.map f)) = s := by
 unfold ofSum at h
 split at h
 ·rename_i hp
  split at h
  ·rename_i q hq
   have hb : (D p).body = some (D q).val := by
    rw [D_eq p]; unfold node; simp only; rw [if_pos hp, hq]; rfl
   split at h
   ·rename_i h1
    cases h;exact ⟨_, id, hb, fun env n i => val_hash q h1 env n i, by rw [List.map_id]; exact hw⟩
   ·split at h
    ·rename_i h2
     split at h
     ·rename_i x y hxy
      have hv : ∀ env, (D q).val env = binary q.name env [D x, D y] := fun env => by rw [val_10 q h2, hxy]; rfl
      split at h
      ·rename_i h3
       split at h
       ·rename_i ho
        cases h;refine ⟨_, fun n => wrap (n * y.int), hb, fun env n i => ?_, ?_⟩
        ·rw [hv, binary_arith _ (.inl ho), val_hash x h3.1, val_3 y h3.2, ho]; exact arith_times _ _
        ·rw [wrap_sumI (fun n => wrap (n * y.int)) (fun n => y.int * n) (fun n => by rw [wrap_wrap, Int.mul_comm]), sumI_mul]
       ·split at h
        ·rename_i ho
         cases h;refine ⟨_, fun n => wrap (n + y.int), hb, fun env n i => ?_, ?_⟩
         ·rw [hv, binary_arith _ (.inr (.inl ho)), val_hash x h3.1, val_3 y h3.2, ho]; exact arith_plus _ _
         ·rw [wrap_sumI (fun n => wrap (n + y.int)) (fun n => n + y.int) (fun n => wrap_wrap _), sumI_add, wrap_add_r]
        ·split at h
         ·rename_i ho
          cases h;refine ⟨_, fun n => wrap (n - y.int), hb, fun env n i => ?_, ?_⟩
          ·rw [hv, binary_arith _ (.inr (.inr ho)), val_hash x h3.1, val_3 y h3.2, ho]; exact arith_minus _ _
          ·rw [wrap_sumI (fun n => wrap (n - y.int)) (fun n => n + -y.int) (fun n => by rw [wrap_wrap]; rfl), sumI_add, wrap_sub_r, Int.mul_neg]; rfl
         ·cases h
      ·split at h
       ·rename_i h3
        split at h
        ·rename_i ho
         cases h;refine ⟨_, fun n => wrap (x.int * n), hb, fun env n i => ?_, ?_⟩
         ·rw [hv, binary_arith _ (.inl ho), val_hash y h3.2, val_3 x h3.1, ho]; exact arith_times _ _
         ·rw [wrap_sumI (fun n => wrap (x.int * n)) (fun n => x.int * n) (fun n => wrap_wrap _), sumI_mul]
        ·split at h
         ·rename_i ho
          cases h;refine ⟨_, fun n => wrap (x.int + n), hb, fun env n i => ?_, ?_⟩
          ·rw [hv, binary_arith _ (.inr (.inl ho)), val_hash y h3.2, val_3 x h3.1, ho]; exact arith_plus _ _
          ·rw [wrap_sumI (fun n => wrap (x.int + n)) (fun n => n + x.int) (fun n => by rw [wrap_wrap, Int.add_comm]), sumI_add, wrap_add_r]
         ·split at h
          ·rename_i ho
           cases h;refine ⟨_, fun n => wrap (x.int - n), hb, fun env n i => ?_, ?_⟩
           ·rw [hv, binary_arith _ (.inr (.inr ho)), val_hash y h3.2, val_3 x h3.1, ho]; exact arith_minus _ _
           ·rw [wrap_sumI (fun n => wrap (x.int - n)) (fun n => x.int - n) (fun n => wrap_wrap _), sumI_sub, wrap_sub_l]
          ·cases h
       ·cases h
     ·cases h
    ·cases h
  ·cases h
 ·cases h
theorem sumRange_ok {G : Vl → Prop} (t : Tr) : Rd true G (D t) (D (stSumRange t)) := by
 unfold stSumRange
 split
 ·rename_i h
  split
  ·rename_i r ps hk
   split
   ·rename_i h2
    split
    ·rename_i i j hij
     split
     ·rename_i h3
      have hr : ∀ env, (D r).val env = span { kind := 1, int := i.int } { kind := 1, int := j.int } := fun env => by
       rw [val_10 r h2.1, h2.2, hij];simp only [Ds];show binary (nm "..") env [D i, D j] = _;unfold binary;simp only [show ¬ (nm ".." = nm "and" ∨ nm ".." = nm "&&" ∨ nm ".." = nm "or" ∨ nm ".." = nm "||") by decide, show nm ".." ≠ nm "??" by decide, if_false];rw [val_3 i h3.1, val_3 j h3.2.1];exact pl_both_span _ _
      split
      ·refine node_15 (.inl h.1) (.inr (.inr (.inr rfl))) fun env _ => ?_;rw [val_15 t h.1, hk, h.2, val_3 (mkI _) rfl];simp only [Ds, builtin];rw [hr];cases hv : span { kind := 1, int := i.int } { kind := 1, int := j.int } with
       |none => exact .inr ⟨rfl, rfl⟩
       |some v =>
        obtain ⟨l, rfl, _, e2, e3⟩ := span_some _ _ h3.2.2 _ hv;left;simp only [Option.bind_some];rw [pl_plain_sum];have := total_ints l 0;rw [wrap_0, Int.zero_add, e3] at this;rw [show (mkI (serie i.int j.int)).int = serie i.int j.int from rfl, e2];exact this
      ·rename_i p
       split
       ·rename_i s hs
        refine node_15 (.inl h.1) (.inr (.inr (.inr rfl))) fun env _ => ?_;rw [val_15 t h.1, hk, h.2, val_3 (mkI _) rfl];simp only [Ds, builtin];rw [hr];cases hv : span { kind := 1, int := i.int } { kind := 1, int := j.int } with
        |none => exact .inr ⟨rfl, rfl⟩
        |some v =>
         obtain ⟨l, rfl, e1, e2, e3⟩ := span_some _ _ h3.2.2 _ hv;rw [e1, e2] at hs;obtain ⟨b, f, hb, hf, hfs⟩ := ofSum_ok p l s hs e3;left;simp only [Option.bind_some];rw [hb];simp only;rw [if_pos trivial];unfold builtin2;rw [if_neg (by show nm "sum" ≠ nm "map"; decide), if_pos rfl];have hm := mapped_ints b env f (hf env) l 0;unfold zipIdx;simp only;rw [hm, Option.bind_some];have := total_ints (l.map f) 0;rw [wrap_0, Int.zero_add, hfs] at this;exact this
       ·exact .refl _
      ·exact .refl _
     ·exact .refl _
    ·exact .refl _
   ·exact .refl _
  ·exact .refl _
 ·exact .refl _
end
section
attribute [local go_sem ↓] Go.wp_at_zero Go.wp_at_succ
open Go.RowKit
theorem IsA.three {w : World} {x : Tr} {v : Value} {f : List Nat} (h : IsA w x v f) :
 (∃ b, v = .iface 166 (.pointer (some ⟨b, 0, none⟩)) ∧ x.kind = 17 ∧ w.cell? ⟨b, 2, none⟩ = some (.string (str x.name)) ∧ b < w.heap.size) ∨
 (∃ b, v = .iface 147 (.pointer (some ⟨b, 0, none⟩)) ∧ x.kind = 3 ∧ w.cell? ⟨b, 2, none⟩ = some (.int .i64 x.int) ∧ b < w.heap.size ∧ I64 x.int) ∨
 (∃ b, v = .iface (pty x.kind) (.pointer (some ⟨b, 0, none⟩)) ∧ x.kind ≠ 17 ∧ x.kind ≠ 3 ∧ ¬ pty x.kind = 166 ∧ ¬ pty x.kind = 147) := by
 by_cases h17 : x.kind = 17
 ·obtain ⟨b, f, p, q, vs, fs, rfl, hx, hb, hks, hl, rfl⟩ := h.fields (n := 0) (by rw [h17]; rfl);obtain rfl : vs = [] := List.eq_nil_of_length_eq_zero (by rw [hks.len.1, hl]);rw [show acells x f p q [] .nilIface (.pointer none) = [.int .i64 p, .int .i64 q, .string (str x.name)] by simp [acells, headC, tailC, named, h17]] at hb;exact .inl ⟨b, by rw [h17]; rfl, h17, by rw [hb.cell]; rfl, hb.lt⟩
 by_cases h3 : x.kind = 3
 ·obtain ⟨b, f, p, q, vs, fs, rfl, hx, hb, hks, hl, rfl⟩ := h.fields (n := 0) (by rw [h3]; rfl);obtain rfl : vs = [] := List.eq_nil_of_length_eq_zero (by rw [hks.len.1, hl]);rw [show acells x f p q [] .nilIface (.pointer none) = [.int .i64 p, .int .i64 q, .int .i64 x.int] by simp [acells, headC, tailC, named, h3]] at hb;exact .inr (.inl ⟨b, by rw [h3]; rfl, h3, by rw [hb.cell]; rfl, hb.lt, hx.hi⟩)
 obtain ⟨b, hb⟩ := h.ptr;exact .inr (.inr ⟨b, hb, h17, h3, fun hh => h17 ((pty_eq h.okk).2.2.2.2.2.1.1 hh), fun hh => h3 ((pty_eq h.okk).2.2.1.1 hh)⟩)
theorem IsA.pred {w : World} {x : Tr} {v : Value} {f : List Nat} (h : IsA w x v f) :
 (∃ b q1 vq fq, v = .iface 103 (.pointer (some ⟨b, 0, none⟩)) ∧ x.kind = 16 ∧ x.kids = [q1] ∧ w.cell? ⟨b, 2, none⟩ = some vq ∧ b < w.heap.size ∧ IsA w q1 vq fq) ∨ (∃ b, v = .iface (pty x.kind) (.pointer (some ⟨b, 0, none⟩)) ∧ x.kind ≠ 16 ∧ ¬ pty x.kind = 103) := by
 by_cases h16 : x.kind = 16
 ·obtain ⟨b, f, p, q, vs, fs, rfl, hx, hb, hks, hl, rfl⟩ := h.fields (n := 1) (by rw [h16]; rfl);obtain ⟨q1, hki⟩ : ∃ q1, x.kids = [q1] := by
   match hq : x.kids, hl with
   |[y], _ => exact ⟨y, rfl⟩
  rw [hki] at hks;obtain ⟨vq, fq, rfl, rfl, hiq⟩ : ∃ vq fq, vs = [vq] ∧ fs = [fq] ∧ IsA w q1 vq fq := by
   cases hks with | cons hh hl => cases hl; exact ⟨_, _, rfl, rfl, hh⟩
  rw [show acells x f p q [vq] .nilIface (.pointer none) = [.int .i64 p, .int .i64 q, vq] by simp [acells, headC, tailC, named, h16]] at hb;exact .inl ⟨b, q1, vq, fq, by rw [h16]; rfl, h16, hki, by rw [hb.cell]; rfl, hb.lt, hiq⟩
 obtain ⟨b, hb⟩ := h.ptr;exact .inr ⟨b, hb, h16, fun hh => h16 ((pty_eq h.okk).2.2.2.2.1.1 hh)⟩
theorem IsA.bin {w : World} {x : Tr} {v : Value} {f : List Nat} (h : IsA w x v f) :
 (∃ b k0 k1 v0 v1 f0 f1, v = .iface 85 (.pointer (some ⟨b, 0, none⟩)) ∧ x.kind = 10 ∧ x.kids = [k0, k1] ∧ w.cell? ⟨b, 2, none⟩ = some (.string (str x.name)) ∧ w.cell? ⟨b, 3, none⟩ = some v0 ∧ w.cell? ⟨b, 4, none⟩ = some v1 ∧ b < w.heap.size ∧ IsA w k0 v0 f0 ∧ IsA w k1 v1 f1) ∨ (∃ b, v = .iface (pty x.kind) (.pointer (some ⟨b, 0, none⟩)) ∧ x.kind ≠ 10 ∧ ¬ pty x.kind = 85) := by
 by_cases h10 : x.kind = 10
 ·obtain ⟨b, f, p, q, vs, fs, rfl, hx, hb, hks, hl, rfl⟩ := h.fields (n := 2) (by rw [h10]; rfl);obtain ⟨k0, k1, hki⟩ : ∃ k0 k1, x.kids = [k0, k1] := by
   match hq : x.kids, hl with
   |[y, z], _ => exact ⟨y, z, rfl⟩
  rw [hki] at hks;obtain ⟨v0, v1, f0, f1, rfl, rfl, h0, h1⟩ : ∃ v0 v1 f0 f1, vs = [v0, v1] ∧ fs = [f0, f1] ∧ IsA w k0 v0 f0 ∧ IsA w k1 v1 f1 := by
   cases hks with | cons hh hl => cases hl with | cons hh2 hl => cases hl; exact ⟨_, _, _, _, rfl, rfl, hh, hh2⟩
  rw [show acells x f p q [v0, v1] .nilIface (.pointer none) = [.int .i64 p, .int .i64 q, .string (str x.name), v0, v1] by simp [acells, headC, tailC, named, h10]] at hb;exact .inl ⟨b, k0, k1, v0, v1, f0, f1, by rw [h10]; rfl, h10, hki, by rw [hb.cell]; rfl, by rw [hb.cell]; rfl, by rw [hb.cell]; rfl, hb.lt, h0, h1⟩
 obtain ⟨b, hb⟩ := h.ptr;exact .inr ⟨b, hb, h10, fun hh => h10 ((pty_eq h.okk).2.1.1 hh)⟩
def Ext3 (x y : Tr) (v0 v1 : Value) (w : World) (e : Ending) (w' : World) : Prop := w' = w ∧ ∃ P C L, e = .returned (.tuple #[.pointer P, .pointer C, .bool L]) ∧
 ((isHash x = true ∧ y.kind = 3 ∧ P.isSome = true ∧ L = true ∧ ∃ b, C = some ⟨b, 0, none⟩ ∧ b < w.heap.size ∧ w.cell? ⟨b, 2, none⟩ = some (.int .i64 y.int) ∧ I64 y.int) ∨
  (¬ (isHash x = true ∧ y.kind = 3) ∧ x.kind = 3 ∧ isHash y = true ∧ P.isSome = true ∧ L = false ∧ ∃ b, C = some ⟨b, 0, none⟩ ∧ b < w.heap.size ∧ w.cell? ⟨b, 2, none⟩ = some (.int .i64 x.int) ∧ I64 x.int) ∨
  (¬ (isHash x = true ∧ y.kind = 3) ∧ ¬ (x.kind = 3 ∧ isHash y = true) ∧ P = none ∧ C = none ∧ L = false))
theorem hash_17 {x : Tr} (h : x.kind = 17) : isHash x = (x.name == []) := by unfold isHash; rw [decide_eq_true h, Bool.true_and]; cases x.name <;> rfl
theorem hash_no {x : Tr} (h : x.kind ≠ 17) : isHash x = false := by unfold isHash; rw [decide_eq_false h, Bool.false_and]
set_option maxHeartbeats 12800000 in
set_option maxRecDepth 100000 in
theorem ext_any (b : Nat) (x y : Tr) (v0 v1 : Value) (f0 f1 : List Nat) (w : World) (c3 : w.cell? ⟨b, 3, none⟩ = some v0) (c4 : w.cell? ⟨b, 4, none⟩ = some v1) (zb : b < w.heap.size) (h0 : IsA w x v0 f0) (h1 : IsA w y v1 f1) :
 Calls Try.prog 139 #[.pointer (some ⟨b, 0, none⟩)] w (Ext3 x y v0 v1 w) := by
 have q0 := h0.three; have q1 := h1.three;clear h0 h1;rcases q0 with ⟨bx, rfl, hkx, nx, zx⟩ | ⟨bx, rfl, hkx, nx, zx, ix⟩ | ⟨bx, rfl, hkx, hkx3, px, px3⟩
 ·have E1 := Lib.hid (hash_17 hkx); have HKX := Lib.hid (show x.kind = 17 ∧ x.kind ≠ 3 by omega);clear hkx;cases hn : (x.name == [])
  all_goals
   rw [hn] at E1;rcases q1 with ⟨by', rfl, hky, ny, zy⟩ | ⟨by', rfl, hky, ny, zy, iy⟩ | ⟨by', rfl, hky, hky3, py, py3⟩
   ·have E2 := Lib.hid (hash_17 hky); have HKY := Lib.hid (show y.kind = 17 ∧ y.kind ≠ 3 by omega);clear hky;cases hm : (y.name == [])
    all_goals
     rw [hm] at E2;go_enter Try.func139, Try.ntmps139
     go_wp2_with fail
     refine bodyPost_ret (v := .tuple #[.pointer none, .pointer none, .bool false]) (by simp [results, Try.results139, go_sem]; try rfl) rfl ?_;exact ⟨rfl, _, _, _, rfl, .inr (.inr ⟨fun h => HKY.out.2 h.2, fun h => HKX.out.2 h.1, rfl, rfl, rfl⟩)⟩
   ·have HKY := Lib.hid hky; have E2 := Lib.hid (hash_no (x := y) (by omega)); have IY := Lib.hid iy;clear hky iy;go_enter Try.func139, Try.ntmps139
    go_wp2_with fail
    first
    |(refine bodyPost_ret (v := .tuple #[.pointer (some ⟨bx, 0, none⟩), .pointer (some ⟨by', 0, none⟩), .bool true]) (by simp [results, Try.results139, go_sem]; try rfl) rfl ?_;exact ⟨rfl, _, _, _, rfl, .inl ⟨E1.out, HKY.out, rfl, rfl, _, rfl, zy, ny, IY.out⟩⟩)
    |(refine bodyPost_ret (v := .tuple #[.pointer none, .pointer none, .bool false]) (by simp [results, Try.results139, go_sem]; try rfl) rfl ?_;exact ⟨rfl, _, _, _, rfl, .inr (.inr ⟨fun h => (by rw [E1.out] at h; cases h.1), fun h => HKX.out.2 h.1, rfl, rfl, rfl⟩)⟩)
   ·have E2 := Lib.hid (hash_no hky); have HKY := Lib.hid hky3;clear hky hky3;go_enter Try.func139, Try.ntmps139
    go_wp2_with fail
    refine bodyPost_ret (v := .tuple #[.pointer none, .pointer none, .bool false]) (by simp [results, Try.results139, go_sem]; try rfl) rfl ?_;exact ⟨rfl, _, _, _, rfl, .inr (.inr ⟨fun h => HKY.out h.2, fun h => HKX.out.2 h.1, rfl, rfl, rfl⟩)⟩
 ·have E1 := Lib.hid (hash_no (x := x) (by omega)); have HKX := Lib.hid hkx; have IX := Lib.hid ix;clear hkx ix;rcases q1 with ⟨by', rfl, hky, ny, zy⟩ | ⟨by', rfl, hky, ny, zy, iy⟩ | ⟨by', rfl, hky, hky3, py, py3⟩
  ·have E2 := Lib.hid (hash_17 hky); have HKY := Lib.hid (show y.kind = 17 ∧ y.kind ≠ 3 by omega);clear hky;cases hm : (y.name == [])
   all_goals
    rw [hm] at E2;go_enter Try.func139, Try.ntmps139
    go_wp2_with fail
    first
    |(refine bodyPost_ret (v := .tuple #[.pointer (some ⟨by', 0, none⟩), .pointer (some ⟨bx, 0, none⟩), .bool false]) (by simp [results, Try.results139, go_sem]; try rfl) rfl ?_;exact ⟨rfl, _, _, _, rfl, .inr (.inl ⟨fun h => (by rw [E1.out] at h; cases h.1), HKX.out, E2.out, rfl, rfl, _, rfl, zx, nx, IX.out⟩)⟩)
    |(refine bodyPost_ret (v := .tuple #[.pointer none, .pointer none, .bool false]) (by simp [results, Try.results139, go_sem]; try rfl) rfl ?_;exact ⟨rfl, _, _, _, rfl, .inr (.inr ⟨fun h => HKY.out.2 h.2, fun h => (by rw [E2.out] at h; cases h.2), rfl, rfl, rfl⟩)⟩)
  ·have HKY := Lib.hid hky; have E2 := Lib.hid (hash_no (x := y) (by omega));clear hky iy;go_enter Try.func139, Try.ntmps139
   go_wp2_with fail
   refine bodyPost_ret (v := .tuple #[.pointer none, .pointer none, .bool false]) (by simp [results, Try.results139, go_sem]; try rfl) rfl ?_;exact ⟨rfl, _, _, _, rfl, .inr (.inr ⟨fun h => (by rw [E1.out] at h; cases h.1), fun h => (by rw [E2.out] at h; cases h.2), rfl, rfl, rfl⟩)⟩
  ·have E2 := Lib.hid (hash_no hky);clear hky hky3;go_enter Try.func139, Try.ntmps139
   go_wp2_with fail
   refine bodyPost_ret (v := .tuple #[.pointer none, .pointer none, .bool false]) (by simp [results, Try.results139, go_sem]; try rfl) rfl ?_;exact ⟨rfl, _, _, _, rfl, .inr (.inr ⟨fun h => (by rw [E1.out] at h; cases h.1), fun h => (by rw [E2.out] at h; cases h.2), rfl, rfl, rfl⟩)⟩
 ·have E1 := Lib.hid (hash_no hkx); have HKX := Lib.hid hkx3;clear hkx hkx3 q1;go_enter Try.func139, Try.ntmps139
  go_wp2_with fail
  refine bodyPost_ret (v := .tuple #[.pointer none, .pointer none, .bool false]) (by simp [results, Try.results139, go_sem]; try rfl) rfl ?_;exact ⟨rfl, _, _, _, rfl, .inr (.inr ⟨fun h => (by rw [E1.out] at h; cases h.1), fun h => HKX.out h.1, rfl, rfl, rfl⟩)⟩
def Apl (p : Tr) (sum many : Int) (w : World) (e : Ending) (w' : World) : Prop := w' = w ∧ ∃ r ok, e = .returned (.tuple #[.int .i64 r, .bool ok]) ∧ (ok = true → ofSum p sum many = some r ∧ I64 r) ∧ (ok = false → ofSum p sum many = none)
set_option maxHeartbeats 12800000 in
set_option maxRecDepth 100000 in
theorem apply_any (p : Tr) (sum many : Int) (hs : I64 sum) (v : Value) (fp : List Nat) (w : World) (h : IsA w p v fp) :
 Calls Try.prog 137 #[.int .i64 sum, .int .i64 many, v] w (Apl p sum many w) := by
 have q := h.pred;clear h;rcases q with ⟨bp, q1, vq, fq, rfl, h16, hki, cq, zp, hq⟩ | ⟨bp, rfl, h16, pp⟩
 ·have q10 := hq.bin; have q3 := hq.three;rcases q10 with ⟨bq, x, y, v0, v1, f0, f1, rfl, h10, hkk, cn, c3, c4, zq, hx, hy⟩ | ⟨bq, hv, h10, pq⟩
  ·clear q3;have HE := Lib.hid (ext_any bq x y v0 v1 f0 f1 w c3 c4 zq hx hy);have hnh := hash_no (x := q1) (by omega);have H0 := Lib.hid (show ∀ o : Option Int, (if isHash x = true ∧ y.kind = 3 then (if q1.name = nm "*" then some (wrap (y.int * sum)) else if q1.name = nm "+" then some (wrap (sum + wrap (many * y.int))) else if q1.name = nm "-" then some (wrap (sum - wrap (many * y.int))) else none) else if x.kind = 3 ∧ isHash y = true then (if q1.name = nm "*" then some (wrap (x.int * sum)) else if q1.name = nm "+" then some (wrap (sum + wrap (many * x.int))) else if q1.name = nm "-" then some (wrap (wrap (many * x.int) - sum)) else none) else none) = o → ofSum p sum many = o from fun o ho => by
    rw [← ho]; unfold ofSum; rw [if_pos h16, hki]; simp only; rw [if_neg (by rw [hnh]; exact Bool.false_ne_true), if_pos h10, hkk])
   clear h16 hki h10 hkk hnh c3 c4 hx hy hq;go_enter Try.func137, Try.ntmps137
   go_wp2_with fail
   apply Calls.mono
   ·exact HE.out
   rintro e1 w1 ⟨rfl, P, C, L, rfl, hP⟩;rcases hP with ⟨g1, g2, hPs, rfl, bb, rfl, zb, cb, ib⟩ | ⟨g0, g1, g2, hPs, rfl, bb, rfl, zb, cb, ib⟩ | ⟨g0, g1, rfl, rfl, rfl⟩
   ·obtain ⟨p0, rfl⟩ := Option.isSome_iff_exists.1 hPs;have G := Lib.hid (And.intro g1 g2);have IB := Lib.hid ib; have HS := Lib.hid hs;clear g1 g2 hPs ib hs
    by_cases o42 : (q1.name == [42]) = true
    ·have ho : q1.name = nm "*" := (by rw [show nm "*" = [42] from by decide]; simpa using o42);have o43 : (q1.name == [43]) = false := (by rw [ho]; decide);have o45 : (q1.name == [45]) = false := (by rw [ho]; decide);have HN := Lib.hid (show ofSum p sum many = some (wrap (y.int * sum)) from H0.out _ (by rw [if_pos G.out]; rw [if_pos ho]));clear ho
     (simp only []; go_at_K)
     go_wp2_with fail
     refine bodyPost_ret (v := .tuple #[.int .i64 (wrap (y.int * sum)), .bool true]) (by simp [results, Try.results137, go_sem]; try rfl) rfl ?_;exact ⟨rfl, _, true, rfl, fun _ => ⟨HN.out, wrap_in _⟩, fun h => (by cases h)⟩
    replace o42 : (q1.name == [42]) = false := by simpa using o42
    by_cases o43 : (q1.name == [43]) = true
    ·have ho : q1.name = nm "+" := (by rw [show nm "+" = [43] from by decide]; simpa using o43);have o45 : (q1.name == [45]) = false := (by rw [ho]; decide);have HN := Lib.hid (show ofSum p sum many = some (wrap (sum + wrap (many * y.int))) from H0.out _ (by rw [if_pos G.out]; rw [if_neg (by rw [ho]; decide), if_pos ho]));clear ho
     (simp only []; go_at_K)
     go_wp2_with fail
     refine bodyPost_ret (v := .tuple #[.int .i64 (wrap (sum + wrap (many * y.int))), .bool true]) (by simp [results, Try.results137, go_sem]; try rfl) rfl ?_;exact ⟨rfl, _, true, rfl, fun _ => ⟨HN.out, wrap_in _⟩, fun h => (by cases h)⟩
    replace o43 : (q1.name == [43]) = false := by simpa using o43
    by_cases o45 : (q1.name == [45]) = true
    ·have ho : q1.name = nm "-" := (by rw [show nm "-" = [45] from by decide]; simpa using o45);have HN := Lib.hid (show ofSum p sum many = some (wrap (sum - wrap (many * y.int))) from H0.out _ (by rw [if_pos G.out]; rw [if_neg (by rw [ho]; decide), if_neg (by rw [ho]; decide), if_pos ho]));clear ho
     (simp only []; go_at_K)
     go_wp2_with fail
     refine bodyPost_ret (v := .tuple #[.int .i64 (wrap (sum - wrap (many * y.int))), .bool true]) (by simp [results, Try.results137, go_sem]; try rfl) rfl ?_;exact ⟨rfl, _, true, rfl, fun _ => ⟨HN.out, wrap_in _⟩, fun h => (by cases h)⟩
    replace o45 : (q1.name == [45]) = false := (by simpa using o45);have HN := Lib.hid (show ofSum p sum many = none from H0.out _ (by rw [if_pos G.out]; rw [if_neg (fun h => by rw [h] at o42; exact absurd o42 (by decide)), if_neg (fun h => by rw [h] at o43; exact absurd o43 (by decide)), if_neg (fun h => by rw [h] at o45; exact absurd o45 (by decide))]))
    (simp only []; go_at_K)
    go_wp2_with fail
    refine bodyPost_ret (v := .tuple #[.int .i64 0, .bool false]) (by simp [results, Try.results137, go_sem]; try rfl) rfl ?_;exact ⟨rfl, 0, false, rfl, fun h => (by cases h), fun _ => HN.out⟩
   ·obtain ⟨p0, rfl⟩ := Option.isSome_iff_exists.1 hPs;have G := Lib.hid (And.intro g0 (And.intro g1 g2));have IB := Lib.hid ib; have HS := Lib.hid hs;clear g1 g2 hPs ib hs g0
    by_cases o42 : (q1.name == [42]) = true
    ·have ho : q1.name = nm "*" := (by rw [show nm "*" = [42] from by decide]; simpa using o42);have o43 : (q1.name == [43]) = false := (by rw [ho]; decide);have o45 : (q1.name == [45]) = false := (by rw [ho]; decide);have HN := Lib.hid (show ofSum p sum many = some (wrap (x.int * sum)) from H0.out _ (by rw [if_neg G.out.1, if_pos G.out.2]; rw [if_pos ho]));clear ho
     (simp only []; go_at_K)
     go_wp2_with fail
     refine bodyPost_ret (v := .tuple #[.int .i64 (wrap (x.int * sum)), .bool true]) (by simp [results, Try.results137, go_sem]; try rfl) rfl ?_;exact ⟨rfl, _, true, rfl, fun _ => ⟨HN.out, wrap_in _⟩, fun h => (by cases h)⟩
    replace o42 : (q1.name == [42]) = false := by simpa using o42
    by_cases o43 : (q1.name == [43]) = true
    ·have ho : q1.name = nm "+" := (by rw [show nm "+" = [43] from by decide]; simpa using o43);have o45 : (q1.name == [45]) = false := (by rw [ho]; decide);have HN := Lib.hid (show ofSum p sum many = some (wrap (sum + wrap (many * x.int))) from H0.out _ (by rw [if_neg G.out.1, if_pos G.out.2]; rw [if_neg (by rw [ho]; decide), if_pos ho]));clear ho
     (simp only []; go_at_K)
     go_wp2_with fail
     refine bodyPost_ret (v := .tuple #[.int .i64 (wrap (sum + wrap (many * x.int))), .bool true]) (by simp [results, Try.results137, go_sem]; try rfl) rfl ?_;exact ⟨rfl, _, true, rfl, fun _ => ⟨HN.out, wrap_in _⟩, fun h => (by cases h)⟩
    replace o43 : (q1.name == [43]) = false := by simpa using o43
    by_cases o45 : (q1.name == [45]) = true
    ·have ho : q1.name = nm "-" := (by rw [show nm "-" = [45] from by decide]; simpa using o45);have HN := Lib.hid (show ofSum p sum many = some (wrap (wrap (many * x.int) - sum)) from H0.out _ (by rw [if_neg G.out.1, if_pos G.out.2]; rw [if_neg (by rw [ho]; decide), if_neg (by rw [ho]; decide), if_pos ho]));clear ho
     (simp only []; go_at_K)
     go_wp2_with fail
     refine bodyPost_ret (v := .tuple #[.int .i64 (wrap (wrap (many * x.int) - sum)), .bool true]) (by simp [results, Try.results137, go_sem]; try rfl) rfl ?_;exact ⟨rfl, _, true, rfl, fun _ => ⟨HN.out, wrap_in _⟩, fun h => (by cases h)⟩
    replace o45 : (q1.name == [45]) = false := (by simpa using o45);have HN := Lib.hid (show ofSum p sum many = none from H0.out _ (by rw [if_neg G.out.1, if_pos G.out.2]; rw [if_neg (fun h => by rw [h] at o42; exact absurd o42 (by decide)), if_neg (fun h => by rw [h] at o43; exact absurd o43 (by decide)), if_neg (fun h => by rw [h] at o45; exact absurd o45 (by decide))]))
    (simp only []; go_at_K)
    go_wp2_with fail
    refine bodyPost_ret (v := .tuple #[.int .i64 0, .bool false]) (by simp [results, Try.results137, go_sem]; try rfl) rfl ?_;exact ⟨rfl, 0, false, rfl, fun h => (by cases h), fun _ => HN.out⟩
   ·have HN := Lib.hid (show ofSum p sum many = none from H0.out _ (by rw [if_neg g0, if_neg g1]));clear g0 g1
    (simp only []; go_at_K)
    go_wp2_with fail
    refine bodyPost_ret (v := .tuple #[.int .i64 0, .bool false]) (by simp [results, Try.results137, go_sem]; try rfl) rfl ?_;exact ⟨rfl, 0, false, rfl, fun h => (by cases h), fun _ => HN.out⟩
  ·rcases q3 with ⟨bx, rfl, hkx, nx, zx⟩ | ⟨bx, rfl, hkx, nx, zx, ix⟩ | ⟨bx, rfl, hkx, hkx3, px, px3⟩
   ·have e1 := hash_17 hkx;cases hn : (q1.name == [])
    all_goals rw [hn] at e1
    ·have HN := Lib.hid (show ofSum p sum many = none by unfold ofSum; rw [if_pos h16, hki]; simp only; rw [if_neg (by rw [e1]; exact Bool.false_ne_true), if_neg h10]);clear h16 hki e1 hkx h10 hv hq;go_enter Try.func137, Try.ntmps137
     go_wp2_with fail
     refine bodyPost_ret (v := .tuple #[.int .i64 0, .bool false]) (by simp [results, Try.results137, go_sem]; try rfl) rfl ?_;exact ⟨rfl, 0, false, rfl, fun h => (by cases h), fun _ => HN.out⟩
    ·have HN := Lib.hid (show ofSum p sum many = some sum by unfold ofSum; rw [if_pos h16, hki]; simp only; rw [if_pos e1]);have HS := Lib.hid hs;clear h16 hki e1 hkx h10 hv hq hs;go_enter Try.func137, Try.ntmps137
     go_wp2_with fail
     refine bodyPost_ret (v := .tuple #[.int .i64 sum, .bool true]) (by simp [results, Try.results137, go_sem]; try rfl) rfl ?_;exact ⟨rfl, sum, true, rfl, fun _ => ⟨HN.out, HS.out⟩, fun h => (by cases h)⟩
   ·have HN := Lib.hid (show ofSum p sum many = none by unfold ofSum; rw [if_pos h16, hki]; simp only; rw [if_neg (by rw [hash_no (by omega)]; exact Bool.false_ne_true), if_neg h10]);clear h16 hki hkx h10 hv hq ix;go_enter Try.func137, Try.ntmps137
    go_wp2_with fail
    refine bodyPost_ret (v := .tuple #[.int .i64 0, .bool false]) (by simp [results, Try.results137, go_sem]; try rfl) rfl ?_;exact ⟨rfl, 0, false, rfl, fun h => (by cases h), fun _ => HN.out⟩
   ·have HN := Lib.hid (show ofSum p sum many = none by unfold ofSum; rw [if_pos h16, hki]; simp only; rw [if_neg (by rw [hash_no hkx]; exact Bool.false_ne_true), if_neg h10]);clear h16 hki hkx hkx3 h10 hv hq;go_enter Try.func137, Try.ntmps137
    go_wp2_with fail
    refine bodyPost_ret (v := .tuple #[.int .i64 0, .bool false]) (by simp [results, Try.results137, go_sem]; try rfl) rfl ?_;exact ⟨rfl, 0, false, rfl, fun h => (by cases h), fun _ => HN.out⟩
 ·have HN := Lib.hid (show ofSum p sum many = none by unfold ofSum; rw [if_neg h16]);clear h16;go_enter Try.func137, Try.ntmps137
  go_wp2_with fail
  refine bodyPost_ret (v := .tuple #[.int .i64 0, .bool false]) (by simp [results, Try.results137, go_sem]; try rfl) rfl ?_;exact ⟨rfl, 0, false, rfl, fun h => (by cases h), fun _ => HN.out⟩
def isAcc (p : Tr) : Bool :=
 if p.kind = 16 then match p.kids with
  |[q] => if q.kind = 10 then match q.kids with
   |[x, y] => decide (x.kind = 17) && decide (y.kind = 17) && (q.name == [43]) && ((x.name == [] && y.name == [97, 99, 99]) || (x.name == [97, 99, 99] && y.name == []))
   |_ => false
   else false
  |_ => false
 else false
set_option maxHeartbeats 12800000 in
set_option maxRecDepth 100000 in
theorem isacc_any (p : Tr) (v : Value) (fp : List Nat) (w : World) (h : IsA w p v fp) : Calls Try.prog 138 #[v] w (fun e w' => e = .returned (.bool (isAcc p)) ∧ w' = w) := by
 have q := h.pred;clear h;rcases q with ⟨bp, q1, vq, fq, rfl, h16, hki, cq, zp, hq⟩ | ⟨bp, rfl, h16, pp⟩
 ·rcases hq.bin with ⟨bq, x, y, v0, v1, f0, f1, rfl, h10, hkk, cn, c3, c4, zq, hx, hy⟩ | ⟨bq, rfl, h10, pq⟩
  ·have H0 := Lib.hid (show isAcc p = (decide (x.kind = 17) && decide (y.kind = 17) && (q1.name == [43]) && ((x.name == [] && y.name == [97, 99, 99]) || (x.name == [97, 99, 99] && y.name == []))) by unfold isAcc; rw [if_pos h16, hki]; simp only; rw [if_pos h10, hkk]);have g0 := hx.three; have g1 := hy.three;clear h16 hki h10 hkk hx hy hq;cases ho : (q1.name == [43])
   ·have ho2 : (q1.name != [43]) = true := (by rw [bne, ho]; rfl);have HN := Lib.hid (show isAcc p = false by rw [H0.out, ho]; simp);clear g0 g1;go_enter Try.func138, Try.ntmps138
    go_wp2_with fail
    refine bodyPost_ret (v := .bool false) (by first | rfl | (simp [results, Try.results138, go_sem]; try rfl)) rfl ?_;exact ⟨by rw [HN.out], rfl⟩
   ·have ho2 : (q1.name != [43]) = false := (by rw [bne, ho]; rfl);rcases g0 with ⟨bx, rfl, hkx, nx, zx⟩ | ⟨bx, rfl, hkx, nx, zx, ix⟩ | ⟨bx, rfl, hkx, hkx3, px, px3⟩
    ·rcases g1 with ⟨by', rfl, hky, ny, zy⟩ | ⟨by', rfl, hky, ny, zy, iy⟩ | ⟨by', rfl, hky, hky3, py, py3⟩
     ·have H1 := Lib.hid (show isAcc p = ((x.name == [] && y.name == [97, 99, 99]) || (x.name == [97, 99, 99] && y.name == [])) by rw [H0.out, hkx, hky, ho]; simp);clear hkx hky;cases a1 : (x.name == [])
      all_goals cases a2 : (y.name == [97, 99, 99])
      all_goals cases a3 : (x.name == [97, 99, 99])
      all_goals cases a4 : (y.name == [])
      all_goals
       have HN := Lib.hid (show isAcc p = ((_ && _) || (_ && _)) from H1.out.trans (by rw [a1, a2, a3, a4]));go_enter Try.func138, Try.ntmps138
       go_wp2_with fail
       refine bodyPost_ret (by first | rfl | (simp [results, Try.results138, go_sem]; try rfl)) rfl ?_;exact ⟨by rw [HN.out]; rfl, rfl⟩
     ·have HN := Lib.hid (show isAcc p = false by rw [H0.out, hky]; simp);clear hkx hky iy;go_enter Try.func138, Try.ntmps138
      go_wp2_with fail
      refine bodyPost_ret (v := .bool false) (by first | rfl | (simp [results, Try.results138, go_sem]; try rfl)) rfl ?_;exact ⟨by rw [HN.out], rfl⟩
     ·have HN := Lib.hid (show isAcc p = false by rw [H0.out, decide_eq_false hky]; simp);clear hkx hky hky3;go_enter Try.func138, Try.ntmps138
      go_wp2_with fail
      refine bodyPost_ret (v := .bool false) (by first | rfl | (simp [results, Try.results138, go_sem]; try rfl)) rfl ?_;exact ⟨by rw [HN.out], rfl⟩
    ·have HN := Lib.hid (show isAcc p = false by rw [H0.out, hkx]; simp);clear hkx ix;rcases g1 with ⟨by', rfl, hky, ny, zy⟩ | ⟨by', rfl, hky, ny, zy, iy⟩ | ⟨by', rfl, hky, hky3, py, py3⟩
     all_goals
      clear hky;go_enter Try.func138, Try.ntmps138
      go_wp2_with fail
      refine bodyPost_ret (v := .bool false) (by first | rfl | (simp [results, Try.results138, go_sem]; try rfl)) rfl ?_;exact ⟨by rw [HN.out], rfl⟩
    ·have HN := Lib.hid (show isAcc p = false by rw [H0.out, decide_eq_false hkx]; simp);clear hkx hkx3;rcases g1 with ⟨by', rfl, hky, ny, zy⟩ | ⟨by', rfl, hky, ny, zy, iy⟩ | ⟨by', rfl, hky, hky3, py, py3⟩
     all_goals
      clear hky;go_enter Try.func138, Try.ntmps138
      go_wp2_with fail
      refine bodyPost_ret (v := .bool false) (by first | rfl | (simp [results, Try.results138, go_sem]; try rfl)) rfl ?_;exact ⟨by rw [HN.out], rfl⟩
  ·have HN := Lib.hid (show isAcc p = false by unfold isAcc; rw [if_pos h16, hki]; simp only; rw [if_neg h10]);clear h16 hki h10 hq;go_enter Try.func138, Try.ntmps138
   go_wp2_with fail
   refine bodyPost_ret (v := .bool false) (by first | rfl | (simp [results, Try.results138, go_sem]; try rfl)) rfl ?_;exact ⟨by rw [HN.out], rfl⟩
 ·have HN := Lib.hid (show isAcc p = false by unfold isAcc; rw [if_neg h16]);clear h16;go_enter Try.func138, Try.ntmps138
  go_wp2_with fail
  refine bodyPost_ret (v := .bool false) (by first | rfl | (simp [results, Try.results138, go_sem]; try rfl)) rfl ?_;exact ⟨by rw [HN.out], rfl⟩
end
end Go.Proofs.Ytafhhdimjkgihaa.Mn
