/- FilterFirst: what belongs to this law alone: part 1. -/
import Derived.Test.YtafhhdimjkgihaaM15
set_option linter.unusedSimpArgs false
set_option linter.unusedVariables false
namespace Go.Proofs.Ytafhhdimjkgihaa.Mn
section
attribute [local go_sem ↓] Go.wp_at_zero Go.wp_at_succ
open Go.RowKit
theorem IsA.ofArgs {w w1 : World} {f : Tr} {vf : Value} {ff : List Nat} {bf ff2 : Nat} {pf qf : Int} {af : Option Addr} {cf : Nat} {vs : List Value} {fs : List (List Nat)} {rb : List Nat} (hx : Hx f ff2 pf qf) (hr : Rw w af vs rb) (hk : IsAs w f.kids vs fs) (name : Nm) (hn : name.length ≤ 140737488355328) (th : Bool) (hb : Below w.heap.size w w1) {bn : Nat}
 (hL : Lb w1 bn [.int .i64 0, .int .i64 0, .string (str name), .slice af f.kids.length cf, .bool th, .nilIface, .pointer none] 102) : IsA w1 { mkB name f.kids with flag := th } (.iface 100 (.pointer (some ⟨bn, 0, none⟩))) ((bn :: rb) ++ fs.flatten ++ []) := by
 have z : I64 0 := by unfold I64; omega
 have := IsA.list (w := w1) { mkB name f.kids with flag := th } bn 0 0 0 af cf vs fs rb [] [] (.pointer none) [] rfl ⟨rfl, cn_zero, z, z, z, z, hn, hx.hk⟩ hL (hr.same fun y hy => hb.block y (hr.lt y hy)) (hk.same fun y hy => hb.block y (hk.lt y hy)) ⟨by simp [mkB], fun h21 => by simp [mkB] at h21⟩ .nil (.inl ⟨rfl, rfl, rfl⟩)
 exact this
theorem door_filterLen (b : Nat) : Door 128 (.pointer (some ⟨b, 0, none⟩)) 130 := ⟨fun n w => by kernel_rfl, fun args w => by kernel_rfl⟩
set_option maxHeartbeats 6400000 in
set_option maxRecDepth 100000 in
theorem visit_filterLen (rb0 : Nat) : VisOk 130 (.pointer (some ⟨rb0, 0, none⟩)) stFilterLen (fun _ => false) (fun _ => False) (fun _ _ => True) (fun _ => True) := by
 intro t _ v fp pb po cs Tp w s hP _;have r0 : w.cell? ⟨pb, po, none⟩ = some v := by rw [hP.lb.cell]; exact hP.get
 have g0 := hP.lb.frozen; have z0 := hP.lb.lt;have HP := Lib.hid hP
 by_cases hk : t.kind = 15
 ·obtain ⟨b, f, p, q, a, c, vs, fs, rb, ms, gs, th, ft, rfl, hx, hb, hr, hks, h1, hm, ht, rfl⟩ := hP.tree.b15 hk;have n0 := hb.cell; have zn := hb.lt
  by_cases hnm : (t.name == [108, 101, 110]) = true
  ·by_cases hl : t.kids.length = 1
   ·obtain ⟨x, hkx⟩ : ∃ x, t.kids = [x] := by
     match hq : t.kids, hl with
     |[y], _ => exact ⟨y, rfl⟩
    rw [hkx] at hks;obtain ⟨vx, fx, rfl, rfl, hix⟩ : ∃ vx fx, vs = [vx] ∧ fs = [fx] ∧ IsA w x vx fx := by
     cases hks with | cons h hl => cases hl; exact ⟨_, _, rfl, rfl, h⟩
    obtain ⟨r, sp, R, rfl, rfl, hr2⟩ : ∃ r sp R, a = some ⟨r, 0, none⟩ ∧ rb = [r] ∧ Lb w r ([vx] ++ sp) R := by
     rcases hr with ⟨h, _⟩ | h
     ·cases h
     ·exact h
    have d0 : w.cell? ⟨r, 0, none⟩ = some vx := (by rw [hr2.cell]; rfl);have zr := hr2.lt
    by_cases hxk : x.kind = 15
    ·obtain ⟨bx, ffx, px, qx, ax, cx, vsx, fsx, rbx, msx, gsx, thx, ftx, rfl, hxx, hbx, hrx, hksx, h1x, hmx, htx, rfl⟩ := hix.b15 hxk;have m0 := hbx.cell; have zm := hbx.lt
     by_cases hnx : (x.name == [102, 105, 108, 116, 101, 114]) = true
     ·by_cases hlx : x.kids.length = 2
      ·have HS := Lib.hid (show stFilterLen t = mkB (nm "count") x.kids from by
        unfold stFilterLen;rw [if_pos ⟨hk, by rw [show nm "len" = [108, 101, 110] from by decide]; simpa using hnm⟩, hkx];simp only;rw [if_pos ⟨hxk, by rw [show nm "filter" = [102, 105, 108, 116, 101, 114] from by decide]; simpa using hnx, hlx⟩])
       rw [hlx] at m0;rw [hkx] at n0;have hxt := hxx;have HX := Lib.hid (show ∀ w1 bn, Below w.heap.size w w1 → Lb w1 bn [.int .i64 0, .int .i64 0, .string (str (nm "count")), .slice ax x.kids.length cx, .bool false, .nilIface, .pointer none] 102 → IsA w1 (mkB (nm "count") x.kids) (.iface 100 (.pointer (some ⟨bn, 0, none⟩))) ((bn :: rbx) ++ fsx.flatten ++ []) from fun w1 bn hb1 hL1 => IsA.ofArgs (vf := .nilIface) (ff := []) (bf := 0) hxx hrx hksx (nm "count") (by decide) false hb1 hL1);have HLX := Lib.hid hlx;have FR := Lib.hid (fresh hP (L := rbx ++ fsx.flatten) (sub_args.trans (sub_kid (i := 0) rfl)));clear hP hx hb hr hks h1 hm ht hr2 hbx hrx hksx h1x hmx htx hix hxx hxt hkx hl hk hxk hlx;go_enter Try.func130, Try.ntmps130
       go_wp2_with fail
       apply Calls.mono
       ·refine patch108 pb po cs Tp _ _ t (mkB (nm "count") x.kids) _ ((w.heap.size :: rbx) ++ fsx.flatten ++ []) _ (HP.out.lb.alloc _) HP.out.get (HP.out.tree.same fun y hy => heap_alloc_old w _ (HP.out.tree.lt y hy)) HP.out.nd (HX.out _ _ ((Below.refl _ _).alloc (Nat.le_refl _) _) (by rw [HLX.out]; exact Lb.new' _ _ _ rfl)) ?_ ?_ HP.out.out
        ·simpa using FR.out.1
        ·simpa using FR.out.2.1
       rintro e w2 h2;obtain ⟨x2, rfl⟩ := h2.1;have H2 := Lib.hid h2;clear h2;go_wp21;refine bodyPost_end (v := .tuple #[]) (by first | rfl | (simp [results, Try.results130, go_sem]; try rfl)) rfl ?_;rw [HS.out];exact Wd.patched HP.out ((Below.refl _ _).alloc (Nat.le_refl _) _) H2.out (by simpa using FR.out.2.2) (by simpa using FR.out.1) trivial _
      ·have HS := Lib.hid (show stFilterLen t = t from by unfold stFilterLen; (repeat' split) <;> simp_all (decide := true) [nm]);clear hP hx hb hr hks h1 hm ht hr2 hbx hrx hksx h1x hmx htx hix hxx;go_enter Try.func130, Try.ntmps130
       go_wp2_with fail
       refine bodyPost_end (v := .tuple #[]) (by first | rfl | (simp [results, Try.results130, go_sem]; try rfl)) rfl ?_;rw [HS.out];exact Wd.same HP.out (Below.refl _ _) trivial _
     ·have HS := Lib.hid (show stFilterLen t = t from by unfold stFilterLen; (repeat' split) <;> simp_all (decide := true) [nm]);clear hP hx hb hr hks h1 hm ht hr2 hbx hrx hksx h1x hmx htx hix hxx;go_enter Try.func130, Try.ntmps130
      go_wp2_with fail
      refine bodyPost_end (v := .tuple #[]) (by first | rfl | (simp [results, Try.results130, go_sem]; try rfl)) rfl ?_;rw [HS.out];exact Wd.same HP.out (Below.refl _ _) trivial _
    ·obtain ⟨bx, rfl⟩ := hix.ptr;have hpx : ¬ pty x.kind = 100 := fun h => hxk ((pty_eq hix.okk).1.1 h);have HS := Lib.hid (show stFilterLen t = t from by unfold stFilterLen; (repeat' split) <;> simp_all (decide := true) [nm]);clear hP hx hb hr hks h1 hm ht hr2 hix hxk;go_enter Try.func130, Try.ntmps130
     go_wp2_with fail
     refine bodyPost_end (v := .tuple #[]) (by first | rfl | (simp [results, Try.results130, go_sem]; try rfl)) rfl ?_;rw [HS.out];exact Wd.same HP.out (Below.refl _ _) trivial _
   ·have HS := Lib.hid (show stFilterLen t = t from by unfold stFilterLen; (repeat' split) <;> simp_all (decide := true) [nm]);clear hP hx hb hr hks h1 hm ht;go_enter Try.func130, Try.ntmps130
    go_wp2_with fail
    refine bodyPost_end (v := .tuple #[]) (by first | rfl | (simp [results, Try.results130, go_sem]; try rfl)) rfl ?_;rw [HS.out];exact Wd.same HP.out (Below.refl _ _) trivial _
  ·have HS := Lib.hid (show stFilterLen t = t from by unfold stFilterLen; (repeat' split) <;> simp_all (decide := true) [nm]);clear hP hx hb hr hks h1 hm ht;go_enter Try.func130, Try.ntmps130
   go_wp2_with fail
   refine bodyPost_end (v := .tuple #[]) (by first | rfl | (simp [results, Try.results130, go_sem]; try rfl)) rfl ?_;rw [HS.out];exact Wd.same HP.out (Below.refl _ _) trivial _
 ·obtain ⟨b, rfl⟩ := hP.tree.ptr;have hpt : ¬ pty t.kind = 100 := fun h => hk ((pty_eq hP.tree.okk).1.1 h);have HS := Lib.hid (show stFilterLen t = t from by unfold stFilterLen; (repeat' split) <;> simp_all (decide := true) [nm]);clear hP hk;go_enter Try.func130, Try.ntmps130
  go_wp2_with fail
  refine bodyPost_end (v := .tuple #[]) (by first | rfl | (simp [results, Try.results130, go_sem]; try rfl)) rfl ?_;rw [HS.out];exact Wd.same HP.out (Below.refl _ _) trivial _
end
section
theorem val_10 (t : Tr) (h : t.kind = 10) (env : Env) : (D t).val env = binary t.name env (Ds t.kids) := by
 rw [D_eq t];show sem t _ _ env = _;unfold sem;rw [if_neg (by omega), if_neg (by omega), if_neg (by omega), if_neg (by omega), if_neg (by omega), if_neg (by omega), if_neg (by omega), if_neg (by omega), if_pos h]
def sumI : List Int → Int
 |[] => 0
 |x :: l => x + sumI l
theorem wrap_add_l (a b : Int) : wrap (wrap a + b) = wrap (a + b) := by
 unfold wrap Go.RowKit.wrap64; omega
theorem wrap_add_r (a b : Int) : wrap (a + wrap b) = wrap (a + b) := by
 unfold wrap Go.RowKit.wrap64; omega
theorem wrap_0 : wrap 0 = 0 := by unfold wrap Go.RowKit.wrap64; omega
def mkI (v : Int) : Tr := { kind := 3, name := [], int := v, flt := 0, flag := false, method := false, limited := false, limit := 0, kids := [], map := [] }
theorem binary_arith (n : Nm) (hn : n = nm "*" ∨ n = nm "+" ∨ n = nm "-") (env : Env) (a b : Dn) : binary n env [a, b] = (pr (a.val env) (b.val env)).bind fun p => arith n p.1 p.2 := by
 unfold binary both;rcases hn with rfl | rfl | rfl <;> simp (decide := true)
theorem wrap_wrap (a : Int) : wrap (wrap a) = wrap a := by
 unfold wrap Go.RowKit.wrap64; omega
theorem pl_plain_sum (ys : List Vl) : plain (nm "sum") { kind := 5, items := ys } = total { kind := 1 } ys := by
 unfold plain; simp (decide := true)
end
section
theorem step_count' (c : Ch) (hn : c.name = nm "count") (p : Env → Option Vl) (env : Env) (x : Vl) (i : Int) (l : List (Vl × Int)) (kept : List Vl) (many : Int) :
 chosen c p env ((x, i) :: l) kept many = (truth p (here env x i)).bind fun is => if is = true then (if c.limited = true ∧ many + 1 ≥ c.limit then some { kind := 1, int := many + 1 } else match c.map with
  |some m => (m (here env x i)).bind fun y => chosen c p env l (kept ++ [y]) (many + 1)
  |none => chosen c p env l (kept ++ [x]) (many + 1)) else chosen c p env l kept many := by
 rw [chosen]
 congr 1
 funext is
 rw [hn];cases hm : c.map <;> cases is <;> simp (decide := true)
theorem step_any' (c : Ch) (hn : c.name = nm "any") (p : Env → Option Vl) (env : Env) (x : Vl) (i : Int) (l : List (Vl × Int)) (kept : List Vl) (many : Int) :
 chosen c p env ((x, i) :: l) kept many = (truth p (here env x i)).bind fun is => if is = true then some (yes true) else chosen c p env l kept many := by
 rw [chosen]
 congr 1
 funext is
 rw [hn];cases is <;> simp (decide := true)
theorem done_any (c : Ch) (hn : c.name = nm "any") (kept : List Vl) (many : Int) : c.done kept many = some (yes false) := by
 unfold Ch.done; rw [hn]; simp (decide := true)
theorem count_pos (c : Ch) (hn : c.name = nm "count") (p : Env → Option Vl) (env : Env) (l : List (Vl × Int)) :
 ∀ (kept : List Vl) (many : Int) (v : Vl), 0 ≤ many → chosen c p env l kept many = some v → ∃ m, v = { kind := 1, int := m } ∧ many ≤ m := by
 induction l with
 |nil =>
  intro kept many v h0 h;rw [chosen, done_count c hn] at h;cases h;exact ⟨many, rfl, by omega⟩
 |cons x l ih =>
  intro kept many v h0 h;obtain ⟨x, i⟩ := x;rw [step_count' c hn] at h;cases ht : truth p (here env x i) with
  |none => rw [ht] at h; cases h
  |some is =>
   rw [ht] at h;simp only [Option.bind_some] at h;cases is with
   |false => exact ih _ _ _ h0 h
   |true =>
    simp only [if_true] at h
    split at h
    ·cases h; exact ⟨_, rfl, by omega⟩
    ·split at h
     ·rename_i m hm
      cases hy : m (here env x i) with
      |none => rw [hy] at h; cases h
      |some y =>
       rw [hy] at h;obtain ⟨m', h1, h2⟩ := ih _ _ _ (by omega) h;exact ⟨m', h1, by omega⟩
     ·obtain ⟨m', h1, h2⟩ := ih _ _ _ (by omega) h;exact ⟨m', h1, by omega⟩
theorem count_any (c ca : Ch) (hn : c.name = nm "count") (ha : ca.name = nm "any") (p : Env → Option Vl) (env : Env) (l : List (Vl × Int)) :
 ∀ (kept kept2 : List Vl) (many : Int) (v : Vl), chosen c p env l kept 0 = some v → ∃ m, v = { kind := 1, int := m } ∧ 0 ≤ m ∧ chosen ca p env l kept2 many = some (yes (decide (0 < m))) := by
 induction l with
 |nil =>
  intro kept kept2 many v h;rw [chosen, done_count c hn] at h;cases h;exact ⟨0, rfl, by omega, by rw [chosen, done_any ca ha]; rfl⟩
 |cons x l ih =>
  intro kept kept2 many v h;obtain ⟨x, i⟩ := x;rw [step_count' c hn] at h;rw [step_any' ca ha];cases ht : truth p (here env x i) with
  |none => rw [ht] at h; cases h
  |some is =>
   rw [ht] at h;simp only [Option.bind_some] at h ⊢;cases is with
   |false => exact ih _ _ _ _ h
   |true =>
    have key : ∃ m, v = { kind := 1, int := m } ∧ 1 ≤ m := by
     simp only [if_true] at h
     split at h
     ·cases h; exact ⟨_, rfl, by omega⟩
     ·split at h
      ·rename_i m hm
       cases hy : m (here env x i) with
       |none => rw [hy] at h; cases h
       |some y =>
        rw [hy] at h;exact count_pos c hn p env l _ _ _ (by omega) h
      ·exact count_pos c hn p env l _ _ _ (by omega) h
    obtain ⟨m, h1, h2⟩ := key;exact ⟨m, h1, by omega, by rw [if_pos rfl, decide_eq_true (by omega)]⟩
def stCountAny (t : Tr) : Tr :=
 if t.kind = 10 then match t.kids with
  |[c, i] => if c.kind = 15 ∧ c.name = nm "count" ∧ c.kids.length = 2 ∧ i.kind = 3 ∧ ((t.name = nm ">" ∧ i.int = 0) ∨ (t.name = nm ">=" ∧ i.int = 1)) then mkB (nm "any") c.kids else t
  |_ => t
 else t
theorem val_3 (t : Tr) (h : t.kind = 3) (env : Env) : (D t).val env = some { kind := 1, int := t.int } := by
 rw [D_eq t];show sem t _ _ env = _;unfold sem;rw [if_neg (by omega), if_neg (by omega), if_pos h]
theorem binary_cmp (n : Nm) (hn : n = nm ">" ∨ n = nm ">=" ∨ n = nm "<" ∨ n = nm "<=") (env : Env) (a b : Dn) : binary n env [a, b] = (pr (a.val env) (b.val env)).bind fun p => both n p.1 p.2 := by
 unfold binary;rcases hn with rfl | rfl | rfl | rfl <;> simp (decide := true)
theorem pl_both_gt (m q : Int) : both (nm ">") { kind := 1, int := m } { kind := 1, int := q } = some (yes (decide (q < m))) := by
 unfold both less; simp (decide := true)
theorem eqv_int (m q : Int) : eqv { kind := 1, int := m } { kind := 1, int := q } = decide (m = q) := by
 unfold eqv num; simp
theorem pl_both_ge (m q : Int) : both (nm ">=") { kind := 1, int := m } { kind := 1, int := q } = some (yes (decide (q < m) || decide (m = q))) := by
 unfold both less; rw [eqv_int]; simp (decide := true)
theorem countAny_ok {G : Vl → Prop} (t : Tr) : Rd true G (D t) (D (stCountAny t)) := by
 unfold stCountAny
 split
 ·rename_i h
  split
  ·rename_i c i hk
   split
   ·rename_i h2
    obtain ⟨hc1, hc2, hc3, hi, hop⟩ := h2;obtain ⟨a, b, hk2⟩ : ∃ a b, c.kids = [a, b] := by
     match hf : c.kids, hc3 with
     |[a, b], _ => exact ⟨a, b, rfl⟩
    refine node_15 (.inr (.inr (.inl h))) (.inl rfl) fun env _ => ?_;rw [val_10 t h, val_15 (mkB (nm "any") c.kids) rfl, hk, hk2];simp only [Ds, mkB, builtin];rw [binary_cmp _ (by rcases hop with ⟨x, _⟩ | ⟨x, _⟩ <;> simp [x]), val_3 i hi, val_15 c hc1, hk2, hc2]
    simp only [Ds, builtin];cases (D a).val env with
    |none => exact .inr ⟨rfl, rfl⟩
    |some v =>
     simp only [Option.bind_some];cases (D b).body with
     |none => exact .inr ⟨rfl, rfl⟩
     |some p =>
      simp only
      by_cases h5 : v.kind = 5
      ·rw [if_pos h5, if_pos h5];rw [builtin2_chosen _ (by show isChosen (nm "count") = true; decide) (by show nm "count" ≠ nm "map"; decide) (by show nm "count" ≠ nm "sum"; decide), builtin2_chosen _ (by show isChosen (nm "any") = true; decide) (by show nm "any" ≠ nm "map"; decide) (by show nm "any" ≠ nm "sum"; decide)];have ho : ∀ l, order (nm "any") l = l := fun l => (by unfold order; rw [if_neg (by decide)]);have ho2 : ∀ l, order (nm "count") l = l := fun l => (by unfold order; rw [if_neg (by decide)]);rw [ho, ho2]
       generalize hch : chosen { name := nm "count", limited := c.limited, limit := c.limit, flag := c.flag, map := oneOf (Ds c.map) } p env (zipIdx v.items) [] 0 = r
       cases r with
       |none => exact .inr ⟨rfl, rfl⟩
       |some u =>
        obtain ⟨m, rfl, h0, h1⟩ := count_any _ { name := nm "any", limited := false, limit := 0, flag := false, map := oneOf [] } rfl rfl p env _ [] [] 0 _ hch;left;rw [h1];rcases hop with ⟨x, y⟩ | ⟨x, y⟩
        ·rw [x, y]; show both (nm ">") _ _ = _; rw [pl_both_gt]
        ·rw [x, y]; show both (nm ">=") _ _ = _; rw [pl_both_ge]
         congr 2
         rw [Bool.eq_iff_iff]; simp; omega
      ·rw [if_neg h5, if_neg h5]; exact .inr ⟨rfl, rfl⟩
   ·exact .refl _
  ·exact .refl _
 ·exact .refl _
end
section
theorem count_limit (c cl : Ch) (hn : c.name = nm "count") (hnl : cl.name = nm "count") (hc : c.limited = false) (hl : cl.limited = true) (hm : cl.map = c.map) (p : Env → Option Vl) (env : Env) (l : List (Vl × Int)) :
 ∀ (kept kept2 : List Vl) (many : Int) (v : Vl), 0 ≤ many → many < cl.limit → chosen c p env l kept many = some v →
  ∃ m m', v = { kind := 1, int := m } ∧ chosen cl p env l kept2 many = some { kind := 1, int := m' } ∧ (m' = m ∨ (cl.limit = m' ∧ m' ≤ m)) := by
 induction l with
 |nil =>
  intro kept kept2 many v h0 hL h;rw [chosen, done_count c hn] at h;cases h;exact ⟨many, many, rfl, by rw [chosen, done_count cl hnl], .inl rfl⟩
 |cons x l ih =>
  intro kept kept2 many v h0 hL h;obtain ⟨x, i⟩ := x;rw [step_count' c hn] at h;rw [step_count' cl hnl];cases ht : truth p (here env x i) with
  |none => rw [ht] at h; cases h
  |some is =>
   rw [ht] at h;simp only [Option.bind_some] at h ⊢;cases is with
   |false => exact ih _ _ _ _ h0 hL h
   |true =>
    simp only [if_true] at h ⊢;rw [if_neg (by rw [hc]; simp)] at h
    by_cases hg : many + 1 ≥ cl.limit
    ·rw [if_pos ⟨hl, hg⟩];have key : ∃ m, v = { kind := 1, int := m } ∧ many + 1 ≤ m := by
      split at h
      ·rename_i m hm
       cases hy : m (here env x i) with
       |none => rw [hy] at h; cases h
       |some y =>
        rw [hy] at h;exact count_pos c hn p env l _ _ _ (by omega) h
      ·exact count_pos c hn p env l _ _ _ (by omega) h
     obtain ⟨m, h1, h2⟩ := key;exact ⟨m, many + 1, h1, rfl, .inr ⟨by omega, h2⟩⟩
    ·rw [if_neg (by intro hx; exact hg hx.2), hm]
     split at h
     ·rename_i m hm'
      cases hy : m (here env x i) with
      |none => rw [hy] at h; cases h
      |some y =>
       rw [hy] at h;simp only [Option.bind_some] at h ⊢;exact ih _ _ _ _ (by omega) (by omega) h
     ·exact ih _ _ _ _ (by omega) (by omega) h
def over1 (op : Nm) (k : Int) : Int := if op = nm ">" ∨ op = nm "<=" then k + 1 else k
def stCountThreshold (t : Tr) : Tr :=
 if t.kind = 10 then match t.kids with
  |[c, i] => if c.kind = 15 ∧ c.name = nm "count" ∧ c.kids.length = 2 ∧ i.kind = 3 ∧ (t.name = nm ">" ∨ t.name = nm ">=" ∨ t.name = nm "<" ∨ t.name = nm "<=") ∧ 2 ≤ over1 t.name i.int ∧ over1 t.name i.int < 9223372036854775808
   then { t with kids := [{ c with limited := true, limit := over1 t.name i.int }, i] } else t
  |_ => t
 else t
theorem pl_both_lt (m q : Int) : both (nm "<") { kind := 1, int := m } { kind := 1, int := q } = some (yes (decide (m < q))) := by
 unfold both less; simp (decide := true)
theorem pl_both_le (m q : Int) : both (nm "<=") { kind := 1, int := m } { kind := 1, int := q } = some (yes (decide (m < q) || decide (m = q))) := by
 unfold both less; rw [eqv_int]; simp (decide := true)
theorem countThreshold_ok {G : Vl → Prop} (t : Tr) (hlim : ∀ c ∈ t.kids, c.limited = false) : Rd true G (D t) (D (stCountThreshold t)) := by
 unfold stCountThreshold
 split
 ·rename_i h
  split
  ·rename_i c i hk
   split
   ·rename_i h2
    obtain ⟨hc1, hc2, hc3, hi, hop, hL, _⟩ := h2;have hcl := hlim c (by rw [hk]; simp);obtain ⟨a, b, hk2⟩ : ∃ a b, c.kids = [a, b] := by
     match hf : c.kids, hc3 with
     |[a, b], _ => exact ⟨a, b, rfl⟩
    have hcmp : t.name = nm ">" ∨ t.name = nm ">=" ∨ t.name = nm "<" ∨ t.name = nm "<=" := hop;refine node_15 (.inr (.inr (.inl h))) (.inr (.inr (.inl h))) fun env _ => ?_;rw [val_10 t h, val_10 { t with kids := _ } h, hk]
    simp only [Ds];rw [binary_cmp _ hcmp, binary_cmp _ hcmp, val_3 i hi, val_15 c hc1, val_15 { c with limited := true, limit := over1 t.name i.int } hc1, hk2, hc2]
    simp only [Ds, builtin];cases (D a).val env with
    |none => exact .inr ⟨rfl, rfl⟩
    |some v =>
     simp only [Option.bind_some];cases (D b).body with
     |none => exact .inr ⟨rfl, rfl⟩
     |some p =>
      simp only
      by_cases h5 : v.kind = 5
      ·rw [if_pos h5, if_pos h5];rw [builtin2_chosen _ (by show isChosen (nm "count") = true; decide) (by show nm "count" ≠ nm "map"; decide) (by show nm "count" ≠ nm "sum"; decide), builtin2_chosen _ (by show isChosen (nm "count") = true; decide) (by show nm "count" ≠ nm "map"; decide) (by show nm "count" ≠ nm "sum"; decide)];have ho2 : ∀ l, order (nm "count") l = l := fun l => (by unfold order; rw [if_neg (by decide)]);rw [ho2]
       generalize hch : chosen { name := nm "count", limited := c.limited, limit := c.limit, flag := c.flag, map := oneOf (Ds c.map) } p env (zipIdx v.items) [] 0 = r
       cases r with
       |none => exact .inr ⟨rfl, rfl⟩
       |some u =>
        obtain ⟨m, m', rfl, h1, h2⟩ := count_limit { name := nm "count", limited := c.limited, limit := c.limit, flag := c.flag, map := oneOf (Ds c.map) } { name := nm "count", limited := true, limit := over1 t.name i.int, flag := c.flag, map := oneOf (Ds c.map) } rfl rfl hcl rfl rfl p env _ [] [] 0 _ (by omega) (by show 0 < over1 t.name i.int; omega) hch;left;rw [h1];show both t.name _ _ = both t.name _ _;have h2 : m' = m ∨ over1 t.name i.int = m' ∧ m' ≤ m := h2;unfold over1 at h2 hL;rcases hop with x | x | x | x
        ·rw [x] at h2 hL ⊢; rw [if_pos (by decide)] at h2; rw [pl_both_gt, pl_both_gt]
         congr 2; rw [Bool.eq_iff_iff]; simp; omega
        ·rw [x] at h2 hL ⊢; rw [if_neg (by decide)] at h2; rw [pl_both_ge, pl_both_ge]
         congr 2; rw [Bool.eq_iff_iff]; simp; omega
        ·rw [x] at h2 hL ⊢; rw [if_neg (by decide)] at h2; rw [pl_both_lt, pl_both_lt]
         congr 2; rw [Bool.eq_iff_iff]; simp; omega
        ·rw [x] at h2 hL ⊢; rw [if_pos (by decide)] at h2; rw [pl_both_le, pl_both_le]
         congr 2; rw [Bool.eq_iff_iff]; simp; omega
      ·rw [if_neg h5, if_neg h5]; exact .inr ⟨rfl, rfl⟩
   ·exact .refl _
  ·exact .refl _
 ·exact .refl _
end
section
def made1 (c : Ch) (env : Env) (x : Vl) (i : Int) : Option Vl := match c.map with
 |some m => m (here env x i)
 |none => some x
theorem step_filter' (c : Ch) (hn : c.name = nm "filter") (p : Env → Option Vl) (env : Env) (x : Vl) (i : Int) (l : List (Vl × Int)) (kept : List Vl) (many : Int) :
 chosen c p env ((x, i) :: l) kept many = (truth p (here env x i)).bind fun is => if is = true then (made1 c env x i).bind fun y => chosen c p env l (kept ++ [y]) (many + 1) else chosen c p env l kept many := by
 rw [chosen]
 congr 1
 funext is
 unfold made1;rw [hn];cases c.map <;> cases is <;> simp (decide := true)
theorem step_find (c : Ch) (hn : c.name = nm "find" ∨ c.name = nm "findLast") (p : Env → Option Vl) (env : Env) (x : Vl) (i : Int) (l : List (Vl × Int)) (kept : List Vl) (many : Int) :
 chosen c p env ((x, i) :: l) kept many = (truth p (here env x i)).bind fun is => if is = true then made1 c env x i else chosen c p env l kept many := by
 rw [chosen]
 congr 1
 funext is
 unfold made1;rcases hn with hn | hn <;> rw [hn] <;> cases c.map <;> cases is <;> simp (decide := true)
theorem done_find (c : Ch) (hn : c.name = nm "find" ∨ c.name = nm "findLast") (kept : List Vl) (many : Int) : c.done kept many = if c.flag = false then some {} else none := by
 unfold Ch.done;rcases hn with hn | hn <;> rw [hn] <;> simp (decide := true)
theorem filter_find (c cf cl : Ch) (hn : c.name = nm "filter") (hf : cf.name = nm "find" ∨ cf.name = nm "findLast") (hl : cl.name = nm "find" ∨ cl.name = nm "findLast") (hfm : cf.map = c.map) (hlm : cl.map = c.map) (p : Env → Option Vl) (env : Env) (l : List (Vl × Int)) :
 ∀ (kept kept2 : List Vl) (many many2 : Int) (v : Vl), chosen c p env l kept many = some v →
  ∃ ys, v = { kind := 5, items := kept ++ ys } ∧ (∀ rest, chosen cf p env (l ++ rest) kept2 many2 = match ys.head? with
   |some y => some y
   |none => chosen cf p env rest kept2 many2) ∧ ∀ rest, chosen cl p env (l.reverse ++ rest) kept2 many2 = match ys.getLast? with
   |some y => some y
   |none => chosen cl p env rest kept2 many2 := by
 induction l with
 |nil =>
  intro kept kept2 many many2 v h;rw [chosen, done_filter c hn] at h;cases h;exact ⟨[], by simp, fun _ => rfl, fun _ => rfl⟩
 |cons x l ih =>
  intro kept kept2 many many2 v h;obtain ⟨x, i⟩ := x;rw [step_filter' c hn] at h;cases ht : truth p (here env x i) with
  |none => rw [ht] at h; cases h
  |some is =>
   rw [ht] at h;simp only [Option.bind_some] at h;have e1 : made1 cf env x i = made1 c env x i := (by unfold made1; rw [hfm]);have e2 : made1 cl env x i = made1 c env x i := (by unfold made1; rw [hlm]);cases is with
   |false =>
    simp only [Bool.false_eq_true, if_false] at h;obtain ⟨ys, h1, h2, h3⟩ := ih _ kept2 _ many2 _ h;refine ⟨ys, h1, fun rest => ?_, fun rest => ?_⟩
    ·rw [List.cons_append, step_find cf hf, ht];simp only [Option.bind_some, Bool.false_eq_true, if_false];exact h2 rest
    ·rw [List.reverse_cons, List.append_assoc, List.singleton_append, h3];cases ys.getLast? with
     |some y => rfl
     |none => simp only; rw [step_find cl hl, ht]; simp only [Option.bind_some, Bool.false_eq_true, if_false]
   |true =>
    simp only [if_true] at h;cases hy : made1 c env x i with
    |none => rw [hy] at h; cases h
    |some y =>
     rw [hy] at h;simp only [Option.bind_some] at h;obtain ⟨ys, h1, h2, h3⟩ := ih _ kept2 _ many2 _ h;refine ⟨y :: ys, by rw [h1]; simp, fun rest => ?_, fun rest => ?_⟩
     ·rw [List.cons_append, step_find cf hf, ht];simp only [Option.bind_some, if_true, List.head?_cons];rw [e1, hy]
     ·rw [List.reverse_cons, List.append_assoc, List.singleton_append, h3, List.getLast?_cons];cases ys.getLast? with
      |some y => rfl
      |none => simp only; rw [step_find cl hl, ht]; simp only [Option.bind_some, if_true]; rw [e2, hy]; rfl
def mkF (name : Nm) (throws : Bool) (f : Tr) : Tr := { kind := 15, name := name, int := 0, flt := 0, flag := throws, method := false, limited := false, limit := 0, kids := f.kids, map := f.map }
def stEnd (word search : Nm) (k : Int) (t : Tr) : Tr :=
 if t.kind = 12 then match t.kids with
  |[f, i] => if t.flag = false ∧ i.kind = 3 ∧ i.int = k ∧ f.kind = 15 ∧ f.name = nm "filter" ∧ f.kids.length = 2 then mkF search true f else t
  |_ => t
 else if t.kind = 15 ∧ t.name = word then match t.kids with
  |[f] => if f.kind = 15 ∧ f.name = nm "filter" ∧ f.kids.length = 2 then mkF search false f else t
  |_ => t
 else t
def stFilterFirst (t : Tr) : Tr := stEnd (nm "first") (nm "find") 0 t
def stFilterLast (t : Tr) : Tr := stEnd (nm "last") (nm "findLast") (-1) t
theorem val_12 (t : Tr) (h : t.kind = 12) (env : Env) (d e : Dn) (hk : Ds t.kids = [d, e]) : (D t).val env = if t.method = true then none else (pr (d.val env) (e.val env)).bind fun p => element p.1 p.2 := by
 rw [D_eq t];show sem t _ _ env = _;unfold sem;rw [if_neg (by omega), if_neg (by omega), if_neg (by omega), if_neg (by omega), if_neg (by omega), if_neg (by omega), if_neg (by omega), if_neg (by omega), if_neg (by omega), if_pos h, hk]
theorem filter_ends (f : Tr) (h1 : f.kind = 15) (h2 : f.name = nm "filter") (h3 : f.kids.length = 2) (env : Env) (b : Bool) (u : Vl) (h : (D f).val env = some u) :
 ∃ ys, u = { kind := 5, items := ys } ∧ ((D (mkF (nm "find") b f)).val env = match ys.head? with
  |some y => some y
  |none => if b = false then some {} else none) ∧ (D (mkF (nm "findLast") b f)).val env = match ys.getLast? with
  |some y => some y
  |none => if b = false then some {} else none := by
 obtain ⟨a, e, hk2⟩ : ∃ a b, f.kids = [a, b] := by
  match hf : f.kids, h3 with
  |[a, b], _ => exact ⟨a, b, rfl⟩
 rw [val_15 f h1, hk2, h2] at h;rw [val_15 (mkF (nm "find") b f) rfl, val_15 (mkF (nm "findLast") b f) rfl];simp only [mkF, hk2];simp only [Ds, builtin] at h ⊢;cases hv : (D a).val env with
 |none => rw [hv] at h; cases h
 |some v =>
  rw [hv] at h;simp only [Option.bind_some] at h ⊢;cases hp : (D e).body with
  |none => rw [hp] at h; cases h
  |some p =>
   rw [hp] at h;simp only at h ⊢
   by_cases h5 : v.kind = 5
   ·rw [if_pos h5] at h ⊢;rw [if_pos h5];rw [builtin2_chosen _ (by show isChosen (nm "filter") = true; decide) (by show nm "filter" ≠ nm "map"; decide) (by show nm "filter" ≠ nm "sum"; decide)] at h;rw [builtin2_chosen _ (by show isChosen (nm "find") = true; decide) (by show nm "find" ≠ nm "map"; decide) (by show nm "find" ≠ nm "sum"; decide), builtin2_chosen _ (by show isChosen (nm "findLast") = true; decide) (by show nm "findLast" ≠ nm "map"; decide) (by show nm "findLast" ≠ nm "sum"; decide)];have ho : ∀ l, order (nm "filter") l = l := fun l => (by unfold order; rw [if_neg (by decide)]);have ho2 : ∀ l, order (nm "find") l = l := fun l => (by unfold order; rw [if_neg (by decide)]);have ho3 : ∀ l, order (nm "findLast") l = l.reverse := fun l => (by unfold order; rw [if_pos (by decide)]);rw [ho] at h;rw [ho2, ho3];obtain ⟨ys, e1, e2, e3⟩ := filter_find { name := nm "filter", limited := f.limited, limit := f.limit, flag := f.flag, map := oneOf (Ds f.map) } { name := nm "find", limited := false, limit := 0, flag := b, map := oneOf (Ds f.map) } { name := nm "findLast", limited := false, limit := 0, flag := b, map := oneOf (Ds f.map) } rfl (.inl rfl) (.inr rfl) rfl rfl p env _ [] [] 0 0 _ h
    refine ⟨ys, e1, ?_, ?_⟩
    ·have := e2 [];rw [List.append_nil] at this;rw [this, chosen, done_find _ (.inl rfl)]
    ·have := e3 [];rw [List.append_nil] at this;rw [this, chosen, done_find _ (.inr rfl)]
   ·rw [if_neg h5] at h; cases h
theorem element_first (ys : List Vl) : element { kind := 5, items := ys } { kind := 1, int := 0 } = ys.head? := by
 unfold element;cases ys <;> simp
theorem element_last (ys : List Vl) : element { kind := 5, items := ys } { kind := 1, int := -1 } = ys.getLast? := by
 unfold element;cases ys with
 |nil => simp
 |cons y ys =>
  have e : ((-1 : Int) + ((y :: ys).length : Nat)) = (ys.length : Nat) := by simp; omega
  rw [if_pos ⟨rfl, rfl⟩];show (if (if (-1 : Int) < 0 then (-1 : Int) + ((y :: ys).length : Nat) else -1) < 0 then none else (y :: ys)[(if (-1 : Int) < 0 then (-1 : Int) + ((y :: ys).length : Nat) else -1).toNat]?) = _;rw [if_pos (by decide : (-1 : Int) < 0), e, if_neg (by omega), List.getLast?_eq_getElem?, Int.toNat_natCast];rfl
theorem pl_plain_first (ys : List Vl) : plain (nm "first") { kind := 5, items := ys } = some (ys.head?.getD {}) := by
 unfold plain; simp (decide := true)
theorem pl_plain_last (ys : List Vl) : plain (nm "last") { kind := 5, items := ys } = some (ys.getLast?.getD {}) := by
 unfold plain; simp (decide := true)
theorem end_ok {G : Vl → Prop} (word search : Nm) (k : Int) (hw : (word = nm "first" ∧ search = nm "find" ∧ k = 0) ∨ (word = nm "last" ∧ search = nm "findLast" ∧ k = -1)) (t : Tr) : Rd true G (D t) (D (stEnd word search k t)) := by
 unfold stEnd
 split
 ·rename_i h
  split
  ·rename_i f i hk
   split
   ·rename_i h2
    obtain ⟨_, hi, hik, hf1, hf2, hf3⟩ := h2;refine node_15 (.inr (.inl h)) (.inl rfl) fun env _ => ?_;rw [val_12 t h env (D f) (D i) (by rw [hk]; rfl), val_3 i hi, hik]
    by_cases hm : t.method = true
    ·rw [if_pos hm]; exact .inr ⟨rfl, rfl⟩
    rw [if_neg hm];cases hv : (D f).val env with
    |none => exact .inr ⟨rfl, rfl⟩
    |some u =>
     obtain ⟨ys, rfl, e1, e2⟩ := filter_ends f hf1 hf2 hf3 env true u hv;left;show element _ _ = _;rcases hw with ⟨rfl, rfl, rfl⟩ | ⟨rfl, rfl, rfl⟩
     ·rw [e1, element_first]; cases ys.head? <;> rfl
     ·rw [e2, element_last]; cases ys.getLast? <;> rfl
   ·exact .refl _
  ·exact .refl _
 ·split
  ·rename_i h
   split
   ·rename_i f hk
    split
    ·rename_i h2
     obtain ⟨hf1, hf2, hf3⟩ := h2;refine node_15 (.inl h.1) (.inl rfl) fun env _ => ?_;rw [val_15 t h.1, hk, h.2];simp only [Ds, builtin];cases hv : (D f).val env with
     |none => exact .inr ⟨rfl, rfl⟩
     |some u =>
      obtain ⟨ys, rfl, e1, e2⟩ := filter_ends f hf1 hf2 hf3 env false u hv;left;show plain word _ = _;rcases hw with ⟨rfl, rfl, rfl⟩ | ⟨rfl, rfl, rfl⟩
      ·rw [e1, pl_plain_first]; cases ys.head? <;> rfl
      ·rw [e2, pl_plain_last]; cases ys.getLast? <;> rfl
    ·exact .refl _
   ·exact .refl _
  ·exact .refl _
theorem filterFirst_ok {G : Vl → Prop} (t : Tr) : Rd true G (D t) (D (stFilterFirst t)) := end_ok _ _ _ (.inl ⟨rfl, rfl, rfl⟩) t
theorem filterLast_ok {G : Vl → Prop} (t : Tr) : Rd true G (D t) (D (stFilterLast t)) := end_ok _ _ _ (.inr ⟨rfl, rfl, rfl⟩) t
end
end Go.Proofs.Ytafhhdimjkgihaa.Mn
