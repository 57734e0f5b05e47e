/- What the program does, function by function, and what trees mean: part 15. -/
import Derived.Test.YtafhhdimjkgihaaM14
import Derived.Test.YtafhhdimjkgihaaM12
set_option linter.unusedSimpArgs false
set_option linter.unusedVariables false
namespace Go.Proofs.Ytafhhdimjkgihaa.Mn
section
attribute [local go_sem ↓] Go.wp_at_zero Go.wp_at_succ
open Go.RowKit
theorem IsA.okk {w : World} {t : Tr} {v : Value} {fp : List Nat} (h : IsA w t v fp) : okk t.kind := by
 cases h with
 |node t b f p q vs fs ha => exact okk_ari ha
 |list t b f p q a c vs fs rb ms gs th ft ha => exact okk_listy ha
 |const t b f p q a c vs rb ha => unfold Mn.okk; omega
theorem IsA.ptr {w : World} {t : Tr} {v : Value} {fp : List Nat} (h : IsA w t v fp) : ∃ b, v = .iface (pty t.kind) (.pointer (some ⟨b, 0, none⟩)) := by cases h <;> exact ⟨_, rfl⟩
theorem pty_eq {k : Int} (h : okk k) : (pty k = 100 ↔ k = 15) ∧ (pty k = 85 ↔ k = 10) ∧ (pty k = 147 ↔ k = 3) ∧ (pty k = 91 ↔ k = 12) ∧ (pty k = 103 ↔ k = 16) ∧ (pty k = 166 ↔ k = 17) ∧ (pty k = 114 ↔ k = 21) := by
 rcases h with rfl | rfl | rfl | rfl | rfl | rfl | rfl | rfl | rfl | rfl | rfl | rfl | rfl | rfl | rfl | rfl | rfl | rfl | rfl <;> simp [pty]
theorem IsA.b15 {w : World} {t : Tr} {v : Value} {fp : List Nat} (h : IsA w t v fp) (hk : t.kind = 15) : ∃ b f p q a c vs fs rb ms gs th ft, v = .iface 100 (.pointer (some ⟨b, 0, none⟩)) ∧ Hx t f p q ∧ Lb w b [.int .i64 p, .int .i64 q, .string (str t.name), .slice a t.kids.length c, .bool t.flag, ms.headD .nilIface, th] 102 ∧ Rw w a vs rb ∧ IsAs w t.kids vs fs ∧ t.map.length ≤ 1 ∧ IsAs w t.map ms gs ∧ Th w t th ft ∧ fp = (b :: rb) ++ fs.flatten ++ (gs.flatten ++ ft) := by
 cases h with
 |node t b f p q vs fs ha => exfalso; rw [hk] at ha; simp [ari] at ha
 |const t b f p q a c vs rb ha => exfalso; omega
 |list t b f p q a c vs fs rb ms gs th ft ha hx hb hr hks h1 hm ht =>
  refine ⟨b, f, p, q, a, c, vs, fs, rb, ms, gs, th, ft, by rw [nv, hk]; rfl, hx, ?_, hr, hks, h1.1, hm, ht, rfl⟩;have e : acells t f p q [.slice a t.kids.length c] (ms.headD .nilIface) th = [.int .i64 p, .int .i64 q, .string (str t.name), .slice a t.kids.length c, .bool t.flag, ms.headD .nilIface, th] := by simp [acells, headC, tailC, named, hk]
  rw [e, hk] at hb;exact hb
theorem IsA.fields {w : World} {t : Tr} {v : Value} {fp : List Nat} (h : IsA w t v fp) {n : Nat} (hk : ari t.kind = some n) : ∃ b f p q vs fs, v = nv t.kind b ∧ Hx t f p q ∧ Lb w b (acells t f p q vs .nilIface (.pointer none)) (sty t.kind) ∧ IsAs w t.kids vs fs ∧ t.kids.length = n ∧ fp = [b] ++ fs.flatten ++ [] := by
 cases h with
 |node t b f p q vs fs ha hx hb hks => exact ⟨b, f, p, q, vs, fs, rfl, hx, hb, hks, by rw [hk] at ha; exact (Option.some.inj ha).symm, rfl⟩
 |const t b f p q a c vs rb ha => exfalso; rw [ha] at hk; simp [ari] at hk
 |list t b f p q a c vs fs rb ms gs th ft ha =>
  exfalso;simp only [listy, Bool.or_eq_true, decide_eq_true_eq] at ha;rcases ha with ((h | h) | h) | h <;> (rw [h] at hk; simp [ari] at hk)
theorem Wd.same {t : Tr} {v : Value} {pb po : Nat} {cs : List Value} {Tp : TypeId} {fp : List Nat} {K : Nat → Prop} {S' : World → Prop} {w w' : World} (hp : Pos w pb po cs Tp v t fp K) (hb : Below w.heap.size w w') (hS : S' w') (x : Value) : Wd t pb po cs Tp fp K S' w (.returned x) w' := by
 refine ⟨⟨_, rfl⟩, v, fp, ⟨hb.os, hb.tape, hb.output, hb.size, fun b h _ _ _ => hb.block b h⟩, ?_, hp.tree.same fun b h => hb.block b (hp.tree.lt b h), hp.nd, fun b h => .inl h, hS⟩;have : cs.set po v = cs := by
  apply List.ext_getElem?;intro i;rw [List.getElem?_set]
  split
  ·rename_i h; subst h
   have := (List.getElem?_eq_some_iff.1 hp.get).1;rw [if_pos this, hp.get]
  ·rfl
 rw [this];exact hp.lb.below hb hp.lb.lt
theorem Wd.patched {t tn : Tr} {v vn : Value} {pb po : Nat} {cs : List Value} {Tp : TypeId} {fp fpn : List Nat} {K : Nat → Prop} {S' : World → Prop} {w w1 w' : World} {e : Ending} (hp : Pos w pb po cs Tp v t fp K) (hb : Below w.heap.size w w1) (hd : Pd pb po cs Tp tn vn fpn w1 e w') (hs : ∀ b ∈ fpn, b ∈ fp ∨ w.heap.size ≤ b) (hn : fpn.Nodup) (hS : S' w') (x : Value) : Wd tn pb po cs Tp fp K S' w (.returned x) w' := by
 obtain ⟨-, hE, hL, hI⟩ := hd;refine ⟨⟨_, rfl⟩, vn, fpn, ⟨hE.os.trans hb.os, hE.tape.trans hb.tape, hE.output.trans hb.output, Nat.le_trans hb.size hE.size, fun b h h1 h2 h3 => (hE.block b (Nat.lt_of_lt_of_le h hb.size) ?_).trans (hb.block b h)⟩, hL, hI, hn, hs, hS⟩;rintro (hm | hm)
 ·rcases hs b hm with g | g
  ·exact h2 g
  ·omega
 ·exact h1 hm
theorem sub_kid {A C : List Nat} {fs : List (List Nat)} {i : Nat} {fi : List Nat} (h : fs[i]? = some fi) : fi.Sublist (A ++ fs.flatten ++ C) :=
 (List.sublist_flatten_of_mem (List.mem_of_getElem? h)).trans ((List.sublist_append_right _ _).trans (List.sublist_append_left _ _))
theorem sub_args {b : Nat} {rb F C : List Nat} : (rb ++ F).Sublist ((b :: rb) ++ F ++ C) := ((List.sublist_cons_self b rb).append (List.Sublist.refl F)).trans (List.sublist_append_left _ _)
theorem fresh {w : World} {pb po : Nat} {cs : List Value} {Tp : TypeId} {v : Value} {t : Tr} {fp : List Nat} {K : Nat → Prop} (hp : Pos w pb po cs Tp v t fp K) {L : List Nat} (hs : L.Sublist fp) : (w.heap.size :: L).Nodup ∧ pb ∉ w.heap.size :: L ∧ ∀ b ∈ w.heap.size :: L, b ∈ fp ∨ w.heap.size ≤ b := by
 refine ⟨List.nodup_cons.2 ⟨fun h => ?_, hs.nodup hp.nd⟩, fun h => ?_, fun b h => ?_⟩
 ·have := hp.tree.lt _ (hs.subset h); omega
 ·rcases List.mem_cons.1 h with h | h
  ·have := hp.lb.lt; omega
  ·exact hp.out (hs.subset h)
 ·rcases List.mem_cons.1 h with h | h
  ·exact .inr (Nat.le_of_eq h.symm)
  ·exact .inl (hs.subset h)
set_option maxRecDepth 100000 in
theorem patch108 (pb po : Nat) (cs : List Value) (Tp : TypeId) (vo vn : Value) (u tn : Tr) (fpo fpn : List Nat) (w : World) (hL : Lb w pb cs Tp) (hg : cs[po]? = some vo) (ho : IsA w u vo fpo) (hon : fpo.Nodup) (hn : IsA w tn vn fpn) (hnn : fpn.Nodup) (hp : pb ∉ fpn) (hpo : pb ∉ fpo) :
 Calls Try.prog 108 #[.pointer (some ⟨pb, po, none⟩), vn] w (Pd pb po cs Tp tn vn fpn w) := by
 have H := Lib.hid (patch_any pb po cs Tp vo vn u tn fpo fpn w hL hg ho hon hn hnn hp hpo);clear hL hg ho hon hn hnn hp hpo;go_enter Try.func108, Try.ntmps108
 go_wp2_with fail
 apply Calls.mono
 ·exact H.out
 rintro e w1 h;obtain ⟨x, rfl⟩ := h.1;have H1 := Lib.hid h;clear h;go_wp21;refine bodyPost_end (v := .tuple #[]) (by first | rfl | (simp [results, Try.results108, go_sem]; try rfl)) rfl ?_;exact ⟨⟨_, rfl⟩, H1.out.2⟩
set_option maxRecDepth 100000 in
theorem patch136 (pb po : Nat) (cs : List Value) (Tp : TypeId) (vo vn : Value) (u tn : Tr) (fpo fpn : List Nat) (w : World) (hL : Lb w pb cs Tp) (hg : cs[po]? = some vo) (ho : IsA w u vo fpo) (hon : fpo.Nodup) (hn : IsA w tn vn fpn) (hnn : fpn.Nodup) (hp : pb ∉ fpn) (hpo : pb ∉ fpo) :
 Calls Try.prog 136 #[.pointer (some ⟨pb, po, none⟩), vn] w (Pd pb po cs Tp tn vn fpn w) := by
 have H := Lib.hid (patch_any pb po cs Tp vo vn u tn fpo fpn w hL hg ho hon hn hnn hp hpo);clear hL hg ho hon hn hnn hp hpo;go_enter Try.func136, Try.ntmps136
 go_wp2_with fail
 apply Calls.mono
 ·exact H.out
 rintro e w1 h;obtain ⟨x, rfl⟩ := h.1;have H1 := Lib.hid h;clear h;go_wp21;refine bodyPost_end (v := .tuple #[]) (by first | rfl | (simp [results, Try.results136, go_sem]; try rfl)) rfl ?_;exact ⟨⟨_, rfl⟩, H1.out.2⟩
end
section
def mkB (name : Nm) (kids : List Tr) : Tr := { kind := 15, name := name, int := 0, flt := 0, flag := false, method := false, limited := false, limit := 0, kids := kids, map := [] }
theorem node_15 {k : Bool} {G : Vl → Prop} {t u : Tr} (ht : t.kind = 15 ∨ t.kind = 12 ∨ t.kind = 10 ∨ t.kind = 3) (hu : u.kind = 15 ∨ u.kind = 12 ∨ u.kind = 10 ∨ u.kind = 3) (h : Rf k G (D t).val (D u).val) : Rd k G (D t) (D u) := by
 refine ⟨h, ?_, ?_⟩
 ·rw [D_eq t, D_eq u];unfold node;simp only;rw [if_neg (by omega), if_neg (by omega)];exact .none
 ·rw [D_eq t, D_eq u];unfold node;simp only;rw [if_neg (by omega), if_neg (by omega)];exact .none
theorem val_15 (t : Tr) (h : t.kind = 15) (env : Env) : (D t).val env = builtin { name := t.name, limited := t.limited, limit := t.limit, flag := t.flag, map := oneOf (Ds t.map) } env (Ds t.kids) := by
 rw [D_eq t];show sem t _ _ env = _;unfold sem;rw [if_neg (by omega), if_neg (by omega), if_neg (by omega), if_neg (by omega), if_neg (by omega), if_neg (by omega), if_neg (by omega), if_neg (by omega), if_neg (by omega), if_neg (by omega), if_pos h]
def stSumMap (t : Tr) : Tr :=
 if t.kind = 15 ∧ t.name = nm "sum" then match t.kids with
  |[m] => if m.kind = 15 ∧ m.name = nm "map" then match m.kids with
   |[a, b] => mkB (nm "sum") [a, b]
   |_ => t
   else t
  |_ => t
 else t
theorem sumMap_ok {G : Vl → Prop} (t : Tr) : Rd false G (D t) (D (stSumMap t)) := by
 unfold stSumMap
 split
 ·rename_i h
  split
  ·rename_i m hk
   split
   ·rename_i h2
    split
    ·rename_i a b hk2
     refine node_15 (.inl h.1) (.inl rfl) fun env _ => .inl ?_;rw [val_15 t h.1, val_15 (mkB (nm "sum") [a, b]) rfl, h.2, hk];simp only [Ds, mkB, builtin];rw [val_15 m h2.1, hk2, h2.2];simp only [Ds, builtin];cases (D a).val env with
     |none => rfl
     |some v =>
      simp only [Option.bind_some];cases (D b).body with
      |none => rfl
      |some p =>
       simp only
       by_cases h5 : v.kind = 5
       ·rw [if_pos h5, if_pos h5];unfold builtin2;rw [if_pos rfl, if_neg (by decide), if_pos rfl, Option.bind_assoc]
        congr 1
       ·rw [if_neg h5, if_neg h5]; rfl
    ·exact .refl _
   ·exact .refl _
  ·exact .refl _
 ·exact .refl _
theorem builtin2_chosen (c : Ch) (h : isChosen c.name = true) (h1 : c.name ≠ nm "map") (h2 : c.name ≠ nm "sum") (p : Env → Option Vl) (env : Env) (v : Vl) : builtin2 c p env v = chosen c p env (order c.name (zipIdx v.items)) [] 0 := by
 unfold builtin2; rw [if_neg h1, if_neg h2, if_pos h]
theorem step_filter (c : Ch) (hn : c.name = nm "filter") (hm : c.map = none) (p : Env → Option Vl) (env : Env) (x : Vl) (i : Int) (l : List (Vl × Int)) (kept : List Vl) (many : Int) :
 chosen c p env ((x, i) :: l) kept many = (truth p (here env x i)).bind fun is => if is = true then chosen c p env l (kept ++ [x]) (many + 1) else chosen c p env l kept many := by
 rw [chosen]
 congr 1
 funext is
 rw [hn, hm];cases is <;> simp (decide := true)
theorem step_count (c : Ch) (hn : c.name = nm "count") (hm : c.map = none) (hl : c.limited = false) (p : Env → Option Vl) (env : Env) (x : Vl) (i : Int) (l : List (Vl × Int)) (kept : List Vl) (many : Int) :
 chosen c p env ((x, i) :: l) kept many = (truth p (here env x i)).bind fun is => if is = true then chosen c p env l (kept ++ [x]) (many + 1) else chosen c p env l kept many := by
 rw [chosen]
 congr 1
 funext is
 rw [hn, hm, hl];cases is <;> simp (decide := true)
theorem done_filter (c : Ch) (hn : c.name = nm "filter") (kept : List Vl) (many : Int) : c.done kept many = some { kind := 5, items := kept } := by
 unfold Ch.done; rw [hn]; simp (decide := true)
theorem done_count (c : Ch) (hn : c.name = nm "count") (kept : List Vl) (many : Int) : c.done kept many = some { kind := 1, int := many } := by
 unfold Ch.done; rw [hn]; simp (decide := true)
theorem filter_count (cf cc : Ch) (hf : cf.name = nm "filter") (hfm : cf.map = none) (hc : cc.name = nm "count") (hcl : cc.limited = false) (hcm : cc.map = none) (p : Env → Option Vl) (env : Env) (l : List (Vl × Int)) :
 ∀ (kept kept2 : List Vl) (many : Int), many = kept.length → ((chosen cf p env l kept many).bind (plain (nm "len"))) = chosen cc p env l kept2 many := by
 induction l with
 |nil =>
  intro kept kept2 many hm;rw [chosen, chosen, done_filter cf hf, done_count cc hc, hm];unfold plain;simp (decide := true)
 |cons x l ih =>
  intro kept kept2 many hm;obtain ⟨x, i⟩ := x;rw [step_filter cf hf hfm, step_count cc hc hcm hcl];cases truth p (here env x i) with
  |none => rfl
  |some is =>
   simp only [Option.bind_some];cases is with
   |false => exact ih _ _ _ hm
   |true => exact ih _ _ _ (by rw [List.length_append, hm]; simp)
def stFilterLen (t : Tr) : Tr :=
 if t.kind = 15 ∧ t.name = nm "len" then match t.kids with
  |[f] => if f.kind = 15 ∧ f.name = nm "filter" ∧ f.kids.length = 2 then mkB (nm "count") f.kids else t
  |_ => t
 else t
theorem filterLen_ok {G : Vl → Prop} (t : Tr) (hm : ∀ f ∈ t.kids, f.map = []) : Rd false G (D t) (D (stFilterLen t)) := by
 unfold stFilterLen
 split
 ·rename_i h
  split
  ·rename_i f hk
   split
   ·rename_i h2
    obtain ⟨a, b, hk2⟩ : ∃ a b, f.kids = [a, b] := by
     have := h2.2.2
     match hf : f.kids, this with
     |[a, b], _ => exact ⟨a, b, rfl⟩
    have hfm := hm f (by rw [hk]; simp);refine node_15 (.inl h.1) (.inl rfl) fun env _ => .inl ?_;rw [val_15 t h.1, val_15 (mkB (nm "count") f.kids) rfl, h.2, hk, hk2];simp only [Ds, mkB, builtin];rw [val_15 f h2.1, hk2, h2.2.1, hfm];simp only [Ds, builtin];cases (D a).val env with
    |none => rfl
    |some v =>
     simp only [Option.bind_some];cases (D b).body with
     |none => rfl
     |some p =>
      simp only
      by_cases h5 : v.kind = 5
      ·rw [if_pos h5, if_pos h5];rw [builtin2_chosen _ (by show isChosen (nm "filter") = true; decide) (by show nm "filter" ≠ nm "map"; decide) (by show nm "filter" ≠ nm "sum"; decide), builtin2_chosen _ (by show isChosen (nm "count") = true; decide) (by show nm "count" ≠ nm "map"; decide) (by show nm "count" ≠ nm "sum"; decide)];have ho : ∀ l, order (nm "filter") l = l := fun l => (by unfold order; rw [if_neg (by decide)]);have ho2 : ∀ l, order (nm "count") l = l := fun l => (by unfold order; rw [if_neg (by decide)]);rw [ho, ho2];have := filter_count { name := nm "filter", limited := f.limited, limit := f.limit, flag := f.flag, map := none } { name := nm "count", limited := false, limit := 0, flag := false, map := none } rfl rfl rfl rfl rfl p env (zipIdx v.items) [] [] 0 rfl;exact this
      ·rw [if_neg h5, if_neg h5]; rfl
   ·exact .refl _
  ·exact .refl _
 ·exact .refl _
end
section
attribute [local go_sem ↓] Go.wp_at_zero Go.wp_at_succ
open Go.RowKit
theorem za162 (w : World) : (zeroValue 162).run Try.prog w = .ok (.slice none 0 0) w := by kernel_rfl
@[go_sem] theorem tb162 (t : TypeId) (v : Value) (w : World) : Sem.run Try.prog (Instr.typeAssert (.iface t v) 20 162 true) w = .ok (.tuple #[if t = 162 then v else .slice none 0 0, .bool (decide (t = 162))]) w := ta_gen Try.underlying162 trivial za162 t v w
theorem za3 (w : World) : (zeroValue 3).run Try.prog w = .ok (.int .i64 0) w := by kernel_rfl
@[go_sem] theorem tb3 (t : TypeId) (v : Value) (w : World) : Sem.run Try.prog (Instr.typeAssert (.iface t v) 20 3 true) w = .ok (.tuple #[if t = 3 then v else .int .i64 0, .bool (decide (t = 3))]) w := ta_gen Try.underlying3 trivial za3 t v w
theorem za22 (w : World) : (zeroValue 22).run Try.prog w = .ok (.float .f64 0) w := by kernel_rfl
@[go_sem] theorem tb22 (t : TypeId) (v : Value) (w : World) : Sem.run Try.prog (Instr.typeAssert (.iface t v) 20 22 true) w = .ok (.tuple #[if t = 22 then v else .float .f64 0, .bool (decide (t = 22))]) w := ta_gen Try.underlying22 trivial za22 t v w
theorem za4 (w : World) : (zeroValue 4).run Try.prog w = .ok (.bool false) w := by kernel_rfl
@[go_sem] theorem tb4 (t : TypeId) (v : Value) (w : World) : Sem.run Try.prog (Instr.typeAssert (.iface t v) 20 4 true) w = .ok (.tuple #[if t = 4 then v else .bool false, .bool (decide (t = 4))]) w := ta_gen Try.underlying4 trivial za4 t v w
theorem za9 (w : World) : (zeroValue 9).run Try.prog w = .ok (.string ⟨#[]⟩) w := by kernel_rfl
@[go_sem] theorem tb9 (t : TypeId) (v : Value) (w : World) : Sem.run Try.prog (Instr.typeAssert (.iface t v) 20 9 true) w = .ok (.tuple #[if t = 9 then v else .string ⟨#[]⟩, .bool (decide (t = 9))]) w := ta_gen Try.underlying9 trivial za9 t v w
theorem IsCs.get {l : List Tr} {vs : List Value} (h : IsCs l vs) {i : Nat} {x : Tr} (hi : l[i]? = some x) : ∃ v, vs[i]? = some v ∧ IsC x v := by
 induction h generalizing i with
 |nil => simp at hi
 |cons h hl ih =>
  cases i with
  |zero => simp at hi; subst hi; exact ⟨_, rfl, h⟩
  |succ i => simpa using ih (by simpa using hi)
theorem IsCs.len {l : List Tr} {vs : List Value} (h : IsCs l vs) : vs.length = l.length := by
 induction h with
 |nil => rfl
 |cons h hl ih => simp [ih]
theorem IsC.tree {k : Tr} {v : Value} (h : IsC k v) (w : World) (K : Nat → Prop) (f : Nat) (hf : cn f = k.flt) : IsT w K k (tcells k f none 0 none 0 0 0) := by
 obtain ⟨h1, h2, h3, h4, h5⟩ := h;have z : I64 0 := by unfold I64; omega
 obtain ⟨s1, s2, s3, s4, s5, s6, s7, s8⟩ := strike_parts h1;have hk : k.kind = 3 ∨ k.kind = 4 ∨ k.kind = 5 ∨ k.kind = 6 := by rcases h5 with h | h | h | h <;> omega
 have hm : k.map = [] := s8 (by omega);have := IsT.mk (w := w) (k := K) k f none 0 none 0 0 0 [] [] hf (by unfold I64; omega) h3 (by rw [s7 (by omega)]; exact z) z z h4 (by rw [h2]; simp) (by rw [hm]; simp) (.inl rfl) (by rw [h2]; exact .nil) (.inl rfl) (by rw [hm]; exact .nil);exact this
def lcell (n : Nm) (K i : Int) (f : Nat) (b : Bool) : List Value := [.int .i64 K, .string (str n), .int .i64 i, .float .f64 f, .bool b, .bool false, .bool false, .int .i64 0, .slice none 0 0, .slice none 0 0, .int .i64 0, .int .i64 0]
theorem IsC.lcells {k : Tr} {v : Value} (h : IsC k v) (w : World) (K : Nat → Prop) : (k.kind = 3 → IsT w K k (lcell [] 3 k.int 0 false)) ∧ (∀ f, cn f = k.flt → k.kind = 4 → IsT w K k (lcell [] 4 0 f false)) ∧ (k.kind = 5 → IsT w K k (lcell [] 5 0 0 k.flag)) ∧ (k.kind = 6 → IsT w K k (lcell k.name 6 0 0 false)) := by
 have hh := h;obtain ⟨h1, h2, h3, h4, h5⟩ := h;obtain ⟨s1, s2, s3, s4, s5, s6, s7, s8⟩ := strike_parts h1;have e : ∀ f, tcells k f none 0 none 0 0 0 = [.int .i64 k.kind, .string (str k.name), .int .i64 k.int, .float .f64 f, .bool k.flag, .bool k.method, .bool k.limited, .int .i64 k.limit, .slice none k.kids.length 0, .slice none k.map.length 0, .int .i64 0, .int .i64 0] := fun f => rfl;refine ⟨fun hk => ?_, fun f hf hk => ?_, fun hk => ?_, fun hk => ?_⟩
 ·have := hh.tree w K 0 (by rw [s3 (by omega)]; exact cn_zero);rw [e, h2, s8 (by omega), s4 (by omega), s5 (by omega), s6 (by omega), s7 (by omega), s1 (by rw [hk]; rfl), hk] at this;exact this
 ·have := hh.tree w K f hf;rw [e, h2, s8 (by omega), s4 (by omega), s5 (by omega), s6 (by omega), s7 (by omega), s1 (by rw [hk]; rfl), s2 (by omega), hk] at this;exact this
 ·have := hh.tree w K 0 (by rw [s3 (by omega)]; exact cn_zero);rw [e, h2, s8 (by omega), s5 (by omega), s6 (by omega), s7 (by omega), s1 (by rw [hk]; rfl), s2 (by omega), hk] at this;exact this
 ·have := hh.tree w K 0 (by rw [s3 (by omega)]; exact cn_zero);rw [e, h2, s8 (by omega), s4 (by omega), s5 (by omega), s6 (by omega), s7 (by omega), s2 (by omega), hk] at this;exact this
theorem ones_l (n : Nm) (K i : Int) (f : Nat) (b : Bool) : Ones (lcell n K i f b) := by
 intro u hu;simp only [lcell, List.mem_cons, List.not_mem_nil, or_false] at hu;rcases hu with rfl | rfl | rfl | rfl | rfl | rfl | rfl | rfl | rfl | rfl | rfl | rfl <;> rfl
structure Lq (w0 : World) (k : Nat → Prop) (ts : List Tr) (A : Option Addr) (n cap : Nat) (cs : List Value) (w : World) : Prop where
 b : Below w0.heap.size w0 w
 own : w.ownsRow w0.heap.size 25 12 (.slice A n cap) n cs
 ts : IsTs w k ts cs
section
variable {w0 : World} {k : Nat → Prop} {ts : List Tr} {A : Option Addr} {n cap : Nat} {cs : List Value} {w w1 : World}
theorem Lq.below (h : Lq w0 k ts A n cap cs w) (e : Below w.heap.size w w1) : Lq w0 k ts A n cap cs w1 :=
 ⟨h.b.trans (e.mono h.b.size), own_ext (k := fun _ => False) h.own (.of e) (Nat.le_refl _) (fun _ _ h => h), h.ts.ext (.of e) (Nat.le_refl _)⟩
theorem IsTs.free {w w' : World} {k : Nat → Prop} {l : List Tr} {cs : List Value} (h : IsTs w k l cs) : (∀ x ∈ l, x.kids = [] ∧ x.map = []) → IsTs w' k l cs := by
 induction l generalizing cs with
 |nil => intro _; cases h; exact .nil
 |cons v l ih =>
  intro hx;cases h with
  |@cons _ _ c cs h hl =>
   refine .cons ?_ (ih hl fun y hy => hx y (by simp [hy]));obtain ⟨h1, h2⟩ := hx v (by simp);cases h with
   |mk _ f a c a' c' p q ks ms hf hk hi hl hp hq ht hn hn' hr hs hr' hs' =>
    rw [h1] at hs; rw [h2] at hs';cases hs; cases hs';exact .mk v f a c a' c' p q [] [] hf hk hi hl hp hq ht hn hn' (.inl rfl) (by rw [h1]; exact .nil) (.inl rfl) (by rw [h2]; exact .nil)
theorem Lq.grow (h : Lq w0 k ts A n cap cs w) (hf : ∀ x ∈ ts, x.kids = [] ∧ x.map = []) {x : Tr} {ds : List Value} (hx : IsT w1 k x ds) {A3 : Option Addr} {n3 cap3 : Nat} (hown : w1.ownsRow w0.heap.size 25 12 (.slice A3 n3 cap3) n3 (cs ++ ds)) (g : w.grownBy w1 (A.map (·.block))) : Lq w0 k (ts ++ [x]) A3 n3 cap3 (cs ++ ds) w1 := by
 have hob := own_base h.own;have hsm : ∀ b, b < w0.heap.size → some b ≠ A.map (·.block) := fun b hb he => by
  cases A with
  |none => cases he
  |some a => have := (hob a rfl).1; simp at he; omega
 exact ⟨h.b.trans ⟨g.os, g.tape, g.output, g.size, fun b hb => g.block b (Nat.lt_of_lt_of_le hb h.b.size) (hsm b (by omega))⟩, hown, (h.ts.free hf).append (.one hx)⟩
end
def Ld (k : Nat → Prop) (ts : List Tr) (w : World) (e : Ending) (w' : World) : Prop := ∃ A cap cs, e = .returned (.slice A ts.length cap) ∧ Below w.heap.size w w' ∧ Row w' k A cs ∧ IsTs w' k ts cs
set_option maxHeartbeats 6400000 in
set_option maxRecDepth 100000 in
theorem listed_any (ts : List Tr) (a : Option Addr) (c : Nat) (vs : List Value) (rb : List Nat) (k : Nat → Prop) (w : World) (hil : ts.length ≤ most) (hk : ∀ b, k b → b < w.heap.size) (hr : Rw w a vs rb) (hc : IsCs ts vs) :
 Calls Try.prog 57 #[.iface 162 (.slice a ts.length c)] w (Ld k ts w) := by
 unfold most at hil;have HR := Lib.hid hr; have HC := Lib.hid hc; have HK := Lib.hid hk;clear hr hc hk;go_enter Try.func57, Try.ntmps57
 go_wp2_with fail
 go_loopg [5, 19] ts.length (fun g o i wr => ∃ j : Nat, i = .int .i64 j ∧ j + g = ts.length ∧ ∃ A cap cs, o = .slice A j cap ∧ Lq w k (ts.take j) A j cap cs wr)
 case atStart => exact ⟨0, rfl, by omega, none, 0, [], rfl, ⟨Below.refl _ _, World.ownsRow_nil _ _ _ _, .nil⟩⟩
 case round =>
  obtain ⟨j, rfl, hj, A, cap, cs, rfl, hQ⟩ := hrel
  by_cases hlt : 0 < gk
  ·obtain ⟨g, rfl⟩ : ∃ g, gk = g + 1 := ⟨gk - 1, by omega⟩;obtain ⟨x, hx⟩ : ∃ x, ts[j]? = some x := ⟨ts[j]'(by omega), by simp⟩;obtain ⟨v, hv, hC⟩ := HC.out.get hx;obtain ⟨r, sp, R, rfl, hr1, hr2⟩ : ∃ r sp R, a = some ⟨r, 0, none⟩ ∧ rb = [r] ∧ Lb w r (vs ++ sp) R := by
    rcases HR.out with ⟨h1, _⟩ | h
    ·rw [h1] at hv; simp at hv
    ·exact h
   have d0 : wr.cell? ⟨r, j, none⟩ = some v := by
    rw [(hr2.below hQ.b hr2.lt).cell, List.getElem?_append_left (List.getElem?_eq_some_iff.1 hv).1, hv]
   have zr := Nat.lt_of_lt_of_le hr2.lt hQ.b.size;have zi0 : (0 : Int) ≤ (j : Int) := (by omega);have zi1 : (j : Int) < (ts.length : Int) := (by omega);have HXQ := Lib.hid hx; have HQ := Lib.hid hQ; have HCX := Lib.hid hC;have HF := Lib.hid (show ∀ x ∈ ts.take j, x.kids = [] ∧ x.map = [] from fun y hy => by
    obtain ⟨i, hi⟩ := List.getElem?_of_mem (List.mem_of_mem_take hy);obtain ⟨_, _, h1, h2, _, _, h5⟩ := HC.out.get hi;obtain ⟨s1, s2, s3, s4, s5, s6, s7, s8⟩ := strike_parts h1;exact ⟨h2, s8 (by rcases h5 with h | h | h | h <;> omega)⟩)
   have zs := hQ.b.size;obtain ⟨c1, c2, c3, c4, c5⟩ := hC;have key : ∃ n K z f b, (∀ w', IsT w' k x (lcell n K z f b)) ∧ ((v = .iface 3 (.int .i64 z) ∧ n = [] ∧ K = 3 ∧ f = 0 ∧ b = false) ∨ (v = .iface 22 (.float .f64 f) ∧ n = [] ∧ K = 4 ∧ z = 0 ∧ b = false) ∨ (v = .iface 4 (.bool b) ∧ n = [] ∧ K = 5 ∧ z = 0 ∧ f = 0) ∨ (v = .iface 9 (.string (str n)) ∧ K = 6 ∧ z = 0 ∧ f = 0 ∧ b = false)) := by
    rcases c5 with ⟨ck, cv⟩ | ⟨ck, f, hf, cv⟩ | ⟨ck, cv⟩ | ⟨ck, cv⟩
    ·exact ⟨_, _, _, _, _, fun w' => (HCX.out.lcells w' k).1 ck, .inl ⟨cv, rfl, rfl, rfl, rfl⟩⟩
    ·exact ⟨_, _, _, _, _, fun w' => (HCX.out.lcells w' k).2.1 f hf ck, .inr (.inl ⟨cv, rfl, rfl, rfl, rfl⟩)⟩
    ·exact ⟨_, _, _, _, _, fun w' => (HCX.out.lcells w' k).2.2.1 ck, .inr (.inr (.inl ⟨cv, rfl, rfl, rfl, rfl⟩))⟩
    ·exact ⟨_, _, _, _, _, fun w' => (HCX.out.lcells w' k).2.2.2 ck, .inr (.inr (.inr ⟨cv, rfl, rfl, rfl, rfl⟩))⟩
   obtain ⟨n, K, z, f, bb, hT, hcase⟩ := key;have HT := Lib.hid hT;clear hQ hx hv hr2 c1 c2 c3 c4 c5 hT HCX;rcases hcase with ⟨rfl, rfl, rfl, rfl, rfl⟩ | ⟨rfl, rfl, rfl, rfl, rfl⟩ | ⟨rfl, rfl, rfl, rfl, rfl⟩ | ⟨rfl, rfl, rfl, rfl, rfl⟩
   all_goals
    go_wp2_with ((at_builtin; refine wpList_append_o el23 rfl _ _ rfl w.heap.size A j cap cs (by rfl) (Lq.below HQ.out (by go_grown)).own _ 1 1 (lcell _ _ _ _ _) (by rfl) (by rfl) (Laid.of_lb (Lb.new' _ _ _ rfl)) (ones_l _ _ _ _ _) (j + 1) rfl (by omega) (by simp; omega) ?_); intro A3 cap3 w3 hown3 hgr3 hat3; have HQ4 := Lib.hid ((Lq.below HQ.out (by go_grown)).grow HF.out (HT.out _) hown3 hgr3); clear hown3 hgr3 hat3)
    go_roundg g
    case measure => omega
    case rel =>
     have e3 := HQ4.out;rw [show ts.take j ++ [x] = ts.take (j + 1) by rw [List.take_add_one, HXQ.out]; rfl] at e3;exact ⟨j + 1, by go_num, by omega, A3, cap3, _, rfl, e3⟩
  ·obtain rfl : gk = 0 := (by omega);obtain rfl : j = ts.length := (by omega);rw [List.take_length] at hQ;have HQ := Lib.hid hQ;clear hQ;go_wp21;go_ret;exact ⟨A, cap, cs, rfl, HQ.out.b, Row.of_own HQ.out.own HK.out, HQ.out.ts⟩
end
end Go.Proofs.Ytafhhdimjkgihaa.Mn
