/- FilterMap: what belongs to this law alone: part 2. -/
import Derived.Test.YtafhhdimjkgihaaKFilterMap1
import Derived.Test.YtafhhdimjkgihaaM14
import Derived.Test.YtafhhdimjkgihaaM15
import Derived.Test.YtafhhdimjkgihaaM09
set_option linter.unusedSimpArgs false
set_option linter.unusedVariables false
namespace Go.Proofs.Ytafhhdimjkgihaa.Mn
section
def z (env : Env) : Env := { env with item := env.item.map fun p => (p.1, 0) }
theorem here_z (env : Env) (x : Vl) (i : Int) : here (z env) x i = here env x i := rfl
theorem mapped_z (p : Env → Option Vl) (env : Env) (l : List (Vl × Int)) : mapped p (z env) l = mapped p env l := by
 induction l with
 |nil => rfl
 |cons x l ih => obtain ⟨x, i⟩ := x; rw [mapped, mapped, ih, here_z]
theorem chosen_z (c : Ch) (p : Env → Option Vl) (env : Env) (l : List (Vl × Int)) : ∀ kept many, chosen c p (z env) l kept many = chosen c p env l kept many := by
 induction l with
 |nil => intro kept many; rfl
 |cons x l ih => intro kept many; obtain ⟨x, i⟩ := x; rw [chosen, chosen]; simp only [ih, here_z]
theorem builtin2_z (c : Ch) (p : Env → Option Vl) (env : Env) (v : Vl) : builtin2 c p (z env) v = builtin2 c p env v := by
 unfold builtin2; rw [mapped_z, chosen_z]
structure Zd (d : Dn) : Prop where
 val : ∀ env, d.val (z env) = d.val env
 pair : ∀ k v, d.pair = some (k, v) → (∀ env, k (z env) = k env) ∧ ∀ env, v (z env) = v env
theorem list_z (env : Env) (ks : List Dn) (h : ∀ d ∈ ks, Zd d) : list (z env) ks = list env ks := by
 induction ks with
 |nil => rfl
 |cons d ks ih => rw [list, list, (h d (by simp)).val, ih fun d hd => h d (by simp [hd])]
theorem pairs_z (env : Env) (ks : List Dn) (h : ∀ d ∈ ks, Zd d) : ∀ out, pairs (z env) out ks = pairs env out ks := by
 induction ks with
 |nil => intro out; rfl
 |cons d ks ih =>
  intro out;rw [pairs, pairs];have hp := (h d (by simp)).pair;cases hq : d.pair with
  |none => rfl
  |some q =>
   obtain ⟨k, v⟩ := q;simp only;rw [(hp k v hq).1, (hp k v hq).2];simp only [ih fun d hd => h d (by simp [hd])]
theorem blt_z (c : Ch) (env : Env) (ks : List Dn) (h : ∀ d ∈ ks, Zd d) : builtin c (z env) ks = builtin c env ks := by
 match ks, h with
 |[], _ => rfl
 |[d], h => rw [builtin, builtin, (h d (by simp)).val]
 |d :: e :: l, h => rw [builtin, builtin, (h d (by simp)).val]; simp only [builtin2_z]
theorem binary_z (n : Nm) (env : Env) (ks : List Dn) (h : ∀ d ∈ ks, Zd d) : binary n (z env) ks = binary n env ks := by
 match ks, h with
 |[], _ => rfl
 |[d], _ => rfl
 |[a, b], h => unfold binary truth; simp only [(h a (by simp)).val env, (h b (by simp)).val env]
 |a :: b :: c :: l, _ => rfl
end
section
theorem sem_z (t : Tr) (ht : ¬ (t.kind = 17 ∧ t.name = nm "index")) (env : Env) (ks ms : List Dn) (h : ∀ d ∈ ks, Zd d) : sem t ks ms (z env) = sem t ks ms env := by
 have hl := list_z env ks h;have hb : ∀ c, builtin c (z env) ks = builtin c env ks := fun c => blt_z c env ks h;have hn : ∀ n, binary n (z env) ks = binary n env ks := fun n => binary_z n env ks h;have hp : ∀ o, pairs (z env) o ks = pairs env o ks := pairs_z env ks h;have hpt : t.kind = 17 → pointer t.name (z env) = pointer t.name env := by
  intro h17;have : t.name ≠ nm "index" := fun hx => ht ⟨h17, hx⟩;unfold pointer z;cases env.item with
  |none => rfl
  |some q => simp [this]
 have hnames : (z env).names = env.names := rfl
 by_cases h17 : t.kind = 17
 ·unfold sem; simp [h17, hpt h17]
 unfold sem;rw [hl, hnames, if_neg h17, if_neg h17];simp only [hb, hn, hp]
 match ks, h with
 |[], _ => rfl
 |[d], h => simp only [(h d (by simp)).val env]
 |[a, b], h =>
  have hw : ∀ v, b.val { names := env.names ++ [(t.name, v)], item := (z env).item } = b.val { names := env.names ++ [(t.name, v)], item := env.item } := fun v => (h b (by simp)).val { env with names := env.names ++ [(t.name, v)] }
  simp only [(h a (by simp)).val env, (h b (by simp)).val env, hw]
 |[c, a, b], h => unfold truth; simp only [(h c (by simp)).val env, (h a (by simp)).val env, (h b (by simp)).val env]
 |_ :: _ :: _ :: _ :: _, _ => rfl
end
section
inductive NoIdx : Tr → Prop
 |mk (t : Tr) (h : ¬ (t.kind = 17 ∧ t.name = nm "index")) (hk : ∀ k ∈ t.kids, NoIdx k) : NoIdx t
theorem noIdx_z {t : Tr} (h : NoIdx t) : Zd (D t) := by
 induction h with
 |mk t h hk ih =>
  have hks : ∀ d ∈ Ds t.kids, Zd d := by
   intro d hd;rw [Ds_eq] at hd;obtain ⟨k, h1, rfl⟩ := List.mem_map.1 hd;exact ih k h1
  rw [D_eq t];refine ⟨fun env => sem_z t h env _ _ hks, fun k v hp => ?_⟩;unfold node at hp;simp only at hp
  split at hp
  ·match hm : Ds t.kids, hp with
   |[a, b], hp =>
    rw [hm] at hks;cases hp;exact ⟨(hks a (by simp)).val, (hks b (by simp)).val⟩
  ·cases hp
theorem noIdx_here {t : Tr} (h : NoIdx t) (env : Env) (x : Vl) (i : Int) : (D t).val (here env x i) = (D t).val (here env x 0) :=
 ((noIdx_z h).val (here env x i)).symm
end
section
attribute [local go_sem ↓] Go.wp_at_zero Go.wp_at_succ
open Go.RowKit
def isIdx (t : Tr) : Bool := decide (t.kind = 17) && (t.name == [105, 110, 100, 101, 120])
set_option maxHeartbeats 1600000 in
set_option maxRecDepth 100000 in
theorem isIndex_any (t : Tr) (v : Value) (fp : List Nat) (w : World) (h : IsA w t v fp) : Calls Try.prog 133 #[v] w (fun e w' => e = .returned (.bool (isIdx t)) ∧ Below w.heap.size w w') := by
 by_cases hk : t.kind = 17
 ·obtain ⟨b, f, p, q, vs, fs, rfl, hx, hb, hks, hl, rfl⟩ := h.fields (n := 0) (by rw [hk]; rfl);obtain rfl : vs = [] := List.eq_nil_of_length_eq_zero (by rw [hks.len.1, hl]);rw [show acells t f p q [] .nilIface (.pointer none) = [.int .i64 p, .int .i64 q, .string (str t.name)] by simp [acells, headC, tailC, named, hk], show sty t.kind = 168 by rw [hk]; rfl] at hb;rw [show nv t.kind b = .iface 166 (.pointer (some ⟨b, 0, none⟩)) by rw [hk]; rfl];have n0 := hb.cell; have zn := hb.lt;have HI := Lib.hid (show isIdx t = (t.name == [105, 110, 100, 101, 120]) by unfold isIdx; rw [hk]; rfl);clear hx hb hks hl hk h;cases hn : (t.name == [105, 110, 100, 101, 120])
  all_goals
   rw [hn] at HI;go_enter Try.func133, Try.ntmps133
   go_wp2_with fail
   go_ret;exact ⟨by rw [HI.out]; rfl, by go_grown⟩
 ·obtain ⟨b, rfl⟩ := h.ptr;have hpt : ¬ pty t.kind = 166 := fun hh => hk ((pty_eq h.okk).2.2.2.2.2.1.1 hh);have HI := Lib.hid (show isIdx t = false by unfold isIdx; rw [decide_eq_false hk]; rfl);clear hk h;go_enter Try.func133, Try.ntmps133
  go_wp2_with fail
  go_ret;exact ⟨by rw [HI.out]; rfl, by go_grown⟩
theorem door_finder (b : Nat) : Door 217 (.pointer (some ⟨b, 0, none⟩)) 151 := ⟨fun n w => by kernel_rfl, fun args w => by kernel_rfl⟩
def Fs (w0 : World) (fb : Nat) (s : Bool) (w : World) : Prop := Below w0.heap.size w0 w ∧ w0.heap.size ≤ fb ∧ ∃ v0, Lb w fb [v0, .func (.func 133) #[] #[]] 219 ∧ (s = false → v0 = .nilIface) ∧ (s = true → ∃ ty pv, v0 = .iface ty pv)
set_option maxHeartbeats 3200000 in
set_option maxRecDepth 100000 in
theorem visit_finder (w0 : World) (fb : Nat) : VisOk 151 (.pointer (some ⟨fb, 0, none⟩)) (fun t => t) isIdx (fun b => b = fb) (Fs w0 fb) (fun _ => True) := by
 intro t _ v fp pb po cs Tp w s hP hS;obtain ⟨hB, hle, v0, hL, hs0, hs1⟩ := hS;obtain ⟨ty, pv, rfl⟩ : ∃ ty pv, v = .iface ty pv := by obtain ⟨x, hx⟩ := hP.tree.ptr; exact ⟨_, _, hx⟩
 have r0 : w.cell? ⟨pb, po, none⟩ = some (.iface ty pv) := by rw [hP.lb.cell]; exact hP.get
 have g0 := hP.lb.frozen; have z0 := hP.lb.lt;have f0 := hL.cell; have gf := hL.frozen; have zf := hL.lt;have f1 : w.cell? ⟨fb, 1, none⟩ = some (.func (.func 133) #[] #[]) := by rw [hL.cell]; rfl
 have HP := Lib.hid hP; have HB := Lib.hid hB; have HL := Lib.hid hL; have HLE := Lib.hid hle; have HS := Lib.hid (And.intro hs0 hs1);clear hP hB hL hle hs0 hs1 f0;go_enter Try.func151, Try.ntmps151
 go_upto_region 0 with (fail)
 refine AnyL.start (S := fun w' => w'.cell? ⟨pb, po, none⟩ = some (.iface ty pv) ∧ w'.cell? ⟨fb, 1, none⟩ = some (.func (.func 133) #[] #[])) (late := fun j => [].contains j) (by kernel_rfl) ?_;have hs0 : (fun w' : World => w'.cell? ⟨pb, po, none⟩ = some (.iface ty pv) ∧ w'.cell? ⟨fb, 1, none⟩ = some (.func (.func 133) #[] #[])) w.drew := ⟨r0, f1⟩;refine AnyL.tk [] [] 0 ?_ rfl (by kernel_rfl) (by rfl) ?_ hs0 (AnyL.tk [] [] 1 ?_ rfl (by kernel_rfl) (by rfl) ?_ hs0 (AnyL.tk [] [] 2 ?_ rfl (by kernel_rfl) (by rfl) ?_ hs0 (AnyL.tk [] [] 3 ?_ rfl (by kernel_rfl) (by rfl) ?_ hs0 (AnyL.tk [] [] 4 ?_ rfl (by kernel_rfl) (by rfl) ?_ hs0 (AnyL.tk [] [] 5 ?_ rfl (by kernel_rfl) (by rfl) ?_ hs0 (AnyL.tk [] [] 6 ?_ rfl (by kernel_rfl) (by rfl) ?_ hs0 ?_))))))
 iterate 7
  rotate_left
  ·intro w' hw'
   (try simp only [Act.put, sb0, sb1, sb2])
   (try dsimp only at hw')
   obtain ⟨q0, q1⟩ := hw';go_simp
   try (with_reducible rfl)
 try simp only [Act.put, sb0, sb1, sb2]
 refine AnyL.one 7 (by kernel_rfl) rfl fun K hK => ?_;go_simp;apply Calls.mono
 ·exact isIndex_any t (.iface ty pv) fp _ (HP.out.tree.same fun y hy => rfl)
 rintro e1 w1 ⟨rfl, hb1⟩;have hB1 : Below w.heap.size w w1 := ((Below.refl w.heap.size w).drew).trans hb1;have hL1 := HL.out.below hB1 HL.out.lt;have hP1 := HP.out.lb.below hB1 HP.out.lb.lt;have r1 : w1.cell? ⟨pb, po, none⟩ = some (.iface ty pv) := by rw [hP1.cell]; exact HP.out.get
 (try go_wp2_with fail)
 refine hK.out _ _ (fun _ => ⟨r1, by rw [hL1.cell]; rfl⟩) ?_;clear hK K
 try simp only [Act.put, sb0, sb1, sb2]
 refine AnyL.done (by kernel_rfl) ?_ _;have HB1 := Lib.hid hB1; have HL1 := Lib.hid hL1; have HP1 := Lib.hid hP1;have l0 := hL1.cell; have lf := hL1.frozen; have lz := hL1.lt;clear hs0 hb1 hB1 hL1 hP1 f1 r0;cases hi : isIdx t with
 |false =>
  go_wp21;refine bodyPost_end (v := .tuple #[]) (by first | rfl | (simp [results, Try.results151, go_sem]; try rfl)) rfl ?_;refine Wd.same HP.out HB1.out ?_ _;rw [hi, Bool.or_false];exact ⟨HB.out.trans (HB1.out.mono HB.out.size), HLE.out, v0, HL1.out, HS.out⟩
 |true =>
  go_wp21;refine bodyPost_end (v := .tuple #[]) (by first | rfl | (simp [results, Try.results151, go_sem]; try rfl)) rfl ?_;have hkn := HP.out.kn fb rfl;have hL2 := HL1.out.set 0 (.iface ty pv);simp only [List.set_cons_zero] at hL2;have hset : cs.set po (.iface ty pv) = cs := by
   apply List.ext_getElem?;intro j;rw [List.getElem?_set]
   split
   ·rename_i h; subst h
    rw [if_pos (List.getElem?_eq_some_iff.1 HP.out.get).1, HP.out.get]
   ·rfl
  have hsame : ∀ x, x < w.heap.size → x ≠ fb → (w1.setCell ⟨fb, 0, none⟩ (.iface ty pv)).heap[x]? = w.heap[x]? := fun x hx h3 => (Below.heap_setCell w1 ⟨fb, 0, none⟩ _ x h3).trans (HB1.out.block x hx);refine ⟨⟨_, rfl⟩, .iface ty pv, fp, ⟨HB1.out.os, HB1.out.tape, HB1.out.output, by simpa using HB1.out.size, fun x hx h1 h2 h3 => hsame x hx h3⟩, ?_, ?_, HP.out.nd, fun x hx => .inl hx, ?_⟩
  ·rw [hset]; exact HP1.out.other _ _ (Ne.symm hkn.2.1.symm)
  ·exact HP.out.tree.same fun x hx => hsame x (HP.out.tree.lt x hx) fun h => hkn.2.2 (h ▸ hx)
  ·rw [hi, Bool.or_true];exact ⟨(HB.out.trans (HB1.out.mono HB.out.size)).setCell HLE.out _, HLE.out, _, hL2, ⟨fun h => (by cases h), fun _ => ⟨ty, pv, rfl⟩⟩⟩
def hitIdx (p : Tr) : Bool := hits (fun t => t) isIdx p
set_option maxHeartbeats 1600000 in
set_option maxRecDepth 100000 in
theorem find_any (t : Tr) (v : Value) (fp : List Nat) (w : World) (h : IsA w t v fp) (hn : fp.Nodup) : Calls Try.prog 132 #[v, .func (.func 133) #[] #[]] w (fun e w' => Below w.heap.size w w' ∧ ∃ r, e = .returned r ∧ (hitIdx t = false → r = .nilIface) ∧ (hitIdx t = true → ∃ ty pv, r = .iface ty pv)) := by
 obtain ⟨ty, pv, rfl⟩ : ∃ ty pv, v = .iface ty pv := by obtain ⟨x, hx⟩ := h.ptr; exact ⟨_, _, hx⟩
 have HI := Lib.hid h; have HN := Lib.hid hn;clear h hn;go_enter Try.func132, Try.ntmps132
 go_wp2_with fail
 apply Calls.mono
 ·exact walk_tree (st := fun t => t) (door_finder (w.heap.size + 1)) (visit_finder w (w.heap.size + 1)) (fun k hk => ⟨rfl, by unfold isIdx; rw [decide_eq_false (by omega)]; rfl⟩) (fun _ => True) (fun _ _ _ _ => trivial) (fun _ _ => trivial) t trivial (.iface ty pv) fp w.heap.size 0 [.iface ty pv] 45 _ false
   ⟨(Lb.new w _ _).alloc _, rfl, HI.out.same fun y hy => (heap_alloc_old _ _ (by have := HI.out.lt y hy; simp; omega)).trans (heap_alloc_old w _ (HI.out.lt y hy)), HN.out, fun h => by have := HI.out.lt _ h; omega, fun b hb => ⟨by subst hb; simp, by omega, fun h => by have := HI.out.lt _ h; omega⟩⟩
   ⟨by go_grown, by omega, .nilIface, Lb.new' _ _ _ (by simp), fun _ => rfl, fun h => by cases h⟩
 rintro e1 w1 ⟨⟨x1, rfl⟩, v1, fp1, -, -, -, -, -, hS⟩;rw [Bool.false_or] at hS;obtain ⟨hB, -, v0, hL, hs0, hs1⟩ := hS;have l0 := hL.cell; have lz := hL.lt;have HB := Lib.hid hB; have HS := Lib.hid (And.intro hs0 hs1);clear hB hL hs0 hs1
 go_wp2_with fail
 go_ret;exact ⟨HB.out, _, rfl, HS.out⟩
mutual
theorem noIdx_of : (t : Tr) → hitIdx t = false → NoIdx t
 |⟨a, b, c, d, e, f, g, h, ks, ms⟩, hh => by
  unfold hitIdx at hh;rw [hits] at hh;simp only [Bool.or_eq_false_iff] at hh;refine .mk _ (fun ⟨h1, h2⟩ => ?_) (noIdxs_of ks hh.1);have := hh.2;unfold isIdx at this;simp only at h1 h2;subst h1 h2;exact absurd this (by show ¬ (decide ((17 : Int) = 17) && (nm "index" == [105, 110, 100, 101, 120])) = false; decide)
theorem noIdxs_of : (l : List Tr) → hitss (fun t => t) isIdx l = false → ∀ x ∈ l, NoIdx x
 |[], _ => fun x h => by cases h
 |v :: l, hh => fun x h => by
  rw [hitss] at hh;simp only [Bool.or_eq_false_iff] at hh;rcases List.mem_cons.1 h with h | h
  ·rw [h]; exact noIdx_of v hh.1
  ·exact noIdxs_of l hh.2 x h
end
end
section
def stFilterMap2 (t : Tr) : Tr :=
 if t.kind = 15 ∧ t.name = nm "map" then match t.kids with
  |[f, p] => if hitIdx p = false ∧ p.kind = 16 ∧ f.kind = 15 ∧ f.name = nm "filter" ∧ f.map.isEmpty = true then match p.kids with
   |[q] => mkM f q
   |_ => t
   else t
  |_ => t
 else t
theorem NoIdx.kids {t : Tr} (h : NoIdx t) : ∀ x ∈ t.kids, NoIdx x := by cases h; assumption
theorem plain_filter (v : Vl) : plain (nm "filter") v = none := by unfold plain; simp (decide := true)
theorem blt_short (c : Ch) (hn : c.name = nm "filter") (env : Env) (l : List Dn) (hl : l.length ≠ 2) : builtin c env l = none := by
 match l, hl with
 |[], _ => rfl
 |[d], _ => rw [builtin, hn]; simp only [plain_filter]; cases d.val env <;> rfl
 |a :: b :: x :: l, _ => rw [builtin]; cases a.val env <;> rfl
theorem filterMap2_ok {G : Vl → Prop} (t : Tr) : Rd false G (D t) (D (stFilterMap2 t)) := by
 unfold stFilterMap2
 split
 ·rename_i h
  split
  ·rename_i f p hk
   split
   ·rename_i h2
    obtain ⟨hx, hp, hf1, hf2, hfm⟩ := h2
    split
    ·rename_i q hq
     by_cases hl : f.kids.length = 2
     ·have key := filterMap_ok (G := G) (fun p => !hitIdx p) t fun p hp hx q hq env x i => noIdx_here ((noIdx_of p (by simpa using hx)).kids q hq) env x i;unfold stFilterMap at key;rw [if_pos h, hk] at key;simp only at key;rw [if_pos ⟨by rw [hx]; rfl, hp, hf1, hf2, hfm, hl⟩, hq] at key;exact key
     ·have hD : ∀ l : List Tr, (Ds l).length = l.length := fun l => (by rw [Ds_eq, List.length_map]);refine node_15 (.inl h.1) (.inl rfl) fun env _ => .inl ?_;rw [val_15 t h.1, val_15 (mkM f q) rfl, h.2, hk];have e1 : (D f).val env = none := (by rw [val_15 f hf1]; exact blt_short _ hf2 env _ (by rw [hD]; exact hl));have e2 : builtin { name := (mkM f q).name, limited := (mkM f q).limited, limit := (mkM f q).limit, flag := (mkM f q).flag, map := oneOf (Ds (mkM f q).map) } env (Ds (mkM f q).kids) = none := blt_short _ rfl env _ (by rw [hD]; exact hl);rw [e2];simp only [Ds, builtin];rw [e1]; rfl
    ·exact .refl _
   ·exact .refl _
  ·exact .refl _
 ·exact .refl _
end
section
attribute [local go_sem ↓] Go.wp_at_zero Go.wp_at_succ
open Go.RowKit
theorem IsA.ofMap {w w1 : World} {f q : Tr} {ff2 : Nat} {pf qf : Int} {af : Option Addr} {cf : Nat} {vs : List Value} {fs : List (List Nat)} {rb : List Nat} {vq : Value} {fq : List Nat} (hx : Hx f ff2 pf qf) (hr : Rw w af vs rb) (hk : IsAs w f.kids vs fs) (hq : IsA w q vq fq) (hb : Below w.heap.size w w1) {bn : Nat}
 (hL : Lb w1 bn [.int .i64 0, .int .i64 0, .string (str (nm "filter")), .slice af f.kids.length cf, .bool false, vq, .pointer none] 102) : IsA w1 (mkM f q) (.iface 100 (.pointer (some ⟨bn, 0, none⟩))) ((bn :: rb) ++ fs.flatten ++ (fq ++ [])) := by
 have z : I64 0 := by unfold I64; omega
 have := IsA.list (w := w1) (mkM f q) bn 0 0 0 af cf vs fs rb [vq] [fq] (.pointer none) [] rfl ⟨rfl, cn_zero, z, z, z, z, by show (nm "filter").length ≤ _; decide, hx.hk⟩ hL (hr.same fun y hy => hb.block y (hr.lt y hy)) (hk.same fun y hy => hb.block y (hk.lt y hy)) ⟨by simp [mkM], fun h21 => by simp [mkM] at h21⟩ (.cons (hq.same fun y hy => hb.block y (hq.lt y hy)) .nil) (.inl ⟨rfl, rfl, rfl⟩);rw [show ([fq].flatten ++ [] : List Nat) = fq ++ [] by simp] at this;exact this
theorem Pos.below' {w w1 : World} {pb po : Nat} {cs : List Value} {Tp : TypeId} {v : Value} {t : Tr} {fp : List Nat} (h : Pos w pb po cs Tp v t fp (fun _ => False)) (hb : Below w.heap.size w w1) : Pos w1 pb po cs Tp v t fp (fun _ => False) :=
 ⟨h.lb.below hb h.lb.lt, h.get, h.tree.same fun b hx => hb.block b (h.tree.lt b hx), h.nd, h.out, fun b hb => hb.elim⟩
theorem door_filterMap (b : Nat) : Door 130 (.pointer (some ⟨b, 0, none⟩)) 131 := ⟨fun n w => by kernel_rfl, fun args w => by kernel_rfl⟩
set_option maxHeartbeats 12800000 in
set_option maxRecDepth 100000 in
theorem visit_filterMap (rb0 : Nat) : VisOk 131 (.pointer (some ⟨rb0, 0, none⟩)) stFilterMap2 (fun _ => false) (fun _ => False) (fun _ _ => True) (fun _ => True) := by
 intro t _ v fp pb po cs Tp w s hP _;have r0 : w.cell? ⟨pb, po, none⟩ = some v := by rw [hP.lb.cell]; exact hP.get
 have g0 := hP.lb.frozen; have z0 := hP.lb.lt;have HP := Lib.hid hP
 by_cases hk5 : t.kind = 15
 ·obtain ⟨b, f, p, q, a, c0, vs, fs, rb, ms, gs, th, ft, rfl, hx, hb, hr, hks, h1, hm, ht, rfl⟩ := hP.tree.b15 hk5;have n0 := hb.cell; have zn := hb.lt
  by_cases hnm : (t.name == [109, 97, 112]) = true
  ·by_cases hl : t.kids.length = 2
   ·obtain ⟨c, i, hkx⟩ : ∃ c i, t.kids = [c, i] := by
     match hq : t.kids, hl with
     |[y, z], _ => exact ⟨y, z, rfl⟩
    rw [hkx] at hks;obtain ⟨vc, fc, vi, fi, rfl, rfl, hic, hii⟩ : ∃ vc fc vi fi, vs = [vc, vi] ∧ fs = [fc, fi] ∧ IsA w c vc fc ∧ IsA w i vi fi := by
     cases hks with | cons h hl => cases hl with | cons h2 hl => cases hl; exact ⟨_, _, _, _, rfl, rfl, h, h2⟩
    obtain ⟨r, sp, R, rfl, rfl, hr2⟩ : ∃ r sp R, a = some ⟨r, 0, none⟩ ∧ rb = [r] ∧ Lb w r ([vc, vi] ++ sp) R := by
     rcases hr with ⟨h, _⟩ | h
     ·cases h
     ·exact h
    have d0 : w.cell? ⟨r, 0, none⟩ = some vc := (by rw [hr2.cell]; rfl);have d1 : w.cell? ⟨r, 1, none⟩ = some vi := (by rw [hr2.cell]; rfl);have zr := hr2.lt;rw [hkx] at n0 hb;have hfi : fi.Nodup := (sub_kid (A := b :: [r]) (C := gs.flatten ++ ft) (fs := [fc, fi]) (i := 1) rfl).nodup hP.nd;obtain ⟨tyi, pvi, rfl⟩ : ∃ ty pv, vi = .iface ty pv := (by obtain ⟨x, hx⟩ := hii.ptr; exact ⟨_, _, hx⟩);obtain ⟨tyc, pvc, rfl⟩ : ∃ ty pv, vc = .iface ty pv := (by obtain ⟨x, hx⟩ := hic.ptr; exact ⟨_, _, hx⟩);have HF := Lib.hid (fun (w1 : World) (h : IsA w1 i (.iface tyi pvi) fi) => find_any i (.iface tyi pvi) fi w1 h hfi);have HB := Lib.hid hb; have HR2 := Lib.hid hr2; have HIC := Lib.hid hic; have HII := Lib.hid hii;have HKX := Lib.hid hkx; have HNM := Lib.hid (show t.kind = 15 ∧ t.name = nm "map" from ⟨hk5, by simpa (decide := true) [nm] using hnm⟩);clear hP hx hb hr hks h1 hm ht hr2 hic hii hfi hkx hl hk5
    go_enter Try.func131, Try.ntmps131
    go_wp2_with fail
    apply Calls.mono
    ·exact HF.out _ HII.out
    rintro e1 w1 ⟨hb1, rr, rfl, hno, hyes⟩;clear r0 n0 d0 d1 g0 z0 zn zr;have hLp := HP.out.lb.below hb1 HP.out.lb.lt;have hLb := HB.out.below hb1 HB.out.lt;have hLr := HR2.out.below hb1 HR2.out.lt;have r0 : w1.cell? ⟨pb, po, none⟩ = some (.iface 100 (.pointer (some ⟨b, 0, none⟩))) := (by rw [hLp.cell]; exact HP.out.get);have g0 := hLp.frozen; have z0 := hLp.lt;have n0 := hLb.cell; have zn := hLb.lt;have d0 : w1.cell? ⟨r, 0, none⟩ = some (.iface tyc pvc) := (by rw [hLr.cell]; rfl);have d1 : w1.cell? ⟨r, 1, none⟩ = some (.iface tyi pvi) := (by rw [hLr.cell]; rfl);have zr := hLr.lt;have HB1 := Lib.hid hb1;clear hb1 hLp hLb hLr;cases hh : hitIdx i with
    |true =>
     obtain ⟨ty1, pv1, rfl⟩ := hyes hh;have HS := Lib.hid (show stFilterMap2 t = t from by unfold stFilterMap2; rw [if_pos HNM.out, HKX.out]; simp only; rw [if_neg (fun h => by rw [hh] at h; cases h.1)]);clear hno hyes hh
     (simp only []; go_at_K)
     go_wp2_with fail
     refine bodyPost_end (v := .tuple #[]) (by first | rfl | (simp [results, Try.results131, go_sem]; try rfl)) rfl ?_;rw [HS.out];exact Wd.same HP.out HB1.out trivial _
    |false =>
     obtain rfl := hno hh;clear hno hyes
     by_cases hik : i.kind = 16
     ·obtain ⟨bp, f3, pi, qi, vsi, fsi, hv, hxi, hbi, hksi, hli, rfl⟩ := HII.out.fields (n := 1) (by rw [hik]; rfl);obtain ⟨q1, hki⟩ : ∃ q1, i.kids = [q1] := by
       match hq : i.kids, hli with
       |[y], _ => exact ⟨y, rfl⟩
      rw [hki] at hksi;obtain ⟨vq, fq, rfl, rfl, hiq⟩ : ∃ vq fq, vsi = [vq] ∧ fsi = [fq] ∧ IsA w q1 vq fq := by
       cases hksi with | cons h hl => cases hl; exact ⟨_, _, rfl, rfl, h⟩
      rw [show acells i f3 pi qi [vq] .nilIface (.pointer none) = [.int .i64 pi, .int .i64 qi, vq] by simp [acells, headC, tailC, named, hik], show sty i.kind = 104 by rw [hik]; rfl] at hbi;rw [show nv i.kind bp = .iface 103 (.pointer (some ⟨bp, 0, none⟩)) by rw [hik]; rfl] at hv;cases hv;have hLi := hbi.below HB1.out hbi.lt;have l0 := hLi.cell; have zl := hLi.lt
      by_cases hck : c.kind = 15
      ·obtain ⟨bc, ffc, pc, qc, ac, cc, vsc, fsc, rbc, msc, gsc, thc, ftc, hv, hxc, hbc, hrc, hksc, h1c, hmc, htc, rfl⟩ := HIC.out.b15 hck;cases hv;have hLc := hbc.below HB1.out hbc.lt;have m0 := hLc.cell; have zm := hLc.lt
       by_cases hcn : (c.name == [102, 105, 108, 116, 101, 114]) = true
       ·by_cases hcm : c.map = []
        ·obtain rfl : msc = [] := (by rw [hcm] at hmc; cases hmc; rfl);have HX := Lib.hid (show ∀ w1 bn, Below w.heap.size w w1 → Lb w1 bn [.int .i64 0, .int .i64 0, .string (str (nm "filter")), .slice ac c.kids.length cc, .bool false, vq, .pointer none] 102 → IsA w1 (mkM c q1) (.iface 100 (.pointer (some ⟨bn, 0, none⟩))) ((bn :: rbc) ++ fsc.flatten ++ (fq ++ [])) from fun w1 bn hb1 hL1 => IsA.ofMap hxc hrc hksc hiq hb1 hL1);have HS := Lib.hid (show stFilterMap2 t = mkM c q1 from by unfold stFilterMap2; rw [if_pos HNM.out, HKX.out]; simp only; rw [if_pos ⟨hh, hik, hck, by simpa (decide := true) [nm] using hcn, by rw [hcm]; rfl⟩, hki]);have hP1 := Pos.below' HP.out HB1.out;have HP1 := Lib.hid hP1;have FR := Lib.hid (fresh hP1 (L := rbc ++ fsc.flatten ++ (fq ++ [])) ((show (rbc ++ fsc.flatten ++ (fq ++ [])).Sublist ([(bc :: rbc) ++ fsc.flatten ++ (gsc.flatten ++ ftc), [bp] ++ [fq].flatten ++ []].flatten) from by simpa using (sub_args (b := bc) (rb := rbc) (F := fsc.flatten) (C := gsc.flatten ++ ftc)).append (List.sublist_cons_self bp fq)).trans ((List.sublist_append_right _ _).trans (List.sublist_append_left _ _))))
         obtain ⟨tyq, pvq, rfl⟩ : ∃ ty pv, vq = .iface ty pv := (by obtain ⟨x, hx⟩ := hiq.ptr; exact ⟨_, _, hx⟩);have s3 := m0 3; have s5 := l0 2;have u0 := m0 2; have u1 := m0 5;simp only [List.getElem?_cons_succ, List.getElem?_cons_zero, List.headD_nil] at s3 s5 u0 u1;clear hxi hbi hksi hiq hLi hxc hbc hrc hksc h1c hmc htc hLc hP1 hh hik hck hli m0 l0 hcm hki
         (simp only []; go_at_K)
         go_upto_region 6 with (fail)
         clear r0 n0 d0 d1 u0 u1;refine AnyL.start (S := fun w' => w'.cell? ⟨bc, 3, none⟩ = some (.slice ac c.kids.length cc) ∧ w'.cell? ⟨bp, 2, none⟩ = some (.iface tyq pvq)) (late := fun j => [12].contains j) (by kernel_rfl) ?_;have hs0 : (fun w' : World => w'.cell? ⟨bc, 3, none⟩ = some (.slice ac c.kids.length cc) ∧ w'.cell? ⟨bp, 2, none⟩ = some (.iface tyq pvq)) w1.drew := ⟨s3, s5⟩;refine AnyL.tk [12] [12] 0 ?_ rfl (by kernel_rfl) (by rfl) ?_ hs0 (AnyL.tk [12] [2, 3, 4, 9, 10, 11, 12] 1 ?_ rfl (by kernel_rfl) (by rfl) ?_ hs0 (AnyL.tk [12] [3, 4, 9, 10, 11, 12] 2 ?_ rfl (by kernel_rfl) (by rfl) ?_ hs0 (AnyL.tk [12] [4, 9, 10, 11, 12] 3 ?_ rfl (by kernel_rfl) (by rfl) ?_ hs0 (AnyL.tk [12] [9, 10, 11, 12] 4 ?_ rfl (by kernel_rfl) (by rfl) ?_ hs0 (AnyL.tk [12] [6, 7, 8, 9, 10, 11, 12] 5 ?_ rfl (by kernel_rfl) (by rfl) ?_ hs0 (AnyL.tk [12] [7, 8, 9, 10, 11, 12] 6 ?_ rfl (by kernel_rfl) (by rfl) ?_ hs0 (AnyL.tk [12] [8, 9, 10, 11, 12] 7 ?_ rfl (by kernel_rfl) (by rfl) ?_ hs0 (AnyL.tk [12] [9, 10, 11, 12] 8 ?_ rfl (by kernel_rfl) (by rfl) ?_ hs0 (AnyL.tk [12] [10, 11, 12] 9 ?_ rfl (by kernel_rfl) (by rfl) ?_ hs0 ?_)))))))))
         iterate 10
          rotate_left
          ·intro w' hw'
           (try simp only [Act.put, sb0, sb1, sb2])
           (try dsimp only at hw')
           obtain ⟨q0, q1⟩ := hw';go_simp
           try (with_reducible rfl)
         try simp only [Act.put, sb0, sb1, sb2]
         have hBn : Below w1.heap.size w1 (w1.drew.alloc (.cells ([.int .i64 0, .int .i64 0, .string (str (nm "filter")), .slice ac c.kids.length cc, .bool false, .iface tyq pvq, .pointer none]).toArray 102)) := ((Below.refl w1.heap.size w1).drew).alloc (Nat.le_refl _) _;have hs1 : (fun w' : World => w'.cell? ⟨bc, 3, none⟩ = some (.slice ac c.kids.length cc) ∧ w'.cell? ⟨bp, 2, none⟩ = some (.iface tyq pvq)) (w1.drew.alloc (.cells ([.int .i64 0, .int .i64 0, .string (str (nm "filter")), .slice ac c.kids.length cc, .bool false, .iface tyq pvq, .pointer none]).toArray 102)) := ⟨by
          rw [World.cell?_of_block (w := w1.drew) (a := ⟨bc, 3, none⟩) (heap_alloc_old w1.drew _ zm)]; exact hs0.1, by
          rw [World.cell?_of_block (w := w1.drew) (a := ⟨bp, 2, none⟩) (heap_alloc_old w1.drew _ zl)]; exact hs0.2⟩
         refine AnyL.one 10 (by kernel_rfl) rfl fun K hK => ?_;go_simp;refine hK.out _ _ (fun _ => hs1) ?_;clear hK K
         try simp only [Act.put, sb0, sb1, sb2]
         refine AnyL.one 11 (by kernel_rfl) rfl fun K hK => ?_;go_simp;refine hK.out _ _ (fun _ => hs1) ?_;clear hK K
         try simp only [Act.put, sb0, sb1, sb2]
         refine AnyL.one 12 (by kernel_rfl) rfl fun K hK => ?_;go_simp;apply Calls.mono
         ·refine patch108 pb po cs Tp _ _ t (mkM c q1) _ ((w1.heap.size :: rbc) ++ fsc.flatten ++ (fq ++ [])) _ (HP1.out.lb.below hBn HP1.out.lb.lt) HP1.out.get (HP1.out.tree.same fun y hy => hBn.block y (HP1.out.tree.lt y hy)) HP1.out.nd (HX.out _ _ (HB1.out.trans (hBn.mono HB1.out.size)) (Lb.new' _ _ _ (by simp))) ?_ ?_ HP1.out.out
          ·simpa using FR.out.1
          ·simpa using FR.out.2.1
         rintro e2 w2 h2;obtain ⟨x2, rfl⟩ := h2.1;have H2 := Lib.hid h2;clear h2
         (try go_wp2_with fail)
         refine hK.out _ _ (fun h => by cases h) ?_;clear hK K
         try simp only [Act.put, sb0, sb1, sb2]
         refine AnyL.done (by kernel_rfl) ?_ _;go_wp21;refine bodyPost_end (v := .tuple #[]) (by first | rfl | (simp [results, Try.results131, go_sem]; try rfl)) rfl ?_;rw [HS.out];exact Wd.patched HP.out (HB1.out.trans (hBn.mono HB1.out.size)) H2.out (fun y hy => (FR.out.2.2 y (by simpa using hy)).imp id fun h => Nat.le_trans HB1.out.size h) (by simpa using FR.out.1) trivial _
        ·obtain ⟨m1, mr, hmm⟩ : ∃ m1 mr, c.map = m1 :: mr := by
          match hq : c.map, hcm with
          |[], h => exact absurd rfl h
          |y :: z, _ => exact ⟨y, z, rfl⟩
         obtain ⟨vm, msr, rfl, him⟩ : ∃ vm msr, msc = vm :: msr ∧ ∃ gm, IsA w m1 vm gm := by
          rw [hmm] at hmc;cases hmc with | cons h hl => exact ⟨_, _, rfl, _, h⟩
         obtain ⟨gm, him⟩ := him;obtain ⟨bm, rfl⟩ := him.ptr;have HS := Lib.hid (show stFilterMap2 t = t from by unfold stFilterMap2; rw [if_pos HNM.out, HKX.out]; simp only; rw [if_neg (fun h => hcm (by simpa using h.2.2.2.2))]);have u0 := m0 2; have u1 := m0 5;simp only [List.getElem?_cons_succ, List.getElem?_cons_zero, List.headD_cons] at u0 u1;clear hxi hbi hksi hiq hLi hxc hbc hrc hksc h1c hmc htc hLc hh hik hck hli m0 l0 hcm hki hmm him
         (simp only []; go_at_K)
         go_wp2_with fail
         refine bodyPost_end (v := .tuple #[]) (by first | rfl | (simp [results, Try.results131, go_sem]; try rfl)) rfl ?_;rw [HS.out];exact Wd.same HP.out HB1.out trivial _
       ·have HS := Lib.hid (show stFilterMap2 t = t from by unfold stFilterMap2; rw [if_pos HNM.out, HKX.out]; simp only; rw [if_neg (fun h => hcn (by simpa (decide := true) [nm] using h.2.2.2.1))]);have u0 := m0 2;simp only [List.getElem?_cons_succ, List.getElem?_cons_zero] at u0;clear hxi hbi hksi hiq hLi hxc hbc hrc hksc h1c hmc htc hLc hh hik hck hli m0 l0 hki
        (simp only []; go_at_K)
        go_wp2_with fail
        refine bodyPost_end (v := .tuple #[]) (by first | rfl | (simp [results, Try.results131, go_sem]; try rfl)) rfl ?_;rw [HS.out];exact Wd.same HP.out HB1.out trivial _
      ·obtain ⟨bx, hv⟩ := HIC.out.ptr;cases hv;have hpc : ¬ pty c.kind = 100 := fun h => hck ((pty_eq HIC.out.okk).1.1 h);have HS := Lib.hid (show stFilterMap2 t = t from by unfold stFilterMap2; rw [if_pos HNM.out, HKX.out]; simp only; rw [if_neg (fun h => hck h.2.2.1)]);clear hxi hbi hksi hiq hLi hh hik hck hli l0 hki
       (simp only []; go_at_K)
       go_wp2_with fail
       refine bodyPost_end (v := .tuple #[]) (by first | rfl | (simp [results, Try.results131, go_sem]; try rfl)) rfl ?_;rw [HS.out];exact Wd.same HP.out HB1.out trivial _
     ·obtain ⟨bx, hv⟩ := HII.out.ptr;cases hv;have hpi : ¬ pty i.kind = 103 := fun h => hik ((pty_eq HII.out.okk).2.2.2.2.1.1 h);have HS := Lib.hid (show stFilterMap2 t = t from by unfold stFilterMap2; rw [if_pos HNM.out, HKX.out]; simp only; rw [if_neg (fun h => hik h.2.1)]);clear hh hik
      (simp only []; go_at_K)
      go_wp2_with fail
      refine bodyPost_end (v := .tuple #[]) (by first | rfl | (simp [results, Try.results131, go_sem]; try rfl)) rfl ?_;rw [HS.out];exact Wd.same HP.out HB1.out trivial _
   ·have HS := Lib.hid (show stFilterMap2 t = t from by unfold stFilterMap2; (repeat' split) <;> simp_all (decide := true) [nm]);clear hP hx hb hr hks h1 hm ht;go_enter Try.func131, Try.ntmps131
    go_wp2_with fail
    refine bodyPost_end (v := .tuple #[]) (by first | rfl | (simp [results, Try.results131, go_sem]; try rfl)) rfl ?_;rw [HS.out];exact Wd.same HP.out (Below.refl _ _) trivial _
  ·have HS := Lib.hid (show stFilterMap2 t = t from by unfold stFilterMap2; (repeat' split) <;> simp_all (decide := true) [nm]);clear hP hx hb hr hks h1 hm ht;go_enter Try.func131, Try.ntmps131
   go_wp2_with fail
   refine bodyPost_end (v := .tuple #[]) (by first | rfl | (simp [results, Try.results131, go_sem]; try rfl)) rfl ?_;rw [HS.out];exact Wd.same HP.out (Below.refl _ _) trivial _
 ·obtain ⟨b, rfl⟩ := hP.tree.ptr;have hpu : ¬ pty t.kind = 100 := fun h => hk5 ((pty_eq hP.tree.okk).1.1 h);have HS := Lib.hid (show stFilterMap2 t = t from by unfold stFilterMap2; (repeat' split) <;> simp_all (decide := true) [nm]);clear hP hk5;go_enter Try.func131, Try.ntmps131
  go_wp2_with fail
  refine bodyPost_end (v := .tuple #[]) (by first | rfl | (simp [results, Try.results131, go_sem]; try rfl)) rfl ?_;rw [HS.out];exact Wd.same HP.out (Below.refl _ _) trivial _
end
end Go.Proofs.Ytafhhdimjkgihaa.Mn
