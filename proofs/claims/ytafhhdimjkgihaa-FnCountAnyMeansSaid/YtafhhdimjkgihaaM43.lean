/- What the program does, function by function, and what trees mean: part 43. -/
import Derived.ProofKit
import Derived.OpenShut
import Derived.ShutString
import Derived.ChangeOld
import Derived.Below
import Derived.SizedLaws
import Derived.DataReads
import Derived.Test.YtafhhdimjkgihaaM41
set_option linter.unusedSimpArgs false
set_option linter.unusedVariables false
namespace Go.Proofs.Ytafhhdimjkgihaa.Mn
open Go.ChangeShapes Go.WideShapes Go.ChangeAt Go.RowKit
theorem flat_at {α : Type} {m : Nat} : ∀ (E : List (List α)), (∀ c ∈ E, c.length = m) → ∀ (j : Nat) (v : α), E.flatten[j]? = some v → ∃ i r c, j = i * m + r ∧ r < m ∧ E[i]? = some c ∧ c[r]? = some v
 |[], _, j, v, h => by simp at h
 |c :: E, hE, j, v, h => by
  have hc : c.length = m := hE c (by simp);rw [List.flatten_cons] at h
  by_cases hj : j < m
  ·rw [List.getElem?_append_left (by omega)] at h;exact ⟨0, j, c, by omega, hj, rfl, h⟩
  ·rw [List.getElem?_append_right (by omega), hc] at h;obtain ⟨i, r, d, h1, h2, h3, h4⟩ := flat_at E (fun d hd => hE d (by simp [hd])) (j - m) v h;refine ⟨i + 1, r, d, ?_, h2, by simpa using h3, h4⟩;rw [Nat.add_mul, Nat.one_mul]; omega
theorem choose_ts {w : World} {k : Nat → Prop} : ∀ (E : List (List Value)), (∀ c ∈ E, ∃ t, IsT w k t c) → ∃ ts : List Tr, ts.length = E.length ∧ IsTs w k ts E.flatten
 |[], _ => ⟨[], rfl, .nil⟩
 |c :: E, h => by
  obtain ⟨t, ht⟩ := h c (by simp);obtain ⟨ts, h1, h2⟩ := choose_ts E fun d hd => h d (by simp [hd]);exact ⟨t :: ts, by simp [h1], .cons ht h2⟩
theorem choose_vs {w : World} {k : Nat → Prop} : ∀ (E : List (List Value)), (∀ c ∈ E, ∃ t, IsR w k t c) → ∃ ts : List Vl, ts.length = E.length ∧ IsRs w k ts E.flatten
 |[], _ => ⟨[], rfl, .nil⟩
 |c :: E, h => by
  obtain ⟨t, ht⟩ := h c (by simp);obtain ⟨ts, h1, h2⟩ := choose_vs E fun d hd => h d (by simp [hd]);exact ⟨t :: ts, by simp [h1], .cons ht h2⟩
section
variable {H : Type} {enc : TypeId × Value → H} {w : World} {base : Nat} {spare : Nat → Bool} {held : Bool}
def Sz (t : TypeId) (d : DataW H) : Prop := ∀ n ∈ d.weights Try.prog t, n ≤ reachBytes
theorem Sz.part {t : TypeId} {fs : Array Field} {ps : List (DataW H)} (h : Sz t (.agg ps)) (hu : Try.prog.underlying t = some (.struct fs)) {i : Nat} {f : Field} {d : DataW H} (hf : fs[i]? = some f) (hd : ps[i]? = some d) : Sz f.type d := fun n hn =>
 h n (by
  simp only [DataW.weights, hu];exact DataW.weights_mem_each (j := i) (t := f.type) (by simp [hf]) hd n hn)
theorem weights_all {P : Program} {e : TypeId} : ∀ {ds : List (DataW H)} {d : DataW H}, d ∈ ds → ∀ n ∈ d.weights P e, n ∈ DataW.weightsAll P e ds
 |d0 :: ds, d, hd, n, hn => by
  rw [DataW.weightsAll, List.mem_append];rcases List.mem_cons.1 hd with rfl | hd
  ·exact .inl hn
  ·exact .inr (weights_all hd n hn)
theorem Sz.elem {t e : TypeId} {els sp : List (DataW H)} (h : Sz t (.slice els sp)) (hu : Try.prog.underlying t = some (.slice e)) : (els.length + sp.length) * Try.prog.bytesOf e ≤ reachBytes ∧ ∀ d ∈ els, Sz e d := by
 refine ⟨h _ (by simp [DataW.weights, hu]), fun d hd n hn => h n ?_⟩;simp only [DataW.weights, hu, List.mem_cons, List.mem_append];exact .inr (.inl (weights_all hd n hn))
theorem open_elems {t e : TypeId} {m fuel : Nat} {cs : List Value} {x : DataW H × List MemPlace} (hu : Try.prog.underlying t = some (.slice e)) (hm : Try.prog.cellsOf e = m) (hm0 : 0 < m) (h : DataW.trod enc Try.prog w base spare held fuel t cs = some x) (hz : Sz t x.1) :
 ∃ (a : Option Addr) (len cap : Nat) (E : List (List Value)), cs = [.slice a len cap] ∧ E.length = len ∧ len ≤ cap ∧ len * Try.prog.bytesOf e ≤ reachBytes ∧ Row w (fun _ => False) a E.flatten ∧ ∀ c ∈ E, ∃ y n, n < fuel ∧ DataW.trod enc Try.prog w base spare held n e c = some y ∧ Sz e y.1 := by
 rcases DataW.trod_slice hu h with ⟨rfl, rfl⟩ | ⟨a, len, cap, els, rest, n, rfl, rfl, rfl, hb, hlc, hcm, hel, hat, hs1, hs2⟩
 ·exact ⟨none, 0, 0, [], rfl, rfl, Nat.le_refl _, by simp, .inl rfl, by simp⟩
 ·obtain ⟨z1, z2⟩ := hz.elem hu;simp only [List.length_map] at z1;have hE : ∀ i, i < len → ∃ c y, w.cells? base (a.add (i * m)) m = some c ∧ DataW.trod enc Try.prog w base spare held n e c = some y ∧ els[i]? = some y := fun i hi => by
   have h1 := hat i hi;rw [hm] at h1;obtain ⟨y, hy⟩ : ∃ y, els[i]? = some y := ⟨els[i]'(by omega), by simp⟩;rw [hy] at h1;obtain ⟨c, hc1, hc2⟩ := Option.bind_eq_some_iff.1 h1;exact ⟨c, y, hc1, hc2, hy⟩
  refine ⟨some a, len, cap, (List.range len).map fun i => (w.cells? base (a.add (i * m)) m).getD [], rfl, by simp, hlc, ?_, ?_, fun c hc => ?_⟩
  ·rw [← hel];refine Nat.le_trans (Nat.mul_le_mul_right _ (Nat.le_add_right _ _)) z1
  ·by_cases hl : len = 0
   ·left; rw [hl]; rfl
   ·right;obtain ⟨c0, y0, hc0, _, _⟩ := hE 0 (by omega);obtain ⟨_, hc0l, hc0c⟩ := World.cells?_some hc0;have h0 := hc0c 0 hm0;obtain ⟨u0, hu0⟩ : ∃ u, c0[0]? = some u := ⟨c0[0]'(by omega), by simp⟩;rw [hu0] at h0;obtain ⟨ab, ao, asp⟩ := a;have hsp : asp = none := by
     cases asp with
     |none => rfl
     |some s =>
      simp only [Nat.zero_mul, Addr.add, if_true, World.cell?] at h0
      split at h0 <;> simp at h0
    subst hsp;have hlt : ab < w.heap.size := by
     simp only [Nat.zero_mul, Addr.add, if_true, World.cell?] at h0
     split at h0
     ·rename_i heq; exact (Array.getElem?_eq_some_iff.1 heq).1
     ·cases h0
    refine ⟨ab, ao, rfl, id, hlt, fun j v hv => ?_⟩;obtain ⟨i, r, c, rfl, hr, hi, hcr⟩ := flat_at (m := m) _ (fun c hc => by
     obtain ⟨i, hi, rfl⟩ := List.mem_map.1 hc;obtain ⟨c, y, h1, _, _⟩ := hE i (List.mem_range.1 hi);rw [h1]; exact (World.cells?_some h1).2.1) j v hv
    have hil : i < len := by
     have := (List.getElem?_eq_some_iff.1 hi).1;simpa using this
    obtain ⟨c', y, h1, _, _⟩ := hE i hil;have hcc : c = c' := by
     rw [List.getElem?_map, List.getElem?_range hil] at hi;simp only [Option.map_some, h1, Option.getD_some, Option.some.injEq] at hi;exact hi.symm
    subst hcc;have := (World.cells?_some h1).2.2 r hr;rw [hcr, Addr.add_lit, Addr.add_lit] at this;rw [← Nat.add_assoc];exact this
  ·obtain ⟨i, hi, rfl⟩ := List.mem_map.1 hc;obtain ⟨c, y, h1, h2, h3⟩ := hE i (List.mem_range.1 hi);rw [h1];exact ⟨y, n, by omega, h2, z2 _ (List.mem_map.2 ⟨y, List.mem_of_getElem? h3, rfl⟩)⟩
theorem m25 : Try.prog.cellsOf 25 = 12 := by kernel_rfl
theorem m39 : Try.prog.cellsOf 39 = 7 := by kernel_rfl
theorem m53 : Try.prog.cellsOf 53 = 8 := by kernel_rfl
theorem m3 : Try.prog.cellsOf 3 = 1 := by kernel_rfl
theorem m9 : Try.prog.cellsOf 9 = 1 := by kernel_rfl
theorem m22 : Try.prog.cellsOf 22 = 1 := by kernel_rfl
theorem m4 : Try.prog.cellsOf 4 = 1 := by kernel_rfl
theorem m23 : Try.prog.cellsOf 23 = 1 := by kernel_rfl
theorem m36 : Try.prog.cellsOf 36 = 1 := by kernel_rfl
theorem m37 : Try.prog.cellsOf 37 = 1 := by kernel_rfl
theorem y25 : Try.prog.bytesOf 25 = 120 := by kernel_rfl
theorem y39 : Try.prog.bytesOf 39 = 96 := by kernel_rfl
theorem y9 : Try.prog.bytesOf 9 = 16 := by kernel_rfl
theorem y53 : Try.prog.bytesOf 53 = 112 := by kernel_rfl
theorem trodFloat {t : TypeId} {fuel : Nat} {cs : List Value} {x : DataW H × List MemPlace} (ht : Try.prog.underlying t = some (.float .f64)) (h : DataW.trod enc Try.prog w base spare held fuel t cs = some x) : ∃ f : Nat, cs = [.float .f64 f] := by
 cases fuel with
 |zero => simp [DataW.trod] at h
 |succ n =>
  unfold DataW.trod at h;rw [ht] at h
  split at h <;> simp_all
theorem wf_i64 {n : Int} (h : (Lit.int .i64 n).wf = true) : I64 n := by
 simp [Lit.wf, IntKind.min, IntKind.max, IntKind.bits, IntKind.signed] at h;unfold I64; omega
theorem openInt {fuel : Nat} {u : Value} {x : DataW H × List MemPlace} (h : DataW.trod enc Try.prog w base spare held fuel 3 [u] = some x) : ∃ n, u = .int .i64 n ∧ I64 n := by
 obtain ⟨n, h1, _, h2⟩ := DataW.trod_int Try.underlying3 h;exact ⟨n, by simpa using h1, wf_i64 h2⟩
theorem openStr {fuel : Nat} {u : Value} {x : DataW H × List MemPlace} (h : DataW.trod enc Try.prog w base spare held fuel 9 [u] = some x) (hz : Sz 9 x.1) : ∃ n : Nm, u = .string (str n) ∧ n.length ≤ 140737488355328 := by
 obtain ⟨s, h1, rfl, _⟩ := DataW.trod_string Try.underlying9 h;refine ⟨s.data.toList, by rw [← str_of]; simpa using h1, ?_⟩;have := hz s.data.toList.length (by simp [DataW.weights]);simp only [reachBytes] at this;omega
theorem openBool {fuel : Nat} {u : Value} {x : DataW H × List MemPlace} (h : DataW.trod enc Try.prog w base spare held fuel 4 [u] = some x) : ∃ b, u = .bool b := by
 obtain ⟨b, h1, _⟩ := DataW.trod_bool Try.underlying4 h;exact ⟨b, by simpa using h1⟩
theorem openFloat {fuel : Nat} {u : Value} {x : DataW H × List MemPlace} (h : DataW.trod enc Try.prog w base spare held fuel 22 [u] = some x) : ∃ f, u = .float .f64 f := by
 obtain ⟨b, h1⟩ := trodFloat Try.underlying22 h;exact ⟨b, by simpa using h1⟩
theorem choose_ks : ∀ (E : List (List Value)), (∀ c ∈ E, ∃ t : Nm, c = [.string (str t)]) → ∃ ts : List Nm, ts.length = E.length ∧ kcells ts = E.flatten
 |[], _ => ⟨[], rfl, rfl⟩
 |c :: E, h => by
  obtain ⟨t, rfl⟩ := h c (by simp);obtain ⟨ts, h1, h2⟩ := choose_ks E fun d hd => h d (by simp [hd]);exact ⟨t :: ts, by simp [h1], by rw [List.flatten_cons, ← h2]; rfl⟩
set_option maxRecDepth 100000 in
theorem openV : ∀ (fuel : Nat) (cs : List Value) (x : DataW H × List MemPlace), DataW.trod enc Try.prog w base spare held fuel 39 cs = some x → Sz 39 x.1 → ∃ v f a c a' c', cs = vcells v f a c a' c' ∧ IsR w (fun _ => False) v cs := by
 intro fuel
 induction fuel using Nat.strongRecOn with
 |_ fuel ih =>
 intro cs x h hz;obtain ⟨xs, n, rfl, rfl, hlen, hxl, hg⟩ := DataW.trod_struct Try.underlying39 h;rw [m39] at hlen
 match cs, hlen, xs, hxl, hg, hz with
 |[v0, v1, v2, v3, v4, v5, v6], _, [x0, x1, x2, x3, x4, x5, x6], _, hg, hz =>
  have e0 : DataW.trod enc Try.prog w base spare held n 3 [v0] = some x0 := by simpa [m3] using hg 0 _ rfl
  have e1 : DataW.trod enc Try.prog w base spare held n 3 [v1] = some x1 := by simpa [m3] using hg 1 _ rfl
  have e2 : DataW.trod enc Try.prog w base spare held n 22 [v2] = some x2 := by simpa [m22] using hg 2 _ rfl
  have e3 : DataW.trod enc Try.prog w base spare held n 9 [v3] = some x3 := by simpa [m9] using hg 3 _ rfl
  have e4 : DataW.trod enc Try.prog w base spare held n 4 [v4] = some x4 := by simpa [m4] using hg 4 _ rfl
  have e5 : DataW.trod enc Try.prog w base spare held n 36 [v5] = some x5 := by simpa [m36] using hg 5 _ rfl
  have e6 : DataW.trod enc Try.prog w base spare held n 37 [v6] = some x6 := by simpa [m37] using hg 6 _ rfl
  have z3 : Sz 9 x3.1 := hz.part Try.underlying39 (i := 3) rfl rfl;have z5 : Sz 36 x5.1 := hz.part Try.underlying39 (i := 5) rfl rfl;have z6 : Sz 37 x6.1 := hz.part Try.underlying39 (i := 6) rfl rfl;obtain ⟨kd, rfl, hk⟩ := openInt e0;obtain ⟨it, rfl, hi⟩ := openInt e1;obtain ⟨fl, rfl⟩ := openFloat e2;obtain ⟨tx, rfl, ht⟩ := openStr e3 z3;obtain ⟨bo, rfl⟩ := openBool e4;obtain ⟨a, la, ca, E, h5, hE, hlc, hby, hrow, hel⟩ := open_elems Try.underlying36 m39 (by omega) e5 z5;obtain ⟨a', la', ca', E', h6, hE', hlc', hby', hrow', hel'⟩ := open_elems Try.underlying37 m9 (by omega) e6 z6;simp only [List.cons.injEq, and_true] at h5 h6;subst h5 h6;obtain ⟨its, hits, hIs⟩ := choose_vs (w := w) (k := fun _ => False) E fun c hc => by
   obtain ⟨y, m, hm, h1, h2⟩ := hel c hc;obtain ⟨v, f, a, c1, a', c1', rfl, h3⟩ := ih m (by omega) c y h1 h2;exact ⟨v, h3⟩
  obtain ⟨ks, hks, hKs⟩ := choose_ks E' fun c hc => by
   obtain ⟨y, m, hm, h1, h2⟩ := hel' c hc;obtain ⟨s, h3, h4, _⟩ := DataW.trod_string Try.underlying9 h1;exact ⟨s.data.toList, by rw [← str_of]; exact h3⟩
  rw [y39] at hby;rw [y9] at hby';simp only [reachBytes] at hby hby';have e : (vcells { kind := kd, int := it, flt := cn fl, text := tx, bool := bo, items := its, keys := ks } fl a ca a' ca') = [.int .i64 kd, .int .i64 it, .float .f64 fl, .string (str tx), .bool bo, .slice a la ca, .slice a' la' ca'] := by
   simp only [vcells, hits, hks, hE, hE']
  refine ⟨_, fl, a, ca, a', ca', e.symm, ?_⟩;rw [← e];exact .mk _ fl a ca a' ca' E.flatten rfl hk hi (by show its.length ≤ mostR; unfold mostR; omega) (by show ks.length ≤ mostR; unfold mostR; omega) ht (by show ks.length ≤ ca'; omega) hrow hIs (by show Row w _ a' (kcells ks); rw [hKs]; exact hrow')
set_option maxRecDepth 100000 in
theorem openT : ∀ (fuel : Nat) (cs : List Value) (x : DataW H × List MemPlace), DataW.trod enc Try.prog w base spare held fuel 25 cs = some x → Sz 25 x.1 → ∃ t f a c a' c' p q, cs = tcells t f a c a' c' p q ∧ IsT w (fun _ => False) t cs := by
 intro fuel
 induction fuel using Nat.strongRecOn with
 |_ fuel ih =>
 intro cs x h hz;obtain ⟨xs, n, rfl, rfl, hlen, hxl, hg⟩ := DataW.trod_struct Try.underlying25 h;rw [m25] at hlen
 match cs, hlen, xs, hxl, hg, hz with
 |[v0, v1, v2, v3, v4, v5, v6, v7, v8, v9, v10, v11], _, [x0, x1, x2, x3, x4, x5, x6, x7, x8, x9, x10, x11], _, hg, hz =>
  have e0 : DataW.trod enc Try.prog w base spare held n 3 [v0] = some x0 := by simpa [m3] using hg 0 _ rfl
  have e1 : DataW.trod enc Try.prog w base spare held n 9 [v1] = some x1 := by simpa [m9] using hg 1 _ rfl
  have e2 : DataW.trod enc Try.prog w base spare held n 3 [v2] = some x2 := by simpa [m3] using hg 2 _ rfl
  have e3 : DataW.trod enc Try.prog w base spare held n 22 [v3] = some x3 := by simpa [m22] using hg 3 _ rfl
  have e4 : DataW.trod enc Try.prog w base spare held n 4 [v4] = some x4 := by simpa [m4] using hg 4 _ rfl
  have e5 : DataW.trod enc Try.prog w base spare held n 4 [v5] = some x5 := by simpa [m4] using hg 5 _ rfl
  have e6 : DataW.trod enc Try.prog w base spare held n 4 [v6] = some x6 := by simpa [m4] using hg 6 _ rfl
  have e7 : DataW.trod enc Try.prog w base spare held n 3 [v7] = some x7 := by simpa [m3] using hg 7 _ rfl
  have e8 : DataW.trod enc Try.prog w base spare held n 23 [v8] = some x8 := by simpa [m23] using hg 8 _ rfl
  have e9 : DataW.trod enc Try.prog w base spare held n 23 [v9] = some x9 := by simpa [m23] using hg 9 _ rfl
  have e10 : DataW.trod enc Try.prog w base spare held n 3 [v10] = some x10 := by simpa [m3] using hg 10 _ rfl
  have e11 : DataW.trod enc Try.prog w base spare held n 3 [v11] = some x11 := by simpa [m3] using hg 11 _ rfl
  have z1 : Sz 9 x1.1 := hz.part Try.underlying25 (i := 1) rfl rfl;have z8 : Sz 23 x8.1 := hz.part Try.underlying25 (i := 8) rfl rfl;have z9 : Sz 23 x9.1 := hz.part Try.underlying25 (i := 9) rfl rfl;obtain ⟨kd, rfl, hk⟩ := openInt e0;obtain ⟨nm, rfl, hnm⟩ := openStr e1 z1;obtain ⟨it, rfl, hi⟩ := openInt e2;obtain ⟨fl, rfl⟩ := openFloat e3;obtain ⟨b4, rfl⟩ := openBool e4;obtain ⟨b5, rfl⟩ := openBool e5;obtain ⟨b6, rfl⟩ := openBool e6;obtain ⟨lm, rfl, hlm⟩ := openInt e7;obtain ⟨p, rfl, hp⟩ := openInt e10;obtain ⟨q, rfl, hq⟩ := openInt e11;obtain ⟨a, la, ca, E, h5, hE, hlc, hby, hrow, hel⟩ := open_elems Try.underlying23 m25 (by omega) e8 z8;obtain ⟨a', la', ca', E', h6, hE', hlc', hby', hrow', hel'⟩ := open_elems Try.underlying23 m25 (by omega) e9 z9;simp only [List.cons.injEq, and_true] at h5 h6;subst h5 h6;have each : ∀ E : List (List Value), (∀ c ∈ E, ∃ y m, m < n ∧ DataW.trod enc Try.prog w base spare held m 25 c = some y ∧ Sz 25 y.1) → ∃ ts : List Tr, ts.length = E.length ∧ IsTs w (fun _ => False) ts E.flatten := fun E hel => choose_ts E fun c hc => by
   obtain ⟨y, m, hm, h1, h2⟩ := hel c hc;obtain ⟨t, f, a, c1, a', c1', p, q, rfl, h3⟩ := ih m (by omega) c y h1 h2;exact ⟨t, h3⟩
  obtain ⟨ks, hks, hKs⟩ := each E hel;obtain ⟨ms, hms, hMs⟩ := each E' hel';rw [y25] at hby hby';simp only [reachBytes] at hby hby';have e : (tcells { kind := kd, name := nm, int := it, flt := cn fl, flag := b4, method := b5, limited := b6, limit := lm, kids := ks, map := ms } fl a ca a' ca' p q) = [.int .i64 kd, .string (str nm), .int .i64 it, .float .f64 fl, .bool b4, .bool b5, .bool b6, .int .i64 lm, .slice a la ca, .slice a' la' ca', .int .i64 p, .int .i64 q] := by
   simp only [tcells, hks, hms, hE, hE']
  refine ⟨_, fl, a, ca, a', ca', p, q, e.symm, ?_⟩;rw [← e];exact .mk _ fl a ca a' ca' p q E.flatten E'.flatten rfl hk hi hlm hp hq hnm (by show ks.length ≤ most; unfold most; omega) (by show ms.length ≤ most; unfold most; omega) hrow hKs hrow' hMs
theorem choose_ns {w : World} {k : Nat → Prop} : ∀ (E : List (List Value)), (∀ c ∈ E, ∃ (t : Nm) (v : Vl) (d : List Value), c = .string (str t) :: d ∧ IsR w k v d) → ∃ ts : List (Nm × Vl), ts.length = E.length ∧ IsRn w k ts E.flatten
 |[], _ => ⟨[], rfl, .nil⟩
 |c :: E, h => by
  obtain ⟨t, v, d, rfl, hv⟩ := h c (by simp);obtain ⟨ts, h1, h2⟩ := choose_ns E fun d hd => h d (by simp [hd]);exact ⟨(t, v) :: ts, by simp [h1], .cons hv h2⟩
set_option maxRecDepth 100000 in
theorem openN {fuel : Nat} {u : Value} {x : DataW H × List MemPlace} (h : DataW.trod enc Try.prog w base spare held fuel 26 [u] = some x) (hz : Sz 26 x.1) : ∃ (names : List (Nm × Vl)) (an : Option Addr) (cn : Nat) (ncs : List Value), u = .slice an names.length cn ∧ Row w (fun _ => False) an ncs ∧ IsRn w (fun _ => False) names ncs := by
 obtain ⟨a, la, ca, E, h5, hE, hlc, hby, hrow, hel⟩ := open_elems Try.underlying26 m53 (by omega) h hz;simp only [List.cons.injEq, and_true] at h5;subst h5;obtain ⟨ts, h1, h2⟩ := choose_ns (w := w) (k := fun _ => False) E fun c hc => by
  obtain ⟨y, m, hm, g1, g2⟩ := hel c hc;obtain ⟨xs, n, rfl, rfl, hlen, hxl, hg⟩ := DataW.trod_struct Try.underlying53 g1;rw [m53] at hlen
  match c, hlen, xs, hxl, hg, g2 with
  |[v0, v1, v2, v3, v4, v5, v6, v7], _, [x0, x1], _, hg, g2 =>
   have e0 : DataW.trod enc Try.prog w base spare held n 9 [v0] = some x0 := (by simpa [m9] using hg 0 _ rfl);have e1 : DataW.trod enc Try.prog w base spare held n 39 [v1, v2, v3, v4, v5, v6, v7] = some x1 := (by simpa [m39] using hg 1 _ rfl);have z0 : Sz 9 x0.1 := g2.part Try.underlying53 (i := 0) rfl rfl;have z1 : Sz 39 x1.1 := g2.part Try.underlying53 (i := 1) rfl rfl;obtain ⟨t, rfl, ht⟩ := openStr e0 z0;obtain ⟨v, f, a, c, a', c', hc, hv⟩ := openV n _ x1 e1 z1;exact ⟨t, v, _, rfl, hv⟩
 exact ⟨ts, a, ca, E.flatten, by rw [h1, hE], hrow, h2⟩
end
end Go.Proofs.Ytafhhdimjkgihaa.Mn
