/- What the program does, function by function, and what trees mean: part 35. -/
import Derived.Deep.Cut
import Derived.Test.YtafhhdimjkgihaaM30
import Derived.Test.YtafhhdimjkgihaaM34
set_option linter.unusedSimpArgs false
set_option linter.unusedVariables false
namespace Go.Proofs.Ytafhhdimjkgihaa.Mn
attribute [local go_sem ↓] Go.wp_at_zero Go.wp_at_succ
open Go.RowKit
def EvalAt (t : Tr) (R : Env → Option Vl) : Prop := ∀ (k : Nat → Prop) (wk : Nat) (env : Env) (m : Nat) (an : Option Addr) (cn : Nat) (ai : Option Addr) (ni ci : Nat) (left : Int) (over : Bool) (f : Nat) (a : Option Addr) (c : Nat) (a' : Option Addr) (c' : Nat) (p q : Int) (w : World),
 Pre k wk env m an cn ai ni ci left over w → IsT w k t (tcells t f a c a' c' p q) → Calls Try.prog 50 #[sa env.names.length wk an cn ai ni ci, ta t f a c a' c' p q] w (Evd k wk left over (R env) w)
def Deleg (n : Nat) (t : Tr) (R : Env → Option Vl) : Prop := ∀ (k : Nat → Prop) (wk : Nat) (env : Env) (m : Nat) (an : Option Addr) (cn : Nat) (ai : Option Addr) (ni ci : Nat) (left : Int) (f : Nat) (a : Option Addr) (c : Nat) (a' : Option Addr) (c' : Nat) (p q : Int) (w : World),
 Pre k wk env m an cn ai ni ci left false w → (m : Int) + 1 + left ≤ room → IsT w k t (tcells t f a c a' c' p q) → Calls Try.prog n #[sa env.names.length wk an cn ai ni ci, ta t f a c a' c' p q] w (Evd k wk left false (R env) w)
set_option maxHeartbeats 800000 in
set_option maxRecDepth 100000 in
theorem name_zero (k : Nat → Prop) (n : Nm) (a : Option Addr) (a' : Option Addr) (c n' c' : Nat) (wk : Option Addr) (w : World) :
 Calls Try.prog 59 #[.agg #[.slice a 0 c, .slice a' n' c', .pointer wk], .string (str n)] w (Found k none w) := by
 go_enter Try.func59, Try.ntmps59;go_wp2
 go_loop [6] (fun i => i = .int .i64 (-1)) (fun i => 0)
 case atStart => first | rfl | go_num
 case round =>
  obtain rfl := hrel;go_wp2;refine bodyPost_ret (v := .tuple #[zero, .bool false]) (by simp [results, Try.results59, go_sem]; try rfl) rfl ?_;exact Found.none rfl (by go_grown) rfl
theorem IsNs.nil_of {w : World} {k : Nat → Prop} {l : List (Nm × Vl)} {cs : List Value} (h : IsNs w k l cs) (hc : cs = []) : l = [] := by
 cases h with
 |nil => rfl
 |cons h hl => simp at hc
theorem name_or (k : Nat → Prop) (n : Nm) (names : List (Nm × Vl)) (a : Option Addr) (a' : Option Addr) (c n' c' : Nat) (wk : Option Addr) (cs : List Value) (w : World) (hn : names.length ≤ most)
 (hr : Row w k a cs) (hs : IsNs w k names cs) :
 Calls Try.prog 59 #[.agg #[.slice a names.length c, .slice a' n' c', .pointer wk], .string (str n)] w (Fnd k (lookup names n) w) := by
 by_cases hc : cs = []
 ·obtain rfl := hs.nil_of hc;exact (name_zero k n a a' c n' c' wk w).mono fun e w' h => h.fnd
 ·obtain ⟨b, o, rfl⟩ := hr.some_of hc;exact (name_any k n names b o a' c n' c' wk cs w hn hr hs).mono fun e w' h => h.fnd
inductive Plan (t : Tr) : (Env → Option Vl) → Prop
 |d9 (hq : t.kind = 9) (R : Env → Option Vl) (hd : Deleg 61 t R) : Plan t R
 |d10 (hq : t.kind = 10) (R : Env → Option Vl) (hd : Deleg 62 t R) : Plan t R
 |d12 (hq : t.kind = 12) (R : Env → Option Vl) (hd : Deleg 63 t R) : Plan t R
 |d15 (hq : t.kind = 15) (R : Env → Option Vl) (hd : Deleg 64 t R) : Plan t R
 |d18 (hq : t.kind = 18) (R : Env → Option Vl) (hd : Deleg 66 t R) : Plan t R
 |d20 (hq : t.kind = 20) (R : Env → Option Vl) (hd : Deleg 69 t R) : Plan t R
 |d22 (hq : t.kind = 22) (R : Env → Option Vl) (hd : Deleg 70 t R) : Plan t R
 |l8 (hq : t.kind = 8) (hok : ∀ t1 ∈ t.kids, EvalOk t1) : Plan t (fun env => (list env (Ds t.kids)).map fun l => { kind := 5, items := l })
 |l21 (hq : t.kind = 21) (hok : ∀ t1 ∈ t.kids, EvalOk t1) : Plan t (fun env => (list env (Ds t.kids)).map fun l => { kind := 5, items := l })
 |n2 (hq : t.kind = 2) : Plan t (fun env => lookup env.names t.name)
 |p17 (hq : t.kind = 17) : Plan t (pointer t.name)
 |c1 (hq : t.kind = 1) : Plan t (fun _ => some {})
 |c3 (hq : t.kind = 3) : Plan t (fun _ => some { kind := 1, int := t.int })
 |c4 (hq : t.kind = 4) : Plan t (fun _ => some { kind := 2, flt := t.flt })
 |c5 (hq : t.kind = 5) : Plan t (fun _ => some { kind := 4, bool := t.flag })
 |c6 (hq : t.kind = 6) : Plan t (fun _ => some { kind := 3, text := t.name })
 |o (hq : ∀ c ∈ [1, 2, 3, 4, 5, 6, 8, 21, 9, 10, 12, 15, 17, 18, 19, 20, 22], t.kind ≠ (c : Int)) : Plan t (fun _ => none)
set_option maxHeartbeats 25600000 in
set_option maxRecDepth 100000 in
theorem eval_plan (t : Tr) (R : Env → Option Vl) (hpl : Plan t R) : EvalAt t (R) := by
 intro k wk env m an cn ai ni ci left over f a c a' c' p q w hp ht;have zk : wk < w.heap.size := hp.lt wk hp.kw;have HP := Lib.hid hp; have HT := Lib.hid ht; have HPL := Lib.hid hpl;clear hp ht hpl;go_enter Try.func50, Try.ntmps50
 go_wp2_with fail
 go_at_call 58;apply Calls.mono
 ·exact step_any wk left 1 over _ (((HP.out.work.alloc _).alloc _).alloc _) (by omega)
 rintro e w5 ⟨left5, over5, rfl, hE5, hW5, hm5⟩;have F5 := (show F3 w wk [.slice an env.names.length cn, .slice ai ni ci, .pointer (some ⟨wk, 0, none⟩)] (tcells t f a c a' c' p q) zcells 62 25 39 _ from ⟨.of (by go_grown), ((Lb.new _ _ _).alloc _).alloc _, (Lb.new' _ _ _ (by simp)).alloc _, Lb.new' _ _ _ (by simp)⟩).call hE5 zk;have s1 := F5.b0.cell; have rt := F5.b1.cell; have r2 := F5.b2.cell; have g2 := F5.b2.frozen;have x0 : w.heap.size + 1 + 1 < w5.heap.size := F5.size;have x1 : w.heap.size + 1 < w5.heap.size := by omega
 have x2 : w.heap.size < w5.heap.size := by omega
 unfold tcells at rt;unfold zcells at r2;have HF5 := Lib.hid F5; have HW5 := Lib.hid hW5; have HM5 := Lib.hid hm5;clear F5 hW5 hm5 hE5;cases over5 with
 |true =>
  go_wp21;refine bodyPost_ret (v := .tuple #[zero, .bool false]) (by simp [results, Try.results50, go_sem, r2, g2, x0]; try rfl) rfl ?_;exact Evd.end (x := {}) (ok := false) rfl HF5.out.ext HW5.out (fun ho => by cases ho) zk (by go_grown) (zeroV _ _) fun ho => by cases ho
 |false =>
  have HMM := Lib.hid (show over = false ∧ left5 ≤ left ∧ (m : Int) + 1 + left5 ≤ room from by
   have h1 := HM5.out rfl; have h2 := HP.out.room h1.1; exact ⟨h1.1, by omega, by omega⟩)
  have hpl := HPL.out;clear HPL;rcases hpl with ⟨hq, _, hd⟩ | ⟨hq, _, hd⟩ | ⟨hq, _, hd⟩ | ⟨hq, _, hd⟩ | ⟨hq, _, hd⟩ | ⟨hq, _, hd⟩ | ⟨hq, _, hd⟩ | ⟨hq, hok⟩ | ⟨hq, hok⟩ | ⟨hq⟩ | ⟨hq⟩ | ⟨hq⟩ | ⟨hq⟩ | ⟨hq⟩ | ⟨hq⟩ | ⟨hq⟩ | ⟨hq⟩
  all_goals
   first |have kk1 : (t.kind == 1) = true := by rw [hq]; rfl |have kk1 : (t.kind == 1) = false := by rw [hq]; rfl |have kk1 : (t.kind == 1) = false := by simpa using hq 1 (by simp)
   first |have kk2 : (t.kind == 2) = true := by rw [hq]; rfl |have kk2 : (t.kind == 2) = false := by rw [hq]; rfl |have kk2 : (t.kind == 2) = false := by simpa using hq 2 (by simp)
   first |have kk3 : (t.kind == 3) = true := by rw [hq]; rfl |have kk3 : (t.kind == 3) = false := by rw [hq]; rfl |have kk3 : (t.kind == 3) = false := by simpa using hq 3 (by simp)
   first |have kk4 : (t.kind == 4) = true := by rw [hq]; rfl |have kk4 : (t.kind == 4) = false := by rw [hq]; rfl |have kk4 : (t.kind == 4) = false := by simpa using hq 4 (by simp)
   first |have kk5 : (t.kind == 5) = true := by rw [hq]; rfl |have kk5 : (t.kind == 5) = false := by rw [hq]; rfl |have kk5 : (t.kind == 5) = false := by simpa using hq 5 (by simp)
   first |have kk6 : (t.kind == 6) = true := by rw [hq]; rfl |have kk6 : (t.kind == 6) = false := by rw [hq]; rfl |have kk6 : (t.kind == 6) = false := by simpa using hq 6 (by simp)
   first |have kk8 : (t.kind == 8) = true := by rw [hq]; rfl |have kk8 : (t.kind == 8) = false := by rw [hq]; rfl |have kk8 : (t.kind == 8) = false := by simpa using hq 8 (by simp)
   first |have kk21 : (t.kind == 21) = true := by rw [hq]; rfl |have kk21 : (t.kind == 21) = false := by rw [hq]; rfl |have kk21 : (t.kind == 21) = false := by simpa using hq 21 (by simp)
   first |have kk9 : (t.kind == 9) = true := by rw [hq]; rfl |have kk9 : (t.kind == 9) = false := by rw [hq]; rfl |have kk9 : (t.kind == 9) = false := by simpa using hq 9 (by simp)
   first |have kk10 : (t.kind == 10) = true := by rw [hq]; rfl |have kk10 : (t.kind == 10) = false := by rw [hq]; rfl |have kk10 : (t.kind == 10) = false := by simpa using hq 10 (by simp)
   first |have kk12 : (t.kind == 12) = true := by rw [hq]; rfl |have kk12 : (t.kind == 12) = false := by rw [hq]; rfl |have kk12 : (t.kind == 12) = false := by simpa using hq 12 (by simp)
   first |have kk15 : (t.kind == 15) = true := by rw [hq]; rfl |have kk15 : (t.kind == 15) = false := by rw [hq]; rfl |have kk15 : (t.kind == 15) = false := by simpa using hq 15 (by simp)
   first |have kk17 : (t.kind == 17) = true := by rw [hq]; rfl |have kk17 : (t.kind == 17) = false := by rw [hq]; rfl |have kk17 : (t.kind == 17) = false := by simpa using hq 17 (by simp)
   first |have kk18 : (t.kind == 18) = true := by rw [hq]; rfl |have kk18 : (t.kind == 18) = false := by rw [hq]; rfl |have kk18 : (t.kind == 18) = false := by simpa using hq 18 (by simp)
   first |have kk19 : (t.kind == 19) = true := by rw [hq]; rfl |have kk19 : (t.kind == 19) = false := by rw [hq]; rfl |have kk19 : (t.kind == 19) = false := by simpa using hq 19 (by simp)
   first |have kk20 : (t.kind == 20) = true := by rw [hq]; rfl |have kk20 : (t.kind == 20) = false := by rw [hq]; rfl |have kk20 : (t.kind == 20) = false := by simpa using hq 20 (by simp)
   first |have kk22 : (t.kind == 22) = true := by rw [hq]; rfl |have kk22 : (t.kind == 22) = false := by rw [hq]; rfl |have kk22 : (t.kind == 22) = false := by simpa using hq 22 (by simp)
   clear hq
  iterate 7 focus
   have HD := Lib.hid hd; clear hd
   go_wp2_with fail
   first |go_at_call 61 |go_at_call 62 |go_at_call 63 |go_at_call 64 |go_at_call 66 |go_at_call 69 |go_at_call 70
   apply Calls.mono
   ·exact HD.out (Xr k (w.heap.size + 1 + 1)) wk env m an cn ai ni ci left5 _ _ _ _ _ _ _ _ (show Pre (Xr k (w.heap.size + 1 + 1)) wk env m an cn ai ni ci left5 false w5 from HP.out.next HF5.out.ext (fun b h => .inl h) (fun b h => h.imp id fun h => by omega) (fun b h => by rcases h with h | h; (have := HP.out.lt b h; omega); omega) HW5.out (fun ho => ⟨HMM.out.1, HMM.out.2.1⟩)) HMM.out.2.2 ((HT.out.other fun b h => h.imp id fun h => by omega).ext (HF5.out.ext.weak fun b hb => by rw [hb]; exact .inl HP.out.kw) (Nat.le_refl _))
   rintro e w10 ⟨y, f4, a4, c4, a5, c5, ok7, left7, over7, rfl, hE10, hW10, hm10, hV10, hr10⟩;have F10 := HF5.out.call hE10 zk;clear s1 rt r2 g2 x0 x1 x2;have r2 := F10.b2.cell; have g2 := F10.b2.frozen; have x0 := F10.size;unfold zcells at r2;have HF10 := Lib.hid F10; have HR10 := Lib.hid hr10; have HV10 := Lib.hid hV10; have HM10 := Lib.hid hm10; have HW10 := Lib.hid hW10;clear F10 hr10 hV10 hE10 hW10 hm10;go_wp21;refine bodyPost_ret (v := .tuple #[va y f4 a4 c4 a5 c5, .bool ok7]) (by simp [results, Try.results50, go_sem, r2, g2, x0]; try rfl) rfl ?_;exact Evd.end (x := y) (ok := ok7) rfl HF10.out.ext HW10.out (fun ho => ⟨HMM.out.1, Int.le_trans (HM10.out ho).2 HMM.out.2.1⟩) zk (by go_grown) (HV10.out.stored y f4 a4 c4 a5 c5) fun ho => HR10.out ho
  iterate 2 focus
   obtain ⟨ks, hrow, hts⟩ := (show IsT w5 (Xr k (w.heap.size + 1 + 1)) t (tcells t f a c a' c' p q) from ((HT.out.other fun b h => h.imp id fun h => by omega).ext (HF5.out.ext.weak fun b hb => by rw [hb]; exact .inl HP.out.kw) (Nat.le_refl _))).inv.2.2.2.2.2.2.2.1;have HOK := Lib.hid hok; clear hok;have HRT := Lib.hid (And.intro hrow (And.intro hts HT.out.inv.2.2.2.2.2.1));clear hrow hts
   go_wp2_with fail
   go_at_call 60;apply Calls.mono
   ·exact list_any t.kids HOK.out (Xr k (w.heap.size + 1 + 1)) wk env m an cn ai ni ci left5 false a c ks _ (show Pre (Xr k (w.heap.size + 1 + 1)) wk env m an cn ai ni ci left5 false w5 from HP.out.next HF5.out.ext (fun b h => .inl h) (fun b h => h.imp id fun h => by omega) (fun b h => by rcases h with h | h; (have := HP.out.lt b h; omega); omega) HW5.out (fun ho => ⟨HMM.out.1, HMM.out.2.1⟩)) HRT.out.2.2 HRT.out.1 HRT.out.2.1
   rintro e w10 ⟨y, f4, a4, c4, a5, c5, ok7, left7, over7, rfl, hE10, hW10, hm10, hV10, hr10⟩;have F10 := HF5.out.call hE10 zk;clear s1 rt r2 g2 x0 x1 x2;have r2 := F10.b2.cell; have g2 := F10.b2.frozen; have x0 := F10.size;unfold zcells at r2;have HF10 := Lib.hid F10; have HR10 := Lib.hid hr10; have HV10 := Lib.hid hV10; have HM10 := Lib.hid hm10; have HW10 := Lib.hid hW10;clear F10 hr10 hV10 hE10 hW10 hm10;go_wp21;refine bodyPost_ret (v := .tuple #[va y f4 a4 c4 a5 c5, .bool ok7]) (by simp [results, Try.results50, go_sem, r2, g2, x0]; try rfl) rfl ?_;exact Evd.end (x := y) (ok := ok7) rfl HF10.out.ext HW10.out (fun ho => ⟨HMM.out.1, Int.le_trans (HM10.out ho).2 HMM.out.2.1⟩) zk (by go_grown) (HV10.out.stored y f4 a4 c4 a5 c5) fun ho => HR10.out ho
  ·have hsc := (show Pre (Xr k (w.heap.size + 1 + 1)) wk env m an cn ai ni ci left5 false w5 from HP.out.next HF5.out.ext (fun b h => .inl h) (fun b h => h.imp id fun h => by omega) (fun b h => by rcases h with h | h; (have := HP.out.lt b h; omega); omega) HW5.out (fun ho => ⟨HMM.out.1, HMM.out.2.1⟩)).sc
   obtain ⟨items, ncs, ics, rfl, hn1, hn2, _, _, _, hn3, _⟩ := hsc;have hmm : m ≤ 1099511627776 := (by have h1 := HMM.out.2.2; have h2 := HW5.out.2.2 rfl; unfold room at h1; omega);have hnm : env.names.length ≤ most := (by unfold most; omega);have HN := Lib.hid (And.intro hn1 hn2);clear hn1 hn2
   go_wp2_with fail
   go_at_call 59;apply Calls.mono
   ·exact name_or (Xr k (w.heap.size + 1 + 1)) t.name env.names an ai cn items.length ci (some ⟨wk, 0, none⟩) ncs _ hnm HN.out.1 HN.out.2
   rintro e w10 ⟨y, f4, a4, c4, a5, c5, ok7, rfl, hb10, hV10, hr10⟩;have F10 := HF5.out.calls hb10 zk;have HW10 := Lib.hid (HW5.out.below hb10 (by omega));clear s1 rt r2 g2 x0 x1 x2;have r2 := F10.b2.cell; have g2 := F10.b2.frozen; have x0 := F10.size;unfold zcells at r2;have HF10 := Lib.hid F10; have HR10 := Lib.hid hr10; have HV10 := Lib.hid hV10;clear F10 hr10 hV10 hb10;go_wp21;refine bodyPost_ret (v := .tuple #[va y f4 a4 c4 a5 c5, .bool ok7]) (by simp [results, Try.results50, go_sem, r2, g2, x0]; try rfl) rfl ?_;exact Evd.end (x := y) (ok := ok7) rfl HF10.out.ext HW10.out (fun ho => ⟨HMM.out.1, HMM.out.2.1⟩) zk (by go_grown) (HV10.out.stored y f4 a4 c4 a5 c5) fun ho => HR10.out
  ·have hmm : m ≤ 1099511627776 := by have h1 := HMM.out.2.2; have h2 := HW5.out.2.2 rfl; unfold room at h1; omega
   go_wp2_with fail
   go_at_call 65;apply Calls.mono
   ·exact pointer_any t (Xr k (w.heap.size + 1 + 1)) wk env m an cn ai ni ci _ _ _ _ _ _ _ _ (show Pre (Xr k (w.heap.size + 1 + 1)) wk env m an cn ai ni ci left5 false w5 from HP.out.next HF5.out.ext (fun b h => .inl h) (fun b h => h.imp id fun h => by omega) (fun b h => by rcases h with h | h; (have := HP.out.lt b h; omega); omega) HW5.out (fun ho => ⟨HMM.out.1, HMM.out.2.1⟩)).sc hmm
   rintro e w10 ⟨y, f4, a4, c4, a5, c5, ok7, rfl, hb10, hV10, hr10⟩;have F10 := HF5.out.calls hb10 zk;have HW10 := Lib.hid (HW5.out.below hb10 (by omega));clear s1 rt r2 g2 x0 x1 x2;have r2 := F10.b2.cell; have g2 := F10.b2.frozen; have x0 := F10.size;unfold zcells at r2;have HF10 := Lib.hid F10; have HR10 := Lib.hid hr10; have HV10 := Lib.hid hV10;clear F10 hr10 hV10 hb10;go_wp21;refine bodyPost_ret (v := .tuple #[va y f4 a4 c4 a5 c5, .bool ok7]) (by simp [results, Try.results50, go_sem, r2, g2, x0]; try rfl) rfl ?_;exact Evd.end (x := y) (ok := ok7) rfl HF10.out.ext HW10.out (fun ho => ⟨HMM.out.1, HMM.out.2.1⟩) zk (by go_grown) (HV10.out.stored y f4 a4 c4 a5 c5) fun ho => HR10.out
  ·go_wp21;refine bodyPost_ret (v := .tuple #[.agg #[.int .i64 0, .int .i64 0, .float .f64 0, .string ⟨#[]⟩, .bool false, .slice none 0 0, .slice none 0 0], .bool true]) (by simp [results, Try.results50, go_sem, r2, g2, x0]; try rfl) rfl ?_;exact Evd.end (x := {}) (f := 0) (a := none) (c := 0) (a' := none) (c' := 0) (ok := true) rfl HF5.out.ext HW5.out (fun ho => ⟨HMM.out.1, HMM.out.2.1⟩) zk (by go_grown) (zeroV _ _) fun ho => rfl
  ·go_wp21;refine bodyPost_ret (v := .tuple #[.agg #[.int .i64 1, .int .i64 t.int, .float .f64 0, .string ⟨#[]⟩, .bool false, .slice none 0 0, .slice none 0 0], .bool true]) (by simp [results, Try.results50, go_sem, r2, g2, x0]; try rfl) rfl ?_;exact Evd.end (x := { kind := 1, int := t.int }) (f := 0) (a := none) (c := 0) (a' := none) (c' := 0) (ok := true) rfl HF5.out.ext HW5.out (fun ho => ⟨HMM.out.1, HMM.out.2.1⟩) zk (by go_grown) (IsV.flat _ _ _ _ cn_zero .one HT.out.inv.2.2.1 (by simp) rfl rfl) fun ho => rfl
  ·go_wp21;refine bodyPost_ret (v := .tuple #[.agg #[.int .i64 2, .int .i64 0, .float .f64 f, .string ⟨#[]⟩, .bool false, .slice none 0 0, .slice none 0 0], .bool true]) (by simp [results, Try.results50, go_sem, r2, g2, x0]; try rfl) rfl ?_;exact Evd.end (x := { kind := 2, flt := t.flt }) (f := f) (a := none) (c := 0) (a' := none) (c' := 0) (ok := true) rfl HF5.out.ext HW5.out (fun ho => ⟨HMM.out.1, HMM.out.2.1⟩) zk (by go_grown) (IsV.flat _ _ _ _ HT.out.inv.1 .two .zero (by simp) rfl rfl) fun ho => rfl
  ·go_wp21;refine bodyPost_ret (v := .tuple #[.agg #[.int .i64 4, .int .i64 0, .float .f64 0, .string ⟨#[]⟩, .bool t.flag, .slice none 0 0, .slice none 0 0], .bool true]) (by simp [results, Try.results50, go_sem, r2, g2, x0]; try rfl) rfl ?_;exact Evd.end (x := { kind := 4, bool := t.flag }) (f := 0) (a := none) (c := 0) (a' := none) (c' := 0) (ok := true) rfl HF5.out.ext HW5.out (fun ho => ⟨HMM.out.1, HMM.out.2.1⟩) zk (by go_grown) (IsV.flat _ _ _ _ cn_zero .four .zero (by simp) rfl rfl) fun ho => rfl
  ·go_wp21;refine bodyPost_ret (v := .tuple #[.agg #[.int .i64 3, .int .i64 0, .float .f64 0, .string (str t.name), .bool false, .slice none 0 0, .slice none 0 0], .bool true]) (by simp [results, Try.results50, go_sem, r2, g2, x0]; try rfl) rfl ?_;exact Evd.end (x := { kind := 3, text := t.name }) (f := 0) (a := none) (c := 0) (a' := none) (c' := 0) (ok := true) rfl HF5.out.ext HW5.out (fun ho => ⟨HMM.out.1, HMM.out.2.1⟩) zk (by go_grown) (IsV.flat _ _ _ _ cn_zero (show I64 3 from ⟨by omega, by omega⟩) .zero HT.out.inv.2.2.2.2.1 rfl rfl) fun ho => rfl
  ·go_wp21;refine bodyPost_ret (v := .tuple #[zero, .bool false]) (by simp [results, Try.results50, go_sem, r2, g2, x0]; try rfl) rfl ?_;exact Evd.end (x := {}) (ok := false) rfl HF5.out.ext HW5.out (fun ho => ⟨HMM.out.1, HMM.out.2.1⟩) zk (by go_grown) (zeroV _ _) fun ho => rfl
end Go.Proofs.Ytafhhdimjkgihaa.Mn
