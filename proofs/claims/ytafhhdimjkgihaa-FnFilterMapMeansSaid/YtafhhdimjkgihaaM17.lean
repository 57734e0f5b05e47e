/- What the program does, function by function, and what trees mean: part 17. -/
import Derived.Test.YtafhhdimjkgihaaM12
set_option linter.unusedSimpArgs false
set_option linter.unusedVariables false
namespace Go.Proofs.Ytafhhdimjkgihaa.Mn
section
attribute [local go_sem ↓] Go.wp_at_zero Go.wp_at_succ
open Go.RowKit
@[go_sem] theorem field69_0 (p q : Int) (w : World) : Sem.run Try.prog (Instr.field 69 (.agg #[.int .i64 p, .int .i64 q]) 0) w = .ok (.int .i64 p) w := by
 unfold Instr.field; simp [run_underlying Try.underlying69, go_sem, asAgg]
@[go_sem] theorem field69_1 (p q : Int) (w : World) : Sem.run Try.prog (Instr.field 69 (.agg #[.int .i64 p, .int .i64 q]) 1) w = .ok (.int .i64 q) w := by
 unfold Instr.field; simp [run_underlying Try.underlying69, go_sem, asAgg]
def alv (t : Tr) (f : Nat) (p q : Int) : Value := .agg #[.int .i64 t.kind, .string (str t.name), .int .i64 t.int, .float .f64 f, .bool t.flag, .bool t.method, .bool t.limited, .int .i64 t.limit, .slice none 0 0, .slice none 0 0, .int .i64 p, .int .i64 q]
def Al (t : Tr) (p q : Int) (w : World) (e : Ending) (w' : World) : Prop := ∃ f, cn f = t.flt ∧ e = .returned (alv t f p q) ∧ Below w.heap.size w w'
set_option maxHeartbeats 6400000 in
set_option maxRecDepth 100000 in
theorem alone_s (t : Tr) (ty : Nat) (hk : t.kind = 2 ∧ ty = 144 ∨ t.kind = 6 ∧ ty = 156 ∨ t.kind = 9 ∧ ty = 82 ∨ t.kind = 10 ∧ ty = 85 ∨ t.kind = 17 ∧ ty = 166 ∨ t.kind = 19 ∧ ty = 108) (w : World) (b f : Nat) (p q : Int) (mid : List Value) (m th : Value) (hx : Hx t f p q) (hb : Lb w b (acells t f p q mid m th) (sty t.kind)) : Calls Try.prog 55 #[nv t.kind b] w (Al t p q w) := by
 have hpt : pty t.kind = ty := by rcases hk with ⟨hk, rfl⟩ | ⟨hk, rfl⟩ | ⟨hk, rfl⟩ | ⟨hk, rfl⟩ | ⟨hk, rfl⟩ | ⟨hk, rfl⟩ <;> (rw [hk]; rfl)
 have hac : ∀ m th, acells t f p q mid m th = .int .i64 p :: .int .i64 q :: .string (str t.name) :: (mid ++ tailC t m th) := fun m th => by rcases hk with ⟨hk, rfl⟩ | ⟨hk, rfl⟩ | ⟨hk, rfl⟩ | ⟨hk, rfl⟩ | ⟨hk, rfl⟩ | ⟨hk, rfl⟩ <;> simp [acells, headC, tailC, named, hk]
 rw [show nv t.kind b = .iface ty (.pointer (some ⟨b, 0, none⟩)) by rw [nv, hpt]];have hd1 := fun n w => disp_loc (k := t.kind) (by unfold okk; omega) n w b;rw [hpt] at hd1;have HB := Lib.hid hb; have HX := Lib.hid hx; have HAC := Lib.hid hac;have zb := hb.lt;clear hb hx hpt hac;rcases hk with ⟨hk, rfl⟩ | ⟨hk, rfl⟩ | ⟨hk, rfl⟩ | ⟨hk, rfl⟩ | ⟨hk, rfl⟩ | ⟨hk, rfl⟩
 all_goals
  have HK := Lib.hid hk;clear hk;go_enter Try.func55, Try.ntmps55
  go_wp2_with fail
  have hL := HB.out;rw [HAC.out] at hL;have HL := Lib.hid hL;clear hL;apply Calls.mono
  ·exact loc_any b p q _ _ _ (HL.out.alloc _)
  rintro e1 w1 ⟨rfl, hb1⟩;have HB1 := Lib.hid hb1;have HL1 := Lib.hid ((HL.out.alloc _).below hb1 (by simp; omega));have HR1 := Lib.hid ((Lb.new' w ztcells 25 rfl).below hb1 (by simp));clear hb1
  go_wp2_with fail
  apply Calls.mono
  ·exact loc_any b p q _ _ _ HL1.out
  rintro e2 w2 ⟨rfl, hb2⟩;have HB2 := Lib.hid (show Below w.heap.size w w2 from Below.trans (by go_grown) ((HB1.out.trans (hb2.mono HB1.out.size)).mono (by simp)));have hL2 := HL1.out.below hb2 HL1.out.lt;have hR2 := HR1.out.below hb2 HR1.out.lt;have HL2 := Lib.hid hL2; have HR2 := Lib.hid hR2;have n0 := hL2.cell; have zn := hL2.lt; have c0 := hR2.cell; have c1 := hR2.frozen; have zc := hR2.lt; have hne : b ≠ w.heap.size := by omega
  unfold ztcells at c0;clear hb2 hL2 hR2 HL1 HR1 HL HB1 zb
  go_wp2_with fail
  go_region
  all_goals
   (try go_wp21)
   refine bodyPost_ret (v := .agg #[.int .i64 t.kind, .string (str t.name), .int .i64 0, .float .f64 0, .bool false, .bool false, .bool false, .int .i64 0, .slice none 0 0, .slice none 0 0, .int .i64 p, .int .i64 q]) (by simp [results, Try.results55, go_sem, c0, c1, zc, HK.out]; try rfl) rfl ?_;obtain ⟨s1, s2, s3, s4, s5, s6, s7, s8⟩ := strike_parts HX.out.hn;refine ⟨0, by rw [s3 (by rw [HK.out]; decide)]; exact cn_zero, ?_, ?_⟩
   ·simp [alv, HK.out, s1, s2, s3, s4, s5, s6, s7, named, str]
   ·exact HB2.out.trans (by go_grown)
set_option maxHeartbeats 6400000 in
set_option maxRecDepth 100000 in
theorem alone_b (t : Tr) (ty : Nat) (hk : t.kind = 5 ∧ ty = 153 ∨ t.kind = 18 ∧ ty = 105) (w : World) (b f : Nat) (p q : Int) (mid : List Value) (m th : Value) (hx : Hx t f p q) (hb : Lb w b (acells t f p q mid m th) (sty t.kind)) : Calls Try.prog 55 #[nv t.kind b] w (Al t p q w) := by
 have hpt : pty t.kind = ty := by rcases hk with ⟨hk, rfl⟩ | ⟨hk, rfl⟩ <;> (rw [hk]; rfl)
 have hac : ∀ m th, acells t f p q mid m th = .int .i64 p :: .int .i64 q :: .bool t.flag :: (mid ++ tailC t m th) := fun m th => by rcases hk with ⟨hk, rfl⟩ | ⟨hk, rfl⟩ <;> simp [acells, headC, tailC, named, hk]
 rw [show nv t.kind b = .iface ty (.pointer (some ⟨b, 0, none⟩)) by rw [nv, hpt]];have hd1 := fun n w => disp_loc (k := t.kind) (by unfold okk; omega) n w b;rw [hpt] at hd1;have HB := Lib.hid hb; have HX := Lib.hid hx; have HAC := Lib.hid hac;have zb := hb.lt;clear hb hx hpt hac;rcases hk with ⟨hk, rfl⟩ | ⟨hk, rfl⟩
 all_goals
  have HK := Lib.hid hk;clear hk;go_enter Try.func55, Try.ntmps55
  go_wp2_with fail
  have hL := HB.out;rw [HAC.out] at hL;have HL := Lib.hid hL;clear hL;apply Calls.mono
  ·exact loc_any b p q _ _ _ (HL.out.alloc _)
  rintro e1 w1 ⟨rfl, hb1⟩;have HB1 := Lib.hid hb1;have HL1 := Lib.hid ((HL.out.alloc _).below hb1 (by simp; omega));have HR1 := Lib.hid ((Lb.new' w ztcells 25 rfl).below hb1 (by simp));clear hb1
  go_wp2_with fail
  apply Calls.mono
  ·exact loc_any b p q _ _ _ HL1.out
  rintro e2 w2 ⟨rfl, hb2⟩;have HB2 := Lib.hid (show Below w.heap.size w w2 from Below.trans (by go_grown) ((HB1.out.trans (hb2.mono HB1.out.size)).mono (by simp)));have hL2 := HL1.out.below hb2 HL1.out.lt;have hR2 := HR1.out.below hb2 HR1.out.lt;have HL2 := Lib.hid hL2; have HR2 := Lib.hid hR2;have n0 := hL2.cell; have zn := hL2.lt; have c0 := hR2.cell; have c1 := hR2.frozen; have zc := hR2.lt; have hne : b ≠ w.heap.size := by omega
  unfold ztcells at c0;clear hb2 hL2 hR2 HL1 HR1 HL HB1 zb
  go_wp2_with fail
  go_region
  all_goals
   (try go_wp21)
   refine bodyPost_ret (v := .agg #[.int .i64 t.kind, .string ⟨#[]⟩, .int .i64 0, .float .f64 0, .bool t.flag, .bool false, .bool false, .int .i64 0, .slice none 0 0, .slice none 0 0, .int .i64 p, .int .i64 q]) (by simp [results, Try.results55, go_sem, c0, c1, zc, HK.out]; try rfl) rfl ?_;obtain ⟨s1, s2, s3, s4, s5, s6, s7, s8⟩ := strike_parts HX.out.hn;refine ⟨0, by rw [s3 (by rw [HK.out]; decide)]; exact cn_zero, ?_, ?_⟩
   ·simp [alv, HK.out, s1, s2, s3, s4, s5, s6, s7, named, str]
   ·exact HB2.out.trans (by go_grown)
set_option maxHeartbeats 6400000 in
set_option maxRecDepth 100000 in
theorem alone_i (t : Tr) (ty : Nat) (hk : t.kind = 3 ∧ ty = 147) (w : World) (b f : Nat) (p q : Int) (mid : List Value) (m th : Value) (hx : Hx t f p q) (hb : Lb w b (acells t f p q mid m th) (sty t.kind)) : Calls Try.prog 55 #[nv t.kind b] w (Al t p q w) := by
 have hpt : pty t.kind = ty := by rcases hk with ⟨hk, rfl⟩ <;> (rw [hk]; rfl)
 have hac : ∀ m th, acells t f p q mid m th = .int .i64 p :: .int .i64 q :: .int .i64 t.int :: (mid ++ tailC t m th) := fun m th => by rcases hk with ⟨hk, rfl⟩ <;> simp [acells, headC, tailC, named, hk]
 rw [show nv t.kind b = .iface ty (.pointer (some ⟨b, 0, none⟩)) by rw [nv, hpt]];have hd1 := fun n w => disp_loc (k := t.kind) (by unfold okk; omega) n w b;rw [hpt] at hd1;have HB := Lib.hid hb; have HX := Lib.hid hx; have HAC := Lib.hid hac;have zb := hb.lt;clear hb hx hpt hac;rcases hk with ⟨hk, rfl⟩
 all_goals
  have HK := Lib.hid hk;clear hk;go_enter Try.func55, Try.ntmps55
  go_wp2_with fail
  have hL := HB.out;rw [HAC.out] at hL;have HL := Lib.hid hL;clear hL;apply Calls.mono
  ·exact loc_any b p q _ _ _ (HL.out.alloc _)
  rintro e1 w1 ⟨rfl, hb1⟩;have HB1 := Lib.hid hb1;have HL1 := Lib.hid ((HL.out.alloc _).below hb1 (by simp; omega));have HR1 := Lib.hid ((Lb.new' w ztcells 25 rfl).below hb1 (by simp));clear hb1
  go_wp2_with fail
  apply Calls.mono
  ·exact loc_any b p q _ _ _ HL1.out
  rintro e2 w2 ⟨rfl, hb2⟩;have HB2 := Lib.hid (show Below w.heap.size w w2 from Below.trans (by go_grown) ((HB1.out.trans (hb2.mono HB1.out.size)).mono (by simp)));have hL2 := HL1.out.below hb2 HL1.out.lt;have hR2 := HR1.out.below hb2 HR1.out.lt;have HL2 := Lib.hid hL2; have HR2 := Lib.hid hR2;have n0 := hL2.cell; have zn := hL2.lt; have c0 := hR2.cell; have c1 := hR2.frozen; have zc := hR2.lt; have hne : b ≠ w.heap.size := by omega
  unfold ztcells at c0;clear hb2 hL2 hR2 HL1 HR1 HL HB1 zb
  go_wp2_with fail
  go_region
  all_goals
   (try go_wp21)
   refine bodyPost_ret (v := .agg #[.int .i64 t.kind, .string ⟨#[]⟩, .int .i64 t.int, .float .f64 0, .bool false, .bool false, .bool false, .int .i64 0, .slice none 0 0, .slice none 0 0, .int .i64 p, .int .i64 q]) (by simp [results, Try.results55, go_sem, c0, c1, zc, HK.out]; try rfl) rfl ?_;obtain ⟨s1, s2, s3, s4, s5, s6, s7, s8⟩ := strike_parts HX.out.hn;refine ⟨0, by rw [s3 (by rw [HK.out]; decide)]; exact cn_zero, ?_, ?_⟩
   ·simp [alv, HK.out, s1, s2, s3, s4, s5, s6, s7, named, str]
   ·exact HB2.out.trans (by go_grown)
set_option maxHeartbeats 6400000 in
set_option maxRecDepth 100000 in
theorem alone_f (t : Tr) (ty : Nat) (hk : t.kind = 4 ∧ ty = 150) (w : World) (b f : Nat) (p q : Int) (mid : List Value) (m th : Value) (hx : Hx t f p q) (hb : Lb w b (acells t f p q mid m th) (sty t.kind)) : Calls Try.prog 55 #[nv t.kind b] w (Al t p q w) := by
 have hpt : pty t.kind = ty := by rcases hk with ⟨hk, rfl⟩ <;> (rw [hk]; rfl)
 have hac : ∀ m th, acells t f p q mid m th = .int .i64 p :: .int .i64 q :: .float .f64 f :: (mid ++ tailC t m th) := fun m th => by rcases hk with ⟨hk, rfl⟩ <;> simp [acells, headC, tailC, named, hk]
 rw [show nv t.kind b = .iface ty (.pointer (some ⟨b, 0, none⟩)) by rw [nv, hpt]];have hd1 := fun n w => disp_loc (k := t.kind) (by unfold okk; omega) n w b;rw [hpt] at hd1;have HB := Lib.hid hb; have HX := Lib.hid hx; have HAC := Lib.hid hac;have zb := hb.lt;clear hb hx hpt hac;rcases hk with ⟨hk, rfl⟩
 all_goals
  have HK := Lib.hid hk;clear hk;go_enter Try.func55, Try.ntmps55
  go_wp2_with fail
  have hL := HB.out;rw [HAC.out] at hL;have HL := Lib.hid hL;clear hL;apply Calls.mono
  ·exact loc_any b p q _ _ _ (HL.out.alloc _)
  rintro e1 w1 ⟨rfl, hb1⟩;have HB1 := Lib.hid hb1;have HL1 := Lib.hid ((HL.out.alloc _).below hb1 (by simp; omega));have HR1 := Lib.hid ((Lb.new' w ztcells 25 rfl).below hb1 (by simp));clear hb1
  go_wp2_with fail
  apply Calls.mono
  ·exact loc_any b p q _ _ _ HL1.out
  rintro e2 w2 ⟨rfl, hb2⟩;have HB2 := Lib.hid (show Below w.heap.size w w2 from Below.trans (by go_grown) ((HB1.out.trans (hb2.mono HB1.out.size)).mono (by simp)));have hL2 := HL1.out.below hb2 HL1.out.lt;have hR2 := HR1.out.below hb2 HR1.out.lt;have HL2 := Lib.hid hL2; have HR2 := Lib.hid hR2;have n0 := hL2.cell; have zn := hL2.lt; have c0 := hR2.cell; have c1 := hR2.frozen; have zc := hR2.lt; have hne : b ≠ w.heap.size := by omega
  unfold ztcells at c0;clear hb2 hL2 hR2 HL1 HR1 HL HB1 zb
  go_wp2_with fail
  go_region
  all_goals
   (try go_wp21)
   refine bodyPost_ret (v := .agg #[.int .i64 t.kind, .string ⟨#[]⟩, .int .i64 0, .float .f64 f, .bool false, .bool false, .bool false, .int .i64 0, .slice none 0 0, .slice none 0 0, .int .i64 p, .int .i64 q]) (by simp [results, Try.results55, go_sem, c0, c1, zc, HK.out]; try rfl) rfl ?_;obtain ⟨s1, s2, s3, s4, s5, s6, s7, s8⟩ := strike_parts HX.out.hn;refine ⟨f, HX.out.hf, ?_, ?_⟩
   ·simp [alv, HK.out, s1, s2, s3, s4, s5, s6, s7, named, str]
   ·exact HB2.out.trans (by go_grown)
set_option maxHeartbeats 6400000 in
set_option maxRecDepth 100000 in
theorem alone_n (t : Tr) (ty : Nat) (hk : t.kind = 1 ∧ ty = 141 ∨ t.kind = 8 ∧ ty = 76 ∨ t.kind = 16 ∧ ty = 103 ∨ t.kind = 20 ∧ ty = 111 ∨ t.kind = 21 ∧ ty = 114 ∨ t.kind = 22 ∧ ty = 116 ∨ t.kind = 23 ∧ ty = 119) (w : World) (b f : Nat) (p q : Int) (mid : List Value) (m th : Value) (hx : Hx t f p q) (hb : Lb w b (acells t f p q mid m th) (sty t.kind)) : Calls Try.prog 55 #[nv t.kind b] w (Al t p q w) := by
 have hpt : pty t.kind = ty := by rcases hk with ⟨hk, rfl⟩ | ⟨hk, rfl⟩ | ⟨hk, rfl⟩ | ⟨hk, rfl⟩ | ⟨hk, rfl⟩ | ⟨hk, rfl⟩ | ⟨hk, rfl⟩ <;> (rw [hk]; rfl)
 have hac : ∀ m th, acells t f p q mid m th = .int .i64 p :: .int .i64 q :: (mid ++ tailC t m th) := fun m th => by rcases hk with ⟨hk, rfl⟩ | ⟨hk, rfl⟩ | ⟨hk, rfl⟩ | ⟨hk, rfl⟩ | ⟨hk, rfl⟩ | ⟨hk, rfl⟩ | ⟨hk, rfl⟩ <;> simp [acells, headC, tailC, named, hk]
 rw [show nv t.kind b = .iface ty (.pointer (some ⟨b, 0, none⟩)) by rw [nv, hpt]];have hd1 := fun n w => disp_loc (k := t.kind) (by unfold okk; omega) n w b;rw [hpt] at hd1;have HB := Lib.hid hb; have HX := Lib.hid hx; have HAC := Lib.hid hac;have zb := hb.lt;clear hb hx hpt hac;rcases hk with ⟨hk, rfl⟩ | ⟨hk, rfl⟩ | ⟨hk, rfl⟩ | ⟨hk, rfl⟩ | ⟨hk, rfl⟩ | ⟨hk, rfl⟩ | ⟨hk, rfl⟩
 all_goals
  have HK := Lib.hid hk;clear hk;go_enter Try.func55, Try.ntmps55
  go_wp2_with fail
  have hL := HB.out;rw [HAC.out] at hL;have HL := Lib.hid hL;clear hL;apply Calls.mono
  ·exact loc_any b p q _ _ _ (HL.out.alloc _)
  rintro e1 w1 ⟨rfl, hb1⟩;have HB1 := Lib.hid hb1;have HL1 := Lib.hid ((HL.out.alloc _).below hb1 (by simp; omega));have HR1 := Lib.hid ((Lb.new' w ztcells 25 rfl).below hb1 (by simp));clear hb1
  go_wp2_with fail
  apply Calls.mono
  ·exact loc_any b p q _ _ _ HL1.out
  rintro e2 w2 ⟨rfl, hb2⟩;have HB2 := Lib.hid (show Below w.heap.size w w2 from Below.trans (by go_grown) ((HB1.out.trans (hb2.mono HB1.out.size)).mono (by simp)));have hL2 := HL1.out.below hb2 HL1.out.lt;have hR2 := HR1.out.below hb2 HR1.out.lt;have HL2 := Lib.hid hL2; have HR2 := Lib.hid hR2;have n0 := hL2.cell; have zn := hL2.lt; have c0 := hR2.cell; have c1 := hR2.frozen; have zc := hR2.lt; have hne : b ≠ w.heap.size := by omega
  unfold ztcells at c0;clear hb2 hL2 hR2 HL1 HR1 HL HB1 zb
  (try go_wp21)
  refine bodyPost_ret (v := .agg #[.int .i64 t.kind, .string ⟨#[]⟩, .int .i64 0, .float .f64 0, .bool false, .bool false, .bool false, .int .i64 0, .slice none 0 0, .slice none 0 0, .int .i64 p, .int .i64 q]) (by simp [results, Try.results55, go_sem, c0, c1, zc, HK.out]; try rfl) rfl ?_;obtain ⟨s1, s2, s3, s4, s5, s6, s7, s8⟩ := strike_parts HX.out.hn;refine ⟨0, by rw [s3 (by rw [HK.out]; decide)]; exact cn_zero, ?_, ?_⟩
  ·simp [alv, HK.out, s1, s2, s3, s4, s5, s6, s7, named, str]
  ·exact HB2.out.trans (by go_grown)
set_option maxHeartbeats 6400000 in
set_option maxRecDepth 100000 in
theorem alone_12 (t : Tr) (ty : Nat) (hk : t.kind = 12 ∧ ty = 91) (w : World) (b f : Nat) (p q : Int) (v0 v1 m th : Value) (hx : Hx t f p q) (hb : Lb w b (acells t f p q [v0, v1] m th) (sty t.kind)) : Calls Try.prog 55 #[nv t.kind b] w (Al t p q w) := by
 have hpt : pty t.kind = ty := by rcases hk with ⟨hk, rfl⟩ <;> (rw [hk]; rfl)
 have hac : ∀ m th, acells t f p q [v0, v1] m th = [.int .i64 p, .int .i64 q, v0, v1, .bool t.flag, .bool t.method] := fun m th => by rcases hk with ⟨hk, rfl⟩ <;> simp [acells, headC, tailC, named, hk]
 rw [show nv t.kind b = .iface ty (.pointer (some ⟨b, 0, none⟩)) by rw [nv, hpt]];have hd1 := fun n w => disp_loc (k := t.kind) (by unfold okk; omega) n w b;rw [hpt] at hd1;have HB := Lib.hid hb; have HX := Lib.hid hx; have HAC := Lib.hid hac;have zb := hb.lt;clear hb hx hpt hac;rcases hk with ⟨hk, rfl⟩
 all_goals
  have HK := Lib.hid hk;clear hk;go_enter Try.func55, Try.ntmps55
  go_wp2_with fail
  have hL := HB.out;rw [HAC.out] at hL;have HL := Lib.hid hL;clear hL;apply Calls.mono
  ·exact loc_any b p q _ _ _ (HL.out.alloc _)
  rintro e1 w1 ⟨rfl, hb1⟩;have HB1 := Lib.hid hb1;have HL1 := Lib.hid ((HL.out.alloc _).below hb1 (by simp; omega));have HR1 := Lib.hid ((Lb.new' w ztcells 25 rfl).below hb1 (by simp));clear hb1
  go_wp2_with fail
  apply Calls.mono
  ·exact loc_any b p q _ _ _ HL1.out
  rintro e2 w2 ⟨rfl, hb2⟩;have HB2 := Lib.hid (show Below w.heap.size w w2 from Below.trans (by go_grown) ((HB1.out.trans (hb2.mono HB1.out.size)).mono (by simp)));have hL2 := HL1.out.below hb2 HL1.out.lt;have hR2 := HR1.out.below hb2 HR1.out.lt;have HL2 := Lib.hid hL2; have HR2 := Lib.hid hR2;have n0 := hL2.cell; have zn := hL2.lt; have c0 := hR2.cell; have c1 := hR2.frozen; have zc := hR2.lt; have hne : b ≠ w.heap.size := by omega
  unfold ztcells at c0;clear hb2 hL2 hR2 HL1 HR1 HL HB1 zb
  go_wp2_with fail
  go_region
  all_goals
   (try go_wp21)
   refine bodyPost_ret (v := .agg #[.int .i64 t.kind, .string ⟨#[]⟩, .int .i64 0, .float .f64 0, .bool t.flag, .bool t.method, .bool false, .int .i64 0, .slice none 0 0, .slice none 0 0, .int .i64 p, .int .i64 q]) (by simp [results, Try.results55, go_sem, c0, c1, zc, HK.out]; try rfl) rfl ?_;obtain ⟨s1, s2, s3, s4, s5, s6, s7, s8⟩ := strike_parts HX.out.hn;refine ⟨0, by rw [s3 (by rw [HK.out]; decide)]; exact cn_zero, ?_, ?_⟩
   ·simp [alv, HK.out, s1, s2, s3, s4, s5, s6, s7, named, str]
   ·exact HB2.out.trans (by go_grown)
set_option maxHeartbeats 6400000 in
set_option maxRecDepth 100000 in
theorem alone_15 (t : Tr) (ty : Nat) (hk : t.kind = 15 ∧ ty = 100) (w : World) (b f : Nat) (p q : Int) (s m th : Value) (hx : Hx t f p q) (hb : Lb w b (acells t f p q [s] m th) (sty t.kind)) (ft : List Nat) (ht : Th w t th ft) : Calls Try.prog 55 #[nv t.kind b] w (Al t p q w) := by
 have hpt : pty t.kind = ty := by rcases hk with ⟨hk, rfl⟩ <;> (rw [hk]; rfl)
 have hac : ∀ m th, acells t f p q [s] m th = [.int .i64 p, .int .i64 q, .string (str t.name), s, .bool t.flag, m, th] := fun m th => by rcases hk with ⟨hk, rfl⟩ <;> simp [acells, headC, tailC, named, hk]
 rw [show nv t.kind b = .iface ty (.pointer (some ⟨b, 0, none⟩)) by rw [nv, hpt]];have hd1 := fun n w => disp_loc (k := t.kind) (by unfold okk; omega) n w b;rw [hpt] at hd1;have HB := Lib.hid hb; have HX := Lib.hid hx; have HAC := Lib.hid hac;have zb := hb.lt;clear hb hx hpt hac;rcases hk with ⟨hk, rfl⟩
 have HK := Lib.hid hk;clear hk;rcases ht with ⟨hl1, rfl, hl3⟩ | ⟨l, hl1, rfl, hl3, hl4⟩
 ·go_enter Try.func55, Try.ntmps55
  go_wp2_with fail
  have hL := HB.out;rw [HAC.out] at hL;have HL := Lib.hid hL;clear hL;apply Calls.mono
  ·exact loc_any b p q _ _ _ (HL.out.alloc _)
  rintro e1 w1 ⟨rfl, hb1⟩;have HB1 := Lib.hid hb1;have HL1 := Lib.hid ((HL.out.alloc _).below hb1 (by simp; omega));have HR1 := Lib.hid ((Lb.new' w ztcells 25 rfl).below hb1 (by simp));clear hb1
  go_wp2_with fail
  apply Calls.mono
  ·exact loc_any b p q _ _ _ HL1.out
  rintro e2 w2 ⟨rfl, hb2⟩;have HB2 := Lib.hid (show Below w.heap.size w w2 from Below.trans (by go_grown) ((HB1.out.trans (hb2.mono HB1.out.size)).mono (by simp)));have hL2 := HL1.out.below hb2 HL1.out.lt;have hR2 := HR1.out.below hb2 HR1.out.lt;have HL2 := Lib.hid hL2; have HR2 := Lib.hid hR2;have n0 := hL2.cell; have zn := hL2.lt; have c0 := hR2.cell; have c1 := hR2.frozen; have zc := hR2.lt; have hne : b ≠ w.heap.size := by omega
  unfold ztcells at c0;clear hb2 hL2 hR2 HL1 HR1 HL HB1 zb
  go_wp2_with fail
  go_region
  all_goals
   (try go_wp21)
   refine bodyPost_ret (v := .agg #[.int .i64 t.kind, .string (str t.name), .int .i64 0, .float .f64 0, .bool t.flag, .bool false, .bool false, .int .i64 0, .slice none 0 0, .slice none 0 0, .int .i64 p, .int .i64 q]) (by simp [results, Try.results55, go_sem, c0, c1, zc, HK.out]; try rfl) rfl ?_;obtain ⟨s1, s2, s3, s4, s5, s6, s7, s8⟩ := strike_parts HX.out.hn;refine ⟨0, by rw [s3 (by rw [HK.out]; decide)]; exact cn_zero, ?_, ?_⟩
   ·simp [alv, hl1, HK.out, s1, s2, s3, s4, s5, s6, s7, named, str]
   ·exact HB2.out.trans (by go_grown)
 ·go_enter Try.func55, Try.ntmps55
  go_wp2_with fail
  have hL := HB.out;rw [HAC.out] at hL;have HL := Lib.hid hL;clear hL;apply Calls.mono
  ·exact loc_any b p q _ _ _ (HL.out.alloc _)
  rintro e1 w1 ⟨rfl, hb1⟩;have HB1 := Lib.hid hb1;have HT1 := Lib.hid ((hl4.alloc _).below hb1 (by simp; have := hl4.lt; omega));have HL1 := Lib.hid ((HL.out.alloc _).below hb1 (by simp; omega));have HR1 := Lib.hid ((Lb.new' w ztcells 25 rfl).below hb1 (by simp));clear hb1
  go_wp2_with fail
  apply Calls.mono
  ·exact loc_any b p q _ _ _ HL1.out
  rintro e2 w2 ⟨rfl, hb2⟩;have HB2 := Lib.hid (show Below w.heap.size w w2 from Below.trans (by go_grown) ((HB1.out.trans (hb2.mono HB1.out.size)).mono (by simp)));have hL2 := HL1.out.below hb2 HL1.out.lt;have hR2 := HR1.out.below hb2 HR1.out.lt;have hT2 := HT1.out.below hb2 HT1.out.lt; have t0 := hT2.cell; have zt := hT2.lt; have hne2 : l ≠ w.heap.size := by have := hl4.lt; omega
  have HL2 := Lib.hid hL2; have HR2 := Lib.hid hR2;have n0 := hL2.cell; have zn := hL2.lt; have c0 := hR2.cell; have c1 := hR2.frozen; have zc := hR2.lt; have hne : b ≠ w.heap.size := by omega
  unfold ztcells at c0;clear hb2 hL2 hR2 hT2 HT1 hl4 HL1 HR1 HL HB1 zb
  go_wp2_with fail
  go_region
  all_goals
   (try go_wp2_with fail)
   go_region
  all_goals
   (try go_wp21)
   refine bodyPost_ret (v := .agg #[.int .i64 t.kind, .string (str t.name), .int .i64 0, .float .f64 0, .bool t.flag, .bool false, .bool true, .int .i64 t.limit, .slice none 0 0, .slice none 0 0, .int .i64 p, .int .i64 q]) (by simp [results, Try.results55, go_sem, c0, c1, zc, HK.out]; try rfl) rfl ?_;obtain ⟨s1, s2, s3, s4, s5, s6, s7, s8⟩ := strike_parts HX.out.hn;refine ⟨0, by rw [s3 (by rw [HK.out]; decide)]; exact cn_zero, ?_, ?_⟩
   ·simp [alv, hl1, HK.out, s1, s2, s3, s4, s5, named, str]
   ·exact HB2.out.trans (by go_grown)
end
section
open Go.RowKit
theorem alone_any {w : World} {t : Tr} {v : Value} {fp : List Nat} (h : IsA w t v fp) : ∃ p q, I64 p ∧ I64 q ∧ Calls Try.prog 55 #[v] w (Al t p q w) := by
 cases h with
 |node t b f p q vs fs ha hx hb hk =>
  refine ⟨p, q, hx.hp, hx.hq, ?_⟩;have hok := okk_ari ha
  by_cases h12 : t.kind = 12
  ·obtain ⟨v0, v1, rfl⟩ : ∃ v0 v1, vs = [v0, v1] := by
    have h1 := hk.len.1;rw [h12] at ha;have h2 : t.kids.length = 2 := by simpa [ari] using ha.symm
    match vs, h1.trans h2 with
    |[a, b], _ => exact ⟨a, b, rfl⟩
   exact alone_12 t 91 ⟨h12, rfl⟩ w b f p q v0 v1 _ _ hx hb
  ·have hl : listy t.kind = false := by
    cases hc : listy t.kind with
    |false => rfl
    |true => simp only [listy, Bool.or_eq_true, decide_eq_true_eq] at hc; rcases hc with ((h | h) | h) | h <;> (rw [h] at ha; simp [ari] at ha)
   have h15 : t.kind ≠ 15 := fun h => (by rw [h] at hl; simp [listy] at hl);rcases hok with h | h | h | h | h | h | h | h | h | h | h | h | h | h | h | h | h | h | h
   ·exact alone_n t (pty t.kind) (by simp [h, pty]) w b f p q vs _ _ hx hb
   ·exact alone_s t (pty t.kind) (by simp [h, pty]) w b f p q vs _ _ hx hb
   ·exact alone_i t (pty t.kind) (by simp [h, pty]) w b f p q vs _ _ hx hb
   ·exact alone_f t (pty t.kind) (by simp [h, pty]) w b f p q vs _ _ hx hb
   ·exact alone_b t (pty t.kind) (by simp [h, pty]) w b f p q vs _ _ hx hb
   ·exact alone_s t (pty t.kind) (by simp [h, pty]) w b f p q vs _ _ hx hb
   ·exact alone_n t (pty t.kind) (by simp [h, pty]) w b f p q vs _ _ hx hb
   ·exact alone_s t (pty t.kind) (by simp [h, pty]) w b f p q vs _ _ hx hb
   ·exact alone_s t (pty t.kind) (by simp [h, pty]) w b f p q vs _ _ hx hb
   ·exact absurd h h12
   ·exact absurd h h15
   ·exact alone_n t (pty t.kind) (by simp [h, pty]) w b f p q vs _ _ hx hb
   ·exact alone_s t (pty t.kind) (by simp [h, pty]) w b f p q vs _ _ hx hb
   ·exact alone_b t (pty t.kind) (by simp [h, pty]) w b f p q vs _ _ hx hb
   ·exact alone_s t (pty t.kind) (by simp [h, pty]) w b f p q vs _ _ hx hb
   ·exact alone_n t (pty t.kind) (by simp [h, pty]) w b f p q vs _ _ hx hb
   ·exact alone_n t (pty t.kind) (by simp [h, pty]) w b f p q vs _ _ hx hb
   ·exact alone_n t (pty t.kind) (by simp [h, pty]) w b f p q vs _ _ hx hb
   ·exact alone_n t (pty t.kind) (by simp [h, pty]) w b f p q vs _ _ hx hb
 |list t b f p q a c vs fs rb ms gs th ft ha hx hb hr hk h1 hm ht =>
  refine ⟨p, q, hx.hp, hx.hq, ?_⟩;simp only [listy, Bool.or_eq_true, decide_eq_true_eq] at ha;rcases ha with ((h | h) | h) | h
  ·exact alone_15 t 100 ⟨h, rfl⟩ w b f p q _ _ _ hx hb ft ht
  ·exact alone_n t (pty t.kind) (by simp [h, pty]) w b f p q _ _ _ hx hb
  ·exact alone_n t (pty t.kind) (by simp [h, pty]) w b f p q _ _ _ hx hb
  ·exact alone_n t (pty t.kind) (by simp [h, pty]) w b f p q _ _ _ hx hb
 |const t b f p q a c vs rb ha hx hb hr hc =>
  exact ⟨p, q, hx.hp, hx.hq, alone_n t (pty t.kind) (by simp [ha, pty]) w b f p q _ _ _ hx hb⟩
end
end Go.Proofs.Ytafhhdimjkgihaa.Mn
