/- What the program does, function by function, and what trees mean: part 37. -/
import Derived.Deep.CutRange
import Derived.Test.YtafhhdimjkgihaaM36
set_option linter.unusedSimpArgs false
set_option linter.unusedVariables false
namespace Go.Proofs.Ytafhhdimjkgihaa.Mn
attribute [local go_sem ↓] Go.wp_at_zero Go.wp_at_succ
open Go.RowKit
structure Rh (k : Nat → Prop) (w0 : World) (l0 l1 : List Value) (A : Option Addr) (n cap : Nat) (cs : List Value) (ys : List Vl) (A' : Option Addr) (n' cap' : Nat) (ks : List Value) (w : World) : Prop where
 b : Below w0.heap.size w0 w
 c0 : Lb w w0.heap.size l0 39
 c1 : Lb w (w0.heap.size + 1) l1 39
 c2 : Lb w (w0.heap.size + 1 + 1) zcells 39
 c3 : Lb w (w0.heap.size + 1 + 1 + 1) (ocells A n cap A' n' cap') 39
 own : w.ownsRow (w0.heap.size + 1 + 1 + 1 + 1) 39 7 (.slice A n cap) n cs
 own' : w.ownsRow (w0.heap.size + 1 + 1 + 1 + 1) 9 1 (.slice A' n' cap') n' ks
 vs : IsVs w (Xs (Xs (fun b => k b ∨ b = w0.heap.size + 1 + 1 ∨ b = w0.heap.size + 1 + 1 + 1) A) A') ys cs
theorem Rws.head {k : Nat → Prop} {w0 w : World} {l0 l1 : List Value} {yb : Nat} {yc : List Value} {u : Vl} {A : Option Addr} {n cap : Nat} {cs : List Value} {ys : List Vl} {A' : Option Addr} {n' cap' : Nat} {ks : List Value}
 (h : Rws k w0 l0 l1 yb yc u A n cap cs ys A' n' cap' ks (.slice A n cap) (.slice A' n' cap') w) : Rh k w0 l0 l1 A n cap cs ys A' n' cap' ks w := ⟨h.b, h.c0, h.c1, h.c2, h.c3, h.own, h.own', h.vs⟩
theorem Rh.withY {k : Nat → Prop} {w0 w : World} {l0 l1 : List Value} {A : Option Addr} {n cap : Nat} {cs : List Value} {ys : List Vl} {A' : Option Addr} {n' cap' : Nat} {ks : List Value}
 (h : Rh k w0 l0 l1 A n cap cs ys A' n' cap' ks w) {yc : List Value} {u : Vl} {w1 : World} (hb : Below w.heap.size w w1) (hl : Lb w1 w.heap.size yc 39) (hk : ∀ b, k b → b < w0.heap.size) (hu : IsV w0 k u yc) :
 Rws k w0 l0 l1 w.heap.size yc u A n cap cs ys A' n' cap' ks (.slice A n cap) (.slice A' n' cap') w1 ∧ (∀ a, A' = some a → a.block ≠ w.heap.size) where
 left := {
  b := h.b.trans (hb.mono h.b.size)
  c0 := h.c0.below hb h.c0.lt
  c1 := h.c1.below hb h.c1.lt
  c2 := h.c2.below hb h.c2.lt
  c3 := h.c3.below hb h.c3.lt
  hy := by have := h.c3.lt; omega
  cy := hl
  own := own_ext (k := fun _ => False) h.own (.of hb) (Nat.le_refl _) (fun _ _ h => h)
  own' := own_ext (k := fun _ => False) h.own' (.of hb) (Nat.le_refl _) (fun _ _ h => h)
  ny := fun a ha => by have := (own_base h.own a ha).2; omega
  vs := h.vs.ext (.of hb) (Nat.le_refl _)
  vu := ((hu.other (k' := Xs (Xs (fun b => k b ∨ b = w0.heap.size + 1 + 1 ∨ b = w0.heap.size + 1 + 1 + 1) A) A') fun b hb => by
   rcases hb with ((hb | hb | hb) | ⟨a, ha, rfl⟩) | ⟨a, ha, rfl⟩
   ·exact .inl hb
   ·exact .inr (by omega)
   ·exact .inr (by omega)
   ·have := (own_base h.own a ha).1; exact .inr (by omega)
   ·have := (own_base h.own' a ha).1; exact .inr (by omega)).ext (.of (h.b.trans (hb.mono h.b.size))) (Nat.le_refl _)) }
 right := fun a ha => by have := (own_base h.own' a ha).2; omega
theorem Rh.withX {k : Nat → Prop} {w0 w : World} {l0 l1 : List Value} {A : Option Addr} {n cap : Nat} {cs : List Value} {ys : List Vl} {A' : Option Addr} {n' cap' : Nat} {ks : List Value}
 (h : Rh k w0 l0 l1 A n cap cs ys A' n' cap' ks w) {u : Vl} (hu : IsV w0 k u l1) :
 Rws k w0 l0 l1 (w0.heap.size + 1) l1 u A n cap cs ys A' n' cap' ks (.slice A n cap) (.slice A' n' cap') w ∧ (∀ a, A' = some a → a.block ≠ w0.heap.size + 1) where
 left := {
  b := h.b
  c0 := h.c0
  c1 := h.c1
  c2 := h.c2
  c3 := h.c3
  hy := by omega
  cy := h.c1
  own := h.own
  own' := h.own'
  ny := fun a ha => by have := (own_base h.own a ha).1; omega
  vs := h.vs
  vu := ((hu.other (k' := Xs (Xs (fun b => k b ∨ b = w0.heap.size + 1 + 1 ∨ b = w0.heap.size + 1 + 1 + 1) A) A') fun b hb => by
   rcases hb with ((hb | hb | hb) | ⟨a, ha, rfl⟩) | ⟨a, ha, rfl⟩
   ·exact .inl hb
   ·exact .inr (by omega)
   ·exact .inr (by omega)
   ·have := (own_base h.own a ha).1; exact .inr (by omega)
   ·have := (own_base h.own' a ha).1; exact .inr (by omega)).ext (.of h.b) (Nat.le_refl _)) }
 right := fun a ha => by have := (own_base h.own' a ha).1; omega
theorem own_cap {w : World} {B e size n cap : Nat} {A : Option Addr} {xs : List Value} (h : w.ownsRow B e size (.slice A n cap) n xs) : n ≤ cap := by
 rcases h.2 with ⟨h1, h2⟩ | ⟨g, cap', cur, h1, _, _, h2, _⟩
 ·omega
 ·cases h1; exact h2
theorem Rh.val {k : Nat → Prop} {w0 w : World} {l0 l1 : List Value} {A : Option Addr} {n cap : Nat} {cs : List Value} {ys : List Vl} {A' : Option Addr} {cap' : Nat} {ks : List Nm}
 (h : Rh k w0 l0 l1 A n cap cs ys A' n cap' (kcells ks) w) (hk : ∀ b, k b → b < w0.heap.size) (hys : ys.length = n) (hks : ks.length = n) (hn : n ≤ most) :
 IsV w (Xr k (w0.heap.size + 1 + 1)) { kind := 6, items := ys, keys := ks } (vcells { kind := 6, items := ys, keys := ks } 0 A cap A' cap') :=
 .mk _ 0 A cap A' cap' cs cn_zero (show I64 6 from ⟨by omega, by omega⟩) .zero (by rw [← hys] at hn; exact hn) (by rw [← hks] at hn; exact hn) (by simp) ⟨(fun _ => by rw [hys, hks]), by show ks.length ≤ cap'; rw [hks]; exact own_cap h.own'⟩
  (Row.of_own h.own fun b hb => by rcases hb with hb | hb; (have := hk b hb; omega); omega)
  (h.vs.other fun b hb => .inl (.inl (.inl (hb.imp id .inl))))
  (Row.of_own h.own' fun b hb => by rcases hb with hb | hb; (have := hk b hb; omega); omega)
theorem Rh.zero (k : Nat → Prop) {w0 w : World} {l0 l1 : List Value} (b : Below w0.heap.size w0 w) (c0 : Lb w w0.heap.size l0 39) (c1 : Lb w (w0.heap.size + 1) l1 39) (c2 : Lb w (w0.heap.size + 1 + 1) zcells 39) (c3 : Lb w (w0.heap.size + 1 + 1 + 1) (ocells none 0 0 none 0 0) 39) : Rh k w0 l0 l1 none 0 0 [] [] none 0 0 [] w :=
 ⟨b, c0, c1, c2, c3, World.ownsRow_nil _ _ _ _, World.ownsRow_nil _ _ _ _, .nil⟩
theorem ne_of_lt' {A : Option Addr} {N b : Nat} (h : ∀ a, A = some a → a.block < N) (hb : N ≤ b) : some b ≠ A.map (·.block) := by
 cases A with
 |none => intro h; cases h
 |some a => have := h a rfl; simp only [Option.map_some, ne_eq, Option.some.injEq]; omega
theorem kcells_get (l : List Nm) (q : Nat) (t : Nm) (h : l[q]? = some t) : (kcells l)[q]? = some (.string (str t)) := by unfold kcells; rw [List.getElem?_map, h]; rfl
theorem ones_s (t : Nm) : Ones [.string (str t)] := fun u hu => by simp at hu; subst hu; rfl
set_option maxHeartbeats 6400000 in
set_option maxRecDepth 100000 in
theorem set_any (v x : Vl) (key : Nm) (k : Nat → Prop) (f : Nat) (a : Option Addr) (c : Nat) (a' : Option Addr) (c' : Nat) (fx : Nat) (ax : Option Addr) (cx : Nat) (ax' : Option Addr) (cx' : Nat) (w : World)
 (hl : v.keys.length = v.items.length) (hn : v.items.length < most) (hk : ∀ b, k b → b < w.heap.size) (hv : IsV w k v (vcells v f a c a' c')) (hx : IsV w k x (vcells x fx ax cx ax' cx')) :
 Calls Try.prog 83 #[va v f a c a' c', .string (str key), va x fx ax cx ax' cx'] w (fun e w' => ∃ g b d b' d', e = .returned (va (setV v key x) g b d b' d') ∧ Below w.heap.size w w' ∧ IsV w' k (setV v key x) (vcells (setV v key x) g b d b' d')) := by
 have HX := Lib.hid hx; have HV := Lib.hid hv; have HK := Lib.hid hk;obtain ⟨its, hrow, hvs⟩ := hv.inv.2.2.2.2.2.2.2.1;have hrow' := hv.inv.2.2.2.2.2.2.2.2;have HR := Lib.hid (And.intro hrow (And.intro hvs hrow'));have HL := Lib.hid (And.intro hl hn);have hkn : v.keys.length ≤ 1172812402927 := by unfold most at hn; omega
 clear hx hv hk hrow hvs hrow' hl hn;go_enter Try.func83, Try.ntmps83
 go_wp2_with fail
 refine forget (fun w' => Rh k w (vcells v f a c a' c') (vcells x fx ax cx ax' cx') none 0 0 [] [] none 0 0 [] w') ?_ ?_
 ·exact Rh.zero k (by go_grown) ((((Lb.new _ _ _).alloc _).alloc _).alloc _) (((Lb.new' _ _ _ (by simp)).alloc _).alloc _) ((Lb.new' _ _ _ (by simp)).alloc _) (Lb.new' _ _ _ (by simp))
 intro W hW;have HW := Lib.hid hW;clear hW
 go_loopg [8, 16] v.keys.length (fun g s8 s16 wr => ∃ q : Nat, s16 = .int .i64 q ∧ q + g = v.keys.length ∧ s8 = .bool (decide (key ∈ v.keys.take q)) ∧ ∃ A cap cs A' cap', Rh k w (vcells v f a c a' c') (vcells x fx ax cx ax' cx') A q cap cs (((v.keys.zip v.items).take q).map (upd key x)) A' q cap' (kcells (v.keys.take q)) wr)
 case atStart => exact ⟨0, rfl, by omega, rfl, none, 0, [], none, 0, HW.out⟩
 case round =>
  obtain ⟨q, rfl, hq, rfl, A, cap, cs, A', cap', hR⟩ := hrel;clear HW
  by_cases hlt : 0 < gk
  ·obtain ⟨g, rfl⟩ : ∃ g, gk = g + 1 := ⟨gk - 1, by omega⟩;have hql : q < v.keys.length := (by omega);have hqi : q < v.items.length := (by have := HL.out.1; omega);obtain ⟨kq, hkq⟩ : ∃ t, v.keys[q]? = some t := ⟨v.keys[q], by simp⟩;obtain ⟨yq, hyq⟩ : ∃ t, v.items[q]? = some t := ⟨v.items[q], by simp⟩;obtain ⟨b1, o1, rfl, hkb1, hb1, hra1⟩ : ∃ b o, a' = some ⟨b, o, none⟩ ∧ ¬ k b ∧ b < w.heap.size ∧ w.rangeAt b o (kcells v.keys) := by
    rcases HR.out.2.2 with h | h
    ·exfalso; have := congrArg List.length h; simp [kcells] at this; rw [this] at hql; exact Nat.not_lt_zero _ hql
    ·exact h
   obtain ⟨b2, o2, rfl⟩ := HR.out.1.some_of (HR.out.2.1.ne hqi);obtain ⟨hkb2, hb2, f3, a3, c3, a4, c4, hY, h7⟩ := IsVs.cells HR.out.1 HR.out.2.1 hyq;have h7r := h7.ext (k := fun _ => False) (.of hR.b) hb2 id;have d0 := h7r.c0; have d1 := h7r.c1; have d2 := h7r.c2; have d3 := h7r.c3; have d4 := h7r.c4; have d5 := h7r.c5; have d6 := h7r.c6;have dk : wr.cell? ⟨b1, o1 + q, none⟩ = some (.string (str kq)) := (hR.b.cell (p := ⟨b1, o1 + q, none⟩) hb1).trans (hra1 q _ (kcells_get _ _ _ hkq));have r0 := hR.c0.cell; have r1 := hR.c1.cell; have r3 := hR.c3.cell; have g3 := hR.c3.frozen;have z3 : w.heap.size + 1 + 1 + 1 < wr.heap.size := hR.c3.lt;have z2 : w.heap.size + 1 + 1 < wr.heap.size := (by omega);have z1 : w.heap.size + 1 < wr.heap.size := (by omega);have z0 : w.heap.size < wr.heap.size := (by omega);have zb1 : b1 < wr.heap.size := (by omega);have zb2 : b2 < wr.heap.size := (by omega);have HRh := Lib.hid hR; have HY := Lib.hid hY; have HKQ := Lib.hid (And.intro hkq hyq)
   unfold vcells at r0 r1;unfold ocells at r3;have hqI0 : (0 : Int) ≤ (q : Int) := (by omega);have hqI1 : (q : Int) < (v.keys.length : Int) := (by omega);have hqI2 : (q : Int) < (v.items.length : Int) := (by omega);clear hR hY h7 h7r hkq hyq hra1
   by_cases hkk : kq = key
   ·have nn : (kq == key) = true := (by simpa using hkk);have HKK := Lib.hid hkk;clear hkk
    go_upto_region 9 with (fail)
    refine forget (fun W => Rws k w (vcells v f (some ⟨b2, o2, none⟩) c (some ⟨b1, o1, none⟩) c') (vcells x fx ax cx ax' cx') wr.heap.size (vcells x fx ax cx ax' cx') x A q cap cs (((v.keys.zip v.items).take q).map (upd key x)) A' q cap' (kcells (v.keys.take q)) (.slice A q cap) (.slice A' q cap') W ∧ ∀ a, A' = some a → a.block ≠ wr.heap.size) ?_ ?_
    ·exact HRh.out.withY (by go_grown) (Lb.new' _ _ _ rfl) HK.out HX.out
    clear d0 d1 d2 d3 d4 d5 d6 dk r0 r1 r3 g3 z0 z1 z2 z3 zb1 zb2;rintro W ⟨hS, h'y⟩;have hS0 := hS.drew;have hA' : ∀ a, A' = some a → a.block < W.heap.size := fun a ha => (own_base hS.own' a ha).2;refine AnyL.start (S := fun w' => w'.cell? ⟨w.heap.size + 1 + 1 + 1, 5, none⟩ = some (.slice A q cap) ∧ w'.cell? ⟨w.heap.size + 1 + 1 + 1, 6, none⟩ = some (.slice A' q cap') ∧ w'.cell? ⟨wr.heap.size, 0, none⟩ = some (.int .i64 x.kind) ∧ w'.cell? ⟨wr.heap.size, 1, none⟩ = some (.int .i64 x.int) ∧ w'.cell? ⟨wr.heap.size, 2, none⟩ = some (.float .f64 fx) ∧ w'.cell? ⟨wr.heap.size, 3, none⟩ = some (.string (str x.text)) ∧ w'.cell? ⟨wr.heap.size, 4, none⟩ = some (.bool x.bool) ∧ w'.cell? ⟨wr.heap.size, 5, none⟩ = some (.slice ax x.items.length cx) ∧ w'.cell? ⟨wr.heap.size, 6, none⟩ = some (.slice ax' x.keys.length cx')) (late := fun j => [11, 12, 13].contains j) (by kernel_rfl) ?_;have hs0 : (fun w' => w'.cell? ⟨w.heap.size + 1 + 1 + 1, 5, none⟩ = some (.slice A q cap) ∧ w'.cell? ⟨w.heap.size + 1 + 1 + 1, 6, none⟩ = some (.slice A' q cap') ∧ w'.cell? ⟨wr.heap.size, 0, none⟩ = some (.int .i64 x.kind) ∧ w'.cell? ⟨wr.heap.size, 1, none⟩ = some (.int .i64 x.int) ∧ w'.cell? ⟨wr.heap.size, 2, none⟩ = some (.float .f64 fx) ∧ w'.cell? ⟨wr.heap.size, 3, none⟩ = some (.string (str x.text)) ∧ w'.cell? ⟨wr.heap.size, 4, none⟩ = some (.bool x.bool) ∧ w'.cell? ⟨wr.heap.size, 5, none⟩ = some (.slice ax x.items.length cx) ∧ w'.cell? ⟨wr.heap.size, 6, none⟩ = some (.slice ax' x.keys.length cx')) W.drew := ⟨(hS0).c3.cell 5, (hS0).c3.cell 6, (hS0).cy.cell 0, (hS0).cy.cell 1, (hS0).cy.cell 2, (hS0).cy.cell 3, (hS0).cy.cell 4, (hS0).cy.cell 5, (hS0).cy.cell 6⟩
    refine AnyL.tk [11, 12, 13] [11, 12, 13] 0 ?_ rfl (by kernel_rfl) (by rfl) ?_ hs0 (AnyL.tk [11, 12, 13] [11, 12, 13] 1 ?_ rfl (by kernel_rfl) (by rfl) ?_ hs0 (AnyL.tk [11, 12, 13] [11, 12, 13] 2 ?_ rfl (by kernel_rfl) (by rfl) ?_ hs0 (AnyL.tk [11, 12, 13] [11, 12, 13] 5 ?_ rfl (by kernel_rfl) (by rfl) ?_ hs0 (AnyL.tk [11, 12, 13] [11, 12, 13] 6 ?_ rfl (by kernel_rfl) (by rfl) ?_ hs0 (AnyL.tk [11, 12, 13] [8, 9, 11, 12, 13] 7 ?_ rfl (by kernel_rfl) (by rfl) ?_ hs0 ?_)))))
    iterate 6
     rotate_left
     ·intro w' hw'; (try simp only [Act.put, sb0, sb1, sb2])
      (try dsimp only at hw')
      go_simp
      try (with_reducible rfl)
    try simp only [Act.put, sb0, sb1, sb2]
    refine AnyL.ready (rs := [3, 8]) (by kernel_rfl) (by simp) ?_;refine AllL.cons rfl (fun K hK => ?_) (AllL.cons rfl (fun K hK => ?_) AllL.nil)
    ·go_simp;have hS1 := hS0.alloc (.cells #[.string (str kq)] 9);refine hK.out _ _ (fun _ => ⟨(hS1).c3.cell 5, (hS1).c3.cell 6, (hS1).cy.cell 0, (hS1).cy.cell 1, (hS1).cy.cell 2, (hS1).cy.cell 3, (hS1).cy.cell 4, (hS1).cy.cell 5, (hS1).cy.cell 6⟩) ?_;clear hK K
     try simp only [Act.put, sb0, sb1, sb2]
     refine AnyL.ready (rs := [4, 8]) (by kernel_rfl) (by simp) ?_;refine AllL.cons rfl (fun K hK => ?_) (AllL.cons rfl (fun K hK => ?_) AllL.nil)
     ·refine step_append_o el37 (by rfl) (.tmp 31) (.tmp 33) (by rfl) (w.heap.size + 1 + 1 + 1 + 1) A' q cap' (kcells (v.keys.take q)) (by rfl) hS1.own' _ 1 1 [.string (str kq)] (by rfl) (by rfl) (Laid.of_lb (Lb.new' _ _ _ (by simp))) (ones_s _) (q + 1) rfl (by omega) hS1.c3.lt ?_;intro A3 cap3 w3 hown3 hgr3 hat3;have hS2 := hS1.growK h'y hown3 hgr3 hat3;refine hK.out _ _ (fun _ => ⟨(hS2).c3.cell 5, (hS2).c3.cell 6, (hS2).cy.cell 0, (hS2).cy.cell 1, (hS2).cy.cell 2, (hS2).cy.cell 3, (hS2).cy.cell 4, (hS2).cy.cell 5, (hS2).cy.cell 6⟩) ?_;clear hK K
      try simp only [Act.put, sb0, sb1, sb2]
      have z32 := hS2.c3.lt;refine AnyL.tk [11, 12, 13] [11, 12, 13] 10 ?_ rfl (by kernel_rfl) (by rfl) ?_ (⟨(hS2).c3.cell 5, (hS2).c3.cell 6, (hS2).cy.cell 0, (hS2).cy.cell 1, (hS2).cy.cell 2, (hS2).cy.cell 3, (hS2).cy.cell 4, (hS2).cy.cell 5, (hS2).cy.cell 6⟩) ?_;rotate_left
      ·intro w' hw'
       (try dsimp only at hw')
       go_simp
       try (with_reducible rfl)
      try simp only [Act.put, sb0, sb1, sb2]
      refine AnyL.one 8 (by kernel_rfl) rfl fun K hK => ?_;go_simp;have hS3 := hS2.alloc (.cells #[.int .i64 x.kind, .int .i64 x.int, .float .f64 fx, .string (str x.text), .bool x.bool, .slice ax x.items.length cx, .slice ax' x.keys.length cx'] 39);refine hK.out _ _ (fun _ => ⟨(hS3).c3.cell 5, (hS3).c3.cell 6, (hS3).cy.cell 0, (hS3).cy.cell 1, (hS3).cy.cell 2, (hS3).cy.cell 3, (hS3).cy.cell 4, (hS3).cy.cell 5, (hS3).cy.cell 6⟩) ?_;clear hK K
      try simp only [Act.put, sb0, sb1, sb2]
      refine AnyL.one 9 (by kernel_rfl) rfl fun K hK => ?_;refine step_append_o el36 (by rfl) (.tmp 36) (.tmp 38) (by rfl) (w.heap.size + 1 + 1 + 1 + 1) A q cap cs (by rfl) hS3.own _ 1 1 (vcells x fx ax cx ax' cx') (by rfl) (by rfl) (Laid.of_lb (Lb.new' _ _ _ (by simp))) (ones_v _ _ _ _ _ _) (q + 1) rfl (by omega) hS3.c3.lt ?_;intro A4 cap4 w4 hown4 hgr4 hat4;have hS4 := hS3.growI hown4 hgr4 hat4;refine hK.out _ _ (fun _ => ⟨(hS4).c3.cell 5, (hS4).c3.cell 6, (hS4).cy.cell 0, (hS4).cy.cell 1, (hS4).cy.cell 2, (hS4).cy.cell 3, (hS4).cy.cell 4, (hS4).cy.cell 5, (hS4).cy.cell 6⟩) ?_;clear hK K
      try simp only [Act.put, sb0, sb1, sb2]
      have r4 := hS4.c3.cell; have g4 := hS4.c3.frozen; have z4 := hS4.c3.lt;refine AnyL.one 11 (by kernel_rfl) rfl fun K hK => ?_;go_simp;have hS5 := hS4.set3 (i := 6) (x := .slice A3 (q + 1) cap3) rfl;refine hK.out _ _ (fun h => by cases h) ?_;clear hK K r4 g4
      try simp only [Act.put, sb0, sb1, sb2]
      have r5 := hS5.c3.cell; have g5 := hS5.c3.frozen; have z5 := hS5.c3.lt;refine AnyL.takeL (i := 12) (v := ?_) rfl (by kernel_rfl) (by kernel_rfl) (by kernel_rfl) rfl (fun _ _ _ h => h) (Or.inl ⟨by rfl, ?_⟩) ?_;rotate_left
      ·intro w';go_simp
       try (with_reducible rfl)
      try simp only [Act.put, sb0, sb1, sb2]
      refine AnyL.one 13 (by kernel_rfl) rfl fun K hK => ?_;go_simp;have hS6 := hS5.set3 (i := 5) (x := .slice A4 (q + 1) cap4) rfl;refine hK.out _ _ (fun h => by cases h) ?_;clear hK K r5 g5
      try simp only [Act.put, sb0, sb1, sb2]
      refine AnyL.done (by kernel_rfl) ?_ _;have hF := Lib.hid hS6.head
      go_wp2_with fail
      go_roundg g
      case measure => omega
      case rel =>
       have h1 := zip_take_succ v q kq yq HKQ.out.1 HKQ.out.2 key x;refine ⟨q + 1, by go_num, by omega, congrArg Value.bool (decide_eq_true (by rw [h1.2, List.mem_append]; right; simp [HKK.out])).symm, A4, cap4, cs ++ vcells x fx ax cx ax' cx', A3, cap3, ?_⟩;rw [h1.1, h1.2, kcells_append, if_pos HKK.out];exact hF.out
     ·go_simp;have hS2 := hS1.alloc (.cells #[.int .i64 x.kind, .int .i64 x.int, .float .f64 fx, .string (str x.text), .bool x.bool, .slice ax x.items.length cx, .slice ax' x.keys.length cx'] 39);refine hK.out _ _ (fun _ => ⟨(hS2).c3.cell 5, (hS2).c3.cell 6, (hS2).cy.cell 0, (hS2).cy.cell 1, (hS2).cy.cell 2, (hS2).cy.cell 3, (hS2).cy.cell 4, (hS2).cy.cell 5, (hS2).cy.cell 6⟩) ?_;clear hK K
      try simp only [Act.put, sb0, sb1, sb2]
      refine AnyL.one 4 (by kernel_rfl) rfl fun K hK => ?_;refine step_append_o el37 (by rfl) (.tmp 31) (.tmp 33) (by rfl) (w.heap.size + 1 + 1 + 1 + 1) A' q cap' (kcells (v.keys.take q)) (by rfl) hS2.own' _ 1 1 [.string (str kq)] (by rfl) (by rfl) (Laid.of_lb ((Lb.new' _ _ _ (by simp)).alloc _)) (ones_s _) (q + 1) rfl (by omega) hS2.c3.lt ?_;intro A3 cap3 w3 hown3 hgr3 hat3;have hS3 := hS2.growK h'y hown3 hgr3 hat3;refine hK.out _ _ (fun _ => ⟨(hS3).c3.cell 5, (hS3).c3.cell 6, (hS3).cy.cell 0, (hS3).cy.cell 1, (hS3).cy.cell 2, (hS3).cy.cell 3, (hS3).cy.cell 4, (hS3).cy.cell 5, (hS3).cy.cell 6⟩) ?_;clear hK K
      try simp only [Act.put, sb0, sb1, sb2]
      have z33 := hS3.c3.lt;refine AnyL.tk [11, 12, 13] [11, 12, 13] 10 ?_ rfl (by kernel_rfl) (by rfl) ?_ (⟨(hS3).c3.cell 5, (hS3).c3.cell 6, (hS3).cy.cell 0, (hS3).cy.cell 1, (hS3).cy.cell 2, (hS3).cy.cell 3, (hS3).cy.cell 4, (hS3).cy.cell 5, (hS3).cy.cell 6⟩) ?_;rotate_left
      ·intro w' hw'
       (try dsimp only at hw')
       go_simp
       try (with_reducible rfl)
      try simp only [Act.put, sb0, sb1, sb2]
      refine AnyL.one 9 (by kernel_rfl) rfl fun K hK => ?_;refine step_append_o el36 (by rfl) (.tmp 36) (.tmp 38) (by rfl) (w.heap.size + 1 + 1 + 1 + 1) A q cap cs (by rfl) hS3.own _ 1 1 (vcells x fx ax cx ax' cx') (by rfl) (by rfl) (Laid.of_lb ((Lb.drew (Lb.new' _ _ _ (by simp))).grown hgr3 (ne_of_lt' hA' (by simp)))) (ones_v _ _ _ _ _ _) (q + 1) rfl (by omega) hS3.c3.lt ?_;intro A4 cap4 w4 hown4 hgr4 hat4;have hS4 := hS3.growI hown4 hgr4 hat4;refine hK.out _ _ (fun _ => ⟨(hS4).c3.cell 5, (hS4).c3.cell 6, (hS4).cy.cell 0, (hS4).cy.cell 1, (hS4).cy.cell 2, (hS4).cy.cell 3, (hS4).cy.cell 4, (hS4).cy.cell 5, (hS4).cy.cell 6⟩) ?_;clear hK K
      try simp only [Act.put, sb0, sb1, sb2]
      have r4 := hS4.c3.cell; have g4 := hS4.c3.frozen; have z4 := hS4.c3.lt;refine AnyL.one 11 (by kernel_rfl) rfl fun K hK => ?_;go_simp;have hS5 := hS4.set3 (i := 6) (x := .slice A3 (q + 1) cap3) rfl;refine hK.out _ _ (fun h => by cases h) ?_;clear hK K r4 g4
      try simp only [Act.put, sb0, sb1, sb2]
      have r5 := hS5.c3.cell; have g5 := hS5.c3.frozen; have z5 := hS5.c3.lt;refine AnyL.takeL (i := 12) (v := ?_) rfl (by kernel_rfl) (by kernel_rfl) (by kernel_rfl) rfl (fun _ _ _ h => h) (Or.inl ⟨by rfl, ?_⟩) ?_;rotate_left
      ·intro w';go_simp
       try (with_reducible rfl)
      try simp only [Act.put, sb0, sb1, sb2]
      refine AnyL.one 13 (by kernel_rfl) rfl fun K hK => ?_;go_simp;have hS6 := hS5.set3 (i := 5) (x := .slice A4 (q + 1) cap4) rfl;refine hK.out _ _ (fun h => by cases h) ?_;clear hK K r5 g5
      try simp only [Act.put, sb0, sb1, sb2]
      refine AnyL.done (by kernel_rfl) ?_ _;have hF := Lib.hid hS6.head
      go_wp2_with fail
      go_roundg g
      case measure => omega
      case rel =>
       have h1 := zip_take_succ v q kq yq HKQ.out.1 HKQ.out.2 key x;refine ⟨q + 1, by go_num, by omega, congrArg Value.bool (decide_eq_true (by rw [h1.2, List.mem_append]; right; simp [HKK.out])).symm, A4, cap4, cs ++ vcells x fx ax cx ax' cx', A3, cap3, ?_⟩;rw [h1.1, h1.2, kcells_append, if_pos HKK.out];exact hF.out
    ·go_simp;have hS1 := hS0.alloc (.cells #[.int .i64 x.kind, .int .i64 x.int, .float .f64 fx, .string (str x.text), .bool x.bool, .slice ax x.items.length cx, .slice ax' x.keys.length cx'] 39);refine hK.out _ _ (fun _ => ⟨(hS1).c3.cell 5, (hS1).c3.cell 6, (hS1).cy.cell 0, (hS1).cy.cell 1, (hS1).cy.cell 2, (hS1).cy.cell 3, (hS1).cy.cell 4, (hS1).cy.cell 5, (hS1).cy.cell 6⟩) ?_;clear hK K
     try simp only [Act.put, sb0, sb1, sb2]
     refine AnyL.one 3 (by kernel_rfl) rfl fun K hK => ?_;go_simp;have hS2 := hS1.alloc (.cells #[.string (str kq)] 9);refine hK.out _ _ (fun _ => ⟨(hS2).c3.cell 5, (hS2).c3.cell 6, (hS2).cy.cell 0, (hS2).cy.cell 1, (hS2).cy.cell 2, (hS2).cy.cell 3, (hS2).cy.cell 4, (hS2).cy.cell 5, (hS2).cy.cell 6⟩) ?_;clear hK K
     try simp only [Act.put, sb0, sb1, sb2]
     refine AnyL.one 4 (by kernel_rfl) rfl fun K hK => ?_;refine step_append_o el37 (by rfl) (.tmp 31) (.tmp 33) (by rfl) (w.heap.size + 1 + 1 + 1 + 1) A' q cap' (kcells (v.keys.take q)) (by rfl) hS2.own' _ 1 1 [.string (str kq)] (by rfl) (by rfl) (Laid.of_lb (Lb.new' _ _ _ (by simp))) (ones_s _) (q + 1) rfl (by omega) hS2.c3.lt ?_;intro A3 cap3 w3 hown3 hgr3 hat3;have hS3 := hS2.growK h'y hown3 hgr3 hat3;refine hK.out _ _ (fun _ => ⟨(hS3).c3.cell 5, (hS3).c3.cell 6, (hS3).cy.cell 0, (hS3).cy.cell 1, (hS3).cy.cell 2, (hS3).cy.cell 3, (hS3).cy.cell 4, (hS3).cy.cell 5, (hS3).cy.cell 6⟩) ?_;clear hK K
     try simp only [Act.put, sb0, sb1, sb2]
     have z33 := hS3.c3.lt;refine AnyL.tk [11, 12, 13] [11, 12, 13] 10 ?_ rfl (by kernel_rfl) (by rfl) ?_ (⟨(hS3).c3.cell 5, (hS3).c3.cell 6, (hS3).cy.cell 0, (hS3).cy.cell 1, (hS3).cy.cell 2, (hS3).cy.cell 3, (hS3).cy.cell 4, (hS3).cy.cell 5, (hS3).cy.cell 6⟩) ?_;rotate_left
     ·intro w' hw'
      (try dsimp only at hw')
      go_simp
      try (with_reducible rfl)
     try simp only [Act.put, sb0, sb1, sb2]
     refine AnyL.one 9 (by kernel_rfl) rfl fun K hK => ?_;refine step_append_o el36 (by rfl) (.tmp 36) (.tmp 38) (by rfl) (w.heap.size + 1 + 1 + 1 + 1) A q cap cs (by rfl) hS3.own _ 1 1 (vcells x fx ax cx ax' cx') (by rfl) (by rfl) (Laid.of_lb ((Lb.drew ((Lb.new' _ _ _ (by simp)).alloc _)).grown hgr3 (ne_of_lt' hA' (by simp)))) (ones_v _ _ _ _ _ _) (q + 1) rfl (by omega) hS3.c3.lt ?_;intro A4 cap4 w4 hown4 hgr4 hat4;have hS4 := hS3.growI hown4 hgr4 hat4;refine hK.out _ _ (fun _ => ⟨(hS4).c3.cell 5, (hS4).c3.cell 6, (hS4).cy.cell 0, (hS4).cy.cell 1, (hS4).cy.cell 2, (hS4).cy.cell 3, (hS4).cy.cell 4, (hS4).cy.cell 5, (hS4).cy.cell 6⟩) ?_;clear hK K
     try simp only [Act.put, sb0, sb1, sb2]
     have r4 := hS4.c3.cell; have g4 := hS4.c3.frozen; have z4 := hS4.c3.lt;refine AnyL.one 11 (by kernel_rfl) rfl fun K hK => ?_;go_simp;have hS5 := hS4.set3 (i := 6) (x := .slice A3 (q + 1) cap3) rfl;refine hK.out _ _ (fun h => by cases h) ?_;clear hK K r4 g4
     try simp only [Act.put, sb0, sb1, sb2]
     have r5 := hS5.c3.cell; have g5 := hS5.c3.frozen; have z5 := hS5.c3.lt;refine AnyL.takeL (i := 12) (v := ?_) rfl (by kernel_rfl) (by kernel_rfl) (by kernel_rfl) rfl (fun _ _ _ h => h) (Or.inl ⟨by rfl, ?_⟩) ?_;rotate_left
     ·intro w';go_simp
      try (with_reducible rfl)
     try simp only [Act.put, sb0, sb1, sb2]
     refine AnyL.one 13 (by kernel_rfl) rfl fun K hK => ?_;go_simp;have hS6 := hS5.set3 (i := 5) (x := .slice A4 (q + 1) cap4) rfl;refine hK.out _ _ (fun h => by cases h) ?_;clear hK K r5 g5
     try simp only [Act.put, sb0, sb1, sb2]
     refine AnyL.done (by kernel_rfl) ?_ _;have hF := Lib.hid hS6.head
     go_wp2_with fail
     go_roundg g
     case measure => omega
     case rel =>
      have h1 := zip_take_succ v q kq yq HKQ.out.1 HKQ.out.2 key x;refine ⟨q + 1, by go_num, by omega, congrArg Value.bool (decide_eq_true (by rw [h1.2, List.mem_append]; right; simp [HKK.out])).symm, A4, cap4, cs ++ vcells x fx ax cx ax' cx', A3, cap3, ?_⟩;rw [h1.1, h1.2, kcells_append, if_pos HKK.out];exact hF.out
   ·have nn : (kq == key) = false := (by simpa using hkk);have HKK := Lib.hid hkk;clear hkk
    go_upto_region 9 with (fail)
    refine forget (fun W => Rws k w (vcells v f (some ⟨b2, o2, none⟩) c (some ⟨b1, o1, none⟩) c') (vcells x fx ax cx ax' cx') wr.heap.size (vcells yq f3 a3 c3 a4 c4) yq A q cap cs (((v.keys.zip v.items).take q).map (upd key x)) A' q cap' (kcells (v.keys.take q)) (.slice A q cap) (.slice A' q cap') W ∧ ∀ a, A' = some a → a.block ≠ wr.heap.size) ?_ ?_
    ·exact HRh.out.withY (by go_grown) (Lb.new' _ _ _ rfl) HK.out HY.out
    clear d0 d1 d2 d3 d4 d5 d6 dk r0 r1 r3 g3 z0 z1 z2 z3 zb1 zb2;rintro W ⟨hS, h'y⟩;have hS0 := hS.drew;have hA' : ∀ a, A' = some a → a.block < W.heap.size := fun a ha => (own_base hS.own' a ha).2;refine AnyL.start (S := fun w' => w'.cell? ⟨w.heap.size + 1 + 1 + 1, 5, none⟩ = some (.slice A q cap) ∧ w'.cell? ⟨w.heap.size + 1 + 1 + 1, 6, none⟩ = some (.slice A' q cap') ∧ w'.cell? ⟨wr.heap.size, 0, none⟩ = some (.int .i64 yq.kind) ∧ w'.cell? ⟨wr.heap.size, 1, none⟩ = some (.int .i64 yq.int) ∧ w'.cell? ⟨wr.heap.size, 2, none⟩ = some (.float .f64 f3) ∧ w'.cell? ⟨wr.heap.size, 3, none⟩ = some (.string (str yq.text)) ∧ w'.cell? ⟨wr.heap.size, 4, none⟩ = some (.bool yq.bool) ∧ w'.cell? ⟨wr.heap.size, 5, none⟩ = some (.slice a3 yq.items.length c3) ∧ w'.cell? ⟨wr.heap.size, 6, none⟩ = some (.slice a4 yq.keys.length c4)) (late := fun j => [11, 12, 13].contains j) (by kernel_rfl) ?_;have hs0 : (fun w' => w'.cell? ⟨w.heap.size + 1 + 1 + 1, 5, none⟩ = some (.slice A q cap) ∧ w'.cell? ⟨w.heap.size + 1 + 1 + 1, 6, none⟩ = some (.slice A' q cap') ∧ w'.cell? ⟨wr.heap.size, 0, none⟩ = some (.int .i64 yq.kind) ∧ w'.cell? ⟨wr.heap.size, 1, none⟩ = some (.int .i64 yq.int) ∧ w'.cell? ⟨wr.heap.size, 2, none⟩ = some (.float .f64 f3) ∧ w'.cell? ⟨wr.heap.size, 3, none⟩ = some (.string (str yq.text)) ∧ w'.cell? ⟨wr.heap.size, 4, none⟩ = some (.bool yq.bool) ∧ w'.cell? ⟨wr.heap.size, 5, none⟩ = some (.slice a3 yq.items.length c3) ∧ w'.cell? ⟨wr.heap.size, 6, none⟩ = some (.slice a4 yq.keys.length c4)) W.drew := ⟨(hS0).c3.cell 5, (hS0).c3.cell 6, (hS0).cy.cell 0, (hS0).cy.cell 1, (hS0).cy.cell 2, (hS0).cy.cell 3, (hS0).cy.cell 4, (hS0).cy.cell 5, (hS0).cy.cell 6⟩
    refine AnyL.tk [11, 12, 13] [11, 12, 13] 0 ?_ rfl (by kernel_rfl) (by rfl) ?_ hs0 (AnyL.tk [11, 12, 13] [11, 12, 13] 1 ?_ rfl (by kernel_rfl) (by rfl) ?_ hs0 (AnyL.tk [11, 12, 13] [11, 12, 13] 2 ?_ rfl (by kernel_rfl) (by rfl) ?_ hs0 (AnyL.tk [11, 12, 13] [11, 12, 13] 5 ?_ rfl (by kernel_rfl) (by rfl) ?_ hs0 (AnyL.tk [11, 12, 13] [11, 12, 13] 6 ?_ rfl (by kernel_rfl) (by rfl) ?_ hs0 (AnyL.tk [11, 12, 13] [8, 9, 11, 12, 13] 7 ?_ rfl (by kernel_rfl) (by rfl) ?_ hs0 ?_)))))
    iterate 6
     rotate_left
     ·intro w' hw'; (try simp only [Act.put, sb0, sb1, sb2])
      (try dsimp only at hw')
      go_simp
      try (with_reducible rfl)
    try simp only [Act.put, sb0, sb1, sb2]
    refine AnyL.ready (rs := [3, 8]) (by kernel_rfl) (by simp) ?_;refine AllL.cons rfl (fun K hK => ?_) (AllL.cons rfl (fun K hK => ?_) AllL.nil)
    ·go_simp;have hS1 := hS0.alloc (.cells #[.string (str kq)] 9);refine hK.out _ _ (fun _ => ⟨(hS1).c3.cell 5, (hS1).c3.cell 6, (hS1).cy.cell 0, (hS1).cy.cell 1, (hS1).cy.cell 2, (hS1).cy.cell 3, (hS1).cy.cell 4, (hS1).cy.cell 5, (hS1).cy.cell 6⟩) ?_;clear hK K
     try simp only [Act.put, sb0, sb1, sb2]
     refine AnyL.ready (rs := [4, 8]) (by kernel_rfl) (by simp) ?_;refine AllL.cons rfl (fun K hK => ?_) (AllL.cons rfl (fun K hK => ?_) AllL.nil)
     ·refine step_append_o el37 (by rfl) (.tmp 31) (.tmp 33) (by rfl) (w.heap.size + 1 + 1 + 1 + 1) A' q cap' (kcells (v.keys.take q)) (by rfl) hS1.own' _ 1 1 [.string (str kq)] (by rfl) (by rfl) (Laid.of_lb (Lb.new' _ _ _ (by simp))) (ones_s _) (q + 1) rfl (by omega) hS1.c3.lt ?_;intro A3 cap3 w3 hown3 hgr3 hat3;have hS2 := hS1.growK h'y hown3 hgr3 hat3;refine hK.out _ _ (fun _ => ⟨(hS2).c3.cell 5, (hS2).c3.cell 6, (hS2).cy.cell 0, (hS2).cy.cell 1, (hS2).cy.cell 2, (hS2).cy.cell 3, (hS2).cy.cell 4, (hS2).cy.cell 5, (hS2).cy.cell 6⟩) ?_;clear hK K
      try simp only [Act.put, sb0, sb1, sb2]
      have z32 := hS2.c3.lt;refine AnyL.tk [11, 12, 13] [11, 12, 13] 10 ?_ rfl (by kernel_rfl) (by rfl) ?_ (⟨(hS2).c3.cell 5, (hS2).c3.cell 6, (hS2).cy.cell 0, (hS2).cy.cell 1, (hS2).cy.cell 2, (hS2).cy.cell 3, (hS2).cy.cell 4, (hS2).cy.cell 5, (hS2).cy.cell 6⟩) ?_;rotate_left
      ·intro w' hw'
       (try dsimp only at hw')
       go_simp
       try (with_reducible rfl)
      try simp only [Act.put, sb0, sb1, sb2]
      refine AnyL.one 8 (by kernel_rfl) rfl fun K hK => ?_;go_simp;have hS3 := hS2.alloc (.cells #[.int .i64 yq.kind, .int .i64 yq.int, .float .f64 f3, .string (str yq.text), .bool yq.bool, .slice a3 yq.items.length c3, .slice a4 yq.keys.length c4] 39);refine hK.out _ _ (fun _ => ⟨(hS3).c3.cell 5, (hS3).c3.cell 6, (hS3).cy.cell 0, (hS3).cy.cell 1, (hS3).cy.cell 2, (hS3).cy.cell 3, (hS3).cy.cell 4, (hS3).cy.cell 5, (hS3).cy.cell 6⟩) ?_;clear hK K
      try simp only [Act.put, sb0, sb1, sb2]
      refine AnyL.one 9 (by kernel_rfl) rfl fun K hK => ?_;refine step_append_o el36 (by rfl) (.tmp 36) (.tmp 38) (by rfl) (w.heap.size + 1 + 1 + 1 + 1) A q cap cs (by rfl) hS3.own _ 1 1 (vcells yq f3 a3 c3 a4 c4) (by rfl) (by rfl) (Laid.of_lb (Lb.new' _ _ _ (by simp))) (ones_v _ _ _ _ _ _) (q + 1) rfl (by omega) hS3.c3.lt ?_;intro A4 cap4 w4 hown4 hgr4 hat4;have hS4 := hS3.growI hown4 hgr4 hat4;refine hK.out _ _ (fun _ => ⟨(hS4).c3.cell 5, (hS4).c3.cell 6, (hS4).cy.cell 0, (hS4).cy.cell 1, (hS4).cy.cell 2, (hS4).cy.cell 3, (hS4).cy.cell 4, (hS4).cy.cell 5, (hS4).cy.cell 6⟩) ?_;clear hK K
      try simp only [Act.put, sb0, sb1, sb2]
      have r4 := hS4.c3.cell; have g4 := hS4.c3.frozen; have z4 := hS4.c3.lt;refine AnyL.one 11 (by kernel_rfl) rfl fun K hK => ?_;go_simp;have hS5 := hS4.set3 (i := 6) (x := .slice A3 (q + 1) cap3) rfl;refine hK.out _ _ (fun h => by cases h) ?_;clear hK K r4 g4
      try simp only [Act.put, sb0, sb1, sb2]
      have r5 := hS5.c3.cell; have g5 := hS5.c3.frozen; have z5 := hS5.c3.lt;refine AnyL.takeL (i := 12) (v := ?_) rfl (by kernel_rfl) (by kernel_rfl) (by kernel_rfl) rfl (fun _ _ _ h => h) (Or.inl ⟨by rfl, ?_⟩) ?_;rotate_left
      ·intro w';go_simp
       try (with_reducible rfl)
      try simp only [Act.put, sb0, sb1, sb2]
      refine AnyL.one 13 (by kernel_rfl) rfl fun K hK => ?_;go_simp;have hS6 := hS5.set3 (i := 5) (x := .slice A4 (q + 1) cap4) rfl;refine hK.out _ _ (fun h => by cases h) ?_;clear hK K r5 g5
      try simp only [Act.put, sb0, sb1, sb2]
      refine AnyL.done (by kernel_rfl) ?_ _;have hF := Lib.hid hS6.head
      go_wp2_with fail
      go_roundg g
      case measure => omega
      case rel =>
       have h1 := zip_take_succ v q kq yq HKQ.out.1 HKQ.out.2 key x;refine ⟨q + 1, by go_num, by omega, congrArg Value.bool (decide_eq_decide.2 (by rw [h1.2, List.mem_append]; simp [Ne.symm HKK.out])), A4, cap4, cs ++ vcells yq f3 a3 c3 a4 c4, A3, cap3, ?_⟩;rw [h1.1, h1.2, kcells_append, if_neg HKK.out];exact hF.out
     ·go_simp;have hS2 := hS1.alloc (.cells #[.int .i64 yq.kind, .int .i64 yq.int, .float .f64 f3, .string (str yq.text), .bool yq.bool, .slice a3 yq.items.length c3, .slice a4 yq.keys.length c4] 39);refine hK.out _ _ (fun _ => ⟨(hS2).c3.cell 5, (hS2).c3.cell 6, (hS2).cy.cell 0, (hS2).cy.cell 1, (hS2).cy.cell 2, (hS2).cy.cell 3, (hS2).cy.cell 4, (hS2).cy.cell 5, (hS2).cy.cell 6⟩) ?_;clear hK K
      try simp only [Act.put, sb0, sb1, sb2]
      refine AnyL.one 4 (by kernel_rfl) rfl fun K hK => ?_;refine step_append_o el37 (by rfl) (.tmp 31) (.tmp 33) (by rfl) (w.heap.size + 1 + 1 + 1 + 1) A' q cap' (kcells (v.keys.take q)) (by rfl) hS2.own' _ 1 1 [.string (str kq)] (by rfl) (by rfl) (Laid.of_lb ((Lb.new' _ _ _ (by simp)).alloc _)) (ones_s _) (q + 1) rfl (by omega) hS2.c3.lt ?_;intro A3 cap3 w3 hown3 hgr3 hat3;have hS3 := hS2.growK h'y hown3 hgr3 hat3;refine hK.out _ _ (fun _ => ⟨(hS3).c3.cell 5, (hS3).c3.cell 6, (hS3).cy.cell 0, (hS3).cy.cell 1, (hS3).cy.cell 2, (hS3).cy.cell 3, (hS3).cy.cell 4, (hS3).cy.cell 5, (hS3).cy.cell 6⟩) ?_;clear hK K
      try simp only [Act.put, sb0, sb1, sb2]
      have z33 := hS3.c3.lt;refine AnyL.tk [11, 12, 13] [11, 12, 13] 10 ?_ rfl (by kernel_rfl) (by rfl) ?_ (⟨(hS3).c3.cell 5, (hS3).c3.cell 6, (hS3).cy.cell 0, (hS3).cy.cell 1, (hS3).cy.cell 2, (hS3).cy.cell 3, (hS3).cy.cell 4, (hS3).cy.cell 5, (hS3).cy.cell 6⟩) ?_;rotate_left
      ·intro w' hw'
       (try dsimp only at hw')
       go_simp
       try (with_reducible rfl)
      try simp only [Act.put, sb0, sb1, sb2]
      refine AnyL.one 9 (by kernel_rfl) rfl fun K hK => ?_;refine step_append_o el36 (by rfl) (.tmp 36) (.tmp 38) (by rfl) (w.heap.size + 1 + 1 + 1 + 1) A q cap cs (by rfl) hS3.own _ 1 1 (vcells yq f3 a3 c3 a4 c4) (by rfl) (by rfl) (Laid.of_lb ((Lb.drew (Lb.new' _ _ _ (by simp))).grown hgr3 (ne_of_lt' hA' (by simp)))) (ones_v _ _ _ _ _ _) (q + 1) rfl (by omega) hS3.c3.lt ?_;intro A4 cap4 w4 hown4 hgr4 hat4;have hS4 := hS3.growI hown4 hgr4 hat4;refine hK.out _ _ (fun _ => ⟨(hS4).c3.cell 5, (hS4).c3.cell 6, (hS4).cy.cell 0, (hS4).cy.cell 1, (hS4).cy.cell 2, (hS4).cy.cell 3, (hS4).cy.cell 4, (hS4).cy.cell 5, (hS4).cy.cell 6⟩) ?_;clear hK K
      try simp only [Act.put, sb0, sb1, sb2]
      have r4 := hS4.c3.cell; have g4 := hS4.c3.frozen; have z4 := hS4.c3.lt;refine AnyL.one 11 (by kernel_rfl) rfl fun K hK => ?_;go_simp;have hS5 := hS4.set3 (i := 6) (x := .slice A3 (q + 1) cap3) rfl;refine hK.out _ _ (fun h => by cases h) ?_;clear hK K r4 g4
      try simp only [Act.put, sb0, sb1, sb2]
      have r5 := hS5.c3.cell; have g5 := hS5.c3.frozen; have z5 := hS5.c3.lt;refine AnyL.takeL (i := 12) (v := ?_) rfl (by kernel_rfl) (by kernel_rfl) (by kernel_rfl) rfl (fun _ _ _ h => h) (Or.inl ⟨by rfl, ?_⟩) ?_;rotate_left
      ·intro w';go_simp
       try (with_reducible rfl)
      try simp only [Act.put, sb0, sb1, sb2]
      refine AnyL.one 13 (by kernel_rfl) rfl fun K hK => ?_;go_simp;have hS6 := hS5.set3 (i := 5) (x := .slice A4 (q + 1) cap4) rfl;refine hK.out _ _ (fun h => by cases h) ?_;clear hK K r5 g5
      try simp only [Act.put, sb0, sb1, sb2]
      refine AnyL.done (by kernel_rfl) ?_ _;have hF := Lib.hid hS6.head
      go_wp2_with fail
      go_roundg g
      case measure => omega
      case rel =>
       have h1 := zip_take_succ v q kq yq HKQ.out.1 HKQ.out.2 key x;refine ⟨q + 1, by go_num, by omega, congrArg Value.bool (decide_eq_decide.2 (by rw [h1.2, List.mem_append]; simp [Ne.symm HKK.out])), A4, cap4, cs ++ vcells yq f3 a3 c3 a4 c4, A3, cap3, ?_⟩;rw [h1.1, h1.2, kcells_append, if_neg HKK.out];exact hF.out
    ·go_simp;have hS1 := hS0.alloc (.cells #[.int .i64 yq.kind, .int .i64 yq.int, .float .f64 f3, .string (str yq.text), .bool yq.bool, .slice a3 yq.items.length c3, .slice a4 yq.keys.length c4] 39);refine hK.out _ _ (fun _ => ⟨(hS1).c3.cell 5, (hS1).c3.cell 6, (hS1).cy.cell 0, (hS1).cy.cell 1, (hS1).cy.cell 2, (hS1).cy.cell 3, (hS1).cy.cell 4, (hS1).cy.cell 5, (hS1).cy.cell 6⟩) ?_;clear hK K
     try simp only [Act.put, sb0, sb1, sb2]
     refine AnyL.one 3 (by kernel_rfl) rfl fun K hK => ?_;go_simp;have hS2 := hS1.alloc (.cells #[.string (str kq)] 9);refine hK.out _ _ (fun _ => ⟨(hS2).c3.cell 5, (hS2).c3.cell 6, (hS2).cy.cell 0, (hS2).cy.cell 1, (hS2).cy.cell 2, (hS2).cy.cell 3, (hS2).cy.cell 4, (hS2).cy.cell 5, (hS2).cy.cell 6⟩) ?_;clear hK K
     try simp only [Act.put, sb0, sb1, sb2]
     refine AnyL.one 4 (by kernel_rfl) rfl fun K hK => ?_;refine step_append_o el37 (by rfl) (.tmp 31) (.tmp 33) (by rfl) (w.heap.size + 1 + 1 + 1 + 1) A' q cap' (kcells (v.keys.take q)) (by rfl) hS2.own' _ 1 1 [.string (str kq)] (by rfl) (by rfl) (Laid.of_lb (Lb.new' _ _ _ (by simp))) (ones_s _) (q + 1) rfl (by omega) hS2.c3.lt ?_;intro A3 cap3 w3 hown3 hgr3 hat3;have hS3 := hS2.growK h'y hown3 hgr3 hat3;refine hK.out _ _ (fun _ => ⟨(hS3).c3.cell 5, (hS3).c3.cell 6, (hS3).cy.cell 0, (hS3).cy.cell 1, (hS3).cy.cell 2, (hS3).cy.cell 3, (hS3).cy.cell 4, (hS3).cy.cell 5, (hS3).cy.cell 6⟩) ?_;clear hK K
     try simp only [Act.put, sb0, sb1, sb2]
     have z33 := hS3.c3.lt;refine AnyL.tk [11, 12, 13] [11, 12, 13] 10 ?_ rfl (by kernel_rfl) (by rfl) ?_ (⟨(hS3).c3.cell 5, (hS3).c3.cell 6, (hS3).cy.cell 0, (hS3).cy.cell 1, (hS3).cy.cell 2, (hS3).cy.cell 3, (hS3).cy.cell 4, (hS3).cy.cell 5, (hS3).cy.cell 6⟩) ?_;rotate_left
     ·intro w' hw'
      (try dsimp only at hw')
      go_simp
      try (with_reducible rfl)
     try simp only [Act.put, sb0, sb1, sb2]
     refine AnyL.one 9 (by kernel_rfl) rfl fun K hK => ?_;refine step_append_o el36 (by rfl) (.tmp 36) (.tmp 38) (by rfl) (w.heap.size + 1 + 1 + 1 + 1) A q cap cs (by rfl) hS3.own _ 1 1 (vcells yq f3 a3 c3 a4 c4) (by rfl) (by rfl) (Laid.of_lb ((Lb.drew ((Lb.new' _ _ _ (by simp)).alloc _)).grown hgr3 (ne_of_lt' hA' (by simp)))) (ones_v _ _ _ _ _ _) (q + 1) rfl (by omega) hS3.c3.lt ?_;intro A4 cap4 w4 hown4 hgr4 hat4;have hS4 := hS3.growI hown4 hgr4 hat4;refine hK.out _ _ (fun _ => ⟨(hS4).c3.cell 5, (hS4).c3.cell 6, (hS4).cy.cell 0, (hS4).cy.cell 1, (hS4).cy.cell 2, (hS4).cy.cell 3, (hS4).cy.cell 4, (hS4).cy.cell 5, (hS4).cy.cell 6⟩) ?_;clear hK K
     try simp only [Act.put, sb0, sb1, sb2]
     have r4 := hS4.c3.cell; have g4 := hS4.c3.frozen; have z4 := hS4.c3.lt;refine AnyL.one 11 (by kernel_rfl) rfl fun K hK => ?_;go_simp;have hS5 := hS4.set3 (i := 6) (x := .slice A3 (q + 1) cap3) rfl;refine hK.out _ _ (fun h => by cases h) ?_;clear hK K r4 g4
     try simp only [Act.put, sb0, sb1, sb2]
     have r5 := hS5.c3.cell; have g5 := hS5.c3.frozen; have z5 := hS5.c3.lt;refine AnyL.takeL (i := 12) (v := ?_) rfl (by kernel_rfl) (by kernel_rfl) (by kernel_rfl) rfl (fun _ _ _ h => h) (Or.inl ⟨by rfl, ?_⟩) ?_;rotate_left
     ·intro w';go_simp
      try (with_reducible rfl)
     try simp only [Act.put, sb0, sb1, sb2]
     refine AnyL.one 13 (by kernel_rfl) rfl fun K hK => ?_;go_simp;have hS6 := hS5.set3 (i := 5) (x := .slice A4 (q + 1) cap4) rfl;refine hK.out _ _ (fun h => by cases h) ?_;clear hK K r5 g5
     try simp only [Act.put, sb0, sb1, sb2]
     refine AnyL.done (by kernel_rfl) ?_ _;have hF := Lib.hid hS6.head
     go_wp2_with fail
     go_roundg g
     case measure => omega
     case rel =>
      have h1 := zip_take_succ v q kq yq HKQ.out.1 HKQ.out.2 key x;refine ⟨q + 1, by go_num, by omega, congrArg Value.bool (decide_eq_decide.2 (by rw [h1.2, List.mem_append]; simp [Ne.symm HKK.out])), A4, cap4, cs ++ vcells yq f3 a3 c3 a4 c4, A3, cap3, ?_⟩;rw [h1.1, h1.2, kcells_append, if_neg HKK.out];exact hF.out
  ·obtain rfl : gk = 0 := (by omega);obtain rfl : q = v.keys.length := (by omega);have z3 : w.heap.size + 1 + 1 + 1 < wr.heap.size := hR.c3.lt;have z2 : w.heap.size + 1 + 1 < wr.heap.size := (by omega);have z1 : w.heap.size + 1 < wr.heap.size := (by omega);have z0 : w.heap.size < wr.heap.size := (by omega);have r0 := hR.c0.cell; have r1 := hR.c1.cell; have r3 := hR.c3.cell; have g3 := hR.c3.frozen;have r2 := hR.c2.cell; have g2 := hR.c2.frozen;have HRh := Lib.hid hR;unfold vcells at r0 r1;unfold ocells at r3;unfold zcells at r2;have hE : ((v.keys.zip v.items).take v.keys.length).map (upd key x) = (v.keys.zip v.items).map (upd key x) ∧ v.keys.take v.keys.length = v.keys := ⟨by rw [List.take_of_length_le (by rw [List.length_zip]; omega)], List.take_of_length_le (Nat.le_refl _)⟩;have HE := Lib.hid hE;clear hR hE
   by_cases hkm : key ∈ v.keys
   ·have hm : decide (key ∈ v.keys.take v.keys.length) = true := decide_eq_true (by rw [HE.out.2]; exact hkm);rw [hm];have HKM := Lib.hid hkm;clear hkm hm;go_wp21;refine bodyPost_ret (v := .agg #[.int .i64 6, .int .i64 0, .float .f64 0, .string ⟨#[]⟩, .bool false, .slice A v.keys.length cap, .slice A' v.keys.length cap']) (by simp [results, Try.results83, go_sem, r2, g2, z2]; try rfl) rfl ?_;have hV := setV_eq v key x HL.out.1;rw [if_pos HKM.out, if_pos HKM.out, List.append_nil, List.append_nil] at hV;have hlen : ((v.keys.zip v.items).map (upd key x)).length = v.keys.length := (by rw [List.length_map, List.length_zip, HL.out.1, Nat.min_self]);refine ⟨0, A, cap, A', cap', by rw [hV]; simp [hlen, str_nil], HRh.out.b.trans (by go_grown), ?_⟩;rw [hV];have hW := HRh.out;rw [HE.out.1, HE.out.2] at hW;have hU := hW.val HK.out hlen rfl (by unfold most; omega);have hU2 := hU.stored { kind := 6, items := (v.keys.zip v.items).map (upd key x), keys := v.keys } 0 A cap A' cap'
    unfold S7 at hU2;simp only [hlen, str_nil] at hU2;exact hU2
   ·have hm : decide (key ∈ v.keys.take v.keys.length) = false := decide_eq_false (by rw [HE.out.2]; exact hkm);rw [hm];have HKM := Lib.hid hkm;clear hkm hm
    go_upto_region 12 with (fail)
    have hR := HRh.out;rw [HE.out.1, HE.out.2] at hR;obtain ⟨hS, h'y⟩ := hR.withX HX.out;have hkn1 : v.keys.length + 1 ≤ 1172812402927 := (by have h1 := HL.out.1; have h2 := HL.out.2; unfold most at h2; omega);have HRc := Lib.hid hR;clear r0 r1 r3 g3 r2 g2 hR;refine forget (fun W => W = wr) rfl ?_;rintro W rfl;have hS0 := hS.drew;have hA' : ∀ a, A' = some a → a.block < W.heap.size := fun a ha => (own_base hS.own' a ha).2;refine AnyL.start (S := fun w' => w'.cell? ⟨w.heap.size + 1 + 1 + 1, 5, none⟩ = some (.slice A v.keys.length cap) ∧ w'.cell? ⟨w.heap.size + 1 + 1 + 1, 6, none⟩ = some (.slice A' v.keys.length cap') ∧ w'.cell? ⟨w.heap.size + 1, 0, none⟩ = some (.int .i64 x.kind) ∧ w'.cell? ⟨w.heap.size + 1, 1, none⟩ = some (.int .i64 x.int) ∧ w'.cell? ⟨w.heap.size + 1, 2, none⟩ = some (.float .f64 fx) ∧ w'.cell? ⟨w.heap.size + 1, 3, none⟩ = some (.string (str x.text)) ∧ w'.cell? ⟨w.heap.size + 1, 4, none⟩ = some (.bool x.bool) ∧ w'.cell? ⟨w.heap.size + 1, 5, none⟩ = some (.slice ax x.items.length cx) ∧ w'.cell? ⟨w.heap.size + 1, 6, none⟩ = some (.slice ax' x.keys.length cx')) (late := fun j => [11, 12, 13].contains j) (by kernel_rfl) ?_
    have hs0 : (fun w' => w'.cell? ⟨w.heap.size + 1 + 1 + 1, 5, none⟩ = some (.slice A v.keys.length cap) ∧ w'.cell? ⟨w.heap.size + 1 + 1 + 1, 6, none⟩ = some (.slice A' v.keys.length cap') ∧ w'.cell? ⟨w.heap.size + 1, 0, none⟩ = some (.int .i64 x.kind) ∧ w'.cell? ⟨w.heap.size + 1, 1, none⟩ = some (.int .i64 x.int) ∧ w'.cell? ⟨w.heap.size + 1, 2, none⟩ = some (.float .f64 fx) ∧ w'.cell? ⟨w.heap.size + 1, 3, none⟩ = some (.string (str x.text)) ∧ w'.cell? ⟨w.heap.size + 1, 4, none⟩ = some (.bool x.bool) ∧ w'.cell? ⟨w.heap.size + 1, 5, none⟩ = some (.slice ax x.items.length cx) ∧ w'.cell? ⟨w.heap.size + 1, 6, none⟩ = some (.slice ax' x.keys.length cx')) W.drew := ⟨(hS0).c3.cell 5, (hS0).c3.cell 6, (hS0).cy.cell 0, (hS0).cy.cell 1, (hS0).cy.cell 2, (hS0).cy.cell 3, (hS0).cy.cell 4, (hS0).cy.cell 5, (hS0).cy.cell 6⟩;refine AnyL.tk [11, 12, 13] [11, 12, 13] 0 ?_ rfl (by kernel_rfl) (by rfl) ?_ hs0 (AnyL.tk [11, 12, 13] [11, 12, 13] 1 ?_ rfl (by kernel_rfl) (by rfl) ?_ hs0 (AnyL.tk [11, 12, 13] [11, 12, 13] 2 ?_ rfl (by kernel_rfl) (by rfl) ?_ hs0 (AnyL.tk [11, 12, 13] [11, 12, 13] 5 ?_ rfl (by kernel_rfl) (by rfl) ?_ hs0 (AnyL.tk [11, 12, 13] [11, 12, 13] 6 ?_ rfl (by kernel_rfl) (by rfl) ?_ hs0 (AnyL.tk [11, 12, 13] [8, 9, 11, 12, 13] 7 ?_ rfl (by kernel_rfl) (by rfl) ?_ hs0 ?_)))))
    iterate 6
     rotate_left
     ·intro w' hw'; (try simp only [Act.put, sb0, sb1, sb2])
      (try dsimp only at hw')
      go_simp
      try (with_reducible rfl)
    try simp only [Act.put, sb0, sb1, sb2]
    refine AnyL.ready (rs := [3, 8]) (by kernel_rfl) (by simp) ?_;refine AllL.cons rfl (fun K hK => ?_) (AllL.cons rfl (fun K hK => ?_) AllL.nil)
    ·go_simp;have hS1 := hS0.alloc (.cells #[.string (str key)] 9);refine hK.out _ _ (fun _ => ⟨(hS1).c3.cell 5, (hS1).c3.cell 6, (hS1).cy.cell 0, (hS1).cy.cell 1, (hS1).cy.cell 2, (hS1).cy.cell 3, (hS1).cy.cell 4, (hS1).cy.cell 5, (hS1).cy.cell 6⟩) ?_;clear hK K
     try simp only [Act.put, sb0, sb1, sb2]
     refine AnyL.ready (rs := [4, 8]) (by kernel_rfl) (by simp) ?_;refine AllL.cons rfl (fun K hK => ?_) (AllL.cons rfl (fun K hK => ?_) AllL.nil)
     ·refine step_append_o el37 (by rfl) (.tmp 46) (.tmp 48) (by rfl) (w.heap.size + 1 + 1 + 1 + 1) A' v.keys.length cap' (kcells v.keys) (by rfl) hS1.own' _ 1 1 [.string (str key)] (by rfl) (by rfl) (Laid.of_lb (Lb.new' _ _ _ (by simp))) (ones_s _) (v.keys.length + 1) rfl (by omega) hS1.c3.lt ?_;intro A3 cap3 w3 hown3 hgr3 hat3;have hS2 := hS1.growK h'y hown3 hgr3 hat3;refine hK.out _ _ (fun _ => ⟨(hS2).c3.cell 5, (hS2).c3.cell 6, (hS2).cy.cell 0, (hS2).cy.cell 1, (hS2).cy.cell 2, (hS2).cy.cell 3, (hS2).cy.cell 4, (hS2).cy.cell 5, (hS2).cy.cell 6⟩) ?_;clear hK K
      try simp only [Act.put, sb0, sb1, sb2]
      have z32 := hS2.c3.lt;refine AnyL.tk [11, 12, 13] [11, 12, 13] 10 ?_ rfl (by kernel_rfl) (by rfl) ?_ (⟨(hS2).c3.cell 5, (hS2).c3.cell 6, (hS2).cy.cell 0, (hS2).cy.cell 1, (hS2).cy.cell 2, (hS2).cy.cell 3, (hS2).cy.cell 4, (hS2).cy.cell 5, (hS2).cy.cell 6⟩) ?_;rotate_left
      ·intro w' hw'
       (try dsimp only at hw')
       go_simp
       try (with_reducible rfl)
      try simp only [Act.put, sb0, sb1, sb2]
      refine AnyL.one 8 (by kernel_rfl) rfl fun K hK => ?_;go_simp;have hS3 := hS2.alloc (.cells #[.int .i64 x.kind, .int .i64 x.int, .float .f64 fx, .string (str x.text), .bool x.bool, .slice ax x.items.length cx, .slice ax' x.keys.length cx'] 39);refine hK.out _ _ (fun _ => ⟨(hS3).c3.cell 5, (hS3).c3.cell 6, (hS3).cy.cell 0, (hS3).cy.cell 1, (hS3).cy.cell 2, (hS3).cy.cell 3, (hS3).cy.cell 4, (hS3).cy.cell 5, (hS3).cy.cell 6⟩) ?_;clear hK K
      try simp only [Act.put, sb0, sb1, sb2]
      refine AnyL.one 9 (by kernel_rfl) rfl fun K hK => ?_;refine step_append_o el36 (by rfl) (.tmp 51) (.tmp 53) (by rfl) (w.heap.size + 1 + 1 + 1 + 1) A v.keys.length cap cs (by rfl) hS3.own _ 1 1 (vcells x fx ax cx ax' cx') (by rfl) (by rfl) (Laid.of_lb (Lb.new' _ _ _ (by simp))) (ones_v _ _ _ _ _ _) (v.keys.length + 1) rfl (by omega) hS3.c3.lt ?_;intro A4 cap4 w4 hown4 hgr4 hat4;have hS4 := hS3.growI hown4 hgr4 hat4;refine hK.out _ _ (fun _ => ⟨(hS4).c3.cell 5, (hS4).c3.cell 6, (hS4).cy.cell 0, (hS4).cy.cell 1, (hS4).cy.cell 2, (hS4).cy.cell 3, (hS4).cy.cell 4, (hS4).cy.cell 5, (hS4).cy.cell 6⟩) ?_;clear hK K
      try simp only [Act.put, sb0, sb1, sb2]
      have r4 := hS4.c3.cell; have g4 := hS4.c3.frozen; have z4 := hS4.c3.lt;refine AnyL.one 11 (by kernel_rfl) rfl fun K hK => ?_;go_simp;have hS5 := hS4.set3 (i := 6) (x := .slice A3 (v.keys.length + 1) cap3) rfl;refine hK.out _ _ (fun h => by cases h) ?_;clear hK K r4 g4
      try simp only [Act.put, sb0, sb1, sb2]
      have r5 := hS5.c3.cell; have g5 := hS5.c3.frozen; have z5 := hS5.c3.lt;refine AnyL.takeL (i := 12) (v := ?_) rfl (by kernel_rfl) (by kernel_rfl) (by kernel_rfl) rfl (fun _ _ _ h => h) (Or.inl ⟨by rfl, ?_⟩) ?_;rotate_left
      ·intro w';go_simp
       try (with_reducible rfl)
      try simp only [Act.put, sb0, sb1, sb2]
      refine AnyL.one 13 (by kernel_rfl) rfl fun K hK => ?_;go_simp;have hS6 := hS5.set3 (i := 5) (x := .slice A4 (v.keys.length + 1) cap4) rfl;refine hK.out _ _ (fun h => by cases h) ?_;clear hK K r5 g5
      try simp only [Act.put, sb0, sb1, sb2]
      refine AnyL.done (by kernel_rfl) ?_ _;have hF := Lib.hid hS6.head;have hc2 := hF.out.c2; have hc3 := hF.out.c3;have q2 := hc2.cell; have k2 := hc2.frozen; have x2 := hc2.lt;have q3 := hc3.cell; have x3 := hc3.lt;unfold zcells at q2;unfold ocells at q3;clear hc2 hc3;go_wp21;refine bodyPost_ret (v := .agg #[.int .i64 6, .int .i64 0, .float .f64 0, .string ⟨#[]⟩, .bool false, .slice A4 (v.keys.length + 1) cap4, .slice A3 (v.keys.length + 1) cap3]) (by simp [results, Try.results83, go_sem, q2, k2, x2]; try rfl) rfl ?_;have hV := setV_eq v key x HL.out.1;rw [if_neg HKM.out, if_neg HKM.out] at hV;have hlen : ((v.keys.zip v.items).map (upd key x) ++ [x]).length = v.keys.length + 1 := (by rw [List.length_append, List.length_map, List.length_zip, HL.out.1, Nat.min_self]; rfl);have hlen2 : (v.keys ++ [key]).length = v.keys.length + 1 := (by rw [List.length_append]; rfl);refine ⟨0, A4, cap4, A3, cap3, by rw [hV]; show _ = Ending.returned (.agg #[.int .i64 6, .int .i64 0, .float .f64 0, .string (str []), .bool false, .slice A4 ((v.keys.zip v.items).map (upd key x) ++ [x]).length cap4, .slice A3 (v.keys ++ [key]).length cap3]); rw [hlen, hlen2]; rfl, hF.out.b.trans (by go_grown), ?_⟩
      rw [hV];have hU := Rh.val (ks := v.keys ++ [key]) (by rw [kcells_append]; exact hF.out) HK.out hlen hlen2 (by have := HL.out.2; have := HL.out.1; omega);have hU2 := hU.stored { kind := 6, items := (v.keys.zip v.items).map (upd key x) ++ [x], keys := v.keys ++ [key] } 0 A4 cap4 A3 cap3;unfold S7 at hU2;simp only [hlen, hlen2, str_nil] at hU2;exact hU2
     ·go_simp;have hS2 := hS1.alloc (.cells #[.int .i64 x.kind, .int .i64 x.int, .float .f64 fx, .string (str x.text), .bool x.bool, .slice ax x.items.length cx, .slice ax' x.keys.length cx'] 39);refine hK.out _ _ (fun _ => ⟨(hS2).c3.cell 5, (hS2).c3.cell 6, (hS2).cy.cell 0, (hS2).cy.cell 1, (hS2).cy.cell 2, (hS2).cy.cell 3, (hS2).cy.cell 4, (hS2).cy.cell 5, (hS2).cy.cell 6⟩) ?_;clear hK K
      try simp only [Act.put, sb0, sb1, sb2]
      refine AnyL.one 4 (by kernel_rfl) rfl fun K hK => ?_;refine step_append_o el37 (by rfl) (.tmp 46) (.tmp 48) (by rfl) (w.heap.size + 1 + 1 + 1 + 1) A' v.keys.length cap' (kcells v.keys) (by rfl) hS2.own' _ 1 1 [.string (str key)] (by rfl) (by rfl) (Laid.of_lb ((Lb.new' _ _ _ (by simp)).alloc _)) (ones_s _) (v.keys.length + 1) rfl (by omega) hS2.c3.lt ?_;intro A3 cap3 w3 hown3 hgr3 hat3;have hS3 := hS2.growK h'y hown3 hgr3 hat3;refine hK.out _ _ (fun _ => ⟨(hS3).c3.cell 5, (hS3).c3.cell 6, (hS3).cy.cell 0, (hS3).cy.cell 1, (hS3).cy.cell 2, (hS3).cy.cell 3, (hS3).cy.cell 4, (hS3).cy.cell 5, (hS3).cy.cell 6⟩) ?_;clear hK K
      try simp only [Act.put, sb0, sb1, sb2]
      have z33 := hS3.c3.lt;refine AnyL.tk [11, 12, 13] [11, 12, 13] 10 ?_ rfl (by kernel_rfl) (by rfl) ?_ (⟨(hS3).c3.cell 5, (hS3).c3.cell 6, (hS3).cy.cell 0, (hS3).cy.cell 1, (hS3).cy.cell 2, (hS3).cy.cell 3, (hS3).cy.cell 4, (hS3).cy.cell 5, (hS3).cy.cell 6⟩) ?_;rotate_left
      ·intro w' hw'
       (try dsimp only at hw')
       go_simp
       try (with_reducible rfl)
      try simp only [Act.put, sb0, sb1, sb2]
      refine AnyL.one 9 (by kernel_rfl) rfl fun K hK => ?_;refine step_append_o el36 (by rfl) (.tmp 51) (.tmp 53) (by rfl) (w.heap.size + 1 + 1 + 1 + 1) A v.keys.length cap cs (by rfl) hS3.own _ 1 1 (vcells x fx ax cx ax' cx') (by rfl) (by rfl) (Laid.of_lb ((Lb.drew (Lb.new' _ _ _ (by simp))).grown hgr3 (ne_of_lt' hA' (by simp)))) (ones_v _ _ _ _ _ _) (v.keys.length + 1) rfl (by omega) hS3.c3.lt ?_;intro A4 cap4 w4 hown4 hgr4 hat4;have hS4 := hS3.growI hown4 hgr4 hat4;refine hK.out _ _ (fun _ => ⟨(hS4).c3.cell 5, (hS4).c3.cell 6, (hS4).cy.cell 0, (hS4).cy.cell 1, (hS4).cy.cell 2, (hS4).cy.cell 3, (hS4).cy.cell 4, (hS4).cy.cell 5, (hS4).cy.cell 6⟩) ?_;clear hK K
      try simp only [Act.put, sb0, sb1, sb2]
      have r4 := hS4.c3.cell; have g4 := hS4.c3.frozen; have z4 := hS4.c3.lt;refine AnyL.one 11 (by kernel_rfl) rfl fun K hK => ?_;go_simp;have hS5 := hS4.set3 (i := 6) (x := .slice A3 (v.keys.length + 1) cap3) rfl;refine hK.out _ _ (fun h => by cases h) ?_;clear hK K r4 g4
      try simp only [Act.put, sb0, sb1, sb2]
      have r5 := hS5.c3.cell; have g5 := hS5.c3.frozen; have z5 := hS5.c3.lt;refine AnyL.takeL (i := 12) (v := ?_) rfl (by kernel_rfl) (by kernel_rfl) (by kernel_rfl) rfl (fun _ _ _ h => h) (Or.inl ⟨by rfl, ?_⟩) ?_;rotate_left
      ·intro w';go_simp
       try (with_reducible rfl)
      try simp only [Act.put, sb0, sb1, sb2]
      refine AnyL.one 13 (by kernel_rfl) rfl fun K hK => ?_;go_simp;have hS6 := hS5.set3 (i := 5) (x := .slice A4 (v.keys.length + 1) cap4) rfl;refine hK.out _ _ (fun h => by cases h) ?_;clear hK K r5 g5
      try simp only [Act.put, sb0, sb1, sb2]
      refine AnyL.done (by kernel_rfl) ?_ _;have hF := Lib.hid hS6.head;have hc2 := hF.out.c2; have hc3 := hF.out.c3;have q2 := hc2.cell; have k2 := hc2.frozen; have x2 := hc2.lt;have q3 := hc3.cell; have x3 := hc3.lt;unfold zcells at q2;unfold ocells at q3;clear hc2 hc3;go_wp21;refine bodyPost_ret (v := .agg #[.int .i64 6, .int .i64 0, .float .f64 0, .string ⟨#[]⟩, .bool false, .slice A4 (v.keys.length + 1) cap4, .slice A3 (v.keys.length + 1) cap3]) (by simp [results, Try.results83, go_sem, q2, k2, x2]; try rfl) rfl ?_;have hV := setV_eq v key x HL.out.1;rw [if_neg HKM.out, if_neg HKM.out] at hV;have hlen : ((v.keys.zip v.items).map (upd key x) ++ [x]).length = v.keys.length + 1 := (by rw [List.length_append, List.length_map, List.length_zip, HL.out.1, Nat.min_self]; rfl);have hlen2 : (v.keys ++ [key]).length = v.keys.length + 1 := (by rw [List.length_append]; rfl);refine ⟨0, A4, cap4, A3, cap3, by rw [hV]; show _ = Ending.returned (.agg #[.int .i64 6, .int .i64 0, .float .f64 0, .string (str []), .bool false, .slice A4 ((v.keys.zip v.items).map (upd key x) ++ [x]).length cap4, .slice A3 (v.keys ++ [key]).length cap3]); rw [hlen, hlen2]; rfl, hF.out.b.trans (by go_grown), ?_⟩
      rw [hV];have hU := Rh.val (ks := v.keys ++ [key]) (by rw [kcells_append]; exact hF.out) HK.out hlen hlen2 (by have := HL.out.2; have := HL.out.1; omega);have hU2 := hU.stored { kind := 6, items := (v.keys.zip v.items).map (upd key x) ++ [x], keys := v.keys ++ [key] } 0 A4 cap4 A3 cap3;unfold S7 at hU2;simp only [hlen, hlen2, str_nil] at hU2;exact hU2
    ·go_simp;have hS1 := hS0.alloc (.cells #[.int .i64 x.kind, .int .i64 x.int, .float .f64 fx, .string (str x.text), .bool x.bool, .slice ax x.items.length cx, .slice ax' x.keys.length cx'] 39);refine hK.out _ _ (fun _ => ⟨(hS1).c3.cell 5, (hS1).c3.cell 6, (hS1).cy.cell 0, (hS1).cy.cell 1, (hS1).cy.cell 2, (hS1).cy.cell 3, (hS1).cy.cell 4, (hS1).cy.cell 5, (hS1).cy.cell 6⟩) ?_;clear hK K
     try simp only [Act.put, sb0, sb1, sb2]
     refine AnyL.one 3 (by kernel_rfl) rfl fun K hK => ?_;go_simp;have hS2 := hS1.alloc (.cells #[.string (str key)] 9);refine hK.out _ _ (fun _ => ⟨(hS2).c3.cell 5, (hS2).c3.cell 6, (hS2).cy.cell 0, (hS2).cy.cell 1, (hS2).cy.cell 2, (hS2).cy.cell 3, (hS2).cy.cell 4, (hS2).cy.cell 5, (hS2).cy.cell 6⟩) ?_;clear hK K
     try simp only [Act.put, sb0, sb1, sb2]
     refine AnyL.one 4 (by kernel_rfl) rfl fun K hK => ?_;refine step_append_o el37 (by rfl) (.tmp 46) (.tmp 48) (by rfl) (w.heap.size + 1 + 1 + 1 + 1) A' v.keys.length cap' (kcells v.keys) (by rfl) hS2.own' _ 1 1 [.string (str key)] (by rfl) (by rfl) (Laid.of_lb (Lb.new' _ _ _ (by simp))) (ones_s _) (v.keys.length + 1) rfl (by omega) hS2.c3.lt ?_;intro A3 cap3 w3 hown3 hgr3 hat3;have hS3 := hS2.growK h'y hown3 hgr3 hat3;refine hK.out _ _ (fun _ => ⟨(hS3).c3.cell 5, (hS3).c3.cell 6, (hS3).cy.cell 0, (hS3).cy.cell 1, (hS3).cy.cell 2, (hS3).cy.cell 3, (hS3).cy.cell 4, (hS3).cy.cell 5, (hS3).cy.cell 6⟩) ?_;clear hK K
     try simp only [Act.put, sb0, sb1, sb2]
     have z33 := hS3.c3.lt;refine AnyL.tk [11, 12, 13] [11, 12, 13] 10 ?_ rfl (by kernel_rfl) (by rfl) ?_ (⟨(hS3).c3.cell 5, (hS3).c3.cell 6, (hS3).cy.cell 0, (hS3).cy.cell 1, (hS3).cy.cell 2, (hS3).cy.cell 3, (hS3).cy.cell 4, (hS3).cy.cell 5, (hS3).cy.cell 6⟩) ?_;rotate_left
     ·intro w' hw'
      (try dsimp only at hw')
      go_simp
      try (with_reducible rfl)
     try simp only [Act.put, sb0, sb1, sb2]
     refine AnyL.one 9 (by kernel_rfl) rfl fun K hK => ?_;refine step_append_o el36 (by rfl) (.tmp 51) (.tmp 53) (by rfl) (w.heap.size + 1 + 1 + 1 + 1) A v.keys.length cap cs (by rfl) hS3.own _ 1 1 (vcells x fx ax cx ax' cx') (by rfl) (by rfl) (Laid.of_lb ((Lb.drew ((Lb.new' _ _ _ (by simp)).alloc _)).grown hgr3 (ne_of_lt' hA' (by simp)))) (ones_v _ _ _ _ _ _) (v.keys.length + 1) rfl (by omega) hS3.c3.lt ?_;intro A4 cap4 w4 hown4 hgr4 hat4;have hS4 := hS3.growI hown4 hgr4 hat4;refine hK.out _ _ (fun _ => ⟨(hS4).c3.cell 5, (hS4).c3.cell 6, (hS4).cy.cell 0, (hS4).cy.cell 1, (hS4).cy.cell 2, (hS4).cy.cell 3, (hS4).cy.cell 4, (hS4).cy.cell 5, (hS4).cy.cell 6⟩) ?_;clear hK K
     try simp only [Act.put, sb0, sb1, sb2]
     have r4 := hS4.c3.cell; have g4 := hS4.c3.frozen; have z4 := hS4.c3.lt;refine AnyL.one 11 (by kernel_rfl) rfl fun K hK => ?_;go_simp;have hS5 := hS4.set3 (i := 6) (x := .slice A3 (v.keys.length + 1) cap3) rfl;refine hK.out _ _ (fun h => by cases h) ?_;clear hK K r4 g4
     try simp only [Act.put, sb0, sb1, sb2]
     have r5 := hS5.c3.cell; have g5 := hS5.c3.frozen; have z5 := hS5.c3.lt;refine AnyL.takeL (i := 12) (v := ?_) rfl (by kernel_rfl) (by kernel_rfl) (by kernel_rfl) rfl (fun _ _ _ h => h) (Or.inl ⟨by rfl, ?_⟩) ?_;rotate_left
     ·intro w';go_simp
      try (with_reducible rfl)
     try simp only [Act.put, sb0, sb1, sb2]
     refine AnyL.one 13 (by kernel_rfl) rfl fun K hK => ?_;go_simp;have hS6 := hS5.set3 (i := 5) (x := .slice A4 (v.keys.length + 1) cap4) rfl;refine hK.out _ _ (fun h => by cases h) ?_;clear hK K r5 g5
     try simp only [Act.put, sb0, sb1, sb2]
     refine AnyL.done (by kernel_rfl) ?_ _;have hF := Lib.hid hS6.head;have hc2 := hF.out.c2; have hc3 := hF.out.c3;have q2 := hc2.cell; have k2 := hc2.frozen; have x2 := hc2.lt;have q3 := hc3.cell; have x3 := hc3.lt;unfold zcells at q2;unfold ocells at q3;clear hc2 hc3;go_wp21;refine bodyPost_ret (v := .agg #[.int .i64 6, .int .i64 0, .float .f64 0, .string ⟨#[]⟩, .bool false, .slice A4 (v.keys.length + 1) cap4, .slice A3 (v.keys.length + 1) cap3]) (by simp [results, Try.results83, go_sem, q2, k2, x2]; try rfl) rfl ?_;have hV := setV_eq v key x HL.out.1;rw [if_neg HKM.out, if_neg HKM.out] at hV;have hlen : ((v.keys.zip v.items).map (upd key x) ++ [x]).length = v.keys.length + 1 := (by rw [List.length_append, List.length_map, List.length_zip, HL.out.1, Nat.min_self]; rfl);have hlen2 : (v.keys ++ [key]).length = v.keys.length + 1 := (by rw [List.length_append]; rfl);refine ⟨0, A4, cap4, A3, cap3, by rw [hV]; show _ = Ending.returned (.agg #[.int .i64 6, .int .i64 0, .float .f64 0, .string (str []), .bool false, .slice A4 ((v.keys.zip v.items).map (upd key x) ++ [x]).length cap4, .slice A3 (v.keys ++ [key]).length cap3]); rw [hlen, hlen2]; rfl, hF.out.b.trans (by go_grown), ?_⟩
     rw [hV];have hU := Rh.val (ks := v.keys ++ [key]) (by rw [kcells_append]; exact hF.out) HK.out hlen hlen2 (by have := HL.out.2; have := HL.out.1; omega);have hU2 := hU.stored { kind := 6, items := (v.keys.zip v.items).map (upd key x) ++ [x], keys := v.keys ++ [key] } 0 A4 cap4 A3 cap3;unfold S7 at hU2;simp only [hlen, hlen2, str_nil] at hU2;exact hU2
end Go.Proofs.Ytafhhdimjkgihaa.Mn
