/- A ring tells what a queue tells: the oldest one first, the n-th oldest one, how many there are: for every chunk from 1 to 1000, and at most 10000 steps of which none asks for the room. -/
import Derived.Test.YtlphfinmdacolaaRingS
import Derived.ProofKit
import Derived.OpenShut
import Derived.ShutString
import Derived.ChangeOld
import Derived.SizedLaws
set_option linter.unusedSimpArgs false
set_option linter.unusedVariables false
namespace Go.Proofs.Ytlphfinmdacolaa.Rng
open Go.RowKit

/-- a slice of ints, read -/
def Sl (w : World) (B : Nat) (A : Option Addr) (l : List Int) : Prop :=
  0 < l.length → ∃ g off, A = some ⟨g, off, none⟩ ∧ g < B ∧ ∀ i x, l[i]? = some x → w.cell? ⟨g, off + i, none⟩ = some (.int .i64 x)

theorem Sl.below {w w' : World} {B B' : Nat} {A : Option Addr} {l : List Int} (h : Sl w B A l) (hb : Below B w w') (hB : B ≤ B') : Sl w' B' A l := by
  intro h0
  obtain ⟨g, off, hA, hg, hc⟩ := h h0
  exact ⟨g, off, hA, Nat.lt_of_lt_of_le hg hB, fun i x hx => (hb.cell (p := ⟨g, off + i, none⟩) hg).trans (hc i x hx)⟩

theorem Sl.steps {w : World} {B : Nat} {A : Option Addr} {l : List Int} (h : Sl w B A l) : Steps_ w B A l := fun k hk => h (by omega)

theorem OwnQ.sl {w : World} {B : Nat} {v : Value} {l : List Int} (h : OwnQ w B v l) : ∃ A cap, v = .slice A l.length cap ∧ Sl w w.heap.size A l := by
  rcases h with ⟨rfl, rfl⟩ | ⟨g, off, cap, cur, rfl, hB, hh, hl, hc, _, hr⟩
  · exact ⟨none, 0, rfl, fun h => by simp at h⟩
  · exact ⟨_, cap, rfl, fun _ => ⟨g, off, rfl, blk_lt hh, fun i x hx => by simp only [World.cell?, hh]; exact hr i x hx⟩⟩

theorem Own.sl {w : World} {B : Nat} {v : Value} {l : List Int} (h : Own w B v l) : ∃ A cap, v = .slice A l.length cap ∧ Sl w w.heap.size A l := by
  rcases h.2 with ⟨hv, h0⟩ | ⟨g, cap, cur, hv, hB, hh, hl, hc, hcs, ht⟩
  · exact ⟨none, 0, by rw [hv, h0], fun h => by omega⟩
  · refine ⟨_, cap, hv, fun _ => ⟨g, 0, rfl, blk_lt hh, fun i x hx => ?_⟩⟩
    have hi : i < l.length := (List.getElem?_eq_some_iff.1 hx).1
    have := congrArg (fun l => l[i]?) ht
    simp only [List.getElem?_take, Nat.mul_one, if_pos hi, List.getElem?_map, hx, Array.getElem?_toList] at this
    simp only [World.cell?, hh, Nat.zero_add]
    exact this

set_option maxHeartbeats 400000 in
theorem lxInts_same (w : World) (A1 A2 : Option Addr) (c1 c2 : Nat) (l : List Int) (hl : l.length ≤ 100000) (h1 : Sl w w.heap.size A1 l) (h2 : Sl w w.heap.size A2 l) :
    Calls Try.prog 15 #[.slice A1 l.length c1, .slice A2 l.length c2] w fun e w' => e = .returned (.bool true) ∧ w = w' := by
  have H1 := Lib.hid h1
  have H2 := Lib.hid h2
  clear h1 h2
  go_enter Try.func15, Try.ntmps15
  go_wp2
  go_loop [14] (fun i => ∃ k : Nat, k ≤ l.length ∧ i = .int .i64 k) (fun i => l.length - (intOf i).toNat)
  case atStart => exact ⟨0, Nat.zero_le _, rfl⟩
  case round =>
    obtain ⟨k, hk, rfl⟩ := hrel
    by_cases hlt : k < l.length
    · obtain ⟨g, o, rfl, _, hc1⟩ := H1.out (by omega)
      obtain ⟨g2, o2, rfl, _, hc2⟩ := H2.out (by omega)
      obtain ⟨x, hx⟩ : ∃ x, l[k]? = some x := ⟨_, List.getElem?_eq_getElem hlt⟩
      have c1 := hc1 k x hx
      have c2 := hc2 k x hx
      clear hc1 hc2 hx
      go_wp2
      go_round
      case rel => exact ⟨k + 1, by omega, by go_num⟩
      case measure => simp [intOf]; omega
    · go_wp2
      go_ret
      exact ⟨rfl, rfl⟩

/-- append([]int(nil), steps...) -/
theorem run_append_copy (w : World) (ty : TypeId) (A : Option Addr) (c : Nat) (l : List Int) (h : Sl w w.heap.size A l) (hlen : l.length ≤ 1000000) :
    ∃ v' w', (Builtin.append_ #[22, 22] ty #[.slice none 0 0, .slice A l.length c]).run Try.prog w = .ok v' w' ∧ (∃ A' c', v' = .slice A' l.length c' ∧ Sl w' w'.heap.size A' l) ∧ Below w.heap.size w w' := by
  obtain ⟨i0, hi, hz0, hz1, hz2⟩ := info_parts info3'
  have ht := Try.underlying22
  by_cases h0 : 0 < l.length
  · obtain ⟨g, off, rfl, hg, hc⟩ := h h0
    have hnews : ∀ j u, (l.map (Value.int .i64))[j]? = some u → w.cell? ((⟨g, off, none⟩ : Addr).add j) = some u := by
      intro j u hu
      rw [WideShapes.add_plain]
      rw [List.getElem?_map] at hu
      obtain ⟨y, hy, rfl⟩ := Option.map_eq_some_iff.1 hu
      exact hc j y hy
    obtain ⟨v', w', hrun, hown, hgrow, _⟩ := run_append_own (P := Try.prog) w w.heap.size 22 ty 3 i0 (.int .i64 0) 1 8 ht hi hz0 hz1 hz2 rfl (by decide) (.slice none 0 0) 0 [] (World.ownsRow_nil _ _ _ _)
      ⟨g, off, none⟩ l.length c (l.map (Value.int .i64)) (by simp) hnews (by intro u hu; obtain ⟨x, _, rfl⟩ := List.mem_map.1 hu; rfl) (by unfold maxLen; omega) (by omega) (Nat.le_refl _)
    have ho : Own w' w.heap.size v' l := by
      have := hown
      simp only [Nat.zero_add, List.nil_append] at this
      exact this
    exact ⟨v', w', hrun, ho.sl, (Below.refl _ _).grown hgrow (Nat.le_refl _) (by simp [Value.ownBlock])⟩
  · have hl : l = [] := List.eq_nil_of_length_eq_zero (by omega)
    subst hl
    refine ⟨.slice none 0 0, w, ?_, ⟨none, 0, rfl, fun h => by simp at h⟩, Below.refl _ _⟩
    simp [Builtin.append_, run_underlying ht, sizeOf, typeInfo, hi, Builtin.lenOf, Builtin.firstCells]
    cases A <;> simp [Builtin.firstCells, loadCells, loadCellsFrom]

theorem wpList_append_copy {ops : Array Oper} {rest : List Oper} {o : Oper} {a : Act} {w : World} {Q : Exit → Act → World → Prop} (hgd : o.guard = none) (s x : Operand)
    (ho : o.op = .call { callee := .builtin .append, args := #[s, x], argTypes := #[22, 22] }) (hs : a.eval s = .slice none 0 0) (A : Option Addr) (c : Nat) (l : List Int) (hx : a.eval x = .slice A l.length c)
    (hsl : Sl w w.heap.size A l) (hlen : l.length ≤ 1000000)
    (h : ∀ A' c' w', Sl w' w'.heap.size A' l → Below w.heap.size w w' → wpList Try.prog ops Q rest (a.put o.dst (.slice A' l.length c')) w') : wpList Try.prog ops Q (o :: rest) a w := by
  refine wpList_plain hgd fun K hK => ?_
  obtain ⟨v', w', hrun, ⟨A', c', rfl, h2⟩, h3⟩ := run_append_copy w o.type A c l hsl hlen
  unfold Oper.wp execOp
  simp only [ho, resolve, invoke, builtin, Sem.run_bind, Sem.run_pure, Result.andThen_ok, List.map_toArray, List.map_cons, List.map_nil, hs, hx, hrun]
  exact hK _ _ (h A' c' w' h2 h3)

def Yes (w : World) (e : Ending) (w' : World) : Prop := e = .returned (.bool true) ∧ Below w.heap.size w w'

set_option maxHeartbeats 400000 in
theorem law_far1 (w : World) (chunk : Int) (A : Option Addr) (n c : Nat) (hn : 10000 < n) (hm : n ≤ 9223372036854775807) : Calls Try.prog 6 #[.int .i64 chunk, .slice A n c] w (Yes w) := by
  by_cases h1 : 2147483647 < n
  · go_enter Try.func6, Try.ntmps6
    go_wp2
    go_ret
    exact ⟨rfl, Below.refl _ _⟩
  by_cases h2 : chunk < 1
  · go_enter Try.func6, Try.ntmps6
    go_wp2
    go_ret
    exact ⟨rfl, Below.refl _ _⟩
  by_cases h3 : 1000 < chunk
  · go_enter Try.func6, Try.ntmps6
    go_wp2
    go_ret
    exact ⟨rfl, Below.refl _ _⟩
  go_enter Try.func6, Try.ntmps6
  go_wp2
  go_ret
  exact ⟨rfl, Below.refl _ _⟩

set_option maxHeartbeats 400000 in
theorem law_far2 (w : World) (chunk : Int) (A : Option Addr) (n c : Nat) (hn : n ≤ 10000) (h : chunk < 1 ∨ 1000 < chunk) : Calls Try.prog 6 #[.int .i64 chunk, .slice A n c] w (Yes w) := by
  by_cases h2 : chunk < 1
  · go_enter Try.func6, Try.ntmps6
    go_wp2
    go_ret
    exact ⟨rfl, Below.refl _ _⟩
  have h3 : 1000 < chunk := by omega
  clear h
  go_enter Try.func6, Try.ntmps6
  go_wp2
  go_ret
  exact ⟨rfl, Below.refl _ _⟩

set_option maxHeartbeats 1000000 in
theorem law_near (w : World) (chunk : Nat) (hc : 1 ≤ chunk) (hc' : chunk ≤ 1000) (A : Option Addr) (c : Nat) (L : List Int) (hn : L.length ≤ 10000) (hS : Sl w w.heap.size A L)
    (hwf : ∀ x ∈ L, -9223372036854775808 ≤ x ∧ x ≤ 9223372036854775807) : Calls Try.prog 6 #[.int .i64 chunk, .slice A L.length c] w (Yes w) := by
  have HS := Lib.hid hS
  have HW := Lib.hid hwf
  clear hS hwf
  go_enter Try.func6, Try.ntmps6
  go_wp2
  go_loop [26] (fun i => ∃ k : Nat, k ≤ L.length ∧ i = .int .i64 k ∧ Hid (∀ j, j < k → L[j]? ≠ some (-3))) (fun i => L.length - (intOf i).toNat)
  case atStart => exact ⟨0, Nat.zero_le _, rfl, fun j h => by omega⟩
  case round =>
    obtain ⟨k, hk, rfl, HK⟩ := hrel
    by_cases hlt : k < L.length
    · obtain ⟨g, o, rfl, _, hc1⟩ := HS.out (by omega)
      obtain ⟨x, hx⟩ : ∃ x, L[k]? = some x := ⟨_, List.getElem?_eq_getElem hlt⟩
      have c1 := hc1 k x hx
      have HX := Lib.hid hx
      clear hc1 hx
      by_cases h3 : x = -3
      · subst h3
        go_wp2
        go_ret
        exact ⟨rfl, Below.refl _ _⟩
      · have b3 : (x == -3) = false := by simpa using h3
        go_wp2
        go_round
        case rel =>
          refine ⟨k + 1, by omega, by go_num, fun j hj => ?_⟩
          by_cases e : j = k
          · subst e; rw [HX.out]; simpa using h3
          · exact HK.out j (by omega)
        case measure => simp [intOf]; omega
    · obtain rfl : k = L.length := by omega
      have hno : ∀ x ∈ L, -9223372036854775808 ≤ x ∧ x ≤ 9223372036854775807 ∧ x ≠ -3 := by
        intro x hx
        obtain ⟨j, hj, rfl⟩ := List.getElem_of_mem hx
        refine ⟨(HW.out _ hx).1, (HW.out _ hx).2, fun e => HK.out j hj ?_⟩
        rw [List.getElem?_eq_getElem hj, e]
      have HNo := Lib.hid hno
      clear hno
      go_wp2_with (first
        | (go_at_call 13; refine (queue_any _ chunk A c L (by omega) HS.out.steps HNo.out).mono ?_; rintro e w1 ⟨v1, rfl, hv1, hb1⟩
           obtain ⟨A1, c1, rfl, hs1⟩ := hv1.sl
           have HS1 := Lib.hid hs1
           have HB1 := Lib.hid hb1
           have hz1 := hb1.size
           have HSB := Lib.hid (HS.out.below hb1 hz1)
           clear hv1 hs1 hb1)
        | (at_builtin; refine wpList_append_copy rfl _ _ rfl rfl A c L rfl HSB.out (by omega) ?_; intro A2 c2 w2 hs2 hb2
           have HS2 := Lib.hid hs2
           have HB2 := Lib.hid hb2
           clear hs2 hb2)
        | (go_at_call 14; refine (ring_any _ chunk hc hc' A2 c2 L (by omega) HS2.out.steps HW.out).mono ?_; rintro e w3 ⟨v3, rfl, hv3, hb3⟩
           obtain ⟨A3, c3, rfl, hs3⟩ := hv3.sl
           have HS3 := Lib.hid hs3
           have HB3 := Lib.hid hb3
           have hz2 := HB2.out.size
           have hz3 := hb3.size
           have hbb := HB2.out.trans (hb3.mono hz2)
           have HSX := Lib.hid ((HS1.out.below hbb hbb.size))
           have HBB := Lib.hid hbb
           clear hv3 hs3 hb3 hbb)
        | (go_at_call 15; refine (lxInts_same _ A3 A1 c3 c1 _ (by have := (sim_bound chunk L).2.2; omega) HS3.out HSX.out).mono ?_; rintro e w4 ⟨rfl, rfl⟩))
      go_ret
      exact ⟨rfl, HB1.out.trans (HBB.out.mono HB1.out.size)⟩
end Go.Proofs.Ytlphfinmdacolaa.Rng
