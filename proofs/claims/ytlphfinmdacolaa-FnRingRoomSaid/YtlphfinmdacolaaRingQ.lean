/- A slice of ints of the call's own that may begin within its block (a queue), appended to and cut at its head; and the walk of spec.Queue. -/
import Derived.Test.YtlphfinmdacolaaRingI
set_option linter.unusedSimpArgs false
set_option linter.unusedVariables false
namespace Go.Proofs.Ytlphfinmdacolaa.Rng
open Go.RowKit

def OwnQ (w : World) (B : Nat) (v : Value) (l : List Int) : Prop :=
  (v = .slice none 0 0 ∧ l = []) ∨
  ∃ g off cap cur, v = .slice (some ⟨g, off, none⟩) l.length cap ∧ B ≤ g ∧ w.heap[g]? = some (.cells cur 3 (0, 0)) ∧ l.length ≤ cap ∧ off + cap ≤ cur.size ∧ cur.size ≤ maxLen ∧
    ∀ i x, l[i]? = some x → cur[off + i]? = some (.int .i64 x)

theorem blk_lt {w : World} {g : Nat} {o : Obj} (h : w.heap[g]? = some o) : g < w.heap.size := by
  rcases Nat.lt_or_ge g w.heap.size with hlt | hge
  · exact hlt
  · rw [Array.getElem?_eq_none hge] at h; cases h

theorem OwnQ.lt {w : World} {B : Nat} {v : Value} {l : List Int} (h : OwnQ w B v l) : ∀ k, v.ownBlock = some k → B ≤ k ∧ k < w.heap.size := by
  intro k hk
  rcases h with ⟨rfl, _⟩ | ⟨g, off, cap, cur, rfl, hB, hh, _⟩
  · simp [Value.ownBlock] at hk
  · have : g = k := by simpa [Value.ownBlock] using hk
    subst this
    exact ⟨hB, blk_lt hh⟩

theorem OwnQ.of_block {w w' : World} {B : Nat} {v : Value} {l : List Int} (h : OwnQ w B v l) (hb : ∀ k, v.ownBlock = some k → w'.heap[k]? = w.heap[k]?) : OwnQ w' B v l := by
  rcases h with h | ⟨g, off, cap, cur, rfl, hB, hh, hr⟩
  · exact .inl h
  · exact .inr ⟨g, off, cap, cur, rfl, hB, (hb g rfl).trans hh, hr⟩

theorem OwnQ.alloc {w : World} {B : Nat} {v : Value} {l : List Int} (h : OwnQ w B v l) (o : Obj) : OwnQ (w.alloc o) B v l :=
  h.of_block fun k hk => Below.heap_alloc w o k (h.lt k hk).2
theorem OwnQ.kept {w w' : World} {B : Nat} {v : Value} {l : List Int} {row : Option Nat} (h : OwnQ w B v l) (hg : w.grownBy w' row) (hne : ∀ k, v.ownBlock = some k → some k ≠ row) : OwnQ w' B v l :=
  h.of_block fun k hk => hg.block k (h.lt k hk).2 (hne k hk)

/-- the value, for the walk: its address is asked for only where there is an element -/
theorem OwnQ.form {w : World} {B : Nat} {v : Value} {l : List Int} (h : OwnQ w B v l) : ∃ A cap, v = .slice A l.length cap ∧ l.length ≤ cap ∧
    (0 < l.length → ∃ g off, A = some ⟨g, off, none⟩ ∧ ∀ i x, l[i]? = some x → w.cell? ⟨g, off + i, none⟩ = some (.int .i64 x)) := by
  rcases h with ⟨rfl, rfl⟩ | ⟨g, off, cap, cur, rfl, hB, hh, hl, hc, _, hr⟩
  · exact ⟨none, 0, rfl, Nat.le_refl _, fun h => by simp at h⟩
  · exact ⟨_, cap, rfl, hl, fun _ => ⟨g, off, rfl, fun i x hx => by simp only [World.cell?, hh]; exact hr i x hx⟩⟩

theorem OwnQ.tail_ {w : World} {B n cap : Nat} {A : Option Addr} {x : Int} {l : List Int} (h : OwnQ w B (.slice A n cap) (x :: l)) :
    n = l.length + 1 ∧ ∃ g off, A = some ⟨g, off, none⟩ ∧ OwnQ w B (.slice (if cap = 1 then some ⟨g, off, none⟩ else some ⟨g, off + 1, none⟩) (n - 1) (cap - 1)) l := by
  rcases h with ⟨_, h⟩ | ⟨g, off, cap', cur, hv, hB, hh, hl, hc, hm, hr⟩
  · cases h
  · injection hv with h1 h2 h3
    subst h1; subst h3
    simp only [List.length_cons] at h2 hl
    refine ⟨h2, g, off, rfl, .inr ?_⟩
    by_cases e : cap = 1
    · rw [if_pos e]
      have h0 : l = [] := List.eq_nil_of_length_eq_zero (by omega)
      subst h0
      exact ⟨g, off, cap - 1, cur, by rw [h2]; rfl, hB, hh, by simp, by omega, hm, fun i x hx => by simp at hx⟩
    · rw [if_neg e]
      refine ⟨g, off + 1, cap - 1, cur, by rw [h2]; rfl, hB, hh, by omega, by omega, hm, fun i y hy => ?_⟩
      rw [show off + 1 + i = off + (i + 1) from by omega]
      exact hr (i + 1) y (by simpa using hy)

theorem run_append_q (w : World) (B : Nat) (ty : TypeId) (v : Value) (l : List Int) (h : OwnQ w B v l) (ad : Addr) (c : Nat) (x : Int) (hx : w.cell? ad = some (.int .i64 x)) (hsp : ad.spot = none)
    (hlen : l.length ≤ 1000000) (hB : B ≤ w.heap.size) :
    ∃ v' w', (Builtin.append_ #[22, 22] ty #[v, .slice (some ad) 1 c]).run Try.prog w = .ok v' w' ∧ OwnQ w' B v' (l ++ [x]) ∧ w.grownBy w' v.ownBlock ∧ (v'.ownBlock = v.ownBlock ∨ v'.ownBlock = some w.heap.size) := by
  obtain ⟨i0, hi, hz0, hz1, hz2⟩ := info_parts info3'
  have ht := Try.underlying22
  have hnews : ∀ j u, [Value.int .i64 x][j]? = some u → w.cell? (ad.add j) = some u := by
    intro j u hu
    match j, hu with
    | 0, hu => simp at hu; subst hu; simpa [Addr.add] using hx
  rcases h with ⟨rfl, rfl⟩ | ⟨g, off, cap, cur, rfl, hBg, hh, hl, hc, hm, hr⟩
  · have hrun := run_append_nil (P := Try.prog) w 22 ty 3 i0 _ ht hi hz0 ad 1 c [.int .i64 x] (by rw [hz1]; rfl) hnews (by omega) (by omega) (by rw [hz2]; omega)
    refine ⟨_, _, hrun, .inr ⟨w.heap.size, 0, _, _, rfl, hB, heap_alloc_new w.drew _, grownCap_ge w 1 0 3, ?_, ?_, ?_⟩, ⟨rfl, rfl, rfl, by simp, fun k hk _ => Below.heap_alloc w.drew _ k hk⟩, .inr rfl⟩
    · have := grownCap_ge w 1 0 3
      simp [Builtin.zeroCells, Value.cells]; omega
    · have := grownCap_ge w 1 0 3
      have := grownCap_le_maxLen w 1 0 3 (by decide)
      simp [Builtin.zeroCells, Value.cells]; omega
    · intro i y hy
      match i, hy with
      | 0, hy =>
        simp at hy; subst hy
        rw [Nat.zero_add, Array.getElem?_append_left (by simp)]
        simp
  · by_cases hroom : l.length + 1 ≤ cap
    · have hf := run_firstCells_some (P := Try.prog) w i0.size 1 ad 1 c [.int .i64 x] (by rw [hz1]; rfl) hnews
      have hst := run_storeCells_at Try.prog g (off + l.length) 3 [.int .i64 x] 0 cur w hh (by simp; omega) (by intro v hv; simp at hv; subst hv; rfl)
      simp only [Nat.add_zero] at hst
      have hrun : (Builtin.append_ #[22, 22] ty #[.slice (some ⟨g, off, none⟩) l.length cap, .slice (some ad) 1 c]).run Try.prog w =
          .ok (.slice (some ⟨g, off, none⟩) (l.length + 1) cap) (w.setRow g (cur.toList.take (off + l.length) ++ [Value.int .i64 x] ++ cur.toList.drop (off + l.length + 1)).toArray) := by
        have hz1' : i0.size = 1 := hz1
        rw [hz1'] at hf
        simp [Builtin.append_, run_underlying ht, sizeOf, typeInfo, hi, Builtin.lenOf, hroom, hz1', hf, Addr.add_lit]
        have hst' := hst
        simp only [List.append_assoc, List.length_singleton, List.singleton_append] at hst'
        rw [hst']
        rfl
      refine ⟨_, _, hrun, .inr ⟨g, off, cap, _, by simp, hBg, setRow_heap w g cur _ 3 _ hh, by simp; omega, ?_, ?_, ?_⟩, ⟨rfl, rfl, rfl, by simp, fun k _ hk => setRow_other w g k _ (fun e => hk (by simp [Value.ownBlock, e]))⟩, .inl rfl⟩
      · simp; omega
      · simp; omega
      · intro i y hy
        by_cases e : i = l.length
        · subst e
          rw [List.getElem?_append_right (Nat.le_refl _)] at hy
          simp at hy
          subst hy
          simp only [List.getElem?_toArray, List.append_assoc]
          rw [List.getElem?_append_right (by simp; omega)]
          simp
          rw [show off + l.length - min (off + l.length) cur.size = 0 from by omega]
          rfl
        · have hlt : i < l.length := by
            have := (List.getElem?_eq_some_iff.1 hy).1
            simp at this; omega
          rw [List.getElem?_append_left hlt] at hy
          simp only [List.getElem?_toArray, List.append_assoc]
          rw [List.getElem?_append_left (by simp; omega), List.getElem?_take, if_pos (by omega), Array.getElem?_toList]
          exact hr i y hy
    · have holds : ∀ j u, (l.map (Value.int .i64))[j]? = some u → w.cell? ((⟨g, off, none⟩ : Addr).add j) = some u := by
        intro j u hu
        rw [WideShapes.add_plain]
        rw [List.getElem?_map] at hu
        obtain ⟨y, hy, rfl⟩ := Option.map_eq_some_iff.1 hu
        simp only [World.cell?, hh]
        exact hr j y hy
      have hrun := run_append_grow (P := Try.prog) w 22 ty 3 i0 _ ht hi hz0 ⟨g, off, none⟩ l.length cap (l.map (Value.int .i64)) (by rw [hz1]; simp) holds ad 1 c [.int .i64 x] (by rw [hz1]; rfl) hnews (by omega) (by omega)
        (growslice_fits (by omega) (by rw [hz2]; omega))
      have hge := grownCap_ge w (l.length + 1) cap 3
      have hcm := grownCap_le_maxLen w (l.length + 1) cap 3 (by simp only [maxLen]; omega)
      refine ⟨_, _, hrun, .inr ⟨w.heap.size, 0, grownCap w (l.length + 1) cap 3, _, by simp, hB, heap_alloc_new w.drew _, by simpa using hge, ?_, ?_, ?_⟩, ⟨rfl, rfl, rfl, by simp, fun k hk _ => Below.heap_alloc w.drew _ k hk⟩, .inr rfl⟩
      · simp [Builtin.zeroCells, Value.cells]; omega
      · simp [Builtin.zeroCells, Value.cells]; omega
      · intro i y hy
        have hlt : i < l.length + 1 := by
          have := (List.getElem?_eq_some_iff.1 hy).1
          simpa using this
        rw [Nat.zero_add, Array.getElem?_append_left (by simp; omega)]
        have : (l.map (Value.int .i64) ++ [.int .i64 x])[i]? = some (.int .i64 y) := by
          have := congrArg (Option.map (Value.int .i64)) hy
          rw [← List.getElem?_map] at this
          simpa using this
        simpa using this

/-- a law for the walk out of a run that ends so -/
theorem wp_append_q {o : Oper} {a : Act} {w : World} {K : Act → World → Prop} {Q : Exit → Act → World → Prop} (s x : Operand)
    (ho : o.op = .call { callee := .builtin .append, args := #[s, x], argTypes := #[22, 22] }) (B : Nat) (v : Value) (l : List Int) (hs : a.eval s = v) (hq : OwnQ w B v l)
    (ad : Addr) (c : Nat) (y : Int) (hx : a.eval x = .slice (some ad) 1 c) (hy : w.cell? ad = some (.int .i64 y)) (hsp : ad.spot = none) (hlen : l.length ≤ 1000000) (hB : B ≤ w.heap.size)
    (h : ∀ v' w', OwnQ w' B v' (l ++ [y]) → w.grownBy w' v.ownBlock → (v'.ownBlock = v.ownBlock ∨ v'.ownBlock = some w.heap.size) → K (a.put o.dst v') w') : o.wp Try.prog a w K Q := by
  obtain ⟨v', w', hrun, h2, h3, h4⟩ := run_append_q w B o.type v l hq ad c y hy hsp hlen hB
  unfold Oper.wp execOp
  simp only [ho, resolve, invoke, builtin, Sem.run_bind, Sem.run_pure, Result.andThen_ok, List.map_toArray, List.map_cons, List.map_nil, hs, hx, hrun]
  exact h v' w' h2 h3 h4

theorem wpList_append_q {ops : Array Oper} {rest : List Oper} {o : Oper} {a : Act} {w : World} {Q : Exit → Act → World → Prop} (hgd : o.guard = none) (s x : Operand)
    (ho : o.op = .call { callee := .builtin .append, args := #[s, x], argTypes := #[22, 22] }) (B : Nat) (v : Value) (l : List Int) (hs : a.eval s = v) (hq : OwnQ w B v l)
    (ad : Addr) (c : Nat) (y : Int) (hx : a.eval x = .slice (some ad) 1 c) (hy : w.cell? ad = some (.int .i64 y)) (hsp : ad.spot = none) (hlen : l.length ≤ 1000000) (hB : B ≤ w.heap.size)
    (h : ∀ v' w', OwnQ w' B v' (l ++ [y]) → w.grownBy w' v.ownBlock → (v'.ownBlock = v.ownBlock ∨ v'.ownBlock = some w.heap.size) → wpList Try.prog ops Q rest (a.put o.dst v') w') :
    wpList Try.prog ops Q (o :: rest) a w :=
  wpList_plain hgd fun _ hK => wp_append_q s x ho B v l hs hq ad c y hx hy hsp hlen hB fun v' w' h2 h3 h4 => hK _ _ (h v' w' h2 h3 h4)

theorem step_append_q {ops : Array Oper} {o : Oper} {a : Act} {w : World} {K : Act → World → Prop} {Q : Exit → Act → World → Prop} {E : Prop} (hgd : o.guard = none) (s x : Operand)
    (ho : o.op = .call { callee := .builtin .append, args := #[s, x], argTypes := #[22, 22] }) (B : Nat) (v : Value) (l : List Int) (hs : a.eval s = v) (hq : OwnQ w B v l)
    (ad : Addr) (c : Nat) (y : Int) (hx : a.eval x = .slice (some ad) 1 c) (hy : w.cell? ad = some (.int .i64 y)) (hsp : ad.spot = none) (hlen : l.length ≤ 1000000) (hB : B ≤ w.heap.size)
    (h : ∀ v' w', OwnQ w' B v' (l ++ [y]) → w.grownBy w' v.ownBlock → (v'.ownBlock = v.ownBlock ∨ v'.ownBlock = some w.heap.size) → K (a.put o.dst v') w') :
    if Region.wanted o (yielded ops a.tmps) = true then Oper.wp Try.prog o a w K Q else E := by
  rw [if_pos (by simp [Region.wanted, hgd])]
  exact wp_append_q s x ho B v l hs hq ad c y hx hy hsp hlen hB h
end Go.Proofs.Ytlphfinmdacolaa.Rng
