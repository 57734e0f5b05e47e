/- The walk of impl.Ring: what a ring tells, step by step, is what the plain function 'sim' tells. -/
import Derived.Test.YtlphfinmdacolaaRingW
set_option linter.unusedSimpArgs false
set_option linter.unusedVariables false
namespace Go.Proofs.Ytlphfinmdacolaa.Rng
open Go.RowKit

/-- the queue, the room, what has been told -/
structure Sm where
  q : List Int
  cap : Nat
  out : List Int

def qn (q : List Int) (n : Int) : Int := if n < q.length then q.getD n.toNat 0 else -1
def qh (q : List Int) : Int := match q with | [] => -1 | x :: _ => x

def step (chunk : Nat) (s : Sm) (x : Int) : Sm :=
  if 0 ≤ x then { s with q := s.q ++ [x], cap := if s.q.length = s.cap then s.cap + chunk else s.cap }
  else if x = -1 then { s with q := s.q.tail, out := s.out ++ [qh s.q] }
  else if x = -2 then { s with out := s.out ++ [(s.q.length : Int)] }
  else if x = -3 then { s with out := s.out ++ [(s.cap : Int)] }
  else if x = -4 then { s with q := [] }
  else { s with out := s.out ++ [qn s.q (-5 - x)] }

def sim (chunk : Nat) (L : List Int) : Sm := L.foldl (step chunk) ⟨[], 0, []⟩

theorem sim_snoc (chunk : Nat) (L : List Int) (x : Int) : sim chunk (L ++ [x]) = step chunk (sim chunk L) x := by
  simp [sim, List.foldl_append]

/-- the queue in the data -/
def Good (D : List Int) (back : Nat) (q : List Int) : Prop :=
  (D = [] ∧ back = 0 ∧ q = []) ∨ (back < D.length ∧ q.length ≤ D.length ∧ ∀ i, i < q.length → q[i]? = some (D.getD ((back + i) % D.length) 0))

theorem Good.len {D : List Int} {back : Nat} {q : List Int} (h : Good D back q) : q.length ≤ D.length := by
  rcases h with ⟨rfl, rfl, rfl⟩ | h
  · simp
  · exact h.2.1

theorem sim_bound (chunk : Nat) (L : List Int) : (sim chunk L).q.length ≤ L.length ∧ (sim chunk L).cap ≤ L.length + chunk ∧ (sim chunk L).out.length ≤ L.length := by
  suffices h : ∀ (L : List Int) (s : Sm) (n : Nat), s.q.length ≤ n → s.cap ≤ n + chunk → s.out.length ≤ n →
      (L.foldl (step chunk) s).q.length ≤ n + L.length ∧ (L.foldl (step chunk) s).cap ≤ n + L.length + chunk ∧ (L.foldl (step chunk) s).out.length ≤ n + L.length by
    have := h L ⟨[], 0, []⟩ 0 (by simp) (by simp) (by simp)
    simpa [sim] using this
  intro L
  induction L with
  | nil => intro s n h1 h2 h3; exact ⟨h1, h2, h3⟩
  | cons x L ih =>
    intro s n h1 h2 h3
    have := ih (step chunk s x) (n + 1) ?_ ?_ ?_
    · simp only [List.foldl_cons, List.length_cons]
      rw [show n + (L.length + 1) = n + 1 + L.length from by omega]
      exact this
    · unfold step; repeat' split
      all_goals simp
      all_goals omega
    · unfold step; repeat' split
      all_goals simp
      all_goals omega
    · unfold step; repeat' split
      all_goals simp
      all_goals omega

/-! what the steps do to the data -/
theorem good_enq_room {D : List Int} {back : Nat} {q : List Int} (h : Good D back q) (hl : q.length < D.length) (v : Int) : Good (D.set ((back + q.length) % D.length) v) back (q ++ [v]) := by
  rcases h with ⟨rfl, rfl, rfl⟩ | ⟨h1, h2, h3⟩
  · simp at hl
  · refine .inr ⟨by simpa using h1, by simp; omega, fun i hi => ?_⟩
    have hm : (back + i) % D.length < D.length := Nat.mod_lt _ (by omega)
    rw [List.length_append, List.length_singleton] at hi
    rw [List.length_set]
    by_cases e : i = q.length
    · subst e
      rw [List.getElem?_append_right (Nat.le_refl _)]
      simp [List.getD_eq_getElem?_getD, List.getElem?_set, hm]
    · have hi' : i < q.length := by omega
      rw [List.getElem?_append_left hi', h3 i hi']
      congr 1
      rw [List.getD_eq_getElem?_getD, List.getD_eq_getElem?_getD, List.getElem?_set_ne]
      intro hc
      have : (back + q.length) % D.length = (back + i) % D.length := hc
      have h4 : (back + i) = (back + i) % D.length + D.length * ((back + i) / D.length) := (Nat.mod_add_div _ _).symm
      have h5 : (back + q.length) = (back + q.length) % D.length + D.length * ((back + q.length) / D.length) := (Nat.mod_add_div _ _).symm
      have h6 : q.length - i = D.length * ((back + q.length) / D.length) - D.length * ((back + i) / D.length) := by omega
      rw [← Nat.mul_sub] at h6
      have h7 : 0 < q.length - i := by omega
      have h8 : q.length - i < D.length := by omega
      rcases Nat.eq_zero_or_pos ((back + q.length) / D.length - (back + i) / D.length) with h9 | h9
      · rw [h9] at h6; omega
      · have := Nat.mul_le_mul_left D.length h9
        omega

theorem gd_get (D : List Int) (back chunk i : Nat) (hb : back ≤ D.length) (hi : i < D.length) : (gd D back chunk)[i]? = D[(back + i) % D.length]? := by
  unfold gd
  rw [List.append_assoc]
  by_cases h : i < D.length - back
  · rw [List.getElem?_append_left (by simpa using h), List.getElem?_drop, Nat.mod_eq_of_lt (by omega)]
  · rw [List.getElem?_append_right (by simp; omega), List.getElem?_append_left (by simp; omega), List.getElem?_take, if_pos (by simp; omega)]
    congr 1
    rw [Nat.mod_eq_sub_mod (by omega), Nat.mod_eq_of_lt (by omega)]
    simp
    omega

theorem good_enq_full {D : List Int} {back : Nat} {q : List Int} (h : Good D back q) (hl : q.length = D.length) (chunk : Nat) (hc : 1 ≤ chunk) (v : Int) : Good ((gd D back chunk).set D.length v) 0 (q ++ [v]) := by
  have hgl := gd_len D back chunk
  refine .inr ⟨by simp [hgl]; omega, by simp [hgl]; omega, fun i hi => ?_⟩
  rw [List.length_append, List.length_singleton] at hi
  rw [List.length_set, hgl, Nat.zero_add, Nat.mod_eq_of_lt (by omega)]
  by_cases e : i = q.length
  · subst e
    rw [List.getElem?_append_right (Nat.le_refl _)]
    rw [List.getD_eq_getElem?_getD, List.getElem?_set, hl]
    simp [hgl, show 0 < chunk from hc]
  · have hi' : i < q.length := by omega
    rw [List.getElem?_append_left hi', List.getD_eq_getElem?_getD, List.getElem?_set_ne (by omega)]
    rcases h with ⟨rfl, rfl, rfl⟩ | ⟨h1, h2, h3⟩
    · simp at hi'
    · rw [gd_get D back chunk i (by omega) (by omega), h3 i hi', List.getD_eq_getElem?_getD]

theorem good_deq {D : List Int} {back : Nat} {q : List Int} (h : Good D back q) (h0 : 0 < q.length) : Good (D.set back 0) ((back + 1) % D.length) q.tail := by
  rcases h with ⟨rfl, rfl, rfl⟩ | ⟨h1, h2, h3⟩
  · simp at h0
  · refine .inr ⟨by rw [List.length_set]; exact Nat.mod_lt _ (by omega), by simp; omega, fun i hi => ?_⟩
    rw [List.length_tail] at hi
    rw [List.getElem?_tail, h3 (i + 1) (by omega), List.length_set]
    congr 1
    have e : ((back + 1) % D.length + i) % D.length = (back + (i + 1)) % D.length := by rw [Nat.mod_add_mod]; congr 1; omega
    rw [e, List.getD_eq_getElem?_getD, List.getD_eq_getElem?_getD, List.getElem?_set_ne]
    intro hc
    by_cases hb : back + (i + 1) < D.length
    · rw [Nat.mod_eq_of_lt hb] at hc; omega
    · rw [Nat.mod_eq_sub_mod (by omega), Nat.mod_eq_of_lt (by omega)] at hc; omega

theorem good_head {D : List Int} {back : Nat} {q : List Int} (h : Good D back q) (h0 : 0 < q.length) : qh q = D.getD back 0 := by
  rcases h with ⟨rfl, rfl, rfl⟩ | ⟨h1, h2, h3⟩
  · simp at h0
  · have := h3 0 h0
    rw [Nat.add_zero, Nat.mod_eq_of_lt h1] at this
    cases q with
    | nil => simp at h0
    | cons x q => simp at this; simpa [qh] using this

theorem good_nth {D : List Int} {back : Nat} {q : List Int} (h : Good D back q) (n : Nat) (hn : n < q.length) : qn q n = D.getD ((n + back) % D.length) 0 := by
  rcases h with ⟨rfl, rfl, rfl⟩ | ⟨h1, h2, h3⟩
  · simp at hn
  · have := h3 n hn
    rw [Nat.add_comm] at this
    simp only [qn]
    rw [if_pos (by omega), Int.toNat_natCast, List.getD_eq_getElem?_getD, this]
    rfl

theorem good_reset {D : List Int} {back : Nat} {q : List Int} (h : Good D back q) : Good (List.replicate D.length 0) 0 [] := by
  rcases h with ⟨rfl, rfl, rfl⟩ | ⟨h1, h2, h3⟩
  · exact .inl ⟨rfl, rfl, rfl⟩
  · exact .inr ⟨by simp; omega, by simp, fun i hi => by simp at hi⟩

/-- the value is a slice of the call's own (from block B on) with these ints -/
def Own (w : World) (B : Nat) (v : Value) (l : List Int) : Prop := w.ownsRow B 3 1 v l.length (l.map (Value.int .i64))

def St (w : World) (B g : Nat) (H : Option Nat) (s : Sm) (chunk : Nat) : Prop :=
  ∃ D back, RingIs w B g H D back s.q.length chunk ∧ Good D back s.q ∧ D.length = s.cap

theorem Own.fr {w w' : World} {B : Nat} {v : Value} {l : List Int} {S : Nat → Prop} (h : Own w B v l) (hf : Fr S w w') (hS : ∀ k, v.ownBlock = some k → ¬ S k) : Own w' B v l := by
  obtain ⟨h1, h2⟩ := h
  refine ⟨h1, ?_⟩
  rcases h2 with h2 | ⟨g, cap, cur, hv, hB, hh, hr⟩
  · exact .inl h2
  · refine .inr ⟨g, cap, cur, hv, hB, ?_, hr⟩
    rw [hf.block g ?_ (hS g (by rw [hv]; rfl))]
    · exact hh
    · rcases Nat.lt_or_ge g w.heap.size with hlt | hge
      · exact hlt
      · rw [Array.getElem?_eq_none hge] at hh; cases hh

theorem Own.ne_ring {w : World} {B g : Nat} {H : Option Nat} {D : List Int} {back len : Nat} {chunk : Int} {v : Value} {l : List Int} (h : Own w B v l) (hr : RingIs w B g H D back len chunk) : v.ownBlock ≠ some g := by
  intro e
  rcases h.2 with ⟨hv, _⟩ | ⟨g', cap, cur, hv, hB, hh, _⟩
  · rw [hv] at e; simp [Value.ownBlock] at e
  · rw [hv] at e
    have : g' = g := by simpa [Value.ownBlock] using e
    subst this
    rw [hr.1] at hh
    simp at hh

theorem Below.of_fr {B : Nat} {w0 w w' : World} {S : Nat → Prop} (hb : Below B w0 w) (hf : Fr S w w') (hS : ∀ k, S k → B ≤ k) (hB : B ≤ w.heap.size) : Below B w0 w' :=
  hb.trans ⟨hf.os, hf.tape, hf.output, hf.size, fun k hk => hf.block k (by omega) (fun hs => by have := hS k hs; omega)⟩

/-- the steps, read off a slice that came in -/
def Steps_ (w : World) (B : Nat) (A : Option Addr) (L : List Int) : Prop := ∀ k, k < L.length → ∃ b off, A = some ⟨b, off, none⟩ ∧ b < B ∧ ∀ j x, L[j]? = some x → w.cell? ⟨b, off + j, none⟩ = some (.int .i64 x)

def M (w : World) (B g : Nat) (chunk : Nat) (s : Sm) (out : Value) (wr : World) : Prop :=
  ∃ H, St wr B g H s chunk ∧ Own wr B out s.out ∧ (∀ m, out.ownBlock = some m → H ≠ some m) ∧ Below B w wr

theorem M.ring {w wr w' : World} {B g chunk : Nat} {out : Value} {H H' : Option Nat} {s s' : Sm} (hout : s'.out = s.out)
    (hst : St wr B g H s chunk) (hst' : St w' B g H' s' chunk) (ho : Own wr B out s.out) (ha : ∀ m, out.ownBlock = some m → H ≠ some m)
    (hf : Fr (fun k => k = g ∨ H = some k) wr w') (hH : H' = H ∨ H' = some wr.heap.size) (hb : Below B w wr) (hB : B ≤ wr.heap.size) : M w B g chunk s' out w' := by
  obtain ⟨D, back, hr, hg, hl⟩ := hst
  have hno : ∀ m, out.ownBlock = some m → ¬ (m = g ∨ H = some m) := by
    intro m hm hc
    rcases hc with rfl | hc
    · exact ho.ne_ring hr hm
    · exact ha m hm hc
  refine ⟨H', hst', ?_, ?_, ?_⟩
  · rw [hout]; exact ho.fr hf hno
  · intro m hm
    rcases hH with rfl | rfl
    · exact ha m hm
    · intro e
      injection e with e
      subst e
      have := (ho.lt _ hm).2
      omega
  · refine Below.of_fr hb hf ?_ hB
    rintro k (rfl | rfl)
    · exact hr.2.1
    · exact (hr.ne).2.1

theorem M.drewN {w wr : World} {B g chunk : Nat} {out : Value} {s : Sm} (h : M w B g chunk s out wr) (n : Nat) : M w B g chunk s out (wr.drewN n) := by
  obtain ⟨H, ⟨D, back, h1⟩, h2, h3, h4⟩ := h
  exact ⟨H, ⟨D, back, h1⟩, h2, h3, ⟨h4.os, h4.tape, h4.output, h4.size, h4.block⟩⟩

theorem M.size {w wr : World} {B g chunk : Nat} {out : Value} {s : Sm} (h : M w B g chunk s out wr) (hB : B ≤ w.heap.size) : B ≤ wr.heap.size := by
  obtain ⟨H, _, _, _, h4⟩ := h
  exact Nat.le_trans hB h4.size

theorem M.push {w wr w' : World} {B g chunk : Nat} {out out' : Value} {s : Sm} {x : Int} {o : Obj} (h : M w B g chunk s out wr) (hB : B ≤ wr.heap.size)
    (hown : w'.ownsRow B 3 1 out' (s.out.length + 1) (s.out.map (Value.int .i64) ++ [.int .i64 x])) (hg : (wr.alloc o).grownBy w' out.ownBlock)
    (hb : out'.ownBlock = out.ownBlock ∨ out'.ownBlock = some (wr.heap.size + 1)) : M w B g chunk { s with out := s.out ++ [x] } out' w' := by
  obtain ⟨H, ⟨D, back, h1, h1', h1''⟩, h2, h3, h4⟩ := h
  refine ⟨H, ⟨D, back, ?_, h1', h1''⟩, ?_, ?_, ?_⟩
  · refine (h1.alloc o).other (hg.block g ?_ ?_) ?_
    · have := h1.lt; simp; omega
    · exact fun e => h2.ne_ring h1 e.symm
    · rintro k rfl
      refine hg.block k ?_ (fun e => h3 k e.symm rfl)
      have := h1.ne.2.2.1
      simp; omega
  · unfold Own
    rw [List.map_append, List.length_append]
    exact hown
  · intro m hm e
    subst e
    have := h1.ne.2.2.1
    rcases hb with hb | hb
    · rw [hb] at hm; exact h3 m hm rfl
    · rw [hb] at hm; injection hm with hm; omega
  · exact (h4.alloc hB o).grown hg (by simp; omega) (fun k hk => (h2.lt k hk).1)

theorem info3' : (Try.prog.info? 3).map (fun i => (i.zero, i.size, i.bytes)) = some (some (.int .i64 0), 1, 8) := by kernel_rfl

/-- what impl.Ring gives -/
def Told (w : World) (l : List Int) (e : Ending) (w' : World) : Prop := ∃ v, e = .returned (.tuple #[v, .bool true]) ∧ Own w' w.heap.size v l ∧ Below w.heap.size w w'

set_option maxHeartbeats 2000000 in
theorem ring_any (w : World) (chunk : Nat) (hc : 1 ≤ chunk) (hc' : chunk ≤ 1000) (A : Option Addr) (c : Nat) (L : List Int) (hL : L.length ≤ 20000) (hS : Steps_ w w.heap.size A L)
    (hwf : ∀ x ∈ L, -9223372036854775808 ≤ x ∧ x ≤ 9223372036854775807) :
    Calls Try.prog 14 #[.int .i64 chunk, .slice A L.length c] w (Told w (sim chunk L).out) := by
  obtain ⟨i0, hi, hz0, hz1, hz2⟩ := info_parts info3'
  have t0 : decide ((chunk : Int) < 1) = false := by simp; omega
  have HS := Lib.hid hS
  have HW := Lib.hid hwf
  clear hS hwf
  go_enter Try.func14, Try.ntmps14
  go_wp2_with (go_at_call 19; refine (new_any _ chunk (by omega)).mono ?_; rintro e w1 ⟨rfl, hr1, hb1⟩)
  have hM : M w w.heap.size w.heap.size chunk (sim chunk (L.take 0)) (.slice none 0 0) w1 := by
    refine ⟨none, ⟨[], 0, by simpa [sim] using hr1, .inl ⟨rfl, rfl, rfl⟩, rfl⟩, ?_, ?_, hb1⟩
    · exact World.ownsRow_nil _ _ _ _
    · intro m hm; simp [Value.ownBlock] at hm
  have HM := Lib.hid hM
  clear hM hr1 hb1
  go_loopw [7, 16] (fun out i wr => ∃ k : Nat, k ≤ L.length ∧ i = .int .i64 k ∧ M w w.heap.size w.heap.size chunk (sim chunk (L.take k)) out wr)
    (fun _ i _ => L.length - (intOf i).toNat)
  case atStart => exact ⟨0, Nat.zero_le _, rfl, HM.out⟩
  case round =>
    obtain ⟨k, hk, rfl, hM⟩ := hrel
    have HM := Lib.hid hM
    clear hM
    by_cases hlt : k < L.length
    · obtain ⟨b, off, rfl, hbB, hcells⟩ := HS.out k hlt
      obtain ⟨x, hx⟩ : ∃ x, L[k]? = some x := ⟨_, List.getElem?_eq_getElem hlt⟩
      have hcell : wr.cell? ⟨b, off + k, none⟩ = some (.int .i64 x) := by
        obtain ⟨H, _, _, _, hb⟩ := HM.out
        exact (hb.cell (p := ⟨b, off + k, none⟩) hbB).trans (hcells k x hx)
      have hxm := HW.out x (List.mem_of_getElem? hx)
      obtain ⟨hx0, hx1⟩ := hxm
      have HX := Lib.hid hx
      have HCC := Lib.hid hcells
      clear hx hcells
      have ht : L.take (k + 1) = L.take k ++ [x] := by rw [List.take_add_one, HX.out]; rfl
      have HT := Lib.hid ht
      clear ht
      have hbd := sim_bound chunk (L.take k)
      have htl : (L.take k).length ≤ k := List.length_take_le _ _
      obtain ⟨s, hs⟩ : ∃ s, s = sim chunk (L.take k) := ⟨_, rfl⟩
      rw [← hs] at hbd HM
      have HSim := Lib.hid hs
      clear hs
      have HBD := Lib.hid hbd
      clear hbd
      have hnx : sim chunk (L.take (k + 1)) = step chunk s x := by rw [HT.out, sim_snoc, HSim.out]
      have HN := Lib.hid hnx
      clear hnx
      obtain ⟨H, ⟨D, back, hr, hg, hcap⟩, hown, hap, hbel⟩ := HM.out
      have hqD := hg.len
      have hDb : D.length ≤ 30000 := by have := HBD.out.2.1; omega
      have hsz := hbel.size
      have HR := Lib.hid hr
      have HG := Lib.hid hg
      have HCAP := Lib.hid hcap
      have HO := Lib.hid hown
      have HA := Lib.hid hap
      have HB := Lib.hid hbel
      clear hr hg hcap hown hap hbel
      by_cases h0 : 0 ≤ x
      · by_cases hfull : s.q.length = D.length
        · have hst : step chunk s x = ⟨s.q ++ [x], s.cap + chunk, s.out⟩ := by unfold step; rw [if_pos h0, if_pos (by rw [hfull, HCAP.out])]
          have HST := Lib.hid hst
          have HFU := Lib.hid hfull
          clear hst hfull
          go_wp2_with (go_at_call 20; refine (enq_full _ w.heap.size w.heap.size H D back chunk (by rw [← HFU.out]; exact HR.out) (by rcases HG.out with ⟨h1, h2, _⟩ | h1; exact .inl ⟨h1, h2⟩; exact .inr h1.1) hc hc' (by omega) x).mono ?_; rintro e w2 ⟨rfl, hr2, hf2⟩)
          go_roundw
          case rel =>
            refine ⟨k + 1, by omega, by go_num, ?_⟩
            rw [HN.out, HST.out]
            refine M.ring (s := s) rfl ⟨D, back, HR.out, HG.out, HCAP.out⟩ ⟨_, 0, by simpa [HFU.out] using hr2, good_enq_full HG.out HFU.out chunk hc x, ?_⟩ HO.out HA.out ⟨hf2.os, hf2.tape, hf2.output, hf2.size, fun k hk hs => hf2.block k hk (fun e => hs (.inl e))⟩ (.inr rfl) HB.out hsz
            rw [List.length_set, gd_len, HCAP.out]
          case measure => simp [intOf]; omega
        · have hst : step chunk s x = ⟨s.q ++ [x], s.cap, s.out⟩ := by unfold step; rw [if_pos h0, if_neg (by rw [← HCAP.out]; exact hfull)]
          have hlt2 : s.q.length < D.length := by omega
          have HST := Lib.hid hst
          clear hst hfull
          go_wp2_with (go_at_call 20; refine (enq_room _ w.heap.size w.heap.size H D back s.q.length chunk HR.out hlt2 (by rcases HG.out with ⟨h1, h2, h3⟩ | h1; rw [h1] at hlt2; simp at hlt2; exact h1.1) (by omega) x).mono ?_; rintro e w2 ⟨rfl, hr2, hf2⟩)
          go_roundw
          case rel =>
            refine ⟨k + 1, by omega, by go_num, ?_⟩
            rw [HN.out, HST.out]
            exact M.ring (s := s) rfl ⟨D, back, HR.out, HG.out, HCAP.out⟩ ⟨_, back, by simpa using hr2, good_enq_room HG.out hlt2 x, by rw [List.length_set, HCAP.out]⟩ HO.out HA.out hf2 (.inl rfl) HB.out hsz
          case measure => simp [intOf]; omega
      by_cases h1 : x = -1
      · have HMM := Lib.hid (show M w w.heap.size w.heap.size chunk s u7 wr from ⟨H, ⟨D, back, HR.out, HG.out, HCAP.out⟩, HO.out, HA.out, HB.out⟩)
        have hol : s.out.length ≤ 20000 := by have := HBD.out.2.2; omega
        by_cases hq : 0 < s.q.length
        · obtain ⟨tv, htv⟩ : ∃ tv, tv = D.getD back 0 := ⟨_, rfl⟩
          have hst : step chunk s x = ⟨s.q.tail, s.cap, s.out ++ [tv]⟩ := by unfold step; rw [if_neg h0, if_pos h1, good_head HG.out hq, htv]
          have HST := Lib.hid hst
          clear hst
          subst h1
          have hbk : back < D.length := by rcases HG.out with ⟨h1, h2, h3⟩ | h1; (rw [h3] at hq; simp at hq); exact h1.1
          have dq := deq_some _ w.heap.size w.heap.size H D back s.q.length chunk HR.out hq hqD hbk (by omega)
          rw [← htv] at dq
          have DQ := Lib.hid dq
          clear dq htv
          go_wp2_with (first
            | (go_at_call 22; refine DQ.out.mono ?_; rintro e w2 ⟨rfl, hr2, hf2⟩
               have HM2 := Lib.hid (M.ring (s := s) (s' := ⟨s.q.tail, s.cap, s.out⟩) rfl ⟨D, back, HR.out, HG.out, HCAP.out⟩ ⟨_, _, by simpa using hr2, good_deq HG.out hq, by rw [List.length_set, HCAP.out]⟩ HO.out HA.out hf2 (.inl rfl) HB.out hsz)
               have hs2 := HM2.out.size (Nat.le_refl _)
               have HO2 := Lib.hid (show Own w2 w.heap.size u7 s.out from by obtain ⟨_, _, h, _⟩ := HM2.out; exact h)
               clear hr2 hf2)
            | (go_at_call 21; refine (told_any _ _ _).mono ?_; rintro e w2' ⟨rfl, rfl⟩)
            | (at_builtin; refine wpList_append_own_at _ rfl _ _ 22 rfl w.heap.size 3 i0 (.int .i64 0) 1 8 Try.underlying22 hi hz0 hz1 hz2 rfl (by decide) _ _ _ rfl (HO2.out.alloc _) _ 1 1 [.int .i64 tv] rfl rfl (cell_one_new _ _ _) (fun x hx => by simp at hx; subst hx; rfl) (by unfold maxLen; omega) (by omega) (by simp; omega) ?_; intro v' w3 hown' hgrow _ hat))
          go_roundw
          case rel =>
            refine ⟨k + 1, by omega, by go_num, ?_⟩
            rw [HN.out, HST.out]
            exact HM2.out.push hs2 hown' hgrow (by rcases hat with h | h; exact .inl h; exact .inr (by simpa using h))
          case measure => simp [intOf]; omega
        · have hq0 : s.q = [] := List.eq_nil_of_length_eq_zero (by omega)
          have hst : step chunk s x = ⟨s.q, s.cap, s.out ++ [-1]⟩ := by unfold step; rw [if_neg h0, if_pos h1, hq0]; rfl
          have HST := Lib.hid hst
          clear hst
          subst h1
          have hR0 : RingIs wr w.heap.size w.heap.size H D back 0 chunk := by have := HR.out; rw [hq0] at this; exact this
          have HR0 := Lib.hid hR0
          clear hR0 hq0
          go_wp2_with (first
            | (go_at_call 22; refine (deq_none _ w.heap.size w.heap.size H D back chunk HR0.out).mono ?_; rintro e w2 ⟨rfl, m, rfl⟩)
            | (go_at_call 21; refine (told_any _ _ _).mono ?_; rintro e w2' ⟨rfl, rfl⟩)
            | (at_builtin; refine wpList_append_own_at _ rfl _ _ 22 rfl w.heap.size 3 i0 (.int .i64 0) 1 8 Try.underlying22 hi hz0 hz1 hz2 rfl (by decide) _ _ _ rfl ((show (wr.drewN m).ownsRow _ _ _ _ _ _ from HO.out).alloc _) _ 1 1 [.int .i64 (-1)] rfl rfl (cell_one_new _ _ _) (fun x hx => by simp at hx; subst hx; rfl) (by unfold maxLen; omega) (by omega) (by simp; omega) ?_; intro v' w3 hown' hgrow _ hat))
          go_roundw
          case rel =>
            refine ⟨k + 1, by omega, by go_num, ?_⟩
            rw [HN.out, HST.out]
            exact (HMM.out.drewN m).push hsz hown' hgrow (by rcases hat with h | h; exact .inl h; exact .inr (by simpa using h))
          case measure => simp [intOf]; omega
      by_cases h2 : x = -2
      · have hst : step chunk s x = ⟨s.q, s.cap, s.out ++ [(s.q.length : Int)]⟩ := by unfold step; rw [if_neg h0, if_neg h1, if_pos h2]
        have HST := Lib.hid hst
        clear hst
        subst h2
        have HMM := Lib.hid (show M w w.heap.size w.heap.size chunk s u7 wr from ⟨H, ⟨D, back, HR.out, HG.out, HCAP.out⟩, HO.out, HA.out, HB.out⟩)
        have hol : s.out.length ≤ 20000 := by have := HBD.out.2.2; omega
        go_wp2_with (first
          | (go_at_call 23; refine (len_any _ w.heap.size w.heap.size H D back s.q.length chunk HR.out).mono ?_; rintro e w2 ⟨rfl, rfl⟩)
          | (at_builtin; refine wpList_append_own_at _ rfl _ _ 22 rfl w.heap.size 3 i0 (.int .i64 0) 1 8 Try.underlying22 hi hz0 hz1 hz2 rfl (by decide) _ _ _ rfl (HO.out.alloc _) _ 1 1 [.int .i64 s.q.length] rfl rfl (cell_one_new _ _ _) (fun x hx => by simp at hx; subst hx; rfl) (by unfold maxLen; omega) (by omega) (by simp; omega) ?_; intro v' w3 hown' hgrow _ hat))
        go_roundw
        case rel =>
          refine ⟨k + 1, by omega, by go_num, ?_⟩
          rw [HN.out, HST.out]
          exact HMM.out.push hsz hown' hgrow (by rcases hat with h | h; exact .inl h; exact .inr (by simpa using h))
        case measure => simp [intOf]; omega
      by_cases h3 : x = -3
      · have hst : step chunk s x = ⟨s.q, s.cap, s.out ++ [(D.length : Int)]⟩ := by unfold step; rw [if_neg h0, if_neg h1, if_neg h2, if_pos h3, HCAP.out]
        have HST := Lib.hid hst
        clear hst
        subst h3
        have HMM := Lib.hid (show M w w.heap.size w.heap.size chunk s u7 wr from ⟨H, ⟨D, back, HR.out, HG.out, HCAP.out⟩, HO.out, HA.out, HB.out⟩)
        have hol : s.out.length ≤ 20000 := by have := HBD.out.2.2; omega
        go_wp2_with (first
          | (go_at_call 24; refine (cap_any _ w.heap.size w.heap.size H D back s.q.length chunk HR.out).mono ?_; rintro e w2 ⟨rfl, rfl⟩)
          | (at_builtin; refine wpList_append_own_at _ rfl _ _ 22 rfl w.heap.size 3 i0 (.int .i64 0) 1 8 Try.underlying22 hi hz0 hz1 hz2 rfl (by decide) _ _ _ rfl (HO.out.alloc _) _ 1 1 [.int .i64 D.length] rfl rfl (cell_one_new _ _ _) (fun x hx => by simp at hx; subst hx; rfl) (by unfold maxLen; omega) (by omega) (by simp; omega) ?_; intro v' w3 hown' hgrow _ hat))
        go_roundw
        case rel =>
          refine ⟨k + 1, by omega, by go_num, ?_⟩
          rw [HN.out, HST.out]
          exact HMM.out.push hsz hown' hgrow (by rcases hat with h | h; exact .inl h; exact .inr (by simpa using h))
        case measure => simp [intOf]; omega
      by_cases h4 : x = -4
      · have hst : step chunk s x = ⟨[], s.cap, s.out⟩ := by unfold step; rw [if_neg h0, if_neg h1, if_neg h2, if_neg h3, if_pos h4]
        have HST := Lib.hid hst
        clear hst
        subst h4
        go_wp2_with (go_at_call 25; refine (reset_any _ w.heap.size w.heap.size H D back s.q.length chunk HR.out (by omega)).mono ?_; rintro e w2 ⟨rfl, hr2, hf2⟩)
        go_roundw
        case rel =>
          refine ⟨k + 1, by omega, by go_num, ?_⟩
          rw [HN.out, HST.out]
          exact M.ring (s := s) rfl ⟨D, back, HR.out, HG.out, HCAP.out⟩ ⟨_, 0, by simpa using hr2, good_reset HG.out, by rw [List.length_replicate, HCAP.out]⟩ HO.out HA.out hf2 (.inl rfl) HB.out hsz
        case measure => simp [intOf]; omega
      have hst : step chunk s x = ⟨s.q, s.cap, s.out ++ [qn s.q (-5 - x)]⟩ := by unfold step; rw [if_neg h0, if_neg h1, if_neg h2, if_neg h3, if_neg h4]
      have HST := Lib.hid hst
      clear hst
      have b1 : (x == -1) = false := by simpa using h1
      have b2 : (x == -2) = false := by simpa using h2
      have b3 : (x == -3) = false := by simpa using h3
      have b4 : (x == -4) = false := by simpa using h4
      have HMM := Lib.hid (show M w w.heap.size w.heap.size chunk s u7 wr from ⟨H, ⟨D, back, HR.out, HG.out, HCAP.out⟩, HO.out, HA.out, HB.out⟩)
      have hol : s.out.length ≤ 20000 := by have := HBD.out.2.2; omega
      by_cases hn : -5 - x < s.q.length
      · have hbk : back < D.length := by rcases HG.out with ⟨h1, h2, h3⟩ | h1; (rw [h3] at hn; simp at hn; omega); exact h1.1
        have hv : qn s.q (-5 - x) = D.getD (((-5 - x).toNat + back) % D.length) 0 := by
          have := good_nth HG.out (-5 - x).toNat (by omega)
          rw [← this]; congr 1; omega
        have nt := nth_in _ w.heap.size w.heap.size H D back s.q.length chunk HR.out hqD hbk (by omega) (-5 - x) (by omega) hn
        obtain ⟨tv, htv⟩ : ∃ tv, tv = D.getD (((-5 - x).toNat + back) % D.length) 0 := ⟨_, rfl⟩
        rw [← htv] at nt hv
        have HV := Lib.hid hv
        have NT := Lib.hid nt
        clear hv nt htv
        go_wp2_with (first
          | (go_at_call 26; refine NT.out.mono ?_; rintro e w2 ⟨rfl, m, rfl⟩)
          | (go_at_call 21; refine (told_any _ _ _).mono ?_; rintro e w2' ⟨rfl, rfl⟩)
          | (at_builtin; refine wpList_append_own_at _ rfl _ _ 22 rfl w.heap.size 3 i0 (.int .i64 0) 1 8 Try.underlying22 hi hz0 hz1 hz2 rfl (by decide) _ _ _ rfl ((show (wr.drewN m).ownsRow _ _ _ _ _ _ from HO.out).alloc _) _ 1 1 [.int .i64 tv] rfl rfl (cell_one_new _ _ _) (fun x hx => by simp at hx; subst hx; rfl) (by unfold maxLen; omega) (by omega) (by simp; omega) ?_; intro v' w3 hown' hgrow _ hat))
        go_roundw
        case rel =>
          refine ⟨k + 1, by omega, by go_num, ?_⟩
          rw [HN.out, HST.out, HV.out]
          exact (HMM.out.drewN m).push hsz hown' hgrow (by rcases hat with h | h; exact .inl h; exact .inr (by simpa using h))
        case measure => simp [intOf]; omega
      · have hv : qn s.q (-5 - x) = -1 := by unfold qn; rw [if_neg hn]
        have HV := Lib.hid hv
        clear hv
        go_wp2_with (first
          | (go_at_call 26; refine (nth_out _ w.heap.size w.heap.size H D back s.q.length chunk HR.out hqD (by omega) _ (by omega)).mono ?_; rintro e w2 ⟨rfl, m, rfl⟩)
          | (go_at_call 21; refine (told_any _ _ _).mono ?_; rintro e w2' ⟨rfl, rfl⟩)
          | (at_builtin; refine wpList_append_own_at _ rfl _ _ 22 rfl w.heap.size 3 i0 (.int .i64 0) 1 8 Try.underlying22 hi hz0 hz1 hz2 rfl (by decide) _ _ _ rfl ((show (wr.drewN m).ownsRow _ _ _ _ _ _ from HO.out).alloc _) _ 1 1 [.int .i64 (-1)] rfl rfl (cell_one_new _ _ _) (fun x hx => by simp at hx; subst hx; rfl) (by unfold maxLen; omega) (by omega) (by simp; omega) ?_; intro v' w3 hown' hgrow _ hat))
        go_roundw
        case rel =>
          refine ⟨k + 1, by omega, by go_num, ?_⟩
          rw [HN.out, HST.out, HV.out]
          exact (HMM.out.drewN m).push hsz hown' hgrow (by rcases hat with h | h; exact .inl h; exact .inr (by simpa using h))
        case measure => simp [intOf]; omega
    · obtain rfl : k = L.length := by omega
      go_wp2
      go_ret2
      rw [List.take_length] at HM
      obtain ⟨H, _, h2, _, h4⟩ := HM.out
      exact ⟨_, rfl, h2, h4⟩
end Go.Proofs.Ytlphfinmdacolaa.Rng
