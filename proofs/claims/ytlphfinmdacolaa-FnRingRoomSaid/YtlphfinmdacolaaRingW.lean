/- The walks of the ring's methods: each does to the ring's block and to its data just what the plain functions say. -/
import Derived.Test.YtlphfinmdacolaaRows
import Derived.WalkKit
import Derived.Deep.OwnRows
import Derived.Deep.QuietTactic
import Derived.BigQuiet
import Derived.Laws.OwnMore
import Derived.Laws.CopyOwn
import Derived.OwnWalk
import Derived.Outline
import Derived.WalkSpells
import Derived.WalkSmall
import Derived.Handy
import Derived.RegionTactic
import Derived.Deep.RegionLaw
import Derived.BigRegion
import Derived.Lib.Hide
set_option linter.unusedSimpArgs false
set_option linter.unusedVariables false
namespace Go.Proofs.Ytlphfinmdacolaa.Rng
open Go.RowKit

abbrev ints (D : List Int) : Array Value := (D.map (Value.int .i64)).toArray

/-- the ring at block g: its data D (in block h where there are any), back, len and chunk -/
def RingIs (w : World) (B g : Nat) (H : Option Nat) (D : List Int) (back len : Nat) (chunk : Int) : Prop :=
  w.heap[g]? = some (.cells #[.slice (H.map fun h => ⟨h, 0, none⟩) D.length D.length, .int .i64 back, .int .i64 len, .int .i64 chunk] 51 (0, 0)) ∧ B ≤ g ∧
  ((H = none ∧ D = []) ∨ ∃ h, H = some h ∧ B ≤ h ∧ w.heap[h]? = some (.cells (ints D) 3 (0, 0)))

/-- all blocks but those of S, and new ones, are as they were -/
structure Fr (S : Nat → Prop) (w w' : World) : Prop where
  os : w'.os = w.os
  tape : w'.tape = w.tape
  output : w'.output = w.output
  size : w.heap.size ≤ w'.heap.size
  block : ∀ k, k < w.heap.size → ¬ S k → w'.heap[k]? = w.heap[k]?

theorem Fr.refl (S : Nat → Prop) (w : World) : Fr S w w := ⟨rfl, rfl, rfl, Nat.le_refl _, fun _ _ _ => rfl⟩
theorem Fr.drewN {S : Nat → Prop} {w w' : World} (h : Fr S w w') (n : Nat) : Fr S w (w'.drewN n) := ⟨h.os, h.tape, h.output, h.size, h.block⟩
theorem Fr.drew {S : Nat → Prop} {w w' : World} (h : Fr S w w') : Fr S w w'.drew := ⟨h.os, h.tape, h.output, h.size, h.block⟩
theorem Fr.trans {S : Nat → Prop} {a b c : World} (h : Fr S a b) (k : Fr S b c) : Fr S a c :=
  ⟨k.os.trans h.os, k.tape.trans h.tape, k.output.trans h.output, Nat.le_trans h.size k.size, fun i hi hs => (k.block i (Nat.lt_of_lt_of_le hi h.size) hs).trans (h.block i hi hs)⟩
theorem Fr.alloc {S : Nat → Prop} {w w' : World} (h : Fr S w w') (o : Obj) : Fr S w (w'.alloc o) :=
  h.trans ⟨rfl, rfl, rfl, by simp, fun k hk _ => Below.heap_alloc w' o k hk⟩
theorem Fr.setCell {S : Nat → Prop} {w w' : World} (h : Fr S w w') {p : Addr} (hp : S p.block ∨ w.heap.size ≤ p.block) (u : Value) : Fr S w (w'.setCell p u) :=
  ⟨h.os, h.tape, h.output, by simpa [World.setCell] using h.size, fun k hk hs => (Below.heap_setCell w' p u k (by rintro rfl; rcases hp with hp | hp; exact hs hp; omega)).trans (h.block k hk hs)⟩

theorem heap_set (w : World) (g i : Nat) (u : Value) (cs : Array Value) (t : TypeId) (h : w.heap[g]? = some (.cells cs t (0, 0))) :
    (w.setCell ⟨g, i, none⟩ u).heap[g]? = some (.cells (cs.setIfInBounds i u) t (0, 0)) := by
  simp [World.setCell, Array.getElem?_modify, h]

section
variable {w : World} {B g k : Nat} {H : Option Nat} {D : List Int} {back len : Nat} {chunk : Int}
theorem RingIs.cell0 (h : RingIs w B g H D back len chunk) : w.cell? ⟨g, 0, none⟩ = some (.slice (H.map fun h => ⟨h, 0, none⟩) D.length D.length) := by simp [World.cell?, h.1]
theorem RingIs.cell1 (h : RingIs w B g H D back len chunk) : w.cell? ⟨g, 1, none⟩ = some (.int .i64 back) := by simp [World.cell?, h.1]
theorem RingIs.cell2 (h : RingIs w B g H D back len chunk) : w.cell? ⟨g, 2, none⟩ = some (.int .i64 len) := by simp [World.cell?, h.1]
theorem RingIs.cell3 (h : RingIs w B g H D back len chunk) : w.cell? ⟨g, 3, none⟩ = some (.int .i64 chunk) := by simp [World.cell?, h.1]
theorem RingIs.fr (h : RingIs w B g H D back len chunk) (i : Nat) : w.frozen? ⟨g, i, none⟩ = false := by simp [World.frozen?, h.1]
theorem RingIs.lt (h : RingIs w B g H D back len chunk) : g < w.heap.size := by
  rcases Nat.lt_or_ge g w.heap.size with hlt | hge
  · exact hlt
  · have := h.1; rw [Array.getElem?_eq_none hge] at this; cases this
theorem RingIs.data (h : RingIs w B g H D back len chunk) {i : Nat} (hi : i < D.length) : ∃ k, H = some k ∧ k ≠ g ∧ B ≤ k ∧ k < w.heap.size ∧ w.heap[k]? = some (.cells (ints D) 3 (0, 0)) ∧
    w.cell? ⟨k, i, none⟩ = some (.int .i64 (D.getD i 0)) ∧ w.frozen? ⟨k, i, none⟩ = false := by
  obtain ⟨h1, h2, h3⟩ := h
  rcases h3 with ⟨_, rfl⟩ | ⟨k, rfl, hk, hb⟩
  · simp at hi
  · refine ⟨k, rfl, ?_, hk, ?_, hb, ?_, ?_⟩
    · rintro rfl; rw [h1] at hb; simp at hb
    · rcases Nat.lt_or_ge k w.heap.size with hlt | hge
      · exact hlt
      · rw [Array.getElem?_eq_none hge] at hb; cases hb
    · simp [World.cell?, hb, hi]
    · simp [World.frozen?, hb]
theorem RingIs.drewN (h : RingIs w B g H D back len chunk) (n : Nat) : RingIs (w.drewN n) B g H D back len chunk := h
theorem RingIs.drew (h : RingIs w B g H D back len chunk) : RingIs w.drew B g H D back len chunk := h
theorem RingIs.ne (h : RingIs w B g (some k) D back len chunk) : k ≠ g ∧ B ≤ k ∧ k < w.heap.size ∧ w.heap[k]? = some (.cells (ints D) 3 (0, 0)) := by
  obtain ⟨h1, h2, h3⟩ := h
  rcases h3 with ⟨h4, _⟩ | ⟨k', h4, hk, hb⟩
  · cases h4
  · injection h4 with h4
    subst h4
    refine ⟨?_, hk, ?_, hb⟩
    · rintro rfl; rw [h1] at hb; simp at hb
    · rcases Nat.lt_or_ge k w.heap.size with hlt | hge
      · exact hlt
      · rw [Array.getElem?_eq_none hge] at hb; cases hb
theorem RingIs.setData (h : RingIs w B g (some k) D back len chunk) (i : Nat) (v : Int) : RingIs (w.setCell ⟨k, i, none⟩ (.int .i64 v)) B g (some k) (D.set i v) back len chunk := by
  obtain ⟨hne, hk, _, hb⟩ := h.ne
  obtain ⟨h1, h2, h3⟩ := h
  refine ⟨?_, h2, .inr ⟨k, rfl, hk, ?_⟩⟩
  · rw [Below.heap_setCell _ _ _ _ (by simpa using hne.symm), List.length_set]; exact h1
  · rw [heap_set _ _ _ _ _ _ hb]
    simp [ints, List.map_set]
theorem RingIs.setLen (h : RingIs w B g H D back len chunk) (n : Nat) (v : Int) (hv : v = n) : RingIs (w.setCell ⟨g, 2, none⟩ (.int .i64 v)) B g H D back n chunk := by
  subst hv
  obtain ⟨h1, h2, h3⟩ := h
  refine ⟨by rw [heap_set _ _ _ _ _ _ h1]; rfl, h2, ?_⟩
  rcases h3 with h4 | ⟨k, rfl, hk, hb⟩
  · exact .inl h4
  · refine .inr ⟨k, rfl, hk, ?_⟩
    rw [Below.heap_setCell _ _ _ _ (by rintro rfl; rw [h1] at hb; simp at hb)]; exact hb
theorem RingIs.setBack (h : RingIs w B g H D back len chunk) (n : Nat) (v : Int) (hv : v = n) : RingIs (w.setCell ⟨g, 1, none⟩ (.int .i64 v)) B g H D n len chunk := by
  subst hv
  obtain ⟨h1, h2, h3⟩ := h
  refine ⟨by rw [heap_set _ _ _ _ _ _ h1]; rfl, h2, ?_⟩
  rcases h3 with h4 | ⟨k, rfl, hk, hb⟩
  · exact .inl h4
  · refine .inr ⟨k, rfl, hk, ?_⟩
    rw [Below.heap_setCell _ _ _ _ (by rintro rfl; rw [h1] at hb; simp at hb)]; exact hb
theorem RingIs.alloc (h : RingIs w B g H D back len chunk) (o : Obj) : RingIs (w.alloc o) B g H D back len chunk := by
  have hlt := h.lt
  obtain ⟨h1, h2, h3⟩ := h
  refine ⟨(Below.heap_alloc w o g hlt).trans h1, h2, ?_⟩
  rcases h3 with h4 | ⟨k, rfl, hk, hb⟩
  · exact .inl h4
  · refine .inr ⟨k, rfl, hk, (Below.heap_alloc w o k ?_).trans hb⟩
    rcases Nat.lt_or_ge k w.heap.size with hlt | hge
    · exact hlt
    · rw [Array.getElem?_eq_none hge] at hb; cases hb
/-- other blocks may turn -/
theorem RingIs.other {w' : World} (h : RingIs w B g H D back len chunk) (hg : w'.heap[g]? = w.heap[g]?) (hH : ∀ k, H = some k → w'.heap[k]? = w.heap[k]?) : RingIs w' B g H D back len chunk := by
  obtain ⟨h1, h2, h3⟩ := h
  refine ⟨hg.trans h1, h2, ?_⟩
  rcases h3 with h4 | ⟨k, rfl, hk, hb⟩
  · exact .inl h4
  · exact .inr ⟨k, rfl, hk, (hH k rfl).trans hb⟩
end

def Len_ (w : World) (n : Int) (e : Ending) (w' : World) : Prop := e = .returned (.int .i64 n) ∧ w = w'
theorem len_any (w : World) (B g : Nat) (H : Option Nat) (D : List Int) (back len : Nat) (chunk : Int) (h : RingIs w B g H D back len chunk) :
    Calls Try.prog 23 #[.pointer (some ⟨g, 0, none⟩)] w (Len_ w len) := by
  have c2 := h.cell2
  have H := Lib.hid h
  clear h
  go_enter Try.func23, Try.ntmps23
  go_wp2
  go_ret
  exact ⟨rfl, rfl⟩
theorem cap_any (w : World) (B g : Nat) (H : Option Nat) (D : List Int) (back len : Nat) (chunk : Int) (h : RingIs w B g H D back len chunk) :
    Calls Try.prog 24 #[.pointer (some ⟨g, 0, none⟩)] w (Len_ w D.length) := by
  have c0 := h.cell0
  have H := Lib.hid h
  clear h
  go_enter Try.func24, Try.ntmps24
  go_wp2
  go_ret
  exact ⟨rfl, rfl⟩

/-- what New gives -/
theorem new_any (w : World) (chunk : Int) (hc : 1 ≤ chunk) : Calls Try.prog 19 #[.int .i64 chunk] w fun e w' => e = .returned (.pointer (some ⟨w.heap.size, 0, none⟩)) ∧ RingIs w' w.heap.size w.heap.size none [] 0 0 chunk ∧ Below w.heap.size w w' := by
  go_enter Try.func19, Try.ntmps19
  go_wp2
  go_ret
  refine ⟨rfl, ⟨by simpa using heap_alloc_new w _, Nat.le_refl _, .inl ⟨rfl, rfl⟩⟩, (Below.refl _ _).alloc (Nat.le_refl _) _⟩

theorem told_any (w : World) (n : Int) (b : Bool) : Calls Try.prog 21 #[.int .i64 n, .bool b] w (Len_ w (if b then n else -1)) := by
  cases b
  · go_enter Try.func21, Try.ntmps21
    go_wp2
    go_ret
    exact ⟨rfl, rfl⟩
  · go_enter Try.func21, Try.ntmps21
    go_wp2
    go_ret
    exact ⟨rfl, rfl⟩

def Two (w : World) (n : Int) (b : Bool) (e : Ending) (w' : World) : Prop := e = .returned (.tuple #[.int .i64 n, .bool b]) ∧ ∃ m, w' = w.drewN m

theorem mod_cast_ (a b n p : Nat) (h : (a + b) % n = p) : ((a : Int) + (b : Int)) % (n : Int) = (p : Int) := by
  subst h; simp

set_option maxHeartbeats 400000 in
theorem nth_in (w : World) (B g : Nat) (H : Option Nat) (D : List Int) (back len : Nat) (chunk : Int) (h : RingIs w B g H D back len chunk)
    (hl : len ≤ D.length) (hb : back < D.length) (hd : D.length ≤ 100000) (n : Int) (h0 : 0 ≤ n) (h1 : n < len) :
    Calls Try.prog 26 #[.pointer (some ⟨g, 0, none⟩), .int .i64 n] w (Two w (D.getD ((n.toNat + back) % D.length) 0) true) := by
  obtain ⟨k, rfl⟩ := Int.eq_ofNat_of_zero_le h0
  rw [Int.toNat_natCast]
  have hk : k < len := by omega
  obtain ⟨p, hp⟩ : ∃ p, (k + back) % D.length = p := ⟨_, rfl⟩
  have hm : p < D.length := by rw [← hp]; exact Nat.mod_lt _ (by omega)
  have e1 := mod_cast_ k back D.length p hp
  rw [hp]
  clear hp
  obtain ⟨hb', rfl, hne, _, _, _, hcell, _⟩ := h.data hm
  have c0 := h.cell0
  have c1 := h.cell1
  have c2 := h.cell2
  have HH := Lib.hid h
  clear h
  have t1 : decide ((k : Int) < 0) = false := by simp
  have t2 : decide (len ≤ k) = false := by simp; omega
  have t3 : ((D.length : Int) == 0) = false := by simp; intro h; subst h; simp at hb
  have w1 : IntKind.i64.wrap ((k : Int) + (back : Int)) = (k : Int) + (back : Int) := IntWalk.i64_in _ (by omega)
  have n0 : ¬ (D.length : Int) = 0 := by intro h; simp at h; subst h; simp at hb
  go_enter Try.func26, Try.ntmps26
  go_wp2
  go_quiet (fail)
  go_wp2
  go_ret2
  exact ⟨by simp [List.getElem?_eq_getElem hm], _, rfl⟩

set_option maxHeartbeats 400000 in
theorem nth_out (w : World) (B g : Nat) (H : Option Nat) (D : List Int) (back len : Nat) (chunk : Int) (h : RingIs w B g H D back len chunk)
    (hl : len ≤ D.length) (hd : D.length ≤ 100000) (n : Int) (h1 : n < 0 ∨ len ≤ n) :
    Calls Try.prog 26 #[.pointer (some ⟨g, 0, none⟩), .int .i64 n] w (Two w 0 false) := by
  have c0 := h.cell0
  have c1 := h.cell1
  have c2 := h.cell2
  have HH := Lib.hid h
  clear h
  by_cases h0 : n < 0
  · have t1 : decide (n < 0) = true := by simp; exact h0
    go_enter Try.func26, Try.ntmps26
    go_wp2
    go_ret2
    exact ⟨rfl, 0, rfl⟩
  · obtain ⟨k, rfl⟩ := Int.eq_ofNat_of_zero_le (show 0 ≤ n by omega)
    have t1 : decide ((k : Int) < 0) = false := by simp
    have t2 : decide (len ≤ k) = true := by simp; omega
    go_enter Try.func26, Try.ntmps26
    go_wp2
    go_ret2
    exact ⟨rfl, 0, rfl⟩

def RDone (w : World) (B g : Nat) (S : Nat → Prop) (D : List Int) (back len : Nat) (chunk : Int) (H' : Option Nat) (w' : World) : Prop := RingIs w' B g H' D back len chunk ∧ Fr S w w'

set_option maxHeartbeats 400000 in
theorem deq_none (w : World) (B g : Nat) (H : Option Nat) (D : List Int) (back : Nat) (chunk : Int) (h : RingIs w B g H D back 0 chunk) :
    Calls Try.prog 22 #[.pointer (some ⟨g, 0, none⟩)] w (Two w 0 false) := by
  have c2 := h.cell2
  have HH := Lib.hid h
  clear h
  go_enter Try.func22, Try.ntmps22
  go_wp2
  go_ret2
  exact ⟨rfl, 0, rfl⟩

set_option maxHeartbeats 1000000 in
theorem deq_some (w : World) (B g : Nat) (H : Option Nat) (D : List Int) (back len : Nat) (chunk : Int) (h : RingIs w B g H D back len chunk)
    (h0 : 0 < len) (hl : len ≤ D.length) (hb : back < D.length) (hd : D.length ≤ 100000) :
    Calls Try.prog 22 #[.pointer (some ⟨g, 0, none⟩)] w fun e w' => e = .returned (.tuple #[.int .i64 (D.getD back 0), .bool true]) ∧
      RDone w B g (fun k => k = g ∨ H = some k) (D.set back 0) ((back + 1) % D.length) (len - 1) chunk H w' := by
  obtain ⟨p, hp⟩ : ∃ p, (back + 1) % D.length = p := ⟨_, rfl⟩
  have e1 : ((back : Int) + 1) % (D.length : Int) = (p : Int) := by have := mod_cast_ back 1 D.length p hp; simpa using this
  rw [hp]
  clear hp
  obtain ⟨hb', rfl, hne, _, _, _, hcell, hfz⟩ := h.data hb
  have c0 := h.cell0
  have c1 := h.cell1
  have c2 := h.cell2
  have f0 := h.fr 0
  have f1 := h.fr 1
  have f2 := h.fr 2
  have HH := Lib.hid h
  clear h
  have t1 : ((len : Int) == 0) = false := by simp; omega
  have n0 : ¬ (D.length : Int) = 0 := by intro h; simp at h; subst h; simp at hb
  go_enter Try.func22, Try.ntmps22
  go_wp2
  go_region
  go_wp2
  go_region
  go_wp2
  go_ret2
  refine ⟨by simp [List.getElem?_eq_getElem hb], ?_, ?_⟩
  · exact ((((HH.out.setData back 0).setLen (len - 1) _ (by omega)).setBack p _ rfl).drew).drew
  · exact (((((Fr.refl _ _).setCell (.inl (.inr rfl)) _).setCell (.inl (.inl rfl)) _).setCell (.inl (.inl rfl)) _).drew).drew

set_option maxHeartbeats 1000000 in
theorem enq_room (w : World) (B g : Nat) (H : Option Nat) (D : List Int) (back len : Nat) (chunk : Int) (h : RingIs w B g H D back len chunk)
    (hl : len < D.length) (hb : back < D.length) (hd : D.length ≤ 100000) (v : Int) :
    Calls Try.prog 20 #[.pointer (some ⟨g, 0, none⟩), .int .i64 v] w fun e w' => e = .returned (.tuple #[]) ∧
      RDone w B g (fun k => k = g ∨ H = some k) (D.set ((back + len) % D.length) v) back (len + 1) chunk H w' := by
  obtain ⟨p, hp⟩ : ∃ p, (back + len) % D.length = p := ⟨_, rfl⟩
  have hm : p < D.length := by rw [← hp]; exact Nat.mod_lt _ (by omega)
  have e1 := mod_cast_ back len D.length p hp
  rw [hp]
  clear hp
  obtain ⟨hb', rfl, hne, _, _, _, hcell, hfz⟩ := h.data hm
  have c0 := h.cell0
  have c1 := h.cell1
  have c2 := h.cell2
  have f0 := h.fr 0
  have f1 := h.fr 1
  have f2 := h.fr 2
  have HH := Lib.hid h
  clear h
  have t1 : ((len : Int) == (D.length : Int)) = false := by simp; omega
  have n0 : ¬ (D.length : Int) = 0 := by intro h; simp at h; subst h; simp at hb
  have w1 : IntKind.i64.wrap ((back : Int) + (len : Int)) = (back : Int) + (len : Int) := IntWalk.i64_in _ (by omega)
  go_enter Try.func20, Try.ntmps20
  go_wp2
  go_quiet (fail)
  go_wp2
  go_quiet (fail)
  go_wp2
  go_end0
  refine ⟨rfl, ?_, ?_⟩
  · exact ((HH.out.drewN _).setData p v).setLen (len + 1) _ (by omega)
  · exact (((Fr.refl _ _).drewN _).setCell (.inl (.inr rfl)) _).setCell (.inl (.inl rfl)) _

theorem info3 : (Try.prog.info? 3).map (fun i => (i.zero, i.size, i.bytes)) = some (some (.int .i64 0), 1, 8) := by kernel_rfl

set_option maxHeartbeats 1000000 in
theorem grow_empty (w : World) (B g : Nat) (H : Option Nat) (chunk : Nat) (h : RingIs w B g H [] 0 0 chunk) (hc : 1 ≤ chunk) (hc' : chunk ≤ 1000) :
    Calls Try.prog 27 #[.pointer (some ⟨g, 0, none⟩)] w fun e w' => e = .returned (.tuple #[]) ∧
      RDone w B g (fun k => k = g) (List.replicate chunk 0) 0 0 chunk (some w.heap.size) w' := by
  have hmk := run_make_row' (P := Try.prog) 22 3 (.int .i64 0) 8 Try.underlying22 info3 rfl .i64 .i64 chunk (by omega) (by omega)
  have hgl := h.lt
  have c0 := h.cell0
  have c1 := h.cell1
  have c2 := h.cell2
  have c3 := h.cell3
  have f0 := h.fr 0
  have f1 := h.fr 1
  have HH := Lib.hid h
  clear h
  have hne : ¬ w.heap.size = g := by omega
  simp only [List.length_nil] at c0
  have w1 : IntKind.i64.wrap ((0 : Int) + (chunk : Int)) = (chunk : Int) := by rw [IntWalk.i64_in _ (by omega)]; simp
  have w2 : ((0 : Int) + (chunk : Int)) = (chunk : Int) := by simp
  go_enter Try.func27, Try.ntmps27
  go_wp2
  go_region
  go_wp2
  go_end0
  refine ⟨rfl, ?_, ?_⟩
  · refine ⟨?_, HH.out.2.1, .inr ⟨w.heap.size, rfl, by have := HH.out.2.1; omega, ?_⟩⟩
    · refine (Below.heap_alloc _ _ g (by simpa using hgl)).trans ?_
      rw [heap_set _ _ _ _ _ _ (heap_set _ _ _ _ _ _ HH.out.1)]
      simp
    · have := heap_alloc_new ((w.setCell ⟨g, 1, none⟩ (.int .i64 0)).setCell ⟨g, 0, none⟩ (.slice (some ⟨w.heap.size, 0, none⟩) chunk chunk)) (Obj.cells (madeCells #[Value.int IntKind.i64 0] chunk) 3)
      rw [show ((w.setCell ⟨g, 1, none⟩ (.int .i64 0)).setCell ⟨g, 0, none⟩ (.slice (some ⟨w.heap.size, 0, none⟩) chunk chunk)).heap.size = w.heap.size from by simp [World.setCell]] at this
      refine this.trans ?_
      have e := toList_madeCells_one (.int .i64 0) chunk
      simp only [ints, List.map_replicate, ← e]
  · refine Fr.drew (Fr.alloc (Fr.setCell (Fr.setCell (Fr.refl _ _) (.inl ?_) _) (.inl ?_) _) _) <;> rfl

theorem splice_two (D : List Int) (b c : Nat) (hb : b ≤ D.length) :
    splice (splice ((List.replicate (D.length + c) (0 : Int)).map (Value.int .i64)) 0 ((D.drop b).map (Value.int .i64))) (D.length - b) ((D.take b).map (Value.int .i64)) =
      (D.drop b ++ D.take b ++ List.replicate c 0).map (Value.int .i64) := by
  have e1 : ∀ (v : Value) (X : List Value) (n k m : Nat), X.length = k → n = k + m → splice (List.replicate n v) 0 X = X ++ List.replicate m v := by
    intro v X n k m h1 h2
    simp [splice, h1, h2]
  have e2 : ∀ (v : Value) (X Y : List Value) (k m c : Nat), X.length = k → Y.length = m → splice (X ++ List.replicate (m + c) v) k Y = X ++ (Y ++ List.replicate c v) := by
    intro v X Y k m c h1 h2
    subst h1; subst h2
    simp [splice, List.drop_append]
  rw [List.map_replicate, e1 _ _ _ (D.length - b) (b + c) (by simp) (by omega), e2 _ _ _ _ _ _ (by simp) (by simp; omega)]
  simp

theorem splice_one (D : List Int) (c : Nat) :
    splice ((List.replicate (D.length + c) (0 : Int)).map (Value.int .i64)) 0 (D.map (Value.int .i64)) = (D ++ List.replicate c 0).map (Value.int .i64) := by
  simp only [splice, List.take_zero, List.nil_append, List.length_map, Nat.zero_add, List.map_replicate, List.drop_replicate, List.map_append]
  congr 2
  omega

set_option maxHeartbeats 2000000 in
/-- back is 0: one copy -/
theorem grow_one (w : World) (B g : Nat) (H : Option Nat) (D : List Int) (chunk : Nat) (h : RingIs w B g H D 0 D.length chunk) (hc : 1 ≤ chunk) (hc' : chunk ≤ 1000) (hD : 0 < D.length) (hD' : D.length ≤ 100000) :
    Calls Try.prog 27 #[.pointer (some ⟨g, 0, none⟩)] w fun e w' => e = .returned (.tuple #[]) ∧
      RDone w B g (fun k => k = g) (D ++ List.replicate chunk 0) 0 D.length chunk (some w.heap.size) w' := by
  have hmk := run_make_row' (P := Try.prog) 22 3 (.int .i64 0) 8 Try.underlying22 info3 rfl .i64 .i64 (D.length + chunk) (by omega) (by omega)
  have hgl := h.lt
  obtain ⟨hb', rfl, hne, hBb, hlt, hblk, _, hfz⟩ := h.data hD
  have c0 := h.cell0
  have c1 := h.cell1
  have c2 := h.cell2
  have c3 := h.cell3
  have f0 := h.fr 0
  have f1 := h.fr 1
  have HH := Lib.hid h
  clear h
  have hne2 : ¬ w.heap.size = g := by omega
  have hne3 : ¬ w.heap.size = hb' := by omega
  have ec : (((D.length + chunk : Nat)) : Int) = (D.length : Int) + (chunk : Int) := by omega
  rw [ec] at hmk
  have w1 : IntKind.i64.wrap ((D.length : Int) + (chunk : Int)) = (D.length : Int) + (chunk : Int) := IntWalk.i64_in _ (by omega)
  clear ec
  go_enter Try.func27, Try.ntmps27
  go_wp2
  go_region
  go_wp2
  obtain ⟨cur, hcur⟩ : ∃ cur, cur = (List.replicate (D.length + chunk) (0 : Int)).map (Value.int .i64) := ⟨_, rfl⟩
  have hcl : cur.length = D.length + chunk := by rw [hcur]; simp
  have HC := Lib.hid hcur
  have hnew : (w.alloc (Obj.cells (madeCells #[Value.int IntKind.i64 0] (D.length + chunk)) 3)).drew.heap[w.heap.size]? = some (.cells cur.toArray 3 (0, 0)) := by
    refine (heap_alloc_new w _).trans ?_
    have e := toList_madeCells_one (.int .i64 0) (D.length + chunk)
    rw [hcur, List.map_replicate, ← e]
  clear hcur
  have HR := Lib.hid ((HH.out.alloc (Obj.cells (madeCells #[Value.int IntKind.i64 0] (D.length + chunk)) 3)).drew)
  have HF := Lib.hid (((Fr.refl (fun k => k = g) w).alloc (Obj.cells (madeCells #[Value.int IntKind.i64 0] (D.length + chunk)) 3)).drew)
  have hsz : (w.alloc (Obj.cells (madeCells #[Value.int IntKind.i64 0] (D.length + chunk)) 3)).drew.heap.size = w.heap.size + 1 := by simp
  generalize (w.alloc (Obj.cells (madeCells #[Value.int IntKind.i64 0] (D.length + chunk)) 3)).drew = W at *
  clear c0 c1 c2 c3 f0 f1 hmk
  have c0 := HR.out.cell0
  have c1 := HR.out.cell1
  have c2 := HR.out.cell2
  have c3 := HR.out.cell3
  have HN := Lib.hid hnew
  have HZ := Lib.hid hsz
  clear hnew hsz
  go_quiet (fail)
  go_wp2
  have hs3 : (Try.prog.info? 3).map (·.size) = some 1 := by kernel_rfl
  obtain ⟨cs, hcs⟩ : ∃ cs, cs = D.map (Value.int .i64) := ⟨_, rfl⟩
  have HCS := Lib.hid hcs
  have hcsl : cs.length = D.length := by rw [hcs]; simp
  have HL := Lib.hid hcsl
  have hsrc : ∀ j v, cs[j]? = some v → W.cell? ((⟨hb', 0, none⟩ : Addr).add j) = some v := by
    intro j v hj
    obtain ⟨_, _, _, hbk⟩ := HR.out.ne
    rw [WideShapes.add_plain]
    simp only [World.cell?, hbk, Nat.zero_add]
    rw [hcs] at hj
    simpa [ints] using hj
  have hone : ∀ v ∈ cs, v.oneCell' = true := by
    intro v hv; rw [hcs] at hv; obtain ⟨x, _, rfl⟩ := List.mem_map.1 hv; rfl
  clear hcs hcsl
  have HS := Lib.hid hsrc
  have H1 := Lib.hid hone
  clear hsrc hone
  go_region_law (refine step_copy_splice rfl (.tmp 43) (.tmp 53) 22 22 rfl 3 Try.underlying22 hs3 (some ⟨w.heap.size, 0, none⟩) (some ⟨hb', 0, none⟩) (D.length + chunk) (D.length + chunk) D.length D.length rfl rfl w.heap.size 0 cur 3 HN.out cs (by rw [HL.out]; simp) (fun _ => ⟨rfl, _, rfl, HS.out⟩) (by rw [HL.out, hcl]; omega) H1.out w.heap.size W ⟨rfl, rfl, rfl, Nat.le_refl _, fun _ _ => rfl⟩ (Nat.le_refl _) ?_; intro w4 hg4 hb4)
  all_goals
    have HR4 := Lib.hid (HR.out.other (w' := w4) (hb4.block g hgl) (fun k hk => by injection hk with hk; subst hk; exact hb4.block _ hlt))
    clear c0 c1 c2 c3
    have c0 := HR4.out.cell0
    have c1 := HR4.out.cell1
    have c2 := HR4.out.cell2
    have f0 := HR4.out.fr 0
    have f1 := HR4.out.fr 1
    have HB4 := Lib.hid hb4
    clear hb4
    rw [HL.out]
    go_wp2
    go_end0
    refine ⟨rfl, ?_, ?_⟩
    · refine ⟨?_, HH.out.2.1, .inr ⟨w.heap.size, rfl, by have := HH.out.2.1; omega, ?_⟩⟩
      · rw [heap_set _ _ _ _ _ _ (heap_set _ _ _ _ _ _ HR4.out.1)]
        simp
      · rw [Below.heap_setCell _ _ _ _ (by simpa using hne2), Below.heap_setCell _ _ _ _ (by simpa using hne2), hg4.out, HC.out, HCS.out, splice_one]
    · have F4 : Fr (fun k => k = g) w w4 := ⟨HB4.out.os.trans HF.out.os, HB4.out.tape.trans HF.out.tape, HB4.out.output.trans HF.out.output, Nat.le_trans HF.out.size HB4.out.size,
        fun k hk hs => (HB4.out.block k hk).trans (HF.out.block k hk hs)⟩
      exact (F4.setCell (p := ⟨g, 1, none⟩) (.inl rfl) _).setCell (p := ⟨g, 0, none⟩) (.inl rfl) _

set_option maxHeartbeats 2000000 in
/-- two copies -/
theorem grow_two (w : World) (B g : Nat) (H : Option Nat) (D : List Int) (back chunk : Nat) (h : RingIs w B g H D back D.length chunk) (hb0 : 0 < back) (hb1 : back < D.length) (hc : 1 ≤ chunk) (hc' : chunk ≤ 1000) (hD : 0 < D.length) (hD' : D.length ≤ 100000) :
    Calls Try.prog 27 #[.pointer (some ⟨g, 0, none⟩)] w fun e w' => e = .returned (.tuple #[]) ∧
      RDone w B g (fun k => k = g) (D.drop back ++ D.take back ++ List.replicate chunk 0) 0 D.length chunk (some w.heap.size) w' := by
  have hmk := run_make_row' (P := Try.prog) 22 3 (.int .i64 0) 8 Try.underlying22 info3 rfl .i64 .i64 (D.length + chunk) (by omega) (by omega)
  have hgl := h.lt
  obtain ⟨hb', rfl, hne, hBb, hlt, hblk, _, hfz⟩ := h.data hD
  have c0 := h.cell0
  have c1 := h.cell1
  have c2 := h.cell2
  have c3 := h.cell3
  have f0 := h.fr 0
  have f1 := h.fr 1
  have HH := Lib.hid h
  clear h
  have hne2 : ¬ w.heap.size = g := by omega
  have hne3 : ¬ w.heap.size = hb' := by omega
  have ec : (((D.length + chunk : Nat)) : Int) = (D.length : Int) + (chunk : Int) := by omega
  rw [ec] at hmk
  have w1 : IntKind.i64.wrap ((D.length : Int) + (chunk : Int)) = (D.length : Int) + (chunk : Int) := IntWalk.i64_in _ (by omega)
  clear ec
  go_enter Try.func27, Try.ntmps27
  go_wp2
  go_region
  go_wp2
  obtain ⟨cur, hcur⟩ : ∃ cur, cur = (List.replicate (D.length + chunk) (0 : Int)).map (Value.int .i64) := ⟨_, rfl⟩
  have hcl : cur.length = D.length + chunk := by rw [hcur]; simp
  have HC := Lib.hid hcur
  have hnew : (w.alloc (Obj.cells (madeCells #[Value.int IntKind.i64 0] (D.length + chunk)) 3)).drew.heap[w.heap.size]? = some (.cells cur.toArray 3 (0, 0)) := by
    refine (heap_alloc_new w _).trans ?_
    have e := toList_madeCells_one (.int .i64 0) (D.length + chunk)
    rw [hcur, List.map_replicate, ← e]
  clear hcur
  have HR := Lib.hid ((HH.out.alloc (Obj.cells (madeCells #[Value.int IntKind.i64 0] (D.length + chunk)) 3)).drew)
  have HF := Lib.hid (((Fr.refl (fun k => k = g) w).alloc (Obj.cells (madeCells #[Value.int IntKind.i64 0] (D.length + chunk)) 3)).drew)
  have hsz : (w.alloc (Obj.cells (madeCells #[Value.int IntKind.i64 0] (D.length + chunk)) 3)).drew.heap.size = w.heap.size + 1 := by simp
  generalize (w.alloc (Obj.cells (madeCells #[Value.int IntKind.i64 0] (D.length + chunk)) 3)).drew = W at *
  clear c0 c1 c2 c3 f0 f1 hmk
  have c0 := HR.out.cell0
  have c1 := HR.out.cell1
  have c2 := HR.out.cell2
  have c3 := HR.out.cell3
  have HN := Lib.hid hnew
  have HZ := Lib.hid hsz
  clear hnew hsz
  go_quiet (fail)
  go_wp2
  have hs3 : (Try.prog.info? 3).map (·.size) = some 1 := by kernel_rfl
  obtain ⟨cs, hcs⟩ : ∃ cs, cs = (D.drop back).map (Value.int .i64) := ⟨_, rfl⟩
  have HCS := Lib.hid hcs
  obtain ⟨k, hk⟩ : ∃ k, D.length = back + k := ⟨D.length - back, by omega⟩
  have ek1 : (D.length : Int) - (back : Int) = (k : Int) := by omega
  have ek2 : (D.length : Int) - (k : Int) = (back : Int) := by omega
  have ek3 : k < D.length := by omega
  have hcsl : cs.length = k := by rw [hcs]; simp; omega
  have HK := Lib.hid hk
  clear hk
  have HL := Lib.hid hcsl
  have hsrc : ∀ j v, cs[j]? = some v → W.cell? ((⟨hb', back, none⟩ : Addr).add j) = some v := by
    intro j v hj
    obtain ⟨_, _, _, hbk⟩ := HR.out.ne
    rw [WideShapes.add_plain]
    simp only [World.cell?, hbk]
    rw [hcs] at hj
    simpa [ints] using hj
  have hone : ∀ v ∈ cs, v.oneCell' = true := by
    intro v hv; rw [hcs] at hv; obtain ⟨x, _, rfl⟩ := List.mem_map.1 hv; rfl
  clear hcs hcsl
  have HS := Lib.hid hsrc
  have H1 := Lib.hid hone
  clear hsrc hone
  have hbk : back ≤ D.length := by omega
  have hbne : ¬ D.length = back := by omega
  go_region_law (first | (refine step_copy_splice rfl (.tmp 43) (.tmp 53) 22 22 rfl 3 Try.underlying22 hs3 (some ⟨w.heap.size, 0, none⟩) (some ⟨hb', back, none⟩) (D.length + chunk) (D.length + chunk) (D.length - back) (D.length - back) rfl rfl w.heap.size 0 cur 3 HN.out cs (by rw [HL.out]; show _ = min _ _; have := HK.out; omega) (fun _ => ⟨rfl, _, rfl, HS.out⟩) (by rw [HL.out, hcl]; omega) H1.out w.heap.size W ⟨rfl, rfl, rfl, Nat.le_refl _, fun _ _ => rfl⟩ (Nat.le_refl _) ?_; intro w4 hg4 hb4))
  all_goals
    have HR4 := Lib.hid (HR.out.other (w' := w4) (hb4.block g hgl) (fun k hk => by injection hk with hk; subst hk; exact hb4.block _ hlt))
    clear c0 c1 c2 c3
    have c0 := HR4.out.cell0
    have c1 := HR4.out.cell1
    have c2 := HR4.out.cell2
    have f0 := HR4.out.fr 0
    have f1 := HR4.out.fr 1
    have HB4 := Lib.hid hb4
    clear hb4
    rw [HL.out]
    have ek4 : (k : Int) ≤ (D.length : Int) + (chunk : Int) := by omega
    have ek5 : ¬ D.length + chunk = k := by omega
    have ek6 : (back : Int) ≤ (D.length : Int) := by omega
    obtain ⟨cs2, hcs2⟩ : ∃ cs2, cs2 = (D.take back).map (Value.int .i64) := ⟨_, rfl⟩
    have HCS2 := Lib.hid hcs2
    have hcsl2 : cs2.length = back := by rw [hcs2]; simp; omega
    have HL2 := Lib.hid hcsl2
    have hsrc : ∀ j v, cs2[j]? = some v → w4.cell? ((⟨hb', 0, none⟩ : Addr).add j) = some v := by
      intro j v hj
      obtain ⟨_, _, _, hbk⟩ := HR4.out.ne
      rw [WideShapes.add_plain]
      simp only [World.cell?, hbk, Nat.zero_add]
      rw [hcs2, List.getElem?_map, List.getElem?_take] at hj
      split at hj
      · simpa [ints] using hj
      · simp at hj
    have hone : ∀ v ∈ cs2, v.oneCell' = true := by
      intro v hv; rw [hcs2] at hv; obtain ⟨x, _, rfl⟩ := List.mem_map.1 hv; rfl
    clear hcs2 hcsl2
    have HS2 := Lib.hid hsrc
    have H2 := Lib.hid hone
    clear hsrc hone
    have hsl : (splice cur 0 cs).length = D.length + chunk := by rw [length_splice _ _ _ (by rw [HL.out, hcl]; have := HK.out; omega)]; exact hcl
    have HSL := Lib.hid hsl
    clear hsl
    go_wp2
    go_region_law (first | (refine step_copy_splice rfl (.tmp 69) (.tmp 75) 22 22 rfl 3 Try.underlying22 hs3 (some ⟨w.heap.size, k, none⟩) (some ⟨hb', 0, none⟩) (D.length + chunk - k) (D.length + chunk - k) back D.length rfl rfl w.heap.size k (splice cur 0 cs) 3 hg4.out cs2 (by rw [HL2.out]; show _ = min _ _; have := HK.out; omega) (fun _ => ⟨rfl, _, rfl, HS2.out⟩) (by rw [HL2.out, HSL.out]; have := HK.out; omega) H2.out w.heap.size w4 ⟨rfl, rfl, rfl, Nat.le_refl _, fun _ _ => rfl⟩ (Nat.le_refl _) ?_; intro w5 hg5 hb5))
    all_goals
      have HR5 := Lib.hid (HR4.out.other (w' := w5) (hb5.block g hgl) (fun k hk => by injection hk with hk; subst hk; exact hb5.block _ hlt))
      clear c0 c1 c2 f0 f1
      have f0 := HR5.out.fr 0
      have f1 := HR5.out.fr 1
      have c0 := HR5.out.cell0
      have c1 := HR5.out.cell1
      have HB5 := Lib.hid hb5
      clear hb5
      go_wp2
      go_end0
      refine ⟨rfl, ?_, ?_⟩
      · refine ⟨?_, HH.out.2.1, .inr ⟨w.heap.size, rfl, by have := HH.out.2.1; omega, ?_⟩⟩
        · rw [heap_set _ _ _ _ _ _ (heap_set _ _ _ _ _ _ HR5.out.1)]
          simp
          have := HK.out
          omega
        · rw [Below.heap_setCell _ _ _ _ (by simpa using hne2), Below.heap_setCell _ _ _ _ (by simpa using hne2), hg5.out, HC.out, HCS.out, HCS2.out]
          rw [show k = D.length - back from by have := HK.out; omega, splice_two _ _ _ hbk]
      · have F5 : Fr (fun k => k = g) w w5 := ⟨(HB5.out.os.trans HB4.out.os).trans HF.out.os, (HB5.out.tape.trans HB4.out.tape).trans HF.out.tape, (HB5.out.output.trans HB4.out.output).trans HF.out.output, Nat.le_trans (Nat.le_trans HF.out.size HB4.out.size) HB5.out.size,
          fun k hk hs => ((HB5.out.block k hk).trans (HB4.out.block k hk)).trans (HF.out.block k hk hs)⟩
        exact (F5.setCell (p := ⟨g, 1, none⟩) (.inl rfl) _).setCell (p := ⟨g, 0, none⟩) (.inl rfl) _

def gd (D : List Int) (back chunk : Nat) : List Int := D.drop back ++ D.take back ++ List.replicate chunk 0

theorem gd_len (D : List Int) (back chunk : Nat) : (gd D back chunk).length = D.length + chunk := by
  simp [gd]; omega

theorem grow_any (w : World) (B g : Nat) (H : Option Nat) (D : List Int) (back chunk : Nat) (h : RingIs w B g H D back D.length chunk) (hb : (D = [] ∧ back = 0) ∨ back < D.length) (hc : 1 ≤ chunk) (hc' : chunk ≤ 1000) (hD' : D.length ≤ 100000) :
    Calls Try.prog 27 #[.pointer (some ⟨g, 0, none⟩)] w fun e w' => e = .returned (.tuple #[]) ∧
      RDone w B g (fun k => k = g) (gd D back chunk) 0 D.length chunk (some w.heap.size) w' := by
  unfold gd
  rcases hb with ⟨rfl, rfl⟩ | hb
  · simpa using grow_empty w B g H chunk h hc hc'
  · by_cases h0 : back = 0
    · subst h0
      simpa using grow_one w B g H D chunk h hc hc' hb hD'
    · exact grow_two w B g H D back chunk h (by omega) hb hc hc' (by omega) hD'

set_option maxHeartbeats 1000000 in
theorem enq_full (w : World) (B g : Nat) (H : Option Nat) (D : List Int) (back chunk : Nat) (h : RingIs w B g H D back D.length chunk) (hb : (D = [] ∧ back = 0) ∨ back < D.length) (hc : 1 ≤ chunk) (hc' : chunk ≤ 1000)
    (hd : D.length ≤ 90000) (v : Int) :
    Calls Try.prog 20 #[.pointer (some ⟨g, 0, none⟩), .int .i64 v] w fun e w' => e = .returned (.tuple #[]) ∧
      RDone w B g (fun k => k = g) ((gd D back chunk).set D.length v) 0 (D.length + 1) chunk (some w.heap.size) w' := by
  have c0 := h.cell0
  have c2 := h.cell2
  have HH := Lib.hid h
  clear h
  have hBg := HH.out.2.1
  have hgl := HH.out.lt
  have t1 : ((D.length : Int) == (D.length : Int)) = true := by simp
  have ga := fun n => grow_any _ B g H D back chunk (HH.out.drewN n) hb hc hc' (by omega)
  obtain ⟨D1, hD1⟩ : ∃ D1, D1 = gd D back chunk := ⟨_, rfl⟩
  have hl1 : D1.length = D.length + chunk := by rw [hD1, gd_len]
  rw [← hD1] at ga ⊢
  clear hD1
  have GA := Lib.hid ga
  have HL := Lib.hid hl1
  clear ga hl1
  go_enter Try.func20, Try.ntmps20
  go_wp2_with (fail)
  go_quiet (fail)
  clear c0 c2
  go_wp2_with (go_at_call 27; refine (GA.out _).mono ?_; rintro e w1 ⟨rfl, hr1, hf1⟩)
  have HR := Lib.hid (show RingIs w1 B g (some w.heap.size) D1 0 D.length chunk from hr1)
  have HF := Lib.hid (show Fr (fun k => k = g) w w1 from ⟨hf1.os, hf1.tape, hf1.output, hf1.size, hf1.block⟩)
  clear hr1 hf1
  have hlt : D.length < D1.length := by have := HL.out; omega
  have hbd : D1.length ≤ 91000 := by have := HL.out; omega
  obtain ⟨hne, _, _, _⟩ := HR.out.ne
  obtain ⟨hb', he, _, _, _, _, hcell, hfz⟩ := HR.out.data hlt
  injection he with he
  subst he
  have c0 := HR.out.cell0
  have c1 := HR.out.cell1
  have c2 := HR.out.cell2
  have f0 := HR.out.fr 0
  have f1 := HR.out.fr 1
  have f2 := HR.out.fr 2
  have n0 : ¬ (D1.length : Int) = 0 := by omega
  have e1 : (D.length : Int) % (D1.length : Int) = (D.length : Int) := Int.emod_eq_of_lt (by omega) (by omega)
  go_quiet (fail)
  go_wp2
  go_end0
  refine ⟨rfl, ?_, ?_⟩
  · exact ((HR.out.drewN _).setData D.length v).setLen (D.length + 1) _ (by omega)
  · exact (((HF.out).drewN _).setCell (p := ⟨w.heap.size, D.length, none⟩) (.inr (Nat.le_refl _)) _).setCell (p := ⟨g, 2, none⟩) (.inl rfl) _

set_option maxHeartbeats 1000000 in
theorem reset_any (w : World) (B g : Nat) (H : Option Nat) (D : List Int) (back len : Nat) (chunk : Int) (h : RingIs w B g H D back len chunk) (hd : D.length ≤ 100000) :
    Calls Try.prog 25 #[.pointer (some ⟨g, 0, none⟩)] w fun e w' => e = .returned (.tuple #[]) ∧
      RDone w B g (fun k => k = g ∨ H = some k) (List.replicate D.length 0) 0 0 chunk H w' := by
  have c0 := h.cell0
  have HH := Lib.hid h
  clear h
  go_enter Try.func25, Try.ntmps25
  go_wp2
  go_loopw [9] (fun i wr => ∃ k : Nat, k ≤ D.length ∧ i = .int .i64 k ∧ RingIs wr B g H (List.replicate k 0 ++ D.drop k) back len chunk ∧ Fr (fun k => k = g ∨ H = some k) w wr)
    (fun i _ => D.length - (intOf i).toNat)
  case atStart => exact ⟨0, Nat.zero_le _, rfl, by simpa using HH.out, Fr.refl _ _⟩
  case round =>
    obtain ⟨k, hk, rfl, hr, hf⟩ := hrel
    have hlen : (List.replicate k (0 : Int) ++ D.drop k).length = D.length := by simp; omega
    clear c0
    by_cases hlt : k < D.length
    · obtain ⟨hb', rfl, hne, _, _, _, hcell, hfz⟩ := hr.data (i := k) (by rw [hlen]; exact hlt)
      have c0 := hr.cell0
      rw [hlen] at c0
      have HR := Lib.hid hr
      have HF := Lib.hid hf
      clear hr hf hlen
      go_wp2
      go_roundw
      case rel =>
        refine ⟨k + 1, by omega, by go_num, ?_, HF.out.setCell (p := ⟨hb', k, none⟩) (.inl (.inr rfl)) _⟩
        have := HR.out.setData k 0
        rw [show (List.replicate k (0 : Int) ++ D.drop k).set k 0 = List.replicate (k + 1) 0 ++ D.drop (k + 1) from ?_] at this
        · exact this
        · rw [List.set_append_right _ _ (by simp), List.length_replicate, Nat.sub_self, List.drop_eq_getElem_cons hlt, List.set_cons_zero, List.replicate_succ', List.append_assoc]; rfl
      case measure => simp [intOf]; omega
    · obtain rfl : k = D.length := by omega
      have c1 := hr.cell1
      have c2 := hr.cell2
      have f1 := hr.fr 1
      have f2 := hr.fr 2
      have HR := Lib.hid hr
      have HF := Lib.hid hf
      clear hr hf hlen
      go_wp2
      go_end0
      refine ⟨rfl, ?_, ?_⟩
      · have := (HR.out.setBack 0 0 rfl).setLen 0 0 rfl
        simpa using this
      · exact (HF.out.setCell (p := ⟨g, 1, none⟩) (.inl (.inl rfl)) _).setCell (p := ⟨g, 2, none⟩) (.inl (.inl rfl)) _
end Go.Proofs.Ytlphfinmdacolaa.Rng
