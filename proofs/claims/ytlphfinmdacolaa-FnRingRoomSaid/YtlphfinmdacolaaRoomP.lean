/- What a ring tells of its room, in plain words: steps made of moves, and what the plain function 'sim' tells of them. -/
import Derived.Test.YtlphfinmdacolaaRingL
set_option linter.unusedSimpArgs false
set_option linter.unusedVariables false
namespace Go.Proofs.Ytlphfinmdacolaa.Rng
open Go.RowKit

def part (i k : Nat) : List Int := if i % 2 = 0 then (List.range k).map (fun (j : Nat) => (j : Int)) else List.replicate k (-1)
def blk (i m : Nat) : List Int := part i (m % 150) ++ [-2, -3]
def st (ms : List Nat) : Nat → List Int
  | 0 => []
  | i + 1 => st ms i ++ blk i (ms.getD i 0)

theorem part_len (i k : Nat) : (part i k).length = k := by unfold part; split <;> simp
theorem part_succ (i k : Nat) : part i (k + 1) = part i k ++ [if i % 2 = 0 then (k : Int) else -1] := by
  unfold part; split
  · simp [List.range_succ]
  · rw [List.replicate_succ']
theorem st_len (ms : List Nat) (i : Nat) : (st ms i).length ≤ i * 151 := by
  induction i with
  | zero => simp [st]
  | succ i ih =>
    have : ms.getD i 0 % 150 < 150 := Nat.mod_lt _ (by omega)
    simp only [st, blk, List.length_append, part_len, List.length_cons, List.length_nil]
    omega
theorem part_wf (i k : Nat) (hk : k ≤ 1000) : ∀ x ∈ part i k, -3 ≤ x ∧ x ≤ 1000 := by
  intro x hx
  unfold part at hx
  split at hx
  · obtain ⟨j, hj, rfl⟩ := List.mem_map.1 hx
    rw [List.mem_range] at hj
    omega
  · rw [List.mem_replicate] at hx
    omega
theorem st_wf (ms : List Nat) (i : Nat) : ∀ x ∈ st ms i, -3 ≤ x ∧ x ≤ 1000 := by
  induction i with
  | zero => simp [st]
  | succ i ih =>
    have : ms.getD i 0 % 150 < 150 := Nat.mod_lt _ (by omega)
    intro x hx
    simp only [st, blk, List.mem_append] at hx
    rcases hx with hx | hx | hx
    · exact ih x hx
    · exact part_wf i _ (by omega) x hx
    · simp at hx; omega

def Fit (chunk : Nat) (s : Sm) : Prop := s.q.length ≤ s.cap ∧ s.cap % chunk = 0

theorem step_fit {chunk : Nat} (hc : 1 ≤ chunk) {s : Sm} (h : Fit chunk s) (x : Int) : Fit chunk (step chunk s x) ∧ s.cap ≤ (step chunk s x).cap := by
  obtain ⟨h1, h2⟩ := h
  unfold step Fit
  by_cases h0 : 0 ≤ x
  · rw [if_pos h0]
    by_cases e : s.q.length = s.cap
    · simp only [if_pos e, List.length_append, List.length_singleton]
      exact ⟨⟨by omega, by rw [Nat.add_mod_right]; exact h2⟩, by omega⟩
    · simp only [if_neg e, List.length_append, List.length_singleton]
      exact ⟨⟨by omega, h2⟩, Nat.le_refl _⟩
  · rw [if_neg h0]
    repeat' split
    all_goals simp
    all_goals omega

theorem fold_fit {chunk : Nat} (hc : 1 ≤ chunk) (L : List Int) : ∀ {s : Sm}, Fit chunk s → Fit chunk (L.foldl (step chunk) s) ∧ s.cap ≤ (L.foldl (step chunk) s).cap := by
  induction L with
  | nil => intro s h; exact ⟨h, Nat.le_refl _⟩
  | cons x L ih =>
    intro s h
    obtain ⟨h1, h2⟩ := step_fit hc h x
    obtain ⟨h3, h4⟩ := ih h1
    exact ⟨h3, Nat.le_trans h2 h4⟩

theorem fold_out {chunk : Nat} (L : List Int) : ∀ (s : Sm), ∃ r, (L.foldl (step chunk) s).out = s.out ++ r := by
  induction L with
  | nil => intro s; exact ⟨[], by simp⟩
  | cons x L ih =>
    intro s
    obtain ⟨r, hr⟩ := ih (step chunk s x)
    have : ∃ r', (step chunk s x).out = s.out ++ r' := by
      unfold step; repeat' split
      all_goals first | exact ⟨_, rfl⟩ | exact ⟨[], (List.append_nil _).symm⟩
    obtain ⟨r', hr'⟩ := this
    exact ⟨r' ++ r, by rw [List.foldl_cons, hr, hr', List.append_assoc]⟩

theorem fold_even {chunk : Nat} (L : List Int) : ∀ (s : Sm), (∀ x ∈ L, 0 ≤ x) → (L.foldl (step chunk) s).out = s.out := by
  induction L with
  | nil => intro s _; rfl
  | cons x L ih =>
    intro s h
    rw [List.foldl_cons, ih _ (fun y hy => h y (by simp [hy]))]
    unfold step; rw [if_pos (h x (by simp))]

theorem fold_odd {chunk : Nat} (k : Nat) : ∀ (s : Sm), ((List.replicate k (-1 : Int)).foldl (step chunk) s).out.length = s.out.length + k := by
  induction k with
  | zero => intro s; rfl
  | succ k ih =>
    intro s
    rw [List.replicate_succ, List.foldl_cons, ih]
    simp [step]
    omega

theorem sim_app (chunk : Nat) (L M : List Int) : sim chunk (L ++ M) = M.foldl (step chunk) (sim chunk L) := by simp [sim, List.foldl_append]

theorem sim_fit {chunk : Nat} (hc : 1 ≤ chunk) (L : List Int) : Fit chunk (sim chunk L) := (fold_fit hc L (s := ⟨[], 0, []⟩) ⟨by simp, by simp⟩).1

/-- what one move tells: behind what the odd ones take out, how many there are, and the room -/
theorem sim_move {chunk : Nat} (hc : 1 ≤ chunk) (ms : List Nat) (i : Nat) :
    ∃ (D : List Int) (size room : Nat), (sim chunk (st ms (i + 1))).out = (sim chunk (st ms i)).out ++ D ++ [(size : Int), (room : Int)] ∧ D.length = (if i % 2 = 0 then 0 else ms.getD i 0 % 150) ∧
      size ≤ room ∧ room % chunk = 0 ∧ (sim chunk (st ms i)).cap ≤ room ∧ (sim chunk (st ms (i + 1))).cap = room := by
  have hf := sim_fit hc (st ms i)
  simp only [st, blk]
  rw [sim_app, List.foldl_append]
  obtain ⟨h1, h2⟩ := fold_fit hc (part i (ms.getD i 0 % 150)) hf
  obtain ⟨r, hr⟩ := fold_out (chunk := chunk) (part i (ms.getD i 0 % 150)) (sim chunk (st ms i))
  have hlen : r.length = if i % 2 = 0 then 0 else ms.getD i 0 % 150 := by
    have := congrArg List.length hr
    rw [List.length_append] at this
    by_cases e : i % 2 = 0
    · rw [if_pos e]
      rw [fold_even] at this
      · omega
      · intro x hx; unfold part at hx; rw [if_pos e] at hx
        obtain ⟨j, _, rfl⟩ := List.mem_map.1 hx
        omega
    · rw [if_neg e]
      unfold part at this
      rw [if_neg e, fold_odd] at this
      omega
  generalize (part i (ms.getD i 0 % 150)).foldl (step chunk) (sim chunk (st ms i)) = s1 at *
  refine ⟨r, s1.q.length, s1.cap, ?_, hlen, h1.1, h1.2, h2, ?_⟩
  · simp [step, hr]
  · simp [step]

theorem st_prefix {chunk : Nat} (ms : List Nat) (i d : Nat) : ∃ r, (sim chunk (st ms (i + d))).out = (sim chunk (st ms i)).out ++ r := by
  induction d with
  | zero => exact ⟨[], by simp⟩
  | succ d ih =>
    obtain ⟨r, hr⟩ := ih
    obtain ⟨r', hr'⟩ := fold_out (chunk := chunk) (blk (i + d) (ms.getD (i + d) 0)) (sim chunk (st ms (i + d)))
    exact ⟨r ++ r', by rw [show i + (d + 1) = (i + d) + 1 from by omega, st, sim_app, hr', hr, List.append_assoc]⟩

/-- what stands in the end's list where a move's two numbers are looked for -/
theorem at_move {chunk : Nat} (hc : 1 ≤ chunk) (ms : List Nat) (i : Nat) (hi : i < ms.length) :
    ∃ size room k : Nat, k = (sim chunk (st ms i)).out.length + (if i % 2 = 0 then 0 else ms.getD i 0 % 150) ∧
      (sim chunk (st ms ms.length)).out[k]? = some (size : Int) ∧ (sim chunk (st ms ms.length)).out[k + 1]? = some (room : Int) ∧
      size ≤ room ∧ room % chunk = 0 ∧ (sim chunk (st ms i)).cap ≤ room ∧ (sim chunk (st ms (i + 1))).cap = room ∧ (sim chunk (st ms (i + 1))).out.length = k + 2 := by
  obtain ⟨D, size, room, h1, h2, h3, h4, h5, h6⟩ := sim_move hc ms i
  obtain ⟨r, hr⟩ := st_prefix (chunk := chunk) ms (i + 1) (ms.length - (i + 1))
  rw [show i + 1 + (ms.length - (i + 1)) = ms.length from by omega] at hr
  refine ⟨size, room, _, rfl, ?_, ?_, h3, h4, h5, h6, ?_⟩
  · rw [hr, h1, ← h2, List.append_assoc, List.getElem?_append_right (by simp)]
    simp
  · rw [hr, h1, ← h2, List.append_assoc, List.getElem?_append_right (by simp)]
    simp
  · rw [h1, ← h2]; simp; omega
end Go.Proofs.Ytlphfinmdacolaa.Rng
