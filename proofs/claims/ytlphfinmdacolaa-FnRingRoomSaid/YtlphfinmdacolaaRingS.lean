/- The walk of spec.Queue: it tells what the plain function 'sim' tells, for steps of which none asks for the room. -/
import Derived.Test.YtlphfinmdacolaaRingQ
set_option linter.unusedSimpArgs false
set_option linter.unusedVariables false
namespace Go.Proofs.Ytlphfinmdacolaa.Rng
open Go.RowKit

def M2 (w : World) (B : Nat) (s : Sm) (l out : Value) (wr : World) : Prop :=
  OwnQ wr B l s.q ∧ OwnQ wr B out s.out ∧ (∀ m, out.ownBlock = some m → l.ownBlock ≠ some m) ∧ Below B w wr

/-- something is told -/
theorem M2.push {w wr w' : World} {B : Nat} {l l' out out' : Value} {s : Sm} {q' : List Int} {x : Int} {o : Obj} {c : Nat} (h : M2 w B s l out wr) (hB : B ≤ wr.heap.size)
    (hown : OwnQ w' B out' (s.out ++ [x])) (hg : (wr.alloc o).grownBy w' out.ownBlock) (hb : out'.ownBlock = out.ownBlock ∨ out'.ownBlock = some (wr.heap.size + 1))
    (hl : OwnQ wr B l' q') (hll : l'.ownBlock = none ∨ l'.ownBlock = l.ownBlock) : M2 w B ⟨q', c, s.out ++ [x]⟩ l' out' w' := by
  obtain ⟨h1, h2, h3, h4⟩ := h
  refine ⟨(hl.alloc o).kept hg ?_, hown, ?_, (h4.alloc hB o).grown hg (by simp; omega) (fun k hk => (h2.lt k hk).1)⟩
  · intro k hk e
    rcases hll with hll | hll
    · rw [hll] at hk; cases hk
    · rw [hll] at hk; exact h3 k e.symm hk
  · intro m hm e
    rcases hll with hll | hll
    · rw [hll] at e; cases e
    · rw [hll] at e
      rcases hb with hb | hb
      · rw [hb] at hm; exact h3 m hm e
      · rw [hb] at hm; injection hm with hm
        have := (h1.lt m e).2
        omega

/-- a number is put in -/
theorem M2.put {w wr w' : World} {B : Nat} {l l' out : Value} {s : Sm} {x : Int} {o : Obj} {c : Nat} (h : M2 w B s l out wr) (hB : B ≤ wr.heap.size)
    (hown : OwnQ w' B l' (s.q ++ [x])) (hg : (wr.alloc o).grownBy w' l.ownBlock) (hb : l'.ownBlock = l.ownBlock ∨ l'.ownBlock = some (wr.heap.size + 1)) : M2 w B ⟨s.q ++ [x], c, s.out⟩ l' out w' := by
  obtain ⟨h1, h2, h3, h4⟩ := h
  refine ⟨hown, (h2.alloc o).kept hg (fun k hk e => h3 k hk e.symm), ?_, (h4.alloc hB o).grown hg (by simp; omega) (fun k hk => (h1.lt k hk).1)⟩
  intro m hm e
  rcases hb with hb | hb
  · rw [hb] at e; exact h3 m hm e
  · rw [hb] at e; injection e with e
    have := (h2.lt m hm).2
    omega

def Told2 (w : World) (l : List Int) (e : Ending) (w' : World) : Prop := ∃ v, e = .returned v ∧ OwnQ w' w.heap.size v l ∧ Below w.heap.size w w'

set_option maxHeartbeats 2000000 in
theorem queue_any (w : World) (chunk : Nat) (A : Option Addr) (c : Nat) (L : List Int) (hL : L.length ≤ 20000) (hS : Steps_ w w.heap.size A L)
    (hwf : ∀ x ∈ L, -9223372036854775808 ≤ x ∧ x ≤ 9223372036854775807 ∧ x ≠ -3) :
    Calls Try.prog 13 #[.slice A L.length c] w (Told2 w (sim chunk L).out) := by
  have HS := Lib.hid hS
  have HW := Lib.hid hwf
  clear hS hwf
  go_enter Try.func13, Try.ntmps13
  go_wp2
  have hM : M2 w w.heap.size (sim chunk (L.take 0)) (.slice none 0 0) (.slice none 0 0) w :=
    ⟨.inl ⟨rfl, rfl⟩, .inl ⟨rfl, rfl⟩, fun m hm => by simp [Value.ownBlock] at hm, Below.refl _ _⟩
  have HM := Lib.hid hM
  clear hM
  go_loopw [3, 4, 10] (fun l out i wr => ∃ k : Nat, k ≤ L.length ∧ i = .int .i64 k ∧ M2 w w.heap.size (sim chunk (L.take k)) l out wr)
    (fun _ _ i _ => L.length - (intOf i).toNat)
  case atStart => exact ⟨0, Nat.zero_le _, rfl, HM.out⟩
  case round =>
    obtain ⟨k, hk, rfl, hM⟩ := hrel
    have HM := Lib.hid hM
    clear hM
    by_cases hlt : k < L.length
    · obtain ⟨b, off, rfl, hbB, hcells⟩ := HS.out k hlt
      obtain ⟨x, hx⟩ : ∃ x, L[k]? = some x := ⟨_, List.getElem?_eq_getElem hlt⟩
      have hcell : wr.cell? ⟨b, off + k, none⟩ = some (.int .i64 x) := by
        obtain ⟨_, _, _, hb⟩ := HM.out
        exact (hb.cell (p := ⟨b, off + k, none⟩) hbB).trans (hcells k x hx)
      have hxm := HW.out x (List.mem_of_getElem? hx)
      obtain ⟨hx0, hx1, hx3⟩ := hxm
      have HX := Lib.hid hx
      have HCC := Lib.hid hcells
      clear hx hcells
      have ht : L.take (k + 1) = L.take k ++ [x] := by rw [List.take_add_one, HX.out]; rfl
      have HT := Lib.hid ht
      clear ht
      have hbd := sim_bound chunk (L.take k)
      have htl : (L.take k).length ≤ k := List.length_take_le _ _
      obtain ⟨s, hs⟩ : ∃ s, s = sim chunk (L.take k) := ⟨_, rfl⟩
      rw [← hs] at hbd HM
      have HSim := Lib.hid hs
      clear hs
      have HBD := Lib.hid hbd
      clear hbd
      have hnx : sim chunk (L.take (k + 1)) = step chunk s x := by rw [HT.out, sim_snoc, HSim.out]
      have HN := Lib.hid hnx
      clear hnx
      have hql : s.q.length ≤ 20000 := by have := HBD.out.1; omega
      have hol : s.out.length ≤ 20000 := by have := HBD.out.2.2; omega
      obtain ⟨hq, ho, hap, hbel⟩ := HM.out
      have hsz := hbel.size
      obtain ⟨A, cap, rfl, hcap, hat⟩ := hq.form
      have HQ := Lib.hid hq
      have HO := Lib.hid ho
      have HA := Lib.hid hat
      clear hq ho hap hbel hat
      by_cases h0 : 0 ≤ x
      · have hst : step chunk s x = ⟨s.q ++ [x], if s.q.length = s.cap then s.cap + chunk else s.cap, s.out⟩ := by unfold step; rw [if_pos h0]
        have HST := Lib.hid hst
        clear hst
        go_wp2_with (at_builtin; refine wpList_append_q rfl _ _ rfl w.heap.size _ s.q rfl (HQ.out.alloc _) ⟨wr.heap.size, 0, none⟩ _ x rfl (by simp [go_sem]) rfl (by omega) (by simp; omega) ?_; intro v' w3 hown' hgrow hat)
        go_roundw
        case rel =>
          refine ⟨k + 1, by omega, by go_num, ?_⟩
          rw [HN.out, HST.out]
          exact HM.out.put hsz hown' hgrow (by rcases hat with h | h; exact .inl h; exact .inr (by simpa using h))
        case measure => simp [intOf]; omega
      have b0 : decide (0 ≤ x) = false := by simp; omega
      by_cases h1 : x = -1
      · subst h1
        by_cases hq0 : s.q.length = 0
        · have hq0' : s.q = [] := List.eq_nil_of_length_eq_zero hq0
          have hst : step chunk s (-1) = ⟨s.q, s.cap, s.out ++ [-1]⟩ := by unfold step; rw [if_neg h0, if_pos rfl, hq0']; rfl
          have HST := Lib.hid hst
          clear hst
          have b1 : ((s.q.length : Int) == 0) = true := by simp [hq0]
          have HQ0 := Lib.hid hq0
          clear hq0 hq0'
          go_wp2_with (at_builtin; refine wpList_append_q rfl _ _ rfl w.heap.size _ s.out rfl (HO.out.alloc _) ⟨wr.heap.size, 0, none⟩ _ (-1) rfl (by simp [go_sem]) rfl (by omega) (by simp; omega) ?_; intro v' w3 hown' hgrow hat)
          go_roundw
          case rel =>
            refine ⟨k + 1, by omega, by go_num, ?_⟩
            rw [HN.out, HST.out]
            exact HM.out.push hsz hown' hgrow (by rcases hat with h | h; exact .inl h; exact .inr (by simpa using h)) HQ.out (.inr rfl)
          case measure => simp [intOf]; omega

        · obtain ⟨y, t, hqt⟩ : ∃ y t, s.q = y :: t := by
            cases h : s.q with
            | nil => rw [h] at hq0; simp at hq0
            | cons y t => exact ⟨y, t, rfl⟩
          have hst : step chunk s (-1) = ⟨t, s.cap, s.out ++ [y]⟩ := by unfold step; rw [if_neg h0, if_pos rfl, hqt]; rfl
          have HST := Lib.hid hst
          clear hst
          have hpos : 0 < s.q.length := by omega
          have b1 : ((s.q.length : Int) == 0) = false := by simp; intro h; simp [h] at hq0
          have b2 : (1 : Int) ≤ (s.q.length : Int) := by omega
          have b3 : (0 : Int) < (s.q.length : Int) := by omega
          obtain ⟨g, o, rfl, hcl⟩ := HA.out hpos
          have hc0 : wr.cell? ⟨g, o, none⟩ = some (.int .i64 y) := hcl 0 y (by rw [hqt]; rfl)
          have htl2 := HQ.out
          rw [hqt] at htl2
          have HT2 := Lib.hid htl2
          clear htl2
          have HQT := Lib.hid hqt
          clear hqt hcl
          go_wp2_with (fail)
          go_region_law (first | (refine step_append_q rfl (.tmp 35) (.tmp 39) rfl w.heap.size _ s.out rfl (show OwnQ _ _ _ _ from HO.out.alloc _) ⟨wr.heap.size, 0, none⟩ _ y rfl (by simp [go_sem]) rfl (by omega) (by simp; omega) ?_; intro v' w3 hown' hgrow hat))
          go_wp2
          go_roundw
          case rel =>
            refine ⟨k + 1, by omega, by go_num, ?_⟩
            rw [HN.out, HST.out]
            obtain ⟨_, g', o', he, hq'⟩ := HT2.out.tail_
            rw [← HQT.out] at hq'
            injection he with he
            injection he with e1 e2 _
            subst e1; subst e2
            have hgrow' : (wr.alloc (Obj.cells #[Value.int .i64 y] 3)).grownBy w3 u4.ownBlock := ⟨hgrow.os, hgrow.tape, hgrow.output, hgrow.size, hgrow.block⟩
            refine HM.out.push hsz hown' hgrow' (by rcases hat with h | h; exact .inl h; exact .inr (by simpa using h)) hq' (.inr ?_)
            split <;> rfl
          case measure => simp [intOf]; omega
      have b1 : (x == -1) = false := by simpa using h1
      by_cases h2 : x = -2
      · have hst : step chunk s x = ⟨s.q, s.cap, s.out ++ [(s.q.length : Int)]⟩ := by unfold step; rw [if_neg h0, if_neg h1, if_pos h2]
        have HST := Lib.hid hst
        clear hst
        subst h2
        go_wp2_with (at_builtin; refine wpList_append_q rfl _ _ rfl w.heap.size _ s.out rfl (HO.out.alloc _) ⟨wr.heap.size, 0, none⟩ _ s.q.length rfl (by simp [go_sem]) rfl (by omega) (by simp; omega) ?_; intro v' w3 hown' hgrow hat)
        go_roundw
        case rel =>
          refine ⟨k + 1, by omega, by go_num, ?_⟩
          rw [HN.out, HST.out]
          exact HM.out.push hsz hown' hgrow (by rcases hat with h | h; exact .inl h; exact .inr (by simpa using h)) HQ.out (.inr rfl)
        case measure => simp [intOf]; omega

      have b2 : (x == -2) = false := by simpa using h2
      by_cases h4 : x = -4
      · have hst : step chunk s x = ⟨[], s.cap, s.out⟩ := by unfold step; rw [if_neg h0, if_neg h1, if_neg h2, if_neg hx3, if_pos h4]
        have HST := Lib.hid hst
        clear hst
        subst h4
        go_wp2
        go_roundw
        case rel =>
          refine ⟨k + 1, by omega, by go_num, ?_⟩
          rw [HN.out, HST.out]
          obtain ⟨_, h2, _, h4⟩ := HM.out
          exact ⟨.inl ⟨rfl, rfl⟩, h2, fun m hm => by simp [Value.ownBlock], h4⟩
        case measure => simp [intOf]; omega
      have b4 : (x == -4) = false := by simpa using h4
      have hst : step chunk s x = ⟨s.q, s.cap, s.out ++ [qn s.q (-5 - x)]⟩ := by unfold step; rw [if_neg h0, if_neg h1, if_neg h2, if_neg hx3, if_neg h4]
      have HST := Lib.hid hst
      clear hst
      by_cases hn : -5 - x < s.q.length
      · obtain ⟨n, hn'⟩ := Int.eq_ofNat_of_zero_le (show 0 ≤ -5 - x by omega)
        have hnl : n < s.q.length := by omega
        have hv : qn s.q (-5 - x) = s.q.getD n 0 := by unfold qn; rw [if_pos hn, hn']; rfl
        obtain ⟨tv, htv⟩ : ∃ tv, tv = s.q.getD n 0 := ⟨_, rfl⟩
        rw [← htv] at hv
        obtain ⟨g, o, rfl, hcl⟩ := HA.out (by omega)
        have hc0 : wr.cell? ⟨g, o + n, none⟩ = some (.int .i64 tv) := hcl n tv (by rw [htv, List.getD_eq_getElem?_getD, List.getElem?_eq_getElem hnl]; rfl)
        have HV := Lib.hid hv
        clear hv htv hcl
        have hx5 : x ≤ -5 := by omega
        have hn5 : n < s.q.length := hnl
        go_wp2_with (at_builtin; refine wpList_append_q rfl _ _ rfl w.heap.size _ s.out rfl (HO.out.alloc _) ⟨wr.heap.size, 0, none⟩ _ tv rfl (by simp [go_sem]) rfl (by omega) (by simp; omega) ?_; intro v' w3 hown' hgrow hat)
        go_roundw
        case rel =>
          refine ⟨k + 1, by omega, by go_num, ?_⟩
          rw [HN.out, HST.out, HV.out]
          exact HM.out.push hsz hown' hgrow (by rcases hat with h | h; exact .inl h; exact .inr (by simpa using h)) HQ.out (.inr rfl)
        case measure => simp [intOf]; omega
      · have hv : qn s.q (-5 - x) = -1 := by unfold qn; rw [if_neg hn]
        have HV := Lib.hid hv
        clear hv
        have hx5 : x ≤ -5 := by omega
        go_wp2_with (at_builtin; refine wpList_append_q rfl _ _ rfl w.heap.size _ s.out rfl (HO.out.alloc _) ⟨wr.heap.size, 0, none⟩ _ (-1) rfl (by simp [go_sem]) rfl (by omega) (by simp; omega) ?_; intro v' w3 hown' hgrow hat)
        go_roundw
        case rel =>
          refine ⟨k + 1, by omega, by go_num, ?_⟩
          rw [HN.out, HST.out, HV.out]
          exact HM.out.push hsz hown' hgrow (by rcases hat with h | h; exact .inl h; exact .inr (by simpa using h)) HQ.out (.inr rfl)
        case measure => simp [intOf]; omega

    · obtain rfl : k = L.length := by omega
      go_wp2
      go_ret
      rw [List.take_length] at HM
      obtain ⟨_, h2, _, h4⟩ := HM.out
      exact ⟨_, rfl, h2, h4⟩
end Go.Proofs.Ytlphfinmdacolaa.Rng
