/- The walk of FnRingRoom. -/
import Derived.Test.YtlphfinmdacolaaRoomP
set_option linter.unusedSimpArgs false
set_option linter.unusedVariables false
namespace Go.Proofs.Ytlphfinmdacolaa.Rng
open Go.RowKit

/-- a slice of bytes, read -/
def Bs (w : World) (B : Nat) (A : Option Addr) (l : List Nat) : Prop :=
  0 < l.length → ∃ g off, A = some ⟨g, off, none⟩ ∧ g < B ∧ ∀ i, i < l.length → w.cell? ⟨g, off + i, none⟩ = some (.int .u8 ((l.getD i 0 : Nat) : Int))

set_option maxHeartbeats 400000 in
theorem room_far (w : World) (chunk : Int) (A : Option Addr) (n c : Nat) (hm : n ≤ 9223372036854775807) (h : 60 < n ∨ chunk < 1 ∨ 1000 < chunk) : Calls Try.prog 7 #[.int .i64 chunk, .slice A n c] w (Yes w) := by
  by_cases h1 : 2147483647 < n
  · go_enter Try.func7, Try.ntmps7
    go_wp2
    go_ret
    exact ⟨rfl, Below.refl _ _⟩
  by_cases h2 : chunk < 1
  · go_enter Try.func7, Try.ntmps7
    go_wp2
    go_ret
    exact ⟨rfl, Below.refl _ _⟩
  by_cases h3 : 1000 < chunk
  · go_enter Try.func7, Try.ntmps7
    go_wp2
    go_ret
    exact ⟨rfl, Below.refl _ _⟩
  have h4 : 60 < n := by omega
  clear h
  go_enter Try.func7, Try.ntmps7
  go_wp2
  go_ret
  exact ⟨rfl, Below.refl _ _⟩

set_option maxRecDepth 100000 in
set_option maxHeartbeats 2000000 in
theorem room_near (w : World) (chunk : Nat) (hc : 1 ≤ chunk) (hc' : chunk ≤ 1000) (A : Option Addr) (c : Nat) (ms : List Nat) (hn : ms.length ≤ 60) (hS : Bs w w.heap.size A ms) (hm : ∀ m ∈ ms, m < 256) :
    Calls Try.prog 7 #[.int .i64 chunk, .slice A ms.length c] w (Yes w) := by
  obtain ⟨i0, hi, hz0, hz1, hz2⟩ := info_parts info3'
  have HS := Lib.hid hS
  have HM := Lib.hid hm
  clear hS hm
  go_enter Try.func7, Try.ntmps7
  go_wp2
  go_loopw [5, 33] (fun v i wr => ∃ k : Nat, k ≤ ms.length ∧ i = .int .i64 k ∧ Own wr w.heap.size v (st ms k) ∧ Below w.heap.size w wr) (fun _ i _ => ms.length - (intOf i).toNat)
  case atStart => exact ⟨0, Nat.zero_le _, rfl, World.ownsRow_nil _ _ _ _, Below.refl _ _⟩
  case round =>
    obtain ⟨k, hk, rfl, hown, hbel⟩ := hrel
    have HO := Lib.hid hown
    have HB := Lib.hid hbel
    have hsz := hbel.size
    clear hown hbel
    by_cases hlt : k < ms.length
    · obtain ⟨g, off, rfl, hgB, hcells⟩ := HS.out (by omega)
      obtain ⟨m, hm⟩ : ∃ m, m = ms.getD k 0 := ⟨_, rfl⟩
      have hc1 : wr.cell? ⟨g, off + k, none⟩ = some (.int .u8 (m : Int)) := by rw [hm]; exact (HB.out.cell (p := ⟨g, off + k, none⟩) hgB).trans (hcells k hlt)
      have hm256 : m < 256 := by
        rw [hm, List.getD_eq_getElem?_getD, List.getElem?_eq_getElem hlt]
        exact HM.out _ (List.getElem_mem hlt)
      have HCM := Lib.hid hm
      clear hm hcells
      have hq : m % 150 < 150 := Nat.mod_lt _ (by omega)
      go_wp2
      obtain ⟨wo, rfl⟩ : ∃ wo : World, wo = wr := ⟨_, rfl⟩
      go_loopw [5, 8] (fun v i wr => ∃ j : Nat, j ≤ m % 150 ∧ i = .int .u8 j ∧ Own wr w.heap.size v (st ms k ++ part k j) ∧ Below w.heap.size w wr) (fun _ i _ => 150 - (intOf i).toNat)
      case atStart => exact ⟨0, Nat.zero_le _, rfl, by simpa [part] using HO.out, HB.out⟩
      case round =>
        obtain ⟨j, hj, rfl, hown, hbel⟩ := hrel
        have HO2 := Lib.hid hown
        have HB2 := Lib.hid hbel
        have hsz2 := hbel.size
        clear hown hbel
        have hlen : (st ms k ++ part k j).length ≤ 20000 := by
          have := st_len ms k
          rw [List.length_append, part_len]; omega
        by_cases hjlt : j < m % 150
        · have b1 : (j : Int) < (m : Int) % 150 := by omega
          by_cases he : k % 2 = 0
          · have b2 : ((k : Int) % 2 == 0) = true := by simp; omega
            have hps := part_succ k j
            rw [if_pos he] at hps
            have HPS := Lib.hid hps
            clear hps
            go_wp2_with (at_builtin; refine wpList_append_own _ rfl _ _ 22 rfl w.heap.size 3 i0 (.int .i64 0) 1 8 Try.underlying22 hi hz0 hz1 hz2 rfl (by decide) _ _ _ rfl (HO2.out.alloc _) ⟨wr.heap.size, 0, none⟩ 1 1 [.int .i64 j] rfl rfl (cell_one_new _ _ _) (fun x hx => by simp at hx; subst hx; rfl) (by unfold maxLen; omega) (by omega) (by simp; omega) ?_; intro v' w3 hown' hgrow _)
            go_roundw
            case rel =>
              refine ⟨j + 1, by omega, by go_num, ?_, (HB2.out.alloc hsz2 _).grown hgrow (by simp; omega) (fun q hq => (HO2.out.lt q hq).1)⟩
              unfold Own
              rw [HPS.out, ← List.append_assoc, List.map_append, List.length_append]
              exact hown'
            case measure => simp [intOf]; omega
          · have b2 : ((k : Int) % 2 == 0) = false := by simp; omega
            have hps := part_succ k j
            rw [if_neg he] at hps
            have HPS := Lib.hid hps
            clear hps
            go_wp2_with (at_builtin; refine wpList_append_own _ rfl _ _ 22 rfl w.heap.size 3 i0 (.int .i64 0) 1 8 Try.underlying22 hi hz0 hz1 hz2 rfl (by decide) _ _ _ rfl (HO2.out.alloc _) ⟨wr.heap.size, 0, none⟩ 1 1 [.int .i64 (-1)] rfl rfl (cell_one_new _ _ _) (fun x hx => by simp at hx; subst hx; rfl) (by unfold maxLen; omega) (by omega) (by simp; omega) ?_; intro v' w3 hown' hgrow _)
            go_roundw
            case rel =>
              refine ⟨j + 1, by omega, by go_num, ?_, (HB2.out.alloc hsz2 _).grown hgrow (by simp; omega) (fun q hq => (HO2.out.lt q hq).1)⟩
              unfold Own
              rw [HPS.out, ← List.append_assoc, List.map_append, List.length_append]
              exact hown'
            case measure => simp [intOf]; omega
        · obtain rfl : j = m % 150 := by omega
          have b1 : ¬ ((m % 150 : Nat) : Int) < (m : Int) % 150 := by omega
          go_wp2_with (at_builtin; refine wpList_append_own _ rfl _ _ 22 rfl w.heap.size 3 i0 (.int .i64 0) 1 8 Try.underlying22 hi hz0 hz1 hz2 rfl (by decide) _ _ _ rfl (HO2.out.alloc _) ⟨wr.heap.size, 0, none⟩ 2 2 [.int .i64 (-2), .int .i64 (-3)] rfl rfl (cell_two_new _ _ _ _) (fun x hx => by simp at hx; rcases hx with rfl | rfl <;> rfl) (by unfold maxLen; omega) (by omega) (by simp; omega) ?_; intro v' w3 hown' hgrow _)
          go_roundw
          case rel =>
            refine ⟨k + 1, by omega, by go_num, ?_, (HB2.out.alloc hsz2 _).grown hgrow (by simp; omega) (fun q hq => (HO2.out.lt q hq).1)⟩
            unfold Own
            rw [st, blk, ← HCM.out, ← List.append_assoc, List.map_append, List.length_append]
            exact hown'
          case measure => simp [intOf]; omega
    · obtain rfl : k = ms.length := by omega
      have hr := ring_any wr chunk hc hc'
      have hlen : (st ms ms.length).length ≤ 20000 := by have := st_len ms ms.length; omega
      obtain ⟨A1, c1, rfl, hs1⟩ := HO.out.sl
      have hwf : ∀ x ∈ st ms ms.length, -9223372036854775808 ≤ x ∧ x ≤ 9223372036854775807 := fun x hx => by have := st_wf ms _ x hx; omega
      have HS1 := Lib.hid hs1
      have HW := Lib.hid hwf
      have HR := Lib.hid hr
      clear hs1 hwf hr
      go_wp2_with (go_at_call 14; refine (HR.out A1 c1 _ hlen HS1.out.steps HW.out).mono ?_; rintro e w3 ⟨v3, rfl, hv3, hb3⟩)
      obtain ⟨A3, c3, rfl, hs3⟩ := hv3.sl
      have HS3 := Lib.hid hs3
      have HB3 := Lib.hid (HB.out.trans (hb3.mono hsz))
      have hol := (sim_bound chunk (st ms ms.length)).2.2
      clear hv3 hs3 hb3
      have hSw := Lib.hid (show Bs w3 w3.heap.size A ms from fun h0 => by
        obtain ⟨g, off, hA, hg, hc⟩ := HS.out h0
        exact ⟨g, off, hA, Nat.lt_of_lt_of_le hg HB3.out.size, fun i hi => (HB3.out.cell (p := ⟨g, off + i, none⟩) hg).trans (hc i hi)⟩)
      have HAT := Lib.hid (fun i hi => at_move hc ms i hi)
      obtain ⟨O, hO⟩ : ∃ O, O = (sim chunk (st ms ms.length)).out := ⟨_, rfl⟩
      rw [← hO] at HS3 HAT hol ⊢
      have HO := Lib.hid hO
      clear hO
      obtain ⟨F, hF⟩ : ∃ F : Nat → Nat, ∀ i, F i = (sim chunk (st ms i)).cap := ⟨_, fun i => rfl⟩
      obtain ⟨G, hG⟩ : ∃ G : Nat → Nat, ∀ i, G i = (sim chunk (st ms i)).out.length := ⟨_, fun i => rfl⟩
      have hG0 : G 0 = 0 := by rw [hG]; rfl
      have hF0 : F 0 = 0 := by rw [hF]; rfl
      have hGn : G ms.length = O.length := by rw [hG, HO.out]
      have HAM := Lib.hid (show ∀ i, i < ms.length → ∃ size room k : Nat, k = G i + (if i % 2 = 0 then 0 else ms.getD i 0 % 150) ∧ O[k]? = some (size : Int) ∧ O[k + 1]? = some (room : Int) ∧
        size ≤ room ∧ room % chunk = 0 ∧ F i ≤ room ∧ F (i + 1) = room ∧ G (i + 1) = k + 2 from fun i hi => by simp only [hG, hF]; exact HAT.out i hi)
      clear HAT
      have HG0 := Lib.hid hG0
      have HF0 := Lib.hid hF0
      have HGn := Lib.hid hGn
      have hcap := (sim_bound chunk (st ms ms.length)).2.1
      clear hG0 hF0 hGn hF hG hcap
      have hn0 : ¬ (chunk : Int) = 0 := by omega
      have hl2 := Lib.hid hlen
      have hol2 : O.length ≤ 20000 := by omega
      clear hlen hol
      go_loopw [11, 12, 69] (fun was at_ i wx => ∃ k : Nat, k ≤ ms.length ∧ i = .int .i64 k ∧ was = .int .i64 (F k) ∧ at_ = .int .i64 (G k) ∧ ∃ nd, wx = w3.drewN nd) (fun _ _ i _ => ms.length - (intOf i).toNat)
      case atStart => exact ⟨0, Nat.zero_le _, rfl, by rw [HF0.out]; rfl, by rw [HG0.out]; rfl, 0, rfl⟩
      case round =>
        obtain ⟨k, hk, rfl, rfl, rfl, nd, rfl⟩ := hrel
        by_cases hlt : k < ms.length
        · obtain ⟨g, off, rfl, hgB, hcells⟩ := hSw.out (by omega)
          obtain ⟨m, hm⟩ : ∃ m, m = ms.getD k 0 := ⟨_, rfl⟩
          have hc1 : w3.cell? ⟨g, off + k, none⟩ = some (.int .u8 (m : Int)) := by rw [hm]; exact hcells k hlt
          obtain ⟨size, room, p, h1, h2, h3, h4, h5, h6, h7, h8⟩ := HAM.out k hlt
          have hp1 : p + 1 < O.length := (List.getElem?_eq_some_iff.1 h3).1
          obtain ⟨g3, o3, rfl, _, hc3⟩ := HS3.out (by omega)
          have hcs := hc3 p _ h2
          have hcr := hc3 (p + 1) _ h3
          have hm256 : m < 256 := by
            rw [hm, List.getD_eq_getElem?_getD, List.getElem?_eq_getElem hlt]
            exact HM.out _ (List.getElem_mem hlt)
          rw [← hm] at h1
          have hq : m % 150 < 150 := Nat.mod_lt _ (by omega)
          have hGF : G k ≤ 20000 := by omega
          have H1 := Lib.hid h1
          have H5 := Lib.hid h5
          have H7 := Lib.hid h7
          have H8 := Lib.hid h8
          clear h1 h2 h3 h5 h7 h8 hm hcells hc3
          have d1 : decide (room < size) = false := by simp; omega
          have d2 : decide (room < F k) = false := by simp; omega
          have d3 : ((room : Int) % (chunk : Int) != 0) = false := by
            rw [bne_eq_false_iff_eq, ← Int.natCast_emod, H5.out]; rfl
          have p0 : (0 : Int) ≤ (p : Int) := by omega
          have p1 : (p : Int) < (O.length : Int) := by omega
          have p2 : (p : Int) + 1 < (O.length : Int) := by omega
          have p3 : (p : Int) + 2 ≤ (O.length : Int) := by omega
          have p4 : (0 : Int) ≤ (p : Int) + 1 := by omega
          have w1 : IntKind.i64.wrap ((p : Int) + 1) = (p : Int) + 1 := IntWalk.i64_in _ (by omega)
          have e1 : ((p : Int) + 1).toNat = p + 1 := by omega
          by_cases he : k % 2 = 0
          · have hpe := H1.out
            rw [if_pos he, Nat.add_zero] at hpe
            subst hpe
            have b2 : ((k : Int) % 2 == 1) = false := by simp; omega
            go_wp2
            clear w1 e1
            go_quiet (fail)
            go_wp2
            go_roundw
            case rel => exact ⟨k + 1, by omega, by go_num, by rw [H7.out], by rw [H8.out]; go_num, _, rfl⟩
            case measure => simp [intOf]; omega
          · have hpe := H1.out
            rw [if_neg he] at hpe
            have b2 : ((k : Int) % 2 == 1) = true := by simp; omega
            have b3 : (G k : Int) + (m : Int) % 150 = (p : Int) := by omega
            clear hpe
            go_wp2
            clear w1 e1
            go_quiet (fail)
            go_wp2
            go_roundw
            case rel => exact ⟨k + 1, by omega, by go_num, by rw [H7.out], by rw [H8.out]; go_num, _, rfl⟩
            case measure => simp [intOf]; omega
        · obtain rfl : k = ms.length := by omega
          have hg := HGn.out
          have b : ((G ms.length : Int) == (O.length : Int)) = true := by simp; omega
          clear hg
          go_wp2
          go_ret
          exact ⟨by simp [HGn.out], HB3.out.os, HB3.out.tape, HB3.out.output, HB3.out.size, HB3.out.block⟩
end Go.Proofs.Ytlphfinmdacolaa.Rng
