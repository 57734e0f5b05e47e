-- PRINTED BY print.sh 35421559b90ae4d0a3588c463048766b98c2df88dd9212a6774a882060cdf62d: not written by this session
import Derived.Test.YtlphfinmdacolaaPFnUnariesx0
namespace Go.Proofs.Ytlphfinmdacolaa.PFnUnaries
open Go.RowKit Go.Proofs.YtlphfinmdacolaaW.PrintWords Go.Proofs.YtlphfinmdacolaaW.PrintLast Go.Proofs.YtlphfinmdacolaaW.PrintMore
attribute [local go_sem] max2_int min2_int max_two min_two max_three min_three max_four min_four   -- for this text's walks alone
set_option linter.unusedVariables false
set_option linter.unusedSimpArgs false

/-! ### operator_FindBinary: function 17 -/
def operator_FindBinary.f (a0 : ByteArray) : Option (Int × Int × Bool) := if a0.toList = ([124] : List UInt8) then (some (0, 1, true)) else (if a0.toList = ([111, 114] : List UInt8) then (some (10, 1, true)) else (if a0.toList = ([124, 124] : List UInt8) then (some (10, 1, true)) else (if a0.toList = ([97, 110, 100] : List UInt8) then (some (15, 1, true)) else (if a0.toList = ([38, 38] : List UInt8) then (some (15, 1, true)) else (if a0.toList = ([61, 61] : List UInt8) then (some (20, 1, true)) else (if a0.toList = ([33, 61] : List UInt8) then (some (20, 1, true)) else (if a0.toList = ([60] : List UInt8) then (some (20, 1, true)) else (if a0.toList = ([62] : List UInt8) then (some (20, 1, true)) else (if a0.toList = ([62, 61] : List UInt8) then (some (20, 1, true)) else (if a0.toList = ([60, 61] : List UInt8) then (some (20, 1, true)) else (if a0.toList = ([105, 110] : List UInt8) then (some (20, 1, true)) else (if a0.toList = ([109, 97, 116, 99, 104, 101, 115] : List UInt8) then (some (20, 1, true)) else (if a0.toList = ([99, 111, 110, 116, 97, 105, 110, 115] : List UInt8) then (some (20, 1, true)) else (if a0.toList = ([115, 116, 97, 114, 116, 115, 87, 105, 116, 104] : List UInt8) then (some (20, 1, true)) else (if a0.toList = ([101, 110, 100, 115, 87, 105, 116, 104] : List UInt8) then (some (20, 1, true)) else (if a0.toList = ([46, 46] : List UInt8) then (some (25, 1, true)) else (if a0.toList = ([43] : List UInt8) then (some (30, 1, true)) else (if a0.toList = ([45] : List UInt8) then (some (30, 1, true)) else (if a0.toList = ([42] : List UInt8) then (some (60, 1, true)) else (if a0.toList = ([47] : List UInt8) then (some (60, 1, true)) else (if a0.toList = ([37] : List UInt8) then (some (60, 1, true)) else (if a0.toList = ([42, 42] : List UInt8) then (some (100, 2, true)) else (if a0.toList = ([94] : List UInt8) then (some (100, 2, true)) else (if a0.toList = ([63, 63] : List UInt8) then (some (500, 1, true)) else (some (0, 0, false))))))))))))))))))))))))))
set_option maxHeartbeats 8000000 in
set_option maxRecDepth 100000 in
theorem operator_FindBinary.calls (a0 : ByteArray) (r1 : Int) (r2 : Int) (r3 : Bool) (w : World) (h : operator_FindBinary.f a0 = some (r1, r2, r3)) :
    Calls Try.prog 17 #[.string a0] w fun e w' => e = .returned (.tuple #[.agg #[.int .i64 r1, .int .i64 r2], .bool r3]) ∧ Below w.heap.size w w' := by
  have hu39 := Try.underlying39
  have HB := Aside0.mk (Below.refl w.heap.size w)
  have H : (if a0.toList = ([124] : List UInt8) then (some (0, 1, true)) else (if a0.toList = ([111, 114] : List UInt8) then (some (10, 1, true)) else (if a0.toList = ([124, 124] : List UInt8) then (some (10, 1, true)) else (if a0.toList = ([97, 110, 100] : List UInt8) then (some (15, 1, true)) else (if a0.toList = ([38, 38] : List UInt8) then (some (15, 1, true)) else (if a0.toList = ([61, 61] : List UInt8) then (some (20, 1, true)) else (if a0.toList = ([33, 61] : List UInt8) then (some (20, 1, true)) else (if a0.toList = ([60] : List UInt8) then (some (20, 1, true)) else (if a0.toList = ([62] : List UInt8) then (some (20, 1, true)) else (if a0.toList = ([62, 61] : List UInt8) then (some (20, 1, true)) else (if a0.toList = ([60, 61] : List UInt8) then (some (20, 1, true)) else (if a0.toList = ([105, 110] : List UInt8) then (some (20, 1, true)) else (if a0.toList = ([109, 97, 116, 99, 104, 101, 115] : List UInt8) then (some (20, 1, true)) else (if a0.toList = ([99, 111, 110, 116, 97, 105, 110, 115] : List UInt8) then (some (20, 1, true)) else (if a0.toList = ([115, 116, 97, 114, 116, 115, 87, 105, 116, 104] : List UInt8) then (some (20, 1, true)) else (if a0.toList = ([101, 110, 100, 115, 87, 105, 116, 104] : List UInt8) then (some (20, 1, true)) else (if a0.toList = ([46, 46] : List UInt8) then (some (25, 1, true)) else (if a0.toList = ([43] : List UInt8) then (some (30, 1, true)) else (if a0.toList = ([45] : List UInt8) then (some (30, 1, true)) else (if a0.toList = ([42] : List UInt8) then (some (60, 1, true)) else (if a0.toList = ([47] : List UInt8) then (some (60, 1, true)) else (if a0.toList = ([37] : List UInt8) then (some (60, 1, true)) else (if a0.toList = ([42, 42] : List UInt8) then (some (100, 2, true)) else (if a0.toList = ([94] : List UInt8) then (some (100, 2, true)) else (if a0.toList = ([63, 63] : List UInt8) then (some (500, 1, true)) else (some (0, 0, false))))))))))))))))))))))))))) = some (r1, r2, r3) := h
  clear h
  by_cases c2 : a0.toList = ([124] : List UInt8)
  · rw [if_pos c2] at H
    have c2b0 : (a0.toList == ([124] : List UInt8)) = true := beq_iff_eq.mpr c2
    have c2b1 : (a0.toList != ([124] : List UInt8)) = false := bne_eq_false_iff_eq.mpr c2
    clear c2
    simp only [Option.some.injEq, Prod.mk.injEq] at H
    obtain ⟨rfl, rfl, rfl⟩ := H
    go_enter Try.func17, Try.ntmps17
    go_wp2_with (first | ((with_reducible refine gate_dst (N := 2) rfl ?_); refine box_event ?hg (N := 2) ?hd (cs := #[.int .i64 0, .int .i64 0]) (t := 39) ?hr ?_; (case hd => rfl); (case hg => rfl); (case hr => first | (go_simp; done) | (go_simp; rfl)); intro gb101 hg w3 hbox hb; have n0_ := Aside0.mk (below_step (by repeat (first | (with_reducible first | exact HB.out | apply below_alloc | apply pw_below_drewN | apply below_drew1) | exact HB.out)) hb); have n1_ := Aside0.mk (hbox); have n2_ := Aside0.mk ((by rw [hg]; exact (below_size (by repeat (first | (with_reducible first | exact HB.out | apply below_alloc | apply pw_below_drewN | apply below_drew1) | exact HB.out))) : w.heap.size ≤ gb101)); have n3_ := Aside0.mk ((by rw [hg]; exact (below_size (by repeat (first | (with_reducible first | exact HB.out | apply below_alloc | apply pw_below_drewN | apply below_drew1) | exact HB.out))) : w.heap.size ≤ gb101)); clear HB; have HB := n0_; have BK101 := n1_; have GW101 := n2_; have GE101 := n3_; clear n0_ n1_ n2_ n3_; clear hb hbox hg; have hcz4_0 : w3.cell? ⟨gb101, 0, none⟩ = some (.int .i64 0) := (blk_cell BK101.out 0).trans rfl; have hcz4_1 : w3.cell? ⟨gb101, 1, none⟩ = some (.int .i64 0) := (blk_cell BK101.out 1).trans rfl; have hfz4_0 := blk_frozen BK101.out 0; have hfz4_1 := blk_frozen BK101.out 1))
    refine bodyPost_ret (results_ct rfl _ _ gb101 39 #[.int .i64 0, .int .i64 1] (0, 0) _ rfl (by (with_reducible repeat (first | refine blk_drewN ?_ _ | refine blk_drew ?_ | refine blk_alloc ?_ _)); refine blk_put (cs := #[.int .i64 0, .int .i64 0]) ?_ 1 _ rfl; (with_reducible repeat (first | refine blk_drewN ?_ _ | refine blk_drew ?_ | refine blk_alloc ?_ _)); refine blk_put (cs := #[.int .i64 0, .int .i64 0]) ?_ 0 _ rfl; (with_reducible repeat (first | refine blk_drewN ?_ _ | refine blk_drew ?_ | refine blk_alloc ?_ _)); exact BK101.out) Try.underlying39 rfl (by kernel_rfl)) rfl ?_
    exact ⟨by first | rfl | (simp [errW_none, errW_some] <;> rfl) | (simp [*, errW_none, errW_some] <;> rfl), by repeat (first | (with_reducible first | exact HB.out | apply below_alloc | apply pw_below_drewN | apply below_drew1 | refine below_set ?_ GE101.out) | exact HB.out)⟩
  · rw [if_neg c2] at H
    have c2b0 : (a0.toList == ([124] : List UInt8)) = false := beq_eq_false_iff_ne.mpr c2
    have c2b1 : (a0.toList != ([124] : List UInt8)) = true := bne_iff_ne.mpr c2
    by_cases c5 : a0.toList = ([111, 114] : List UInt8)
    · rw [if_pos c5] at H
      have c5b0 : (a0.toList == ([111, 114] : List UInt8)) = true := beq_iff_eq.mpr c5
      have c5b1 : (a0.toList != ([111, 114] : List UInt8)) = false := bne_eq_false_iff_eq.mpr c5
      clear c5
      simp only [Option.some.injEq, Prod.mk.injEq] at H
      obtain ⟨rfl, rfl, rfl⟩ := H
      go_enter Try.func17, Try.ntmps17
      go_wp2_with (first | ((with_reducible refine gate_dst (N := 2) rfl ?_); refine box_event ?hg (N := 2) ?hd (cs := #[.int .i64 0, .int .i64 0]) (t := 39) ?hr ?_; (case hd => rfl); (case hg => rfl); (case hr => first | (go_simp; done) | (go_simp; rfl)); intro gb101 hg w6 hbox hb; have n0_ := Aside0.mk (below_step (by repeat (first | (with_reducible first | exact HB.out | apply below_alloc | apply pw_below_drewN | apply below_drew1) | exact HB.out)) hb); have n1_ := Aside0.mk (hbox); have n2_ := Aside0.mk ((by rw [hg]; exact (below_size (by repeat (first | (with_reducible first | exact HB.out | apply below_alloc | apply pw_below_drewN | apply below_drew1) | exact HB.out))) : w.heap.size ≤ gb101)); have n3_ := Aside0.mk ((by rw [hg]; exact (below_size (by repeat (first | (with_reducible first | exact HB.out | apply below_alloc | apply pw_below_drewN | apply below_drew1) | exact HB.out))) : w.heap.size ≤ gb101)); clear HB; have HB := n0_; have BK101 := n1_; have GW101 := n2_; have GE101 := n3_; clear n0_ n1_ n2_ n3_; clear hb hbox hg; have hcz7_0 : w6.cell? ⟨gb101, 0, none⟩ = some (.int .i64 0) := (blk_cell BK101.out 0).trans rfl; have hcz7_1 : w6.cell? ⟨gb101, 1, none⟩ = some (.int .i64 0) := (blk_cell BK101.out 1).trans rfl; have hfz7_0 := blk_frozen BK101.out 0; have hfz7_1 := blk_frozen BK101.out 1))
      refine bodyPost_ret (results_ct rfl _ _ gb101 39 #[.int .i64 10, .int .i64 1] (0, 0) _ rfl (by (with_reducible repeat (first | refine blk_drewN ?_ _ | refine blk_drew ?_ | refine blk_alloc ?_ _)); refine blk_put (cs := #[.int .i64 10, .int .i64 0]) ?_ 1 _ rfl; (with_reducible repeat (first | refine blk_drewN ?_ _ | refine blk_drew ?_ | refine blk_alloc ?_ _)); refine blk_put (cs := #[.int .i64 0, .int .i64 0]) ?_ 0 _ rfl; (with_reducible repeat (first | refine blk_drewN ?_ _ | refine blk_drew ?_ | refine blk_alloc ?_ _)); exact BK101.out) Try.underlying39 rfl (by kernel_rfl)) rfl ?_
      exact ⟨by first | rfl | (simp [errW_none, errW_some] <;> rfl) | (simp [*, errW_none, errW_some] <;> rfl), by repeat (first | (with_reducible first | exact HB.out | apply below_alloc | apply pw_below_drewN | apply below_drew1 | refine below_set ?_ GE101.out) | exact HB.out)⟩
    · rw [if_neg c5] at H
      have c5b0 : (a0.toList == ([111, 114] : List UInt8)) = false := beq_eq_false_iff_ne.mpr c5
      have c5b1 : (a0.toList != ([111, 114] : List UInt8)) = true := bne_iff_ne.mpr c5
      by_cases c8 : a0.toList = ([124, 124] : List UInt8)
      · rw [if_pos c8] at H
        have c8b0 : (a0.toList == ([124, 124] : List UInt8)) = true := beq_iff_eq.mpr c8
        have c8b1 : (a0.toList != ([124, 124] : List UInt8)) = false := bne_eq_false_iff_eq.mpr c8
        clear c8
        simp only [Option.some.injEq, Prod.mk.injEq] at H
        obtain ⟨rfl, rfl, rfl⟩ := H
        go_enter Try.func17, Try.ntmps17
        go_wp2_with (first | ((with_reducible refine gate_dst (N := 2) rfl ?_); refine box_event ?hg (N := 2) ?hd (cs := #[.int .i64 0, .int .i64 0]) (t := 39) ?hr ?_; (case hd => rfl); (case hg => rfl); (case hr => first | (go_simp; done) | (go_simp; rfl)); intro gb101 hg w9 hbox hb; have n0_ := Aside0.mk (below_step (by repeat (first | (with_reducible first | exact HB.out | apply below_alloc | apply pw_below_drewN | apply below_drew1) | exact HB.out)) hb); have n1_ := Aside0.mk (hbox); have n2_ := Aside0.mk ((by rw [hg]; exact (below_size (by repeat (first | (with_reducible first | exact HB.out | apply below_alloc | apply pw_below_drewN | apply below_drew1) | exact HB.out))) : w.heap.size ≤ gb101)); have n3_ := Aside0.mk ((by rw [hg]; exact (below_size (by repeat (first | (with_reducible first | exact HB.out | apply below_alloc | apply pw_below_drewN | apply below_drew1) | exact HB.out))) : w.heap.size ≤ gb101)); clear HB; have HB := n0_; have BK101 := n1_; have GW101 := n2_; have GE101 := n3_; clear n0_ n1_ n2_ n3_; clear hb hbox hg; have hcz10_0 : w9.cell? ⟨gb101, 0, none⟩ = some (.int .i64 0) := (blk_cell BK101.out 0).trans rfl; have hcz10_1 : w9.cell? ⟨gb101, 1, none⟩ = some (.int .i64 0) := (blk_cell BK101.out 1).trans rfl; have hfz10_0 := blk_frozen BK101.out 0; have hfz10_1 := blk_frozen BK101.out 1))
        refine bodyPost_ret (results_ct rfl _ _ gb101 39 #[.int .i64 10, .int .i64 1] (0, 0) _ rfl (by (with_reducible repeat (first | refine blk_drewN ?_ _ | refine blk_drew ?_ | refine blk_alloc ?_ _)); refine blk_put (cs := #[.int .i64 10, .int .i64 0]) ?_ 1 _ rfl; (with_reducible repeat (first | refine blk_drewN ?_ _ | refine blk_drew ?_ | refine blk_alloc ?_ _)); refine blk_put (cs := #[.int .i64 0, .int .i64 0]) ?_ 0 _ rfl; (with_reducible repeat (first | refine blk_drewN ?_ _ | refine blk_drew ?_ | refine blk_alloc ?_ _)); exact BK101.out) Try.underlying39 rfl (by kernel_rfl)) rfl ?_
        exact ⟨by first | rfl | (simp [errW_none, errW_some] <;> rfl) | (simp [*, errW_none, errW_some] <;> rfl), by repeat (first | (with_reducible first | exact HB.out | apply below_alloc | apply pw_below_drewN | apply below_drew1 | refine below_set ?_ GE101.out) | exact HB.out)⟩
      · rw [if_neg c8] at H
        have c8b0 : (a0.toList == ([124, 124] : List UInt8)) = false := beq_eq_false_iff_ne.mpr c8
        have c8b1 : (a0.toList != ([124, 124] : List UInt8)) = true := bne_iff_ne.mpr c8
        by_cases c11 : a0.toList = ([97, 110, 100] : List UInt8)
        · rw [if_pos c11] at H
          have c11b0 : (a0.toList == ([97, 110, 100] : List UInt8)) = true := beq_iff_eq.mpr c11
          have c11b1 : (a0.toList != ([97, 110, 100] : List UInt8)) = false := bne_eq_false_iff_eq.mpr c11
          clear c11
          simp only [Option.some.injEq, Prod.mk.injEq] at H
          obtain ⟨rfl, rfl, rfl⟩ := H
          go_enter Try.func17, Try.ntmps17
          go_wp2_with (first | ((with_reducible refine gate_dst (N := 2) rfl ?_); refine box_event ?hg (N := 2) ?hd (cs := #[.int .i64 0, .int .i64 0]) (t := 39) ?hr ?_; (case hd => rfl); (case hg => rfl); (case hr => first | (go_simp; done) | (go_simp; rfl)); intro gb101 hg w12 hbox hb; have n0_ := Aside0.mk (below_step (by repeat (first | (with_reducible first | exact HB.out | apply below_alloc | apply pw_below_drewN | apply below_drew1) | exact HB.out)) hb); have n1_ := Aside0.mk (hbox); have n2_ := Aside0.mk ((by rw [hg]; exact (below_size (by repeat (first | (with_reducible first | exact HB.out | apply below_alloc | apply pw_below_drewN | apply below_drew1) | exact HB.out))) : w.heap.size ≤ gb101)); have n3_ := Aside0.mk ((by rw [hg]; exact (below_size (by repeat (first | (with_reducible first | exact HB.out | apply below_alloc | apply pw_below_drewN | apply below_drew1) | exact HB.out))) : w.heap.size ≤ gb101)); clear HB; have HB := n0_; have BK101 := n1_; have GW101 := n2_; have GE101 := n3_; clear n0_ n1_ n2_ n3_; clear hb hbox hg; have hcz13_0 : w12.cell? ⟨gb101, 0, none⟩ = some (.int .i64 0) := (blk_cell BK101.out 0).trans rfl; have hcz13_1 : w12.cell? ⟨gb101, 1, none⟩ = some (.int .i64 0) := (blk_cell BK101.out 1).trans rfl; have hfz13_0 := blk_frozen BK101.out 0; have hfz13_1 := blk_frozen BK101.out 1))
          refine bodyPost_ret (results_ct rfl _ _ gb101 39 #[.int .i64 15, .int .i64 1] (0, 0) _ rfl (by (with_reducible repeat (first | refine blk_drewN ?_ _ | refine blk_drew ?_ | refine blk_alloc ?_ _)); refine blk_put (cs := #[.int .i64 15, .int .i64 0]) ?_ 1 _ rfl; (with_reducible repeat (first | refine blk_drewN ?_ _ | refine blk_drew ?_ | refine blk_alloc ?_ _)); refine blk_put (cs := #[.int .i64 0, .int .i64 0]) ?_ 0 _ rfl; (with_reducible repeat (first | refine blk_drewN ?_ _ | refine blk_drew ?_ | refine blk_alloc ?_ _)); exact BK101.out) Try.underlying39 rfl (by kernel_rfl)) rfl ?_
          exact ⟨by first | rfl | (simp [errW_none, errW_some] <;> rfl) | (simp [*, errW_none, errW_some] <;> rfl), by repeat (first | (with_reducible first | exact HB.out | apply below_alloc | apply pw_below_drewN | apply below_drew1 | refine below_set ?_ GE101.out) | exact HB.out)⟩
        · rw [if_neg c11] at H
          have c11b0 : (a0.toList == ([97, 110, 100] : List UInt8)) = false := beq_eq_false_iff_ne.mpr c11
          have c11b1 : (a0.toList != ([97, 110, 100] : List UInt8)) = true := bne_iff_ne.mpr c11
          by_cases c14 : a0.toList = ([38, 38] : List UInt8)
          · rw [if_pos c14] at H
            have c14b0 : (a0.toList == ([38, 38] : List UInt8)) = true := beq_iff_eq.mpr c14
            have c14b1 : (a0.toList != ([38, 38] : List UInt8)) = false := bne_eq_false_iff_eq.mpr c14
            clear c14
            simp only [Option.some.injEq, Prod.mk.injEq] at H
            obtain ⟨rfl, rfl, rfl⟩ := H
            go_enter Try.func17, Try.ntmps17
            go_wp2_with (first | ((with_reducible refine gate_dst (N := 2) rfl ?_); refine box_event ?hg (N := 2) ?hd (cs := #[.int .i64 0, .int .i64 0]) (t := 39) ?hr ?_; (case hd => rfl); (case hg => rfl); (case hr => first | (go_simp; done) | (go_simp; rfl)); intro gb101 hg w15 hbox hb; have n0_ := Aside0.mk (below_step (by repeat (first | (with_reducible first | exact HB.out | apply below_alloc | apply pw_below_drewN | apply below_drew1) | exact HB.out)) hb); have n1_ := Aside0.mk (hbox); have n2_ := Aside0.mk ((by rw [hg]; exact (below_size (by repeat (first | (with_reducible first | exact HB.out | apply below_alloc | apply pw_below_drewN | apply below_drew1) | exact HB.out))) : w.heap.size ≤ gb101)); have n3_ := Aside0.mk ((by rw [hg]; exact (below_size (by repeat (first | (with_reducible first | exact HB.out | apply below_alloc | apply pw_below_drewN | apply below_drew1) | exact HB.out))) : w.heap.size ≤ gb101)); clear HB; have HB := n0_; have BK101 := n1_; have GW101 := n2_; have GE101 := n3_; clear n0_ n1_ n2_ n3_; clear hb hbox hg; have hcz16_0 : w15.cell? ⟨gb101, 0, none⟩ = some (.int .i64 0) := (blk_cell BK101.out 0).trans rfl; have hcz16_1 : w15.cell? ⟨gb101, 1, none⟩ = some (.int .i64 0) := (blk_cell BK101.out 1).trans rfl; have hfz16_0 := blk_frozen BK101.out 0; have hfz16_1 := blk_frozen BK101.out 1))
            refine bodyPost_ret (results_ct rfl _ _ gb101 39 #[.int .i64 15, .int .i64 1] (0, 0) _ rfl (by (with_reducible repeat (first | refine blk_drewN ?_ _ | refine blk_drew ?_ | refine blk_alloc ?_ _)); refine blk_put (cs := #[.int .i64 15, .int .i64 0]) ?_ 1 _ rfl; (with_reducible repeat (first | refine blk_drewN ?_ _ | refine blk_drew ?_ | refine blk_alloc ?_ _)); refine blk_put (cs := #[.int .i64 0, .int .i64 0]) ?_ 0 _ rfl; (with_reducible repeat (first | refine blk_drewN ?_ _ | refine blk_drew ?_ | refine blk_alloc ?_ _)); exact BK101.out) Try.underlying39 rfl (by kernel_rfl)) rfl ?_
            exact ⟨by first | rfl | (simp [errW_none, errW_some] <;> rfl) | (simp [*, errW_none, errW_some] <;> rfl), by repeat (first | (with_reducible first | exact HB.out | apply below_alloc | apply pw_below_drewN | apply below_drew1 | refine below_set ?_ GE101.out) | exact HB.out)⟩
          · rw [if_neg c14] at H
            have c14b0 : (a0.toList == ([38, 38] : List UInt8)) = false := beq_eq_false_iff_ne.mpr c14
            have c14b1 : (a0.toList != ([38, 38] : List UInt8)) = true := bne_iff_ne.mpr c14
            by_cases c17 : a0.toList = ([61, 61] : List UInt8)
            · rw [if_pos c17] at H
              have c17b0 : (a0.toList == ([61, 61] : List UInt8)) = true := beq_iff_eq.mpr c17
              have c17b1 : (a0.toList != ([61, 61] : List UInt8)) = false := bne_eq_false_iff_eq.mpr c17
              clear c17
              simp only [Option.some.injEq, Prod.mk.injEq] at H
              obtain ⟨rfl, rfl, rfl⟩ := H
              go_enter Try.func17, Try.ntmps17
              go_wp2_with (first | ((with_reducible refine gate_dst (N := 2) rfl ?_); refine box_event ?hg (N := 2) ?hd (cs := #[.int .i64 0, .int .i64 0]) (t := 39) ?hr ?_; (case hd => rfl); (case hg => rfl); (case hr => first | (go_simp; done) | (go_simp; rfl)); intro gb101 hg w18 hbox hb; have n0_ := Aside0.mk (below_step (by repeat (first | (with_reducible first | exact HB.out | apply below_alloc | apply pw_below_drewN | apply below_drew1) | exact HB.out)) hb); have n1_ := Aside0.mk (hbox); have n2_ := Aside0.mk ((by rw [hg]; exact (below_size (by repeat (first | (with_reducible first | exact HB.out | apply below_alloc | apply pw_below_drewN | apply below_drew1) | exact HB.out))) : w.heap.size ≤ gb101)); have n3_ := Aside0.mk ((by rw [hg]; exact (below_size (by repeat (first | (with_reducible first | exact HB.out | apply below_alloc | apply pw_below_drewN | apply below_drew1) | exact HB.out))) : w.heap.size ≤ gb101)); clear HB; have HB := n0_; have BK101 := n1_; have GW101 := n2_; have GE101 := n3_; clear n0_ n1_ n2_ n3_; clear hb hbox hg; have hcz19_0 : w18.cell? ⟨gb101, 0, none⟩ = some (.int .i64 0) := (blk_cell BK101.out 0).trans rfl; have hcz19_1 : w18.cell? ⟨gb101, 1, none⟩ = some (.int .i64 0) := (blk_cell BK101.out 1).trans rfl; have hfz19_0 := blk_frozen BK101.out 0; have hfz19_1 := blk_frozen BK101.out 1))
              refine bodyPost_ret (results_ct rfl _ _ gb101 39 #[.int .i64 20, .int .i64 1] (0, 0) _ rfl (by (with_reducible repeat (first | refine blk_drewN ?_ _ | refine blk_drew ?_ | refine blk_alloc ?_ _)); refine blk_put (cs := #[.int .i64 20, .int .i64 0]) ?_ 1 _ rfl; (with_reducible repeat (first | refine blk_drewN ?_ _ | refine blk_drew ?_ | refine blk_alloc ?_ _)); refine blk_put (cs := #[.int .i64 0, .int .i64 0]) ?_ 0 _ rfl; (with_reducible repeat (first | refine blk_drewN ?_ _ | refine blk_drew ?_ | refine blk_alloc ?_ _)); exact BK101.out) Try.underlying39 rfl (by kernel_rfl)) rfl ?_
              exact ⟨by first | rfl | (simp [errW_none, errW_some] <;> rfl) | (simp [*, errW_none, errW_some] <;> rfl), by repeat (first | (with_reducible first | exact HB.out | apply below_alloc | apply pw_below_drewN | apply below_drew1 | refine below_set ?_ GE101.out) | exact HB.out)⟩
            · rw [if_neg c17] at H
              have c17b0 : (a0.toList == ([61, 61] : List UInt8)) = false := beq_eq_false_iff_ne.mpr c17
              have c17b1 : (a0.toList != ([61, 61] : List UInt8)) = true := bne_iff_ne.mpr c17
              by_cases c20 : a0.toList = ([33, 61] : List UInt8)
              · rw [if_pos c20] at H
                have c20b0 : (a0.toList == ([33, 61] : List UInt8)) = true := beq_iff_eq.mpr c20
                have c20b1 : (a0.toList != ([33, 61] : List UInt8)) = false := bne_eq_false_iff_eq.mpr c20
                clear c20
                simp only [Option.some.injEq, Prod.mk.injEq] at H
                obtain ⟨rfl, rfl, rfl⟩ := H
                go_enter Try.func17, Try.ntmps17
                go_wp2_with (first | ((with_reducible refine gate_dst (N := 2) rfl ?_); refine box_event ?hg (N := 2) ?hd (cs := #[.int .i64 0, .int .i64 0]) (t := 39) ?hr ?_; (case hd => rfl); (case hg => rfl); (case hr => first | (go_simp; done) | (go_simp; rfl)); intro gb101 hg w21 hbox hb; have n0_ := Aside0.mk (below_step (by repeat (first | (with_reducible first | exact HB.out | apply below_alloc | apply pw_below_drewN | apply below_drew1) | exact HB.out)) hb); have n1_ := Aside0.mk (hbox); have n2_ := Aside0.mk ((by rw [hg]; exact (below_size (by repeat (first | (with_reducible first | exact HB.out | apply below_alloc | apply pw_below_drewN | apply below_drew1) | exact HB.out))) : w.heap.size ≤ gb101)); have n3_ := Aside0.mk ((by rw [hg]; exact (below_size (by repeat (first | (with_reducible first | exact HB.out | apply below_alloc | apply pw_below_drewN | apply below_drew1) | exact HB.out))) : w.heap.size ≤ gb101)); clear HB; have HB := n0_; have BK101 := n1_; have GW101 := n2_; have GE101 := n3_; clear n0_ n1_ n2_ n3_; clear hb hbox hg; have hcz22_0 : w21.cell? ⟨gb101, 0, none⟩ = some (.int .i64 0) := (blk_cell BK101.out 0).trans rfl; have hcz22_1 : w21.cell? ⟨gb101, 1, none⟩ = some (.int .i64 0) := (blk_cell BK101.out 1).trans rfl; have hfz22_0 := blk_frozen BK101.out 0; have hfz22_1 := blk_frozen BK101.out 1))
                refine bodyPost_ret (results_ct rfl _ _ gb101 39 #[.int .i64 20, .int .i64 1] (0, 0) _ rfl (by (with_reducible repeat (first | refine blk_drewN ?_ _ | refine blk_drew ?_ | refine blk_alloc ?_ _)); refine blk_put (cs := #[.int .i64 20, .int .i64 0]) ?_ 1 _ rfl; (with_reducible repeat (first | refine blk_drewN ?_ _ | refine blk_drew ?_ | refine blk_alloc ?_ _)); refine blk_put (cs := #[.int .i64 0, .int .i64 0]) ?_ 0 _ rfl; (with_reducible repeat (first | refine blk_drewN ?_ _ | refine blk_drew ?_ | refine blk_alloc ?_ _)); exact BK101.out) Try.underlying39 rfl (by kernel_rfl)) rfl ?_
                exact ⟨by first | rfl | (simp [errW_none, errW_some] <;> rfl) | (simp [*, errW_none, errW_some] <;> rfl), by repeat (first | (with_reducible first | exact HB.out | apply below_alloc | apply pw_below_drewN | apply below_drew1 | refine below_set ?_ GE101.out) | exact HB.out)⟩
              · rw [if_neg c20] at H
                have c20b0 : (a0.toList == ([33, 61] : List UInt8)) = false := beq_eq_false_iff_ne.mpr c20
                have c20b1 : (a0.toList != ([33, 61] : List UInt8)) = true := bne_iff_ne.mpr c20
                by_cases c23 : a0.toList = ([60] : List UInt8)
                · rw [if_pos c23] at H
                  have c23b0 : (a0.toList == ([60] : List UInt8)) = true := beq_iff_eq.mpr c23
                  have c23b1 : (a0.toList != ([60] : List UInt8)) = false := bne_eq_false_iff_eq.mpr c23
                  clear c23
                  simp only [Option.some.injEq, Prod.mk.injEq] at H
                  obtain ⟨rfl, rfl, rfl⟩ := H
                  go_enter Try.func17, Try.ntmps17
                  go_wp2_with (first | ((with_reducible refine gate_dst (N := 2) rfl ?_); refine box_event ?hg (N := 2) ?hd (cs := #[.int .i64 0, .int .i64 0]) (t := 39) ?hr ?_; (case hd => rfl); (case hg => rfl); (case hr => first | (go_simp; done) | (go_simp; rfl)); intro gb101 hg w24 hbox hb; have n0_ := Aside0.mk (below_step (by repeat (first | (with_reducible first | exact HB.out | apply below_alloc | apply pw_below_drewN | apply below_drew1) | exact HB.out)) hb); have n1_ := Aside0.mk (hbox); have n2_ := Aside0.mk ((by rw [hg]; exact (below_size (by repeat (first | (with_reducible first | exact HB.out | apply below_alloc | apply pw_below_drewN | apply below_drew1) | exact HB.out))) : w.heap.size ≤ gb101)); have n3_ := Aside0.mk ((by rw [hg]; exact (below_size (by repeat (first | (with_reducible first | exact HB.out | apply below_alloc | apply pw_below_drewN | apply below_drew1) | exact HB.out))) : w.heap.size ≤ gb101)); clear HB; have HB := n0_; have BK101 := n1_; have GW101 := n2_; have GE101 := n3_; clear n0_ n1_ n2_ n3_; clear hb hbox hg; have hcz25_0 : w24.cell? ⟨gb101, 0, none⟩ = some (.int .i64 0) := (blk_cell BK101.out 0).trans rfl; have hcz25_1 : w24.cell? ⟨gb101, 1, none⟩ = some (.int .i64 0) := (blk_cell BK101.out 1).trans rfl; have hfz25_0 := blk_frozen BK101.out 0; have hfz25_1 := blk_frozen BK101.out 1))
                  refine bodyPost_ret (results_ct rfl _ _ gb101 39 #[.int .i64 20, .int .i64 1] (0, 0) _ rfl (by (with_reducible repeat (first | refine blk_drewN ?_ _ | refine blk_drew ?_ | refine blk_alloc ?_ _)); refine blk_put (cs := #[.int .i64 20, .int .i64 0]) ?_ 1 _ rfl; (with_reducible repeat (first | refine blk_drewN ?_ _ | refine blk_drew ?_ | refine blk_alloc ?_ _)); refine blk_put (cs := #[.int .i64 0, .int .i64 0]) ?_ 0 _ rfl; (with_reducible repeat (first | refine blk_drewN ?_ _ | refine blk_drew ?_ | refine blk_alloc ?_ _)); exact BK101.out) Try.underlying39 rfl (by kernel_rfl)) rfl ?_
                  exact ⟨by first | rfl | (simp [errW_none, errW_some] <;> rfl) | (simp [*, errW_none, errW_some] <;> rfl), by repeat (first | (with_reducible first | exact HB.out | apply below_alloc | apply pw_below_drewN | apply below_drew1 | refine below_set ?_ GE101.out) | exact HB.out)⟩
                · rw [if_neg c23] at H
                  have c23b0 : (a0.toList == ([60] : List UInt8)) = false := beq_eq_false_iff_ne.mpr c23
                  have c23b1 : (a0.toList != ([60] : List UInt8)) = true := bne_iff_ne.mpr c23
                  by_cases c26 : a0.toList = ([62] : List UInt8)
                  · rw [if_pos c26] at H
                    have c26b0 : (a0.toList == ([62] : List UInt8)) = true := beq_iff_eq.mpr c26
                    have c26b1 : (a0.toList != ([62] : List UInt8)) = false := bne_eq_false_iff_eq.mpr c26
                    clear c26
                    simp only [Option.some.injEq, Prod.mk.injEq] at H
                    obtain ⟨rfl, rfl, rfl⟩ := H
                    go_enter Try.func17, Try.ntmps17
                    go_wp2_with (first | ((with_reducible refine gate_dst (N := 2) rfl ?_); refine box_event ?hg (N := 2) ?hd (cs := #[.int .i64 0, .int .i64 0]) (t := 39) ?hr ?_; (case hd => rfl); (case hg => rfl); (case hr => first | (go_simp; done) | (go_simp; rfl)); intro gb101 hg w27 hbox hb; have n0_ := Aside0.mk (below_step (by repeat (first | (with_reducible first | exact HB.out | apply below_alloc | apply pw_below_drewN | apply below_drew1) | exact HB.out)) hb); have n1_ := Aside0.mk (hbox); have n2_ := Aside0.mk ((by rw [hg]; exact (below_size (by repeat (first | (with_reducible first | exact HB.out | apply below_alloc | apply pw_below_drewN | apply below_drew1) | exact HB.out))) : w.heap.size ≤ gb101)); have n3_ := Aside0.mk ((by rw [hg]; exact (below_size (by repeat (first | (with_reducible first | exact HB.out | apply below_alloc | apply pw_below_drewN | apply below_drew1) | exact HB.out))) : w.heap.size ≤ gb101)); clear HB; have HB := n0_; have BK101 := n1_; have GW101 := n2_; have GE101 := n3_; clear n0_ n1_ n2_ n3_; clear hb hbox hg; have hcz28_0 : w27.cell? ⟨gb101, 0, none⟩ = some (.int .i64 0) := (blk_cell BK101.out 0).trans rfl; have hcz28_1 : w27.cell? ⟨gb101, 1, none⟩ = some (.int .i64 0) := (blk_cell BK101.out 1).trans rfl; have hfz28_0 := blk_frozen BK101.out 0; have hfz28_1 := blk_frozen BK101.out 1))
                    refine bodyPost_ret (results_ct rfl _ _ gb101 39 #[.int .i64 20, .int .i64 1] (0, 0) _ rfl (by (with_reducible repeat (first | refine blk_drewN ?_ _ | refine blk_drew ?_ | refine blk_alloc ?_ _)); refine blk_put (cs := #[.int .i64 20, .int .i64 0]) ?_ 1 _ rfl; (with_reducible repeat (first | refine blk_drewN ?_ _ | refine blk_drew ?_ | refine blk_alloc ?_ _)); refine blk_put (cs := #[.int .i64 0, .int .i64 0]) ?_ 0 _ rfl; (with_reducible repeat (first | refine blk_drewN ?_ _ | refine blk_drew ?_ | refine blk_alloc ?_ _)); exact BK101.out) Try.underlying39 rfl (by kernel_rfl)) rfl ?_
                    exact ⟨by first | rfl | (simp [errW_none, errW_some] <;> rfl) | (simp [*, errW_none, errW_some] <;> rfl), by repeat (first | (with_reducible first | exact HB.out | apply below_alloc | apply pw_below_drewN | apply below_drew1 | refine below_set ?_ GE101.out) | exact HB.out)⟩
                  · rw [if_neg c26] at H
                    have c26b0 : (a0.toList == ([62] : List UInt8)) = false := beq_eq_false_iff_ne.mpr c26
                    have c26b1 : (a0.toList != ([62] : List UInt8)) = true := bne_iff_ne.mpr c26
                    by_cases c29 : a0.toList = ([62, 61] : List UInt8)
                    · rw [if_pos c29] at H
                      have c29b0 : (a0.toList == ([62, 61] : List UInt8)) = true := beq_iff_eq.mpr c29
                      have c29b1 : (a0.toList != ([62, 61] : List UInt8)) = false := bne_eq_false_iff_eq.mpr c29
                      clear c29
                      simp only [Option.some.injEq, Prod.mk.injEq] at H
                      obtain ⟨rfl, rfl, rfl⟩ := H
                      go_enter Try.func17, Try.ntmps17
                      go_wp2_with (first | ((with_reducible refine gate_dst (N := 2) rfl ?_); refine box_event ?hg (N := 2) ?hd (cs := #[.int .i64 0, .int .i64 0]) (t := 39) ?hr ?_; (case hd => rfl); (case hg => rfl); (case hr => first | (go_simp; done) | (go_simp; rfl)); intro gb101 hg w30 hbox hb; have n0_ := Aside0.mk (below_step (by repeat (first | (with_reducible first | exact HB.out | apply below_alloc | apply pw_below_drewN | apply below_drew1) | exact HB.out)) hb); have n1_ := Aside0.mk (hbox); have n2_ := Aside0.mk ((by rw [hg]; exact (below_size (by repeat (first | (with_reducible first | exact HB.out | apply below_alloc | apply pw_below_drewN | apply below_drew1) | exact HB.out))) : w.heap.size ≤ gb101)); have n3_ := Aside0.mk ((by rw [hg]; exact (below_size (by repeat (first | (with_reducible first | exact HB.out | apply below_alloc | apply pw_below_drewN | apply below_drew1) | exact HB.out))) : w.heap.size ≤ gb101)); clear HB; have HB := n0_; have BK101 := n1_; have GW101 := n2_; have GE101 := n3_; clear n0_ n1_ n2_ n3_; clear hb hbox hg; have hcz31_0 : w30.cell? ⟨gb101, 0, none⟩ = some (.int .i64 0) := (blk_cell BK101.out 0).trans rfl; have hcz31_1 : w30.cell? ⟨gb101, 1, none⟩ = some (.int .i64 0) := (blk_cell BK101.out 1).trans rfl; have hfz31_0 := blk_frozen BK101.out 0; have hfz31_1 := blk_frozen BK101.out 1))
                      refine bodyPost_ret (results_ct rfl _ _ gb101 39 #[.int .i64 20, .int .i64 1] (0, 0) _ rfl (by (with_reducible repeat (first | refine blk_drewN ?_ _ | refine blk_drew ?_ | refine blk_alloc ?_ _)); refine blk_put (cs := #[.int .i64 20, .int .i64 0]) ?_ 1 _ rfl; (with_reducible repeat (first | refine blk_drewN ?_ _ | refine blk_drew ?_ | refine blk_alloc ?_ _)); refine blk_put (cs := #[.int .i64 0, .int .i64 0]) ?_ 0 _ rfl; (with_reducible repeat (first | refine blk_drewN ?_ _ | refine blk_drew ?_ | refine blk_alloc ?_ _)); exact BK101.out) Try.underlying39 rfl (by kernel_rfl)) rfl ?_
                      exact ⟨by first | rfl | (simp [errW_none, errW_some] <;> rfl) | (simp [*, errW_none, errW_some] <;> rfl), by repeat (first | (with_reducible first | exact HB.out | apply below_alloc | apply pw_below_drewN | apply below_drew1 | refine below_set ?_ GE101.out) | exact HB.out)⟩
                    · rw [if_neg c29] at H
                      have c29b0 : (a0.toList == ([62, 61] : List UInt8)) = false := beq_eq_false_iff_ne.mpr c29
                      have c29b1 : (a0.toList != ([62, 61] : List UInt8)) = true := bne_iff_ne.mpr c29
                      by_cases c32 : a0.toList = ([60, 61] : List UInt8)
                      · rw [if_pos c32] at H
                        have c32b0 : (a0.toList == ([60, 61] : List UInt8)) = true := beq_iff_eq.mpr c32
                        have c32b1 : (a0.toList != ([60, 61] : List UInt8)) = false := bne_eq_false_iff_eq.mpr c32
                        clear c32
                        simp only [Option.some.injEq, Prod.mk.injEq] at H
                        obtain ⟨rfl, rfl, rfl⟩ := H
                        go_enter Try.func17, Try.ntmps17
                        go_wp2_with (first | ((with_reducible refine gate_dst (N := 2) rfl ?_); refine box_event ?hg (N := 2) ?hd (cs := #[.int .i64 0, .int .i64 0]) (t := 39) ?hr ?_; (case hd => rfl); (case hg => rfl); (case hr => first | (go_simp; done) | (go_simp; rfl)); intro gb101 hg w33 hbox hb; have n0_ := Aside0.mk (below_step (by repeat (first | (with_reducible first | exact HB.out | apply below_alloc | apply pw_below_drewN | apply below_drew1) | exact HB.out)) hb); have n1_ := Aside0.mk (hbox); have n2_ := Aside0.mk ((by rw [hg]; exact (below_size (by repeat (first | (with_reducible first | exact HB.out | apply below_alloc | apply pw_below_drewN | apply below_drew1) | exact HB.out))) : w.heap.size ≤ gb101)); have n3_ := Aside0.mk ((by rw [hg]; exact (below_size (by repeat (first | (with_reducible first | exact HB.out | apply below_alloc | apply pw_below_drewN | apply below_drew1) | exact HB.out))) : w.heap.size ≤ gb101)); clear HB; have HB := n0_; have BK101 := n1_; have GW101 := n2_; have GE101 := n3_; clear n0_ n1_ n2_ n3_; clear hb hbox hg; have hcz34_0 : w33.cell? ⟨gb101, 0, none⟩ = some (.int .i64 0) := (blk_cell BK101.out 0).trans rfl; have hcz34_1 : w33.cell? ⟨gb101, 1, none⟩ = some (.int .i64 0) := (blk_cell BK101.out 1).trans rfl; have hfz34_0 := blk_frozen BK101.out 0; have hfz34_1 := blk_frozen BK101.out 1))
                        refine bodyPost_ret (results_ct rfl _ _ gb101 39 #[.int .i64 20, .int .i64 1] (0, 0) _ rfl (by (with_reducible repeat (first | refine blk_drewN ?_ _ | refine blk_drew ?_ | refine blk_alloc ?_ _)); refine blk_put (cs := #[.int .i64 20, .int .i64 0]) ?_ 1 _ rfl; (with_reducible repeat (first | refine blk_drewN ?_ _ | refine blk_drew ?_ | refine blk_alloc ?_ _)); refine blk_put (cs := #[.int .i64 0, .int .i64 0]) ?_ 0 _ rfl; (with_reducible repeat (first | refine blk_drewN ?_ _ | refine blk_drew ?_ | refine blk_alloc ?_ _)); exact BK101.out) Try.underlying39 rfl (by kernel_rfl)) rfl ?_
                        exact ⟨by first | rfl | (simp [errW_none, errW_some] <;> rfl) | (simp [*, errW_none, errW_some] <;> rfl), by repeat (first | (with_reducible first | exact HB.out | apply below_alloc | apply pw_below_drewN | apply below_drew1 | refine below_set ?_ GE101.out) | exact HB.out)⟩
                      · rw [if_neg c32] at H
                        have c32b0 : (a0.toList == ([60, 61] : List UInt8)) = false := beq_eq_false_iff_ne.mpr c32
                        have c32b1 : (a0.toList != ([60, 61] : List UInt8)) = true := bne_iff_ne.mpr c32
                        by_cases c35 : a0.toList = ([105, 110] : List UInt8)
                        · rw [if_pos c35] at H
                          have c35b0 : (a0.toList == ([105, 110] : List UInt8)) = true := beq_iff_eq.mpr c35
                          have c35b1 : (a0.toList != ([105, 110] : List UInt8)) = false := bne_eq_false_iff_eq.mpr c35
                          clear c35
                          simp only [Option.some.injEq, Prod.mk.injEq] at H
                          obtain ⟨rfl, rfl, rfl⟩ := H
                          go_enter Try.func17, Try.ntmps17
                          go_wp2_with (first | ((with_reducible refine gate_dst (N := 2) rfl ?_); refine box_event ?hg (N := 2) ?hd (cs := #[.int .i64 0, .int .i64 0]) (t := 39) ?hr ?_; (case hd => rfl); (case hg => rfl); (case hr => first | (go_simp; done) | (go_simp; rfl)); intro gb101 hg w36 hbox hb; have n0_ := Aside0.mk (below_step (by repeat (first | (with_reducible first | exact HB.out | apply below_alloc | apply pw_below_drewN | apply below_drew1) | exact HB.out)) hb); have n1_ := Aside0.mk (hbox); have n2_ := Aside0.mk ((by rw [hg]; exact (below_size (by repeat (first | (with_reducible first | exact HB.out | apply below_alloc | apply pw_below_drewN | apply below_drew1) | exact HB.out))) : w.heap.size ≤ gb101)); have n3_ := Aside0.mk ((by rw [hg]; exact (below_size (by repeat (first | (with_reducible first | exact HB.out | apply below_alloc | apply pw_below_drewN | apply below_drew1) | exact HB.out))) : w.heap.size ≤ gb101)); clear HB; have HB := n0_; have BK101 := n1_; have GW101 := n2_; have GE101 := n3_; clear n0_ n1_ n2_ n3_; clear hb hbox hg; have hcz37_0 : w36.cell? ⟨gb101, 0, none⟩ = some (.int .i64 0) := (blk_cell BK101.out 0).trans rfl; have hcz37_1 : w36.cell? ⟨gb101, 1, none⟩ = some (.int .i64 0) := (blk_cell BK101.out 1).trans rfl; have hfz37_0 := blk_frozen BK101.out 0; have hfz37_1 := blk_frozen BK101.out 1))
                          refine bodyPost_ret (results_ct rfl _ _ gb101 39 #[.int .i64 20, .int .i64 1] (0, 0) _ rfl (by (with_reducible repeat (first | refine blk_drewN ?_ _ | refine blk_drew ?_ | refine blk_alloc ?_ _)); refine blk_put (cs := #[.int .i64 20, .int .i64 0]) ?_ 1 _ rfl; (with_reducible repeat (first | refine blk_drewN ?_ _ | refine blk_drew ?_ | refine blk_alloc ?_ _)); refine blk_put (cs := #[.int .i64 0, .int .i64 0]) ?_ 0 _ rfl; (with_reducible repeat (first | refine blk_drewN ?_ _ | refine blk_drew ?_ | refine blk_alloc ?_ _)); exact BK101.out) Try.underlying39 rfl (by kernel_rfl)) rfl ?_
                          exact ⟨by first | rfl | (simp [errW_none, errW_some] <;> rfl) | (simp [*, errW_none, errW_some] <;> rfl), by repeat (first | (with_reducible first | exact HB.out | apply below_alloc | apply pw_below_drewN | apply below_drew1 | refine below_set ?_ GE101.out) | exact HB.out)⟩
                        · rw [if_neg c35] at H
                          have c35b0 : (a0.toList == ([105, 110] : List UInt8)) = false := beq_eq_false_iff_ne.mpr c35
                          have c35b1 : (a0.toList != ([105, 110] : List UInt8)) = true := bne_iff_ne.mpr c35
                          by_cases c38 : a0.toList = ([109, 97, 116, 99, 104, 101, 115] : List UInt8)
                          · rw [if_pos c38] at H
                            have c38b0 : (a0.toList == ([109, 97, 116, 99, 104, 101, 115] : List UInt8)) = true := beq_iff_eq.mpr c38
                            have c38b1 : (a0.toList != ([109, 97, 116, 99, 104, 101, 115] : List UInt8)) = false := bne_eq_false_iff_eq.mpr c38
                            clear c38
                            simp only [Option.some.injEq, Prod.mk.injEq] at H
                            obtain ⟨rfl, rfl, rfl⟩ := H
                            go_enter Try.func17, Try.ntmps17
                            go_wp2_with (first | ((with_reducible refine gate_dst (N := 2) rfl ?_); refine box_event ?hg (N := 2) ?hd (cs := #[.int .i64 0, .int .i64 0]) (t := 39) ?hr ?_; (case hd => rfl); (case hg => rfl); (case hr => first | (go_simp; done) | (go_simp; rfl)); intro gb101 hg w39 hbox hb; have n0_ := Aside0.mk (below_step (by repeat (first | (with_reducible first | exact HB.out | apply below_alloc | apply pw_below_drewN | apply below_drew1) | exact HB.out)) hb); have n1_ := Aside0.mk (hbox); have n2_ := Aside0.mk ((by rw [hg]; exact (below_size (by repeat (first | (with_reducible first | exact HB.out | apply below_alloc | apply pw_below_drewN | apply below_drew1) | exact HB.out))) : w.heap.size ≤ gb101)); have n3_ := Aside0.mk ((by rw [hg]; exact (below_size (by repeat (first | (with_reducible first | exact HB.out | apply below_alloc | apply pw_below_drewN | apply below_drew1) | exact HB.out))) : w.heap.size ≤ gb101)); clear HB; have HB := n0_; have BK101 := n1_; have GW101 := n2_; have GE101 := n3_; clear n0_ n1_ n2_ n3_; clear hb hbox hg; have hcz40_0 : w39.cell? ⟨gb101, 0, none⟩ = some (.int .i64 0) := (blk_cell BK101.out 0).trans rfl; have hcz40_1 : w39.cell? ⟨gb101, 1, none⟩ = some (.int .i64 0) := (blk_cell BK101.out 1).trans rfl; have hfz40_0 := blk_frozen BK101.out 0; have hfz40_1 := blk_frozen BK101.out 1))
                            refine bodyPost_ret (results_ct rfl _ _ gb101 39 #[.int .i64 20, .int .i64 1] (0, 0) _ rfl (by (with_reducible repeat (first | refine blk_drewN ?_ _ | refine blk_drew ?_ | refine blk_alloc ?_ _)); refine blk_put (cs := #[.int .i64 20, .int .i64 0]) ?_ 1 _ rfl; (with_reducible repeat (first | refine blk_drewN ?_ _ | refine blk_drew ?_ | refine blk_alloc ?_ _)); refine blk_put (cs := #[.int .i64 0, .int .i64 0]) ?_ 0 _ rfl; (with_reducible repeat (first | refine blk_drewN ?_ _ | refine blk_drew ?_ | refine blk_alloc ?_ _)); exact BK101.out) Try.underlying39 rfl (by kernel_rfl)) rfl ?_
                            exact ⟨by first | rfl | (simp [errW_none, errW_some] <;> rfl) | (simp [*, errW_none, errW_some] <;> rfl), by repeat (first | (with_reducible first | exact HB.out | apply below_alloc | apply pw_below_drewN | apply below_drew1 | refine below_set ?_ GE101.out) | exact HB.out)⟩
                          · rw [if_neg c38] at H
                            have c38b0 : (a0.toList == ([109, 97, 116, 99, 104, 101, 115] : List UInt8)) = false := beq_eq_false_iff_ne.mpr c38
                            have c38b1 : (a0.toList != ([109, 97, 116, 99, 104, 101, 115] : List UInt8)) = true := bne_iff_ne.mpr c38
                            by_cases c41 : a0.toList = ([99, 111, 110, 116, 97, 105, 110, 115] : List UInt8)
                            · rw [if_pos c41] at H
                              have c41b0 : (a0.toList == ([99, 111, 110, 116, 97, 105, 110, 115] : List UInt8)) = true := beq_iff_eq.mpr c41
                              have c41b1 : (a0.toList != ([99, 111, 110, 116, 97, 105, 110, 115] : List UInt8)) = false := bne_eq_false_iff_eq.mpr c41
                              clear c41
                              simp only [Option.some.injEq, Prod.mk.injEq] at H
                              obtain ⟨rfl, rfl, rfl⟩ := H
                              go_enter Try.func17, Try.ntmps17
                              go_wp2_with (first | ((with_reducible refine gate_dst (N := 2) rfl ?_); refine box_event ?hg (N := 2) ?hd (cs := #[.int .i64 0, .int .i64 0]) (t := 39) ?hr ?_; (case hd => rfl); (case hg => rfl); (case hr => first | (go_simp; done) | (go_simp; rfl)); intro gb101 hg w42 hbox hb; have n0_ := Aside0.mk (below_step (by repeat (first | (with_reducible first | exact HB.out | apply below_alloc | apply pw_below_drewN | apply below_drew1) | exact HB.out)) hb); have n1_ := Aside0.mk (hbox); have n2_ := Aside0.mk ((by rw [hg]; exact (below_size (by repeat (first | (with_reducible first | exact HB.out | apply below_alloc | apply pw_below_drewN | apply below_drew1) | exact HB.out))) : w.heap.size ≤ gb101)); have n3_ := Aside0.mk ((by rw [hg]; exact (below_size (by repeat (first | (with_reducible first | exact HB.out | apply below_alloc | apply pw_below_drewN | apply below_drew1) | exact HB.out))) : w.heap.size ≤ gb101)); clear HB; have HB := n0_; have BK101 := n1_; have GW101 := n2_; have GE101 := n3_; clear n0_ n1_ n2_ n3_; clear hb hbox hg; have hcz43_0 : w42.cell? ⟨gb101, 0, none⟩ = some (.int .i64 0) := (blk_cell BK101.out 0).trans rfl; have hcz43_1 : w42.cell? ⟨gb101, 1, none⟩ = some (.int .i64 0) := (blk_cell BK101.out 1).trans rfl; have hfz43_0 := blk_frozen BK101.out 0; have hfz43_1 := blk_frozen BK101.out 1))
                              refine bodyPost_ret (results_ct rfl _ _ gb101 39 #[.int .i64 20, .int .i64 1] (0, 0) _ rfl (by (with_reducible repeat (first | refine blk_drewN ?_ _ | refine blk_drew ?_ | refine blk_alloc ?_ _)); refine blk_put (cs := #[.int .i64 20, .int .i64 0]) ?_ 1 _ rfl; (with_reducible repeat (first | refine blk_drewN ?_ _ | refine blk_drew ?_ | refine blk_alloc ?_ _)); refine blk_put (cs := #[.int .i64 0, .int .i64 0]) ?_ 0 _ rfl; (with_reducible repeat (first | refine blk_drewN ?_ _ | refine blk_drew ?_ | refine blk_alloc ?_ _)); exact BK101.out) Try.underlying39 rfl (by kernel_rfl)) rfl ?_
                              exact ⟨by first | rfl | (simp [errW_none, errW_some] <;> rfl) | (simp [*, errW_none, errW_some] <;> rfl), by repeat (first | (with_reducible first | exact HB.out | apply below_alloc | apply pw_below_drewN | apply below_drew1 | refine below_set ?_ GE101.out) | exact HB.out)⟩
                            · rw [if_neg c41] at H
                              have c41b0 : (a0.toList == ([99, 111, 110, 116, 97, 105, 110, 115] : List UInt8)) = false := beq_eq_false_iff_ne.mpr c41
                              have c41b1 : (a0.toList != ([99, 111, 110, 116, 97, 105, 110, 115] : List UInt8)) = true := bne_iff_ne.mpr c41
                              by_cases c44 : a0.toList = ([115, 116, 97, 114, 116, 115, 87, 105, 116, 104] : List UInt8)
                              · rw [if_pos c44] at H
                                have c44b0 : (a0.toList == ([115, 116, 97, 114, 116, 115, 87, 105, 116, 104] : List UInt8)) = true := beq_iff_eq.mpr c44
                                have c44b1 : (a0.toList != ([115, 116, 97, 114, 116, 115, 87, 105, 116, 104] : List UInt8)) = false := bne_eq_false_iff_eq.mpr c44
                                clear c44
                                simp only [Option.some.injEq, Prod.mk.injEq] at H
                                obtain ⟨rfl, rfl, rfl⟩ := H
                                go_enter Try.func17, Try.ntmps17
                                go_wp2_with (first | ((with_reducible refine gate_dst (N := 2) rfl ?_); refine box_event ?hg (N := 2) ?hd (cs := #[.int .i64 0, .int .i64 0]) (t := 39) ?hr ?_; (case hd => rfl); (case hg => rfl); (case hr => first | (go_simp; done) | (go_simp; rfl)); intro gb101 hg w45 hbox hb; have n0_ := Aside0.mk (below_step (by repeat (first | (with_reducible first | exact HB.out | apply below_alloc | apply pw_below_drewN | apply below_drew1) | exact HB.out)) hb); have n1_ := Aside0.mk (hbox); have n2_ := Aside0.mk ((by rw [hg]; exact (below_size (by repeat (first | (with_reducible first | exact HB.out | apply below_alloc | apply pw_below_drewN | apply below_drew1) | exact HB.out))) : w.heap.size ≤ gb101)); have n3_ := Aside0.mk ((by rw [hg]; exact (below_size (by repeat (first | (with_reducible first | exact HB.out | apply below_alloc | apply pw_below_drewN | apply below_drew1) | exact HB.out))) : w.heap.size ≤ gb101)); clear HB; have HB := n0_; have BK101 := n1_; have GW101 := n2_; have GE101 := n3_; clear n0_ n1_ n2_ n3_; clear hb hbox hg; have hcz46_0 : w45.cell? ⟨gb101, 0, none⟩ = some (.int .i64 0) := (blk_cell BK101.out 0).trans rfl; have hcz46_1 : w45.cell? ⟨gb101, 1, none⟩ = some (.int .i64 0) := (blk_cell BK101.out 1).trans rfl; have hfz46_0 := blk_frozen BK101.out 0; have hfz46_1 := blk_frozen BK101.out 1))
                                refine bodyPost_ret (results_ct rfl _ _ gb101 39 #[.int .i64 20, .int .i64 1] (0, 0) _ rfl (by (with_reducible repeat (first | refine blk_drewN ?_ _ | refine blk_drew ?_ | refine blk_alloc ?_ _)); refine blk_put (cs := #[.int .i64 20, .int .i64 0]) ?_ 1 _ rfl; (with_reducible repeat (first | refine blk_drewN ?_ _ | refine blk_drew ?_ | refine blk_alloc ?_ _)); refine blk_put (cs := #[.int .i64 0, .int .i64 0]) ?_ 0 _ rfl; (with_reducible repeat (first | refine blk_drewN ?_ _ | refine blk_drew ?_ | refine blk_alloc ?_ _)); exact BK101.out) Try.underlying39 rfl (by kernel_rfl)) rfl ?_
                                exact ⟨by first | rfl | (simp [errW_none, errW_some] <;> rfl) | (simp [*, errW_none, errW_some] <;> rfl), by repeat (first | (with_reducible first | exact HB.out | apply below_alloc | apply pw_below_drewN | apply below_drew1 | refine below_set ?_ GE101.out) | exact HB.out)⟩
                              · rw [if_neg c44] at H
                                have c44b0 : (a0.toList == ([115, 116, 97, 114, 116, 115, 87, 105, 116, 104] : List UInt8)) = false := beq_eq_false_iff_ne.mpr c44
                                have c44b1 : (a0.toList != ([115, 116, 97, 114, 116, 115, 87, 105, 116, 104] : List UInt8)) = true := bne_iff_ne.mpr c44
                                by_cases c47 : a0.toList = ([101, 110, 100, 115, 87, 105, 116, 104] : List UInt8)
                                · rw [if_pos c47] at H
                                  have c47b0 : (a0.toList == ([101, 110, 100, 115, 87, 105, 116, 104] : List UInt8)) = true := beq_iff_eq.mpr c47
                                  have c47b1 : (a0.toList != ([101, 110, 100, 115, 87, 105, 116, 104] : List UInt8)) = false := bne_eq_false_iff_eq.mpr c47
                                  clear c47
                                  simp only [Option.some.injEq, Prod.mk.injEq] at H
                                  obtain ⟨rfl, rfl, rfl⟩ := H
                                  go_enter Try.func17, Try.ntmps17
                                  go_wp2_with (first | ((with_reducible refine gate_dst (N := 2) rfl ?_); refine box_event ?hg (N := 2) ?hd (cs := #[.int .i64 0, .int .i64 0]) (t := 39) ?hr ?_; (case hd => rfl); (case hg => rfl); (case hr => first | (go_simp; done) | (go_simp; rfl)); intro gb101 hg w48 hbox hb; have n0_ := Aside0.mk (below_step (by repeat (first | (with_reducible first | exact HB.out | apply below_alloc | apply pw_below_drewN | apply below_drew1) | exact HB.out)) hb); have n1_ := Aside0.mk (hbox); have n2_ := Aside0.mk ((by rw [hg]; exact (below_size (by repeat (first | (with_reducible first | exact HB.out | apply below_alloc | apply pw_below_drewN | apply below_drew1) | exact HB.out))) : w.heap.size ≤ gb101)); have n3_ := Aside0.mk ((by rw [hg]; exact (below_size (by repeat (first | (with_reducible first | exact HB.out | apply below_alloc | apply pw_below_drewN | apply below_drew1) | exact HB.out))) : w.heap.size ≤ gb101)); clear HB; have HB := n0_; have BK101 := n1_; have GW101 := n2_; have GE101 := n3_; clear n0_ n1_ n2_ n3_; clear hb hbox hg; have hcz49_0 : w48.cell? ⟨gb101, 0, none⟩ = some (.int .i64 0) := (blk_cell BK101.out 0).trans rfl; have hcz49_1 : w48.cell? ⟨gb101, 1, none⟩ = some (.int .i64 0) := (blk_cell BK101.out 1).trans rfl; have hfz49_0 := blk_frozen BK101.out 0; have hfz49_1 := blk_frozen BK101.out 1))
                                  refine bodyPost_ret (results_ct rfl _ _ gb101 39 #[.int .i64 20, .int .i64 1] (0, 0) _ rfl (by (with_reducible repeat (first | refine blk_drewN ?_ _ | refine blk_drew ?_ | refine blk_alloc ?_ _)); refine blk_put (cs := #[.int .i64 20, .int .i64 0]) ?_ 1 _ rfl; (with_reducible repeat (first | refine blk_drewN ?_ _ | refine blk_drew ?_ | refine blk_alloc ?_ _)); refine blk_put (cs := #[.int .i64 0, .int .i64 0]) ?_ 0 _ rfl; (with_reducible repeat (first | refine blk_drewN ?_ _ | refine blk_drew ?_ | refine blk_alloc ?_ _)); exact BK101.out) Try.underlying39 rfl (by kernel_rfl)) rfl ?_
                                  exact ⟨by first | rfl | (simp [errW_none, errW_some] <;> rfl) | (simp [*, errW_none, errW_some] <;> rfl), by repeat (first | (with_reducible first | exact HB.out | apply below_alloc | apply pw_below_drewN | apply below_drew1 | refine below_set ?_ GE101.out) | exact HB.out)⟩
                                · rw [if_neg c47] at H
                                  have c47b0 : (a0.toList == ([101, 110, 100, 115, 87, 105, 116, 104] : List UInt8)) = false := beq_eq_false_iff_ne.mpr c47
                                  have c47b1 : (a0.toList != ([101, 110, 100, 115, 87, 105, 116, 104] : List UInt8)) = true := bne_iff_ne.mpr c47
                                  by_cases c50 : a0.toList = ([46, 46] : List UInt8)
                                  · rw [if_pos c50] at H
                                    have c50b0 : (a0.toList == ([46, 46] : List UInt8)) = true := beq_iff_eq.mpr c50
                                    have c50b1 : (a0.toList != ([46, 46] : List UInt8)) = false := bne_eq_false_iff_eq.mpr c50
                                    clear c50
                                    simp only [Option.some.injEq, Prod.mk.injEq] at H
                                    obtain ⟨rfl, rfl, rfl⟩ := H
                                    go_enter Try.func17, Try.ntmps17
                                    go_wp2_with (first | ((with_reducible refine gate_dst (N := 2) rfl ?_); refine box_event ?hg (N := 2) ?hd (cs := #[.int .i64 0, .int .i64 0]) (t := 39) ?hr ?_; (case hd => rfl); (case hg => rfl); (case hr => first | (go_simp; done) | (go_simp; rfl)); intro gb101 hg w51 hbox hb; have n0_ := Aside0.mk (below_step (by repeat (first | (with_reducible first | exact HB.out | apply below_alloc | apply pw_below_drewN | apply below_drew1) | exact HB.out)) hb); have n1_ := Aside0.mk (hbox); have n2_ := Aside0.mk ((by rw [hg]; exact (below_size (by repeat (first | (with_reducible first | exact HB.out | apply below_alloc | apply pw_below_drewN | apply below_drew1) | exact HB.out))) : w.heap.size ≤ gb101)); have n3_ := Aside0.mk ((by rw [hg]; exact (below_size (by repeat (first | (with_reducible first | exact HB.out | apply below_alloc | apply pw_below_drewN | apply below_drew1) | exact HB.out))) : w.heap.size ≤ gb101)); clear HB; have HB := n0_; have BK101 := n1_; have GW101 := n2_; have GE101 := n3_; clear n0_ n1_ n2_ n3_; clear hb hbox hg; have hcz52_0 : w51.cell? ⟨gb101, 0, none⟩ = some (.int .i64 0) := (blk_cell BK101.out 0).trans rfl; have hcz52_1 : w51.cell? ⟨gb101, 1, none⟩ = some (.int .i64 0) := (blk_cell BK101.out 1).trans rfl; have hfz52_0 := blk_frozen BK101.out 0; have hfz52_1 := blk_frozen BK101.out 1))
                                    refine bodyPost_ret (results_ct rfl _ _ gb101 39 #[.int .i64 25, .int .i64 1] (0, 0) _ rfl (by (with_reducible repeat (first | refine blk_drewN ?_ _ | refine blk_drew ?_ | refine blk_alloc ?_ _)); refine blk_put (cs := #[.int .i64 25, .int .i64 0]) ?_ 1 _ rfl; (with_reducible repeat (first | refine blk_drewN ?_ _ | refine blk_drew ?_ | refine blk_alloc ?_ _)); refine blk_put (cs := #[.int .i64 0, .int .i64 0]) ?_ 0 _ rfl; (with_reducible repeat (first | refine blk_drewN ?_ _ | refine blk_drew ?_ | refine blk_alloc ?_ _)); exact BK101.out) Try.underlying39 rfl (by kernel_rfl)) rfl ?_
                                    exact ⟨by first | rfl | (simp [errW_none, errW_some] <;> rfl) | (simp [*, errW_none, errW_some] <;> rfl), by repeat (first | (with_reducible first | exact HB.out | apply below_alloc | apply pw_below_drewN | apply below_drew1 | refine below_set ?_ GE101.out) | exact HB.out)⟩
                                  · rw [if_neg c50] at H
                                    have c50b0 : (a0.toList == ([46, 46] : List UInt8)) = false := beq_eq_false_iff_ne.mpr c50
                                    have c50b1 : (a0.toList != ([46, 46] : List UInt8)) = true := bne_iff_ne.mpr c50
                                    by_cases c53 : a0.toList = ([43] : List UInt8)
                                    · rw [if_pos c53] at H
                                      have c53b0 : (a0.toList == ([43] : List UInt8)) = true := beq_iff_eq.mpr c53
                                      have c53b1 : (a0.toList != ([43] : List UInt8)) = false := bne_eq_false_iff_eq.mpr c53
                                      clear c53
                                      simp only [Option.some.injEq, Prod.mk.injEq] at H
                                      obtain ⟨rfl, rfl, rfl⟩ := H
                                      go_enter Try.func17, Try.ntmps17
                                      go_wp2_with (first | ((with_reducible refine gate_dst (N := 2) rfl ?_); refine box_event ?hg (N := 2) ?hd (cs := #[.int .i64 0, .int .i64 0]) (t := 39) ?hr ?_; (case hd => rfl); (case hg => rfl); (case hr => first | (go_simp; done) | (go_simp; rfl)); intro gb101 hg w54 hbox hb; have n0_ := Aside0.mk (below_step (by repeat (first | (with_reducible first | exact HB.out | apply below_alloc | apply pw_below_drewN | apply below_drew1) | exact HB.out)) hb); have n1_ := Aside0.mk (hbox); have n2_ := Aside0.mk ((by rw [hg]; exact (below_size (by repeat (first | (with_reducible first | exact HB.out | apply below_alloc | apply pw_below_drewN | apply below_drew1) | exact HB.out))) : w.heap.size ≤ gb101)); have n3_ := Aside0.mk ((by rw [hg]; exact (below_size (by repeat (first | (with_reducible first | exact HB.out | apply below_alloc | apply pw_below_drewN | apply below_drew1) | exact HB.out))) : w.heap.size ≤ gb101)); clear HB; have HB := n0_; have BK101 := n1_; have GW101 := n2_; have GE101 := n3_; clear n0_ n1_ n2_ n3_; clear hb hbox hg; have hcz55_0 : w54.cell? ⟨gb101, 0, none⟩ = some (.int .i64 0) := (blk_cell BK101.out 0).trans rfl; have hcz55_1 : w54.cell? ⟨gb101, 1, none⟩ = some (.int .i64 0) := (blk_cell BK101.out 1).trans rfl; have hfz55_0 := blk_frozen BK101.out 0; have hfz55_1 := blk_frozen BK101.out 1))
                                      refine bodyPost_ret (results_ct rfl _ _ gb101 39 #[.int .i64 30, .int .i64 1] (0, 0) _ rfl (by (with_reducible repeat (first | refine blk_drewN ?_ _ | refine blk_drew ?_ | refine blk_alloc ?_ _)); refine blk_put (cs := #[.int .i64 30, .int .i64 0]) ?_ 1 _ rfl; (with_reducible repeat (first | refine blk_drewN ?_ _ | refine blk_drew ?_ | refine blk_alloc ?_ _)); refine blk_put (cs := #[.int .i64 0, .int .i64 0]) ?_ 0 _ rfl; (with_reducible repeat (first | refine blk_drewN ?_ _ | refine blk_drew ?_ | refine blk_alloc ?_ _)); exact BK101.out) Try.underlying39 rfl (by kernel_rfl)) rfl ?_
                                      exact ⟨by first | rfl | (simp [errW_none, errW_some] <;> rfl) | (simp [*, errW_none, errW_some] <;> rfl), by repeat (first | (with_reducible first | exact HB.out | apply below_alloc | apply pw_below_drewN | apply below_drew1 | refine below_set ?_ GE101.out) | exact HB.out)⟩
                                    · rw [if_neg c53] at H
                                      have c53b0 : (a0.toList == ([43] : List UInt8)) = false := beq_eq_false_iff_ne.mpr c53
                                      have c53b1 : (a0.toList != ([43] : List UInt8)) = true := bne_iff_ne.mpr c53
                                      by_cases c56 : a0.toList = ([45] : List UInt8)
                                      · rw [if_pos c56] at H
                                        have c56b0 : (a0.toList == ([45] : List UInt8)) = true := beq_iff_eq.mpr c56
                                        have c56b1 : (a0.toList != ([45] : List UInt8)) = false := bne_eq_false_iff_eq.mpr c56
                                        clear c56
                                        simp only [Option.some.injEq, Prod.mk.injEq] at H
                                        obtain ⟨rfl, rfl, rfl⟩ := H
                                        go_enter Try.func17, Try.ntmps17
                                        go_wp2_with (first | ((with_reducible refine gate_dst (N := 2) rfl ?_); refine box_event ?hg (N := 2) ?hd (cs := #[.int .i64 0, .int .i64 0]) (t := 39) ?hr ?_; (case hd => rfl); (case hg => rfl); (case hr => first | (go_simp; done) | (go_simp; rfl)); intro gb101 hg w57 hbox hb; have n0_ := Aside0.mk (below_step (by repeat (first | (with_reducible first | exact HB.out | apply below_alloc | apply pw_below_drewN | apply below_drew1) | exact HB.out)) hb); have n1_ := Aside0.mk (hbox); have n2_ := Aside0.mk ((by rw [hg]; exact (below_size (by repeat (first | (with_reducible first | exact HB.out | apply below_alloc | apply pw_below_drewN | apply below_drew1) | exact HB.out))) : w.heap.size ≤ gb101)); have n3_ := Aside0.mk ((by rw [hg]; exact (below_size (by repeat (first | (with_reducible first | exact HB.out | apply below_alloc | apply pw_below_drewN | apply below_drew1) | exact HB.out))) : w.heap.size ≤ gb101)); clear HB; have HB := n0_; have BK101 := n1_; have GW101 := n2_; have GE101 := n3_; clear n0_ n1_ n2_ n3_; clear hb hbox hg; have hcz58_0 : w57.cell? ⟨gb101, 0, none⟩ = some (.int .i64 0) := (blk_cell BK101.out 0).trans rfl; have hcz58_1 : w57.cell? ⟨gb101, 1, none⟩ = some (.int .i64 0) := (blk_cell BK101.out 1).trans rfl; have hfz58_0 := blk_frozen BK101.out 0; have hfz58_1 := blk_frozen BK101.out 1))
                                        refine bodyPost_ret (results_ct rfl _ _ gb101 39 #[.int .i64 30, .int .i64 1] (0, 0) _ rfl (by (with_reducible repeat (first | refine blk_drewN ?_ _ | refine blk_drew ?_ | refine blk_alloc ?_ _)); refine blk_put (cs := #[.int .i64 30, .int .i64 0]) ?_ 1 _ rfl; (with_reducible repeat (first | refine blk_drewN ?_ _ | refine blk_drew ?_ | refine blk_alloc ?_ _)); refine blk_put (cs := #[.int .i64 0, .int .i64 0]) ?_ 0 _ rfl; (with_reducible repeat (first | refine blk_drewN ?_ _ | refine blk_drew ?_ | refine blk_alloc ?_ _)); exact BK101.out) Try.underlying39 rfl (by kernel_rfl)) rfl ?_
                                        exact ⟨by first | rfl | (simp [errW_none, errW_some] <;> rfl) | (simp [*, errW_none, errW_some] <;> rfl), by repeat (first | (with_reducible first | exact HB.out | apply below_alloc | apply pw_below_drewN | apply below_drew1 | refine below_set ?_ GE101.out) | exact HB.out)⟩
                                      · rw [if_neg c56] at H
                                        have c56b0 : (a0.toList == ([45] : List UInt8)) = false := beq_eq_false_iff_ne.mpr c56
                                        have c56b1 : (a0.toList != ([45] : List UInt8)) = true := bne_iff_ne.mpr c56
                                        by_cases c59 : a0.toList = ([42] : List UInt8)
                                        · rw [if_pos c59] at H
                                          have c59b0 : (a0.toList == ([42] : List UInt8)) = true := beq_iff_eq.mpr c59
                                          have c59b1 : (a0.toList != ([42] : List UInt8)) = false := bne_eq_false_iff_eq.mpr c59
                                          clear c59
                                          simp only [Option.some.injEq, Prod.mk.injEq] at H
                                          obtain ⟨rfl, rfl, rfl⟩ := H
                                          go_enter Try.func17, Try.ntmps17
                                          go_wp2_with (first | ((with_reducible refine gate_dst (N := 2) rfl ?_); refine box_event ?hg (N := 2) ?hd (cs := #[.int .i64 0, .int .i64 0]) (t := 39) ?hr ?_; (case hd => rfl); (case hg => rfl); (case hr => first | (go_simp; done) | (go_simp; rfl)); intro gb101 hg w60 hbox hb; have n0_ := Aside0.mk (below_step (by repeat (first | (with_reducible first | exact HB.out | apply below_alloc | apply pw_below_drewN | apply below_drew1) | exact HB.out)) hb); have n1_ := Aside0.mk (hbox); have n2_ := Aside0.mk ((by rw [hg]; exact (below_size (by repeat (first | (with_reducible first | exact HB.out | apply below_alloc | apply pw_below_drewN | apply below_drew1) | exact HB.out))) : w.heap.size ≤ gb101)); have n3_ := Aside0.mk ((by rw [hg]; exact (below_size (by repeat (first | (with_reducible first | exact HB.out | apply below_alloc | apply pw_below_drewN | apply below_drew1) | exact HB.out))) : w.heap.size ≤ gb101)); clear HB; have HB := n0_; have BK101 := n1_; have GW101 := n2_; have GE101 := n3_; clear n0_ n1_ n2_ n3_; clear hb hbox hg; have hcz61_0 : w60.cell? ⟨gb101, 0, none⟩ = some (.int .i64 0) := (blk_cell BK101.out 0).trans rfl; have hcz61_1 : w60.cell? ⟨gb101, 1, none⟩ = some (.int .i64 0) := (blk_cell BK101.out 1).trans rfl; have hfz61_0 := blk_frozen BK101.out 0; have hfz61_1 := blk_frozen BK101.out 1))
                                          refine bodyPost_ret (results_ct rfl _ _ gb101 39 #[.int .i64 60, .int .i64 1] (0, 0) _ rfl (by (with_reducible repeat (first | refine blk_drewN ?_ _ | refine blk_drew ?_ | refine blk_alloc ?_ _)); refine blk_put (cs := #[.int .i64 60, .int .i64 0]) ?_ 1 _ rfl; (with_reducible repeat (first | refine blk_drewN ?_ _ | refine blk_drew ?_ | refine blk_alloc ?_ _)); refine blk_put (cs := #[.int .i64 0, .int .i64 0]) ?_ 0 _ rfl; (with_reducible repeat (first | refine blk_drewN ?_ _ | refine blk_drew ?_ | refine blk_alloc ?_ _)); exact BK101.out) Try.underlying39 rfl (by kernel_rfl)) rfl ?_
                                          exact ⟨by first | rfl | (simp [errW_none, errW_some] <;> rfl) | (simp [*, errW_none, errW_some] <;> rfl), by repeat (first | (with_reducible first | exact HB.out | apply below_alloc | apply pw_below_drewN | apply below_drew1 | refine below_set ?_ GE101.out) | exact HB.out)⟩
                                        · rw [if_neg c59] at H
                                          have c59b0 : (a0.toList == ([42] : List UInt8)) = false := beq_eq_false_iff_ne.mpr c59
                                          have c59b1 : (a0.toList != ([42] : List UInt8)) = true := bne_iff_ne.mpr c59
                                          by_cases c62 : a0.toList = ([47] : List UInt8)
                                          · rw [if_pos c62] at H
                                            have c62b0 : (a0.toList == ([47] : List UInt8)) = true := beq_iff_eq.mpr c62
                                            have c62b1 : (a0.toList != ([47] : List UInt8)) = false := bne_eq_false_iff_eq.mpr c62
                                            clear c62
                                            simp only [Option.some.injEq, Prod.mk.injEq] at H
                                            obtain ⟨rfl, rfl, rfl⟩ := H
                                            go_enter Try.func17, Try.ntmps17
                                            go_wp2_with (first | ((with_reducible refine gate_dst (N := 2) rfl ?_); refine box_event ?hg (N := 2) ?hd (cs := #[.int .i64 0, .int .i64 0]) (t := 39) ?hr ?_; (case hd => rfl); (case hg => rfl); (case hr => first | (go_simp; done) | (go_simp; rfl)); intro gb101 hg w63 hbox hb; have n0_ := Aside0.mk (below_step (by repeat (first | (with_reducible first | exact HB.out | apply below_alloc | apply pw_below_drewN | apply below_drew1) | exact HB.out)) hb); have n1_ := Aside0.mk (hbox); have n2_ := Aside0.mk ((by rw [hg]; exact (below_size (by repeat (first | (with_reducible first | exact HB.out | apply below_alloc | apply pw_below_drewN | apply below_drew1) | exact HB.out))) : w.heap.size ≤ gb101)); have n3_ := Aside0.mk ((by rw [hg]; exact (below_size (by repeat (first | (with_reducible first | exact HB.out | apply below_alloc | apply pw_below_drewN | apply below_drew1) | exact HB.out))) : w.heap.size ≤ gb101)); clear HB; have HB := n0_; have BK101 := n1_; have GW101 := n2_; have GE101 := n3_; clear n0_ n1_ n2_ n3_; clear hb hbox hg; have hcz64_0 : w63.cell? ⟨gb101, 0, none⟩ = some (.int .i64 0) := (blk_cell BK101.out 0).trans rfl; have hcz64_1 : w63.cell? ⟨gb101, 1, none⟩ = some (.int .i64 0) := (blk_cell BK101.out 1).trans rfl; have hfz64_0 := blk_frozen BK101.out 0; have hfz64_1 := blk_frozen BK101.out 1))
                                            refine bodyPost_ret (results_ct rfl _ _ gb101 39 #[.int .i64 60, .int .i64 1] (0, 0) _ rfl (by (with_reducible repeat (first | refine blk_drewN ?_ _ | refine blk_drew ?_ | refine blk_alloc ?_ _)); refine blk_put (cs := #[.int .i64 60, .int .i64 0]) ?_ 1 _ rfl; (with_reducible repeat (first | refine blk_drewN ?_ _ | refine blk_drew ?_ | refine blk_alloc ?_ _)); refine blk_put (cs := #[.int .i64 0, .int .i64 0]) ?_ 0 _ rfl; (with_reducible repeat (first | refine blk_drewN ?_ _ | refine blk_drew ?_ | refine blk_alloc ?_ _)); exact BK101.out) Try.underlying39 rfl (by kernel_rfl)) rfl ?_
                                            exact ⟨by first | rfl | (simp [errW_none, errW_some] <;> rfl) | (simp [*, errW_none, errW_some] <;> rfl), by repeat (first | (with_reducible first | exact HB.out | apply below_alloc | apply pw_below_drewN | apply below_drew1 | refine below_set ?_ GE101.out) | exact HB.out)⟩
                                          · rw [if_neg c62] at H
                                            have c62b0 : (a0.toList == ([47] : List UInt8)) = false := beq_eq_false_iff_ne.mpr c62
                                            have c62b1 : (a0.toList != ([47] : List UInt8)) = true := bne_iff_ne.mpr c62
                                            by_cases c65 : a0.toList = ([37] : List UInt8)
                                            · rw [if_pos c65] at H
                                              have c65b0 : (a0.toList == ([37] : List UInt8)) = true := beq_iff_eq.mpr c65
                                              have c65b1 : (a0.toList != ([37] : List UInt8)) = false := bne_eq_false_iff_eq.mpr c65
                                              clear c65
                                              simp only [Option.some.injEq, Prod.mk.injEq] at H
                                              obtain ⟨rfl, rfl, rfl⟩ := H
                                              go_enter Try.func17, Try.ntmps17
                                              go_wp2_with (first | ((with_reducible refine gate_dst (N := 2) rfl ?_); refine box_event ?hg (N := 2) ?hd (cs := #[.int .i64 0, .int .i64 0]) (t := 39) ?hr ?_; (case hd => rfl); (case hg => rfl); (case hr => first | (go_simp; done) | (go_simp; rfl)); intro gb101 hg w66 hbox hb; have n0_ := Aside0.mk (below_step (by repeat (first | (with_reducible first | exact HB.out | apply below_alloc | apply pw_below_drewN | apply below_drew1) | exact HB.out)) hb); have n1_ := Aside0.mk (hbox); have n2_ := Aside0.mk ((by rw [hg]; exact (below_size (by repeat (first | (with_reducible first | exact HB.out | apply below_alloc | apply pw_below_drewN | apply below_drew1) | exact HB.out))) : w.heap.size ≤ gb101)); have n3_ := Aside0.mk ((by rw [hg]; exact (below_size (by repeat (first | (with_reducible first | exact HB.out | apply below_alloc | apply pw_below_drewN | apply below_drew1) | exact HB.out))) : w.heap.size ≤ gb101)); clear HB; have HB := n0_; have BK101 := n1_; have GW101 := n2_; have GE101 := n3_; clear n0_ n1_ n2_ n3_; clear hb hbox hg; have hcz67_0 : w66.cell? ⟨gb101, 0, none⟩ = some (.int .i64 0) := (blk_cell BK101.out 0).trans rfl; have hcz67_1 : w66.cell? ⟨gb101, 1, none⟩ = some (.int .i64 0) := (blk_cell BK101.out 1).trans rfl; have hfz67_0 := blk_frozen BK101.out 0; have hfz67_1 := blk_frozen BK101.out 1))
                                              refine bodyPost_ret (results_ct rfl _ _ gb101 39 #[.int .i64 60, .int .i64 1] (0, 0) _ rfl (by (with_reducible repeat (first | refine blk_drewN ?_ _ | refine blk_drew ?_ | refine blk_alloc ?_ _)); refine blk_put (cs := #[.int .i64 60, .int .i64 0]) ?_ 1 _ rfl; (with_reducible repeat (first | refine blk_drewN ?_ _ | refine blk_drew ?_ | refine blk_alloc ?_ _)); refine blk_put (cs := #[.int .i64 0, .int .i64 0]) ?_ 0 _ rfl; (with_reducible repeat (first | refine blk_drewN ?_ _ | refine blk_drew ?_ | refine blk_alloc ?_ _)); exact BK101.out) Try.underlying39 rfl (by kernel_rfl)) rfl ?_
                                              exact ⟨by first | rfl | (simp [errW_none, errW_some] <;> rfl) | (simp [*, errW_none, errW_some] <;> rfl), by repeat (first | (with_reducible first | exact HB.out | apply below_alloc | apply pw_below_drewN | apply below_drew1 | refine below_set ?_ GE101.out) | exact HB.out)⟩
                                            · rw [if_neg c65] at H
                                              have c65b0 : (a0.toList == ([37] : List UInt8)) = false := beq_eq_false_iff_ne.mpr c65
                                              have c65b1 : (a0.toList != ([37] : List UInt8)) = true := bne_iff_ne.mpr c65
                                              by_cases c68 : a0.toList = ([42, 42] : List UInt8)
                                              · rw [if_pos c68] at H
                                                have c68b0 : (a0.toList == ([42, 42] : List UInt8)) = true := beq_iff_eq.mpr c68
                                                have c68b1 : (a0.toList != ([42, 42] : List UInt8)) = false := bne_eq_false_iff_eq.mpr c68
                                                clear c68
                                                simp only [Option.some.injEq, Prod.mk.injEq] at H
                                                obtain ⟨rfl, rfl, rfl⟩ := H
                                                go_enter Try.func17, Try.ntmps17
                                                go_wp2_with (first | ((with_reducible refine gate_dst (N := 2) rfl ?_); refine box_event ?hg (N := 2) ?hd (cs := #[.int .i64 0, .int .i64 0]) (t := 39) ?hr ?_; (case hd => rfl); (case hg => rfl); (case hr => first | (go_simp; done) | (go_simp; rfl)); intro gb101 hg w69 hbox hb; have n0_ := Aside0.mk (below_step (by repeat (first | (with_reducible first | exact HB.out | apply below_alloc | apply pw_below_drewN | apply below_drew1) | exact HB.out)) hb); have n1_ := Aside0.mk (hbox); have n2_ := Aside0.mk ((by rw [hg]; exact (below_size (by repeat (first | (with_reducible first | exact HB.out | apply below_alloc | apply pw_below_drewN | apply below_drew1) | exact HB.out))) : w.heap.size ≤ gb101)); have n3_ := Aside0.mk ((by rw [hg]; exact (below_size (by repeat (first | (with_reducible first | exact HB.out | apply below_alloc | apply pw_below_drewN | apply below_drew1) | exact HB.out))) : w.heap.size ≤ gb101)); clear HB; have HB := n0_; have BK101 := n1_; have GW101 := n2_; have GE101 := n3_; clear n0_ n1_ n2_ n3_; clear hb hbox hg; have hcz70_0 : w69.cell? ⟨gb101, 0, none⟩ = some (.int .i64 0) := (blk_cell BK101.out 0).trans rfl; have hcz70_1 : w69.cell? ⟨gb101, 1, none⟩ = some (.int .i64 0) := (blk_cell BK101.out 1).trans rfl; have hfz70_0 := blk_frozen BK101.out 0; have hfz70_1 := blk_frozen BK101.out 1))
                                                refine bodyPost_ret (results_ct rfl _ _ gb101 39 #[.int .i64 100, .int .i64 2] (0, 0) _ rfl (by (with_reducible repeat (first | refine blk_drewN ?_ _ | refine blk_drew ?_ | refine blk_alloc ?_ _)); refine blk_put (cs := #[.int .i64 100, .int .i64 0]) ?_ 1 _ rfl; (with_reducible repeat (first | refine blk_drewN ?_ _ | refine blk_drew ?_ | refine blk_alloc ?_ _)); refine blk_put (cs := #[.int .i64 0, .int .i64 0]) ?_ 0 _ rfl; (with_reducible repeat (first | refine blk_drewN ?_ _ | refine blk_drew ?_ | refine blk_alloc ?_ _)); exact BK101.out) Try.underlying39 rfl (by kernel_rfl)) rfl ?_
                                                exact ⟨by first | rfl | (simp [errW_none, errW_some] <;> rfl) | (simp [*, errW_none, errW_some] <;> rfl), by repeat (first | (with_reducible first | exact HB.out | apply below_alloc | apply pw_below_drewN | apply below_drew1 | refine below_set ?_ GE101.out) | exact HB.out)⟩
                                              · rw [if_neg c68] at H
                                                have c68b0 : (a0.toList == ([42, 42] : List UInt8)) = false := beq_eq_false_iff_ne.mpr c68
                                                have c68b1 : (a0.toList != ([42, 42] : List UInt8)) = true := bne_iff_ne.mpr c68
                                                by_cases c71 : a0.toList = ([94] : List UInt8)
                                                · rw [if_pos c71] at H
                                                  have c71b0 : (a0.toList == ([94] : List UInt8)) = true := beq_iff_eq.mpr c71
                                                  have c71b1 : (a0.toList != ([94] : List UInt8)) = false := bne_eq_false_iff_eq.mpr c71
                                                  clear c71
                                                  simp only [Option.some.injEq, Prod.mk.injEq] at H
                                                  obtain ⟨rfl, rfl, rfl⟩ := H
                                                  go_enter Try.func17, Try.ntmps17
                                                  go_wp2_with (first | ((with_reducible refine gate_dst (N := 2) rfl ?_); refine box_event ?hg (N := 2) ?hd (cs := #[.int .i64 0, .int .i64 0]) (t := 39) ?hr ?_; (case hd => rfl); (case hg => rfl); (case hr => first | (go_simp; done) | (go_simp; rfl)); intro gb101 hg w72 hbox hb; have n0_ := Aside0.mk (below_step (by repeat (first | (with_reducible first | exact HB.out | apply below_alloc | apply pw_below_drewN | apply below_drew1) | exact HB.out)) hb); have n1_ := Aside0.mk (hbox); have n2_ := Aside0.mk ((by rw [hg]; exact (below_size (by repeat (first | (with_reducible first | exact HB.out | apply below_alloc | apply pw_below_drewN | apply below_drew1) | exact HB.out))) : w.heap.size ≤ gb101)); have n3_ := Aside0.mk ((by rw [hg]; exact (below_size (by repeat (first | (with_reducible first | exact HB.out | apply below_alloc | apply pw_below_drewN | apply below_drew1) | exact HB.out))) : w.heap.size ≤ gb101)); clear HB; have HB := n0_; have BK101 := n1_; have GW101 := n2_; have GE101 := n3_; clear n0_ n1_ n2_ n3_; clear hb hbox hg; have hcz73_0 : w72.cell? ⟨gb101, 0, none⟩ = some (.int .i64 0) := (blk_cell BK101.out 0).trans rfl; have hcz73_1 : w72.cell? ⟨gb101, 1, none⟩ = some (.int .i64 0) := (blk_cell BK101.out 1).trans rfl; have hfz73_0 := blk_frozen BK101.out 0; have hfz73_1 := blk_frozen BK101.out 1))
                                                  refine bodyPost_ret (results_ct rfl _ _ gb101 39 #[.int .i64 100, .int .i64 2] (0, 0) _ rfl (by (with_reducible repeat (first | refine blk_drewN ?_ _ | refine blk_drew ?_ | refine blk_alloc ?_ _)); refine blk_put (cs := #[.int .i64 100, .int .i64 0]) ?_ 1 _ rfl; (with_reducible repeat (first | refine blk_drewN ?_ _ | refine blk_drew ?_ | refine blk_alloc ?_ _)); refine blk_put (cs := #[.int .i64 0, .int .i64 0]) ?_ 0 _ rfl; (with_reducible repeat (first | refine blk_drewN ?_ _ | refine blk_drew ?_ | refine blk_alloc ?_ _)); exact BK101.out) Try.underlying39 rfl (by kernel_rfl)) rfl ?_
                                                  exact ⟨by first | rfl | (simp [errW_none, errW_some] <;> rfl) | (simp [*, errW_none, errW_some] <;> rfl), by repeat (first | (with_reducible first | exact HB.out | apply below_alloc | apply pw_below_drewN | apply below_drew1 | refine below_set ?_ GE101.out) | exact HB.out)⟩
                                                · rw [if_neg c71] at H
                                                  have c71b0 : (a0.toList == ([94] : List UInt8)) = false := beq_eq_false_iff_ne.mpr c71
                                                  have c71b1 : (a0.toList != ([94] : List UInt8)) = true := bne_iff_ne.mpr c71
                                                  by_cases c74 : a0.toList = ([63, 63] : List UInt8)
                                                  · rw [if_pos c74] at H
                                                    have c74b0 : (a0.toList == ([63, 63] : List UInt8)) = true := beq_iff_eq.mpr c74
                                                    have c74b1 : (a0.toList != ([63, 63] : List UInt8)) = false := bne_eq_false_iff_eq.mpr c74
                                                    clear c74
                                                    simp only [Option.some.injEq, Prod.mk.injEq] at H
                                                    obtain ⟨rfl, rfl, rfl⟩ := H
                                                    go_enter Try.func17, Try.ntmps17
                                                    go_wp2_with (first | ((with_reducible refine gate_dst (N := 2) rfl ?_); refine box_event ?hg (N := 2) ?hd (cs := #[.int .i64 0, .int .i64 0]) (t := 39) ?hr ?_; (case hd => rfl); (case hg => rfl); (case hr => first | (go_simp; done) | (go_simp; rfl)); intro gb101 hg w75 hbox hb; have n0_ := Aside0.mk (below_step (by repeat (first | (with_reducible first | exact HB.out | apply below_alloc | apply pw_below_drewN | apply below_drew1) | exact HB.out)) hb); have n1_ := Aside0.mk (hbox); have n2_ := Aside0.mk ((by rw [hg]; exact (below_size (by repeat (first | (with_reducible first | exact HB.out | apply below_alloc | apply pw_below_drewN | apply below_drew1) | exact HB.out))) : w.heap.size ≤ gb101)); have n3_ := Aside0.mk ((by rw [hg]; exact (below_size (by repeat (first | (with_reducible first | exact HB.out | apply below_alloc | apply pw_below_drewN | apply below_drew1) | exact HB.out))) : w.heap.size ≤ gb101)); clear HB; have HB := n0_; have BK101 := n1_; have GW101 := n2_; have GE101 := n3_; clear n0_ n1_ n2_ n3_; clear hb hbox hg; have hcz76_0 : w75.cell? ⟨gb101, 0, none⟩ = some (.int .i64 0) := (blk_cell BK101.out 0).trans rfl; have hcz76_1 : w75.cell? ⟨gb101, 1, none⟩ = some (.int .i64 0) := (blk_cell BK101.out 1).trans rfl; have hfz76_0 := blk_frozen BK101.out 0; have hfz76_1 := blk_frozen BK101.out 1))
                                                    refine bodyPost_ret (results_ct rfl _ _ gb101 39 #[.int .i64 500, .int .i64 1] (0, 0) _ rfl (by (with_reducible repeat (first | refine blk_drewN ?_ _ | refine blk_drew ?_ | refine blk_alloc ?_ _)); refine blk_put (cs := #[.int .i64 500, .int .i64 0]) ?_ 1 _ rfl; (with_reducible repeat (first | refine blk_drewN ?_ _ | refine blk_drew ?_ | refine blk_alloc ?_ _)); refine blk_put (cs := #[.int .i64 0, .int .i64 0]) ?_ 0 _ rfl; (with_reducible repeat (first | refine blk_drewN ?_ _ | refine blk_drew ?_ | refine blk_alloc ?_ _)); exact BK101.out) Try.underlying39 rfl (by kernel_rfl)) rfl ?_
                                                    exact ⟨by first | rfl | (simp [errW_none, errW_some] <;> rfl) | (simp [*, errW_none, errW_some] <;> rfl), by repeat (first | (with_reducible first | exact HB.out | apply below_alloc | apply pw_below_drewN | apply below_drew1 | refine below_set ?_ GE101.out) | exact HB.out)⟩
                                                  · rw [if_neg c74] at H
                                                    have c74b0 : (a0.toList == ([63, 63] : List UInt8)) = false := beq_eq_false_iff_ne.mpr c74
                                                    have c74b1 : (a0.toList != ([63, 63] : List UInt8)) = true := bne_iff_ne.mpr c74
                                                    simp only [Option.some.injEq, Prod.mk.injEq] at H
                                                    obtain ⟨rfl, rfl, rfl⟩ := H
                                                    go_enter Try.func17, Try.ntmps17
                                                    go_wp2_with (first | ((with_reducible refine gate_dst (N := 2) rfl ?_); refine box_event ?hg (N := 2) ?hd (cs := #[.int .i64 0, .int .i64 0]) (t := 39) ?hr ?_; (case hd => rfl); (case hg => rfl); (case hr => first | (go_simp; done) | (go_simp; rfl)); intro gb101 hg w77 hbox hb; have n0_ := Aside0.mk (below_step (by repeat (first | (with_reducible first | exact HB.out | apply below_alloc | apply pw_below_drewN | apply below_drew1) | exact HB.out)) hb); have n1_ := Aside0.mk (hbox); have n2_ := Aside0.mk ((by rw [hg]; exact (below_size (by repeat (first | (with_reducible first | exact HB.out | apply below_alloc | apply pw_below_drewN | apply below_drew1) | exact HB.out))) : w.heap.size ≤ gb101)); have n3_ := Aside0.mk ((by rw [hg]; exact (below_size (by repeat (first | (with_reducible first | exact HB.out | apply below_alloc | apply pw_below_drewN | apply below_drew1) | exact HB.out))) : w.heap.size ≤ gb101)); clear HB; have HB := n0_; have BK101 := n1_; have GW101 := n2_; have GE101 := n3_; clear n0_ n1_ n2_ n3_; clear hb hbox hg; have hcz78_0 : w77.cell? ⟨gb101, 0, none⟩ = some (.int .i64 0) := (blk_cell BK101.out 0).trans rfl; have hcz78_1 : w77.cell? ⟨gb101, 1, none⟩ = some (.int .i64 0) := (blk_cell BK101.out 1).trans rfl; have hfz78_0 := blk_frozen BK101.out 0; have hfz78_1 := blk_frozen BK101.out 1))
                                                    refine bodyPost_ret (results_ct rfl _ _ gb101 39 #[.int .i64 0, .int .i64 0] (0, 0) _ rfl (by (with_reducible repeat (first | refine blk_drewN ?_ _ | refine blk_drew ?_ | refine blk_alloc ?_ _)); refine blk_put (cs := #[.int .i64 0, .int .i64 0]) ?_ 1 _ rfl; (with_reducible repeat (first | refine blk_drewN ?_ _ | refine blk_drew ?_ | refine blk_alloc ?_ _)); refine blk_put (cs := #[.int .i64 0, .int .i64 0]) ?_ 0 _ rfl; (with_reducible repeat (first | refine blk_drewN ?_ _ | refine blk_drew ?_ | refine blk_alloc ?_ _)); exact BK101.out) Try.underlying39 rfl (by kernel_rfl)) rfl ?_
                                                    exact ⟨by first | rfl | (simp [errW_none, errW_some] <;> rfl) | (simp [*, errW_none, errW_some] <;> rfl), by repeat (first | (with_reducible first | exact HB.out | apply below_alloc | apply pw_below_drewN | apply below_drew1 | refine below_set ?_ GE101.out) | exact HB.out)⟩

/-! ### impl_Binary: function 10 -/
def impl_Binary.f (a0 : ByteArray) : Option (Int × Int × Bool) := (operator_FindBinary.f a0).bind fun bt102 => (some (bt102.1, bt102.2.1, bt102.2.2))
set_option maxHeartbeats 8000000 in
set_option maxRecDepth 100000 in
theorem impl_Binary.calls (a0 : ByteArray) (r1 : Int) (r2 : Int) (r3 : Bool) (w : World) (h : impl_Binary.f a0 = some (r1, r2, r3)) :
    Calls Try.prog 10 #[.string a0] w fun e w' => e = .returned (.tuple #[.int .i64 r1, .int .i64 r2, .bool r3]) ∧ Below w.heap.size w w' := by
  have hu39 := Try.underlying39
  have HB := Aside0.mk (Below.refl w.heap.size w)
  have H : ((operator_FindBinary.f a0).bind fun bt102 => (some (bt102.1, bt102.2.1, bt102.2.2))) = some (r1, r2, r3) := h
  clear h
  replace H := Option.bind_eq_some_iff.mp H
  obtain ⟨⟨t102, t103, t104⟩, A20, H⟩ := H
  replace H : (some (t102, t103, t104)) = some (r1, r2, r3) := H
  have A2 := Aside0.mk A20
  clear A20
  simp only [Option.some.injEq, Prod.mk.injEq] at H
  obtain ⟨rfl, rfl, rfl⟩ := H
  go_enter Try.func10, Try.ntmps10
  go_wp2_with (first | (go_at_call 17; (with_reducible refine (operator_FindBinary.calls a0 t102 t103 t104 _ A2.out).mono ?_); rintro e w3 ⟨rfl, hb⟩; have n0_ := Aside0.mk (below_step (by repeat (first | (with_reducible first | exact HB.out | apply below_alloc | apply pw_below_drewN | apply below_drew1) | exact HB.out)) hb); clear HB; have HB := n0_; clear n0_; (try clear hb); (try clear hb2); (try clear hk); (try clear hi)) | ((with_reducible refine gate_dst (N := 5) rfl ?_); refine box_event ?hg (N := 5) ?hd (cs := #[.int .i64 0, .int .i64 0]) (t := 39) ?hr ?_; (case hd => rfl); (case hg => rfl); (case hr => first | (go_simp; done) | (go_simp; rfl)); intro gb105 hg w4 hbox hb; have n0_ := Aside0.mk (below_step (by repeat (first | (with_reducible first | exact HB.out | apply below_alloc | apply pw_below_drewN | apply below_drew1) | exact HB.out)) hb); have n1_ := Aside0.mk (hbox); have n2_ := Aside0.mk ((by rw [hg]; exact (below_size (by repeat (first | (with_reducible first | exact HB.out | apply below_alloc | apply pw_below_drewN | apply below_drew1) | exact HB.out))) : w.heap.size ≤ gb105)); have n3_ := Aside0.mk ((by rw [hg]; exact (below_size (by repeat (first | (with_reducible first | exact HB.out | apply below_alloc | apply pw_below_drewN | apply below_drew1) | exact HB.out))) : w.heap.size ≤ gb105)); clear HB; have HB := n0_; have BK105 := n1_; have GW105 := n2_; have GE105 := n3_; clear n0_ n1_ n2_ n3_; clear hb hbox hg; have hcz5_0 : w4.cell? ⟨gb105, 0, none⟩ = some (.int .i64 0) := (blk_cell BK105.out 0).trans rfl; have hcz5_1 : w4.cell? ⟨gb105, 1, none⟩ = some (.int .i64 0) := (blk_cell BK105.out 1).trans rfl; have hfz5_0 := blk_frozen BK105.out 0; have hfz5_1 := blk_frozen BK105.out 1))
  repeat (go_quiet (first | (go_at_call 17; (with_reducible refine (operator_FindBinary.calls a0 t102 t103 t104 _ A2.out).mono ?_); rintro e w3 ⟨rfl, hb⟩; have n0_ := Aside0.mk (below_step (by repeat (first | (with_reducible first | exact HB.out | apply below_alloc | apply pw_below_drewN | apply below_drew1) | exact HB.out)) hb); clear HB; have HB := n0_; clear n0_; (try clear hb); (try clear hb2); (try clear hk); (try clear hi)) | ((with_reducible refine gate_dst (N := 5) rfl ?_); refine box_event ?hg (N := 5) ?hd (cs := #[.int .i64 0, .int .i64 0]) (t := 39) ?hr ?_; (case hd => rfl); (case hg => rfl); (case hr => first | (go_simp; done) | (go_simp; rfl)); intro gb105 hg w4 hbox hb; have n0_ := Aside0.mk (below_step (by repeat (first | (with_reducible first | exact HB.out | apply below_alloc | apply pw_below_drewN | apply below_drew1) | exact HB.out)) hb); have n1_ := Aside0.mk (hbox); have n2_ := Aside0.mk ((by rw [hg]; exact (below_size (by repeat (first | (with_reducible first | exact HB.out | apply below_alloc | apply pw_below_drewN | apply below_drew1) | exact HB.out))) : w.heap.size ≤ gb105)); have n3_ := Aside0.mk ((by rw [hg]; exact (below_size (by repeat (first | (with_reducible first | exact HB.out | apply below_alloc | apply pw_below_drewN | apply below_drew1) | exact HB.out))) : w.heap.size ≤ gb105)); clear HB; have HB := n0_; have BK105 := n1_; have GW105 := n2_; have GE105 := n3_; clear n0_ n1_ n2_ n3_; clear hb hbox hg; have hcz5_0 : w4.cell? ⟨gb105, 0, none⟩ = some (.int .i64 0) := (blk_cell BK105.out 0).trans rfl; have hcz5_1 : w4.cell? ⟨gb105, 1, none⟩ = some (.int .i64 0) := (blk_cell BK105.out 1).trans rfl; have hfz5_0 := blk_frozen BK105.out 0; have hfz5_1 := blk_frozen BK105.out 1)); try go_wp2_with (first | (go_at_call 17; (with_reducible refine (operator_FindBinary.calls a0 t102 t103 t104 _ A2.out).mono ?_); rintro e w3 ⟨rfl, hb⟩; have n0_ := Aside0.mk (below_step (by repeat (first | (with_reducible first | exact HB.out | apply below_alloc | apply pw_below_drewN | apply below_drew1) | exact HB.out)) hb); clear HB; have HB := n0_; clear n0_; (try clear hb); (try clear hb2); (try clear hk); (try clear hi)) | ((with_reducible refine gate_dst (N := 5) rfl ?_); refine box_event ?hg (N := 5) ?hd (cs := #[.int .i64 0, .int .i64 0]) (t := 39) ?hr ?_; (case hd => rfl); (case hg => rfl); (case hr => first | (go_simp; done) | (go_simp; rfl)); intro gb105 hg w4 hbox hb; have n0_ := Aside0.mk (below_step (by repeat (first | (with_reducible first | exact HB.out | apply below_alloc | apply pw_below_drewN | apply below_drew1) | exact HB.out)) hb); have n1_ := Aside0.mk (hbox); have n2_ := Aside0.mk ((by rw [hg]; exact (below_size (by repeat (first | (with_reducible first | exact HB.out | apply below_alloc | apply pw_below_drewN | apply below_drew1) | exact HB.out))) : w.heap.size ≤ gb105)); have n3_ := Aside0.mk ((by rw [hg]; exact (below_size (by repeat (first | (with_reducible first | exact HB.out | apply below_alloc | apply pw_below_drewN | apply below_drew1) | exact HB.out))) : w.heap.size ≤ gb105)); clear HB; have HB := n0_; have BK105 := n1_; have GW105 := n2_; have GE105 := n3_; clear n0_ n1_ n2_ n3_; clear hb hbox hg; have hcz5_0 : w4.cell? ⟨gb105, 0, none⟩ = some (.int .i64 0) := (blk_cell BK105.out 0).trans rfl; have hcz5_1 : w4.cell? ⟨gb105, 1, none⟩ = some (.int .i64 0) := (blk_cell BK105.out 1).trans rfl; have hfz5_0 := blk_frozen BK105.out 0; have hfz5_1 := blk_frozen BK105.out 1)))
  go_ret3
  exact ⟨by first | rfl | (simp [errW_none, errW_some] <;> rfl) | (simp [*, errW_none, errW_some] <;> rfl), by repeat (first | (with_reducible first | exact HB.out | apply below_alloc | apply pw_below_drewN | apply below_drew1 | refine below_set ?_ GE105.out) | exact HB.out)⟩

/-! ### operator_FindUnary: function 18 -/
def operator_FindUnary.f (a0 : ByteArray) : Option (Int × Int × Bool) := if a0.toList = ([110, 111, 116] : List UInt8) then (some (50, 1, true)) else (if a0.toList = ([33] : List UInt8) then (some (50, 1, true)) else (if a0.toList = ([45] : List UInt8) then (some (90, 1, true)) else (if a0.toList = ([43] : List UInt8) then (some (90, 1, true)) else (some (0, 0, false)))))
set_option maxHeartbeats 8000000 in
set_option maxRecDepth 100000 in
theorem operator_FindUnary.calls (a0 : ByteArray) (r1 : Int) (r2 : Int) (r3 : Bool) (w : World) (h : operator_FindUnary.f a0 = some (r1, r2, r3)) :
    Calls Try.prog 18 #[.string a0] w fun e w' => e = .returned (.tuple #[.agg #[.int .i64 r1, .int .i64 r2], .bool r3]) ∧ Below w.heap.size w w' := by
  have hu39 := Try.underlying39
  have HB := Aside0.mk (Below.refl w.heap.size w)
  have H : (if a0.toList = ([110, 111, 116] : List UInt8) then (some (50, 1, true)) else (if a0.toList = ([33] : List UInt8) then (some (50, 1, true)) else (if a0.toList = ([45] : List UInt8) then (some (90, 1, true)) else (if a0.toList = ([43] : List UInt8) then (some (90, 1, true)) else (some (0, 0, false)))))) = some (r1, r2, r3) := h
  clear h
  by_cases c2 : a0.toList = ([110, 111, 116] : List UInt8)
  · rw [if_pos c2] at H
    have c2b0 : (a0.toList == ([110, 111, 116] : List UInt8)) = true := beq_iff_eq.mpr c2
    have c2b1 : (a0.toList != ([110, 111, 116] : List UInt8)) = false := bne_eq_false_iff_eq.mpr c2
    clear c2
    simp only [Option.some.injEq, Prod.mk.injEq] at H
    obtain ⟨rfl, rfl, rfl⟩ := H
    go_enter Try.func18, Try.ntmps18
    go_wp2_with (first | ((with_reducible refine gate_dst (N := 2) rfl ?_); refine box_event ?hg (N := 2) ?hd (cs := #[.int .i64 0, .int .i64 0]) (t := 39) ?hr ?_; (case hd => rfl); (case hg => rfl); (case hr => first | (go_simp; done) | (go_simp; rfl)); intro gb106 hg w3 hbox hb; have n0_ := Aside0.mk (below_step (by repeat (first | (with_reducible first | exact HB.out | apply below_alloc | apply pw_below_drewN | apply below_drew1) | exact HB.out)) hb); have n1_ := Aside0.mk (hbox); have n2_ := Aside0.mk ((by rw [hg]; exact (below_size (by repeat (first | (with_reducible first | exact HB.out | apply below_alloc | apply pw_below_drewN | apply below_drew1) | exact HB.out))) : w.heap.size ≤ gb106)); have n3_ := Aside0.mk ((by rw [hg]; exact (below_size (by repeat (first | (with_reducible first | exact HB.out | apply below_alloc | apply pw_below_drewN | apply below_drew1) | exact HB.out))) : w.heap.size ≤ gb106)); clear HB; have HB := n0_; have BK106 := n1_; have GW106 := n2_; have GE106 := n3_; clear n0_ n1_ n2_ n3_; clear hb hbox hg; have hcz4_0 : w3.cell? ⟨gb106, 0, none⟩ = some (.int .i64 0) := (blk_cell BK106.out 0).trans rfl; have hcz4_1 : w3.cell? ⟨gb106, 1, none⟩ = some (.int .i64 0) := (blk_cell BK106.out 1).trans rfl; have hfz4_0 := blk_frozen BK106.out 0; have hfz4_1 := blk_frozen BK106.out 1))
    refine bodyPost_ret (results_ct rfl _ _ gb106 39 #[.int .i64 50, .int .i64 1] (0, 0) _ rfl (by (with_reducible repeat (first | refine blk_drewN ?_ _ | refine blk_drew ?_ | refine blk_alloc ?_ _)); refine blk_put (cs := #[.int .i64 50, .int .i64 0]) ?_ 1 _ rfl; (with_reducible repeat (first | refine blk_drewN ?_ _ | refine blk_drew ?_ | refine blk_alloc ?_ _)); refine blk_put (cs := #[.int .i64 0, .int .i64 0]) ?_ 0 _ rfl; (with_reducible repeat (first | refine blk_drewN ?_ _ | refine blk_drew ?_ | refine blk_alloc ?_ _)); exact BK106.out) Try.underlying39 rfl (by kernel_rfl)) rfl ?_
    exact ⟨by first | rfl | (simp [errW_none, errW_some] <;> rfl) | (simp [*, errW_none, errW_some] <;> rfl), by repeat (first | (with_reducible first | exact HB.out | apply below_alloc | apply pw_below_drewN | apply below_drew1 | refine below_set ?_ GE106.out) | exact HB.out)⟩
  · rw [if_neg c2] at H
    have c2b0 : (a0.toList == ([110, 111, 116] : List UInt8)) = false := beq_eq_false_iff_ne.mpr c2
    have c2b1 : (a0.toList != ([110, 111, 116] : List UInt8)) = true := bne_iff_ne.mpr c2
    by_cases c5 : a0.toList = ([33] : List UInt8)
    · rw [if_pos c5] at H
      have c5b0 : (a0.toList == ([33] : List UInt8)) = true := beq_iff_eq.mpr c5
      have c5b1 : (a0.toList != ([33] : List UInt8)) = false := bne_eq_false_iff_eq.mpr c5
      clear c5
      simp only [Option.some.injEq, Prod.mk.injEq] at H
      obtain ⟨rfl, rfl, rfl⟩ := H
      go_enter Try.func18, Try.ntmps18
      go_wp2_with (first | ((with_reducible refine gate_dst (N := 2) rfl ?_); refine box_event ?hg (N := 2) ?hd (cs := #[.int .i64 0, .int .i64 0]) (t := 39) ?hr ?_; (case hd => rfl); (case hg => rfl); (case hr => first | (go_simp; done) | (go_simp; rfl)); intro gb106 hg w6 hbox hb; have n0_ := Aside0.mk (below_step (by repeat (first | (with_reducible first | exact HB.out | apply below_alloc | apply pw_below_drewN | apply below_drew1) | exact HB.out)) hb); have n1_ := Aside0.mk (hbox); have n2_ := Aside0.mk ((by rw [hg]; exact (below_size (by repeat (first | (with_reducible first | exact HB.out | apply below_alloc | apply pw_below_drewN | apply below_drew1) | exact HB.out))) : w.heap.size ≤ gb106)); have n3_ := Aside0.mk ((by rw [hg]; exact (below_size (by repeat (first | (with_reducible first | exact HB.out | apply below_alloc | apply pw_below_drewN | apply below_drew1) | exact HB.out))) : w.heap.size ≤ gb106)); clear HB; have HB := n0_; have BK106 := n1_; have GW106 := n2_; have GE106 := n3_; clear n0_ n1_ n2_ n3_; clear hb hbox hg; have hcz7_0 : w6.cell? ⟨gb106, 0, none⟩ = some (.int .i64 0) := (blk_cell BK106.out 0).trans rfl; have hcz7_1 : w6.cell? ⟨gb106, 1, none⟩ = some (.int .i64 0) := (blk_cell BK106.out 1).trans rfl; have hfz7_0 := blk_frozen BK106.out 0; have hfz7_1 := blk_frozen BK106.out 1))
      refine bodyPost_ret (results_ct rfl _ _ gb106 39 #[.int .i64 50, .int .i64 1] (0, 0) _ rfl (by (with_reducible repeat (first | refine blk_drewN ?_ _ | refine blk_drew ?_ | refine blk_alloc ?_ _)); refine blk_put (cs := #[.int .i64 50, .int .i64 0]) ?_ 1 _ rfl; (with_reducible repeat (first | refine blk_drewN ?_ _ | refine blk_drew ?_ | refine blk_alloc ?_ _)); refine blk_put (cs := #[.int .i64 0, .int .i64 0]) ?_ 0 _ rfl; (with_reducible repeat (first | refine blk_drewN ?_ _ | refine blk_drew ?_ | refine blk_alloc ?_ _)); exact BK106.out) Try.underlying39 rfl (by kernel_rfl)) rfl ?_
      exact ⟨by first | rfl | (simp [errW_none, errW_some] <;> rfl) | (simp [*, errW_none, errW_some] <;> rfl), by repeat (first | (with_reducible first | exact HB.out | apply below_alloc | apply pw_below_drewN | apply below_drew1 | refine below_set ?_ GE106.out) | exact HB.out)⟩
    · rw [if_neg c5] at H
      have c5b0 : (a0.toList == ([33] : List UInt8)) = false := beq_eq_false_iff_ne.mpr c5
      have c5b1 : (a0.toList != ([33] : List UInt8)) = true := bne_iff_ne.mpr c5
      by_cases c8 : a0.toList = ([45] : List UInt8)
      · rw [if_pos c8] at H
        have c8b0 : (a0.toList == ([45] : List UInt8)) = true := beq_iff_eq.mpr c8
        have c8b1 : (a0.toList != ([45] : List UInt8)) = false := bne_eq_false_iff_eq.mpr c8
        clear c8
        simp only [Option.some.injEq, Prod.mk.injEq] at H
        obtain ⟨rfl, rfl, rfl⟩ := H
        go_enter Try.func18, Try.ntmps18
        go_wp2_with (first | ((with_reducible refine gate_dst (N := 2) rfl ?_); refine box_event ?hg (N := 2) ?hd (cs := #[.int .i64 0, .int .i64 0]) (t := 39) ?hr ?_; (case hd => rfl); (case hg => rfl); (case hr => first | (go_simp; done) | (go_simp; rfl)); intro gb106 hg w9 hbox hb; have n0_ := Aside0.mk (below_step (by repeat (first | (with_reducible first | exact HB.out | apply below_alloc | apply pw_below_drewN | apply below_drew1) | exact HB.out)) hb); have n1_ := Aside0.mk (hbox); have n2_ := Aside0.mk ((by rw [hg]; exact (below_size (by repeat (first | (with_reducible first | exact HB.out | apply below_alloc | apply pw_below_drewN | apply below_drew1) | exact HB.out))) : w.heap.size ≤ gb106)); have n3_ := Aside0.mk ((by rw [hg]; exact (below_size (by repeat (first | (with_reducible first | exact HB.out | apply below_alloc | apply pw_below_drewN | apply below_drew1) | exact HB.out))) : w.heap.size ≤ gb106)); clear HB; have HB := n0_; have BK106 := n1_; have GW106 := n2_; have GE106 := n3_; clear n0_ n1_ n2_ n3_; clear hb hbox hg; have hcz10_0 : w9.cell? ⟨gb106, 0, none⟩ = some (.int .i64 0) := (blk_cell BK106.out 0).trans rfl; have hcz10_1 : w9.cell? ⟨gb106, 1, none⟩ = some (.int .i64 0) := (blk_cell BK106.out 1).trans rfl; have hfz10_0 := blk_frozen BK106.out 0; have hfz10_1 := blk_frozen BK106.out 1))
        refine bodyPost_ret (results_ct rfl _ _ gb106 39 #[.int .i64 90, .int .i64 1] (0, 0) _ rfl (by (with_reducible repeat (first | refine blk_drewN ?_ _ | refine blk_drew ?_ | refine blk_alloc ?_ _)); refine blk_put (cs := #[.int .i64 90, .int .i64 0]) ?_ 1 _ rfl; (with_reducible repeat (first | refine blk_drewN ?_ _ | refine blk_drew ?_ | refine blk_alloc ?_ _)); refine blk_put (cs := #[.int .i64 0, .int .i64 0]) ?_ 0 _ rfl; (with_reducible repeat (first | refine blk_drewN ?_ _ | refine blk_drew ?_ | refine blk_alloc ?_ _)); exact BK106.out) Try.underlying39 rfl (by kernel_rfl)) rfl ?_
        exact ⟨by first | rfl | (simp [errW_none, errW_some] <;> rfl) | (simp [*, errW_none, errW_some] <;> rfl), by repeat (first | (with_reducible first | exact HB.out | apply below_alloc | apply pw_below_drewN | apply below_drew1 | refine below_set ?_ GE106.out) | exact HB.out)⟩
      · rw [if_neg c8] at H
        have c8b0 : (a0.toList == ([45] : List UInt8)) = false := beq_eq_false_iff_ne.mpr c8
        have c8b1 : (a0.toList != ([45] : List UInt8)) = true := bne_iff_ne.mpr c8
        by_cases c11 : a0.toList = ([43] : List UInt8)
        · rw [if_pos c11] at H
          have c11b0 : (a0.toList == ([43] : List UInt8)) = true := beq_iff_eq.mpr c11
          have c11b1 : (a0.toList != ([43] : List UInt8)) = false := bne_eq_false_iff_eq.mpr c11
          clear c11
          simp only [Option.some.injEq, Prod.mk.injEq] at H
          obtain ⟨rfl, rfl, rfl⟩ := H
          go_enter Try.func18, Try.ntmps18
          go_wp2_with (first | ((with_reducible refine gate_dst (N := 2) rfl ?_); refine box_event ?hg (N := 2) ?hd (cs := #[.int .i64 0, .int .i64 0]) (t := 39) ?hr ?_; (case hd => rfl); (case hg => rfl); (case hr => first | (go_simp; done) | (go_simp; rfl)); intro gb106 hg w12 hbox hb; have n0_ := Aside0.mk (below_step (by repeat (first | (with_reducible first | exact HB.out | apply below_alloc | apply pw_below_drewN | apply below_drew1) | exact HB.out)) hb); have n1_ := Aside0.mk (hbox); have n2_ := Aside0.mk ((by rw [hg]; exact (below_size (by repeat (first | (with_reducible first | exact HB.out | apply below_alloc | apply pw_below_drewN | apply below_drew1) | exact HB.out))) : w.heap.size ≤ gb106)); have n3_ := Aside0.mk ((by rw [hg]; exact (below_size (by repeat (first | (with_reducible first | exact HB.out | apply below_alloc | apply pw_below_drewN | apply below_drew1) | exact HB.out))) : w.heap.size ≤ gb106)); clear HB; have HB := n0_; have BK106 := n1_; have GW106 := n2_; have GE106 := n3_; clear n0_ n1_ n2_ n3_; clear hb hbox hg; have hcz13_0 : w12.cell? ⟨gb106, 0, none⟩ = some (.int .i64 0) := (blk_cell BK106.out 0).trans rfl; have hcz13_1 : w12.cell? ⟨gb106, 1, none⟩ = some (.int .i64 0) := (blk_cell BK106.out 1).trans rfl; have hfz13_0 := blk_frozen BK106.out 0; have hfz13_1 := blk_frozen BK106.out 1))
          refine bodyPost_ret (results_ct rfl _ _ gb106 39 #[.int .i64 90, .int .i64 1] (0, 0) _ rfl (by (with_reducible repeat (first | refine blk_drewN ?_ _ | refine blk_drew ?_ | refine blk_alloc ?_ _)); refine blk_put (cs := #[.int .i64 90, .int .i64 0]) ?_ 1 _ rfl; (with_reducible repeat (first | refine blk_drewN ?_ _ | refine blk_drew ?_ | refine blk_alloc ?_ _)); refine blk_put (cs := #[.int .i64 0, .int .i64 0]) ?_ 0 _ rfl; (with_reducible repeat (first | refine blk_drewN ?_ _ | refine blk_drew ?_ | refine blk_alloc ?_ _)); exact BK106.out) Try.underlying39 rfl (by kernel_rfl)) rfl ?_
          exact ⟨by first | rfl | (simp [errW_none, errW_some] <;> rfl) | (simp [*, errW_none, errW_some] <;> rfl), by repeat (first | (with_reducible first | exact HB.out | apply below_alloc | apply pw_below_drewN | apply below_drew1 | refine below_set ?_ GE106.out) | exact HB.out)⟩
        · rw [if_neg c11] at H
          have c11b0 : (a0.toList == ([43] : List UInt8)) = false := beq_eq_false_iff_ne.mpr c11
          have c11b1 : (a0.toList != ([43] : List UInt8)) = true := bne_iff_ne.mpr c11
          simp only [Option.some.injEq, Prod.mk.injEq] at H
          obtain ⟨rfl, rfl, rfl⟩ := H
          go_enter Try.func18, Try.ntmps18
          go_wp2_with (first | ((with_reducible refine gate_dst (N := 2) rfl ?_); refine box_event ?hg (N := 2) ?hd (cs := #[.int .i64 0, .int .i64 0]) (t := 39) ?hr ?_; (case hd => rfl); (case hg => rfl); (case hr => first | (go_simp; done) | (go_simp; rfl)); intro gb106 hg w14 hbox hb; have n0_ := Aside0.mk (below_step (by repeat (first | (with_reducible first | exact HB.out | apply below_alloc | apply pw_below_drewN | apply below_drew1) | exact HB.out)) hb); have n1_ := Aside0.mk (hbox); have n2_ := Aside0.mk ((by rw [hg]; exact (below_size (by repeat (first | (with_reducible first | exact HB.out | apply below_alloc | apply pw_below_drewN | apply below_drew1) | exact HB.out))) : w.heap.size ≤ gb106)); have n3_ := Aside0.mk ((by rw [hg]; exact (below_size (by repeat (first | (with_reducible first | exact HB.out | apply below_alloc | apply pw_below_drewN | apply below_drew1) | exact HB.out))) : w.heap.size ≤ gb106)); clear HB; have HB := n0_; have BK106 := n1_; have GW106 := n2_; have GE106 := n3_; clear n0_ n1_ n2_ n3_; clear hb hbox hg; have hcz15_0 : w14.cell? ⟨gb106, 0, none⟩ = some (.int .i64 0) := (blk_cell BK106.out 0).trans rfl; have hcz15_1 : w14.cell? ⟨gb106, 1, none⟩ = some (.int .i64 0) := (blk_cell BK106.out 1).trans rfl; have hfz15_0 := blk_frozen BK106.out 0; have hfz15_1 := blk_frozen BK106.out 1))
          refine bodyPost_ret (results_ct rfl _ _ gb106 39 #[.int .i64 0, .int .i64 0] (0, 0) _ rfl (by (with_reducible repeat (first | refine blk_drewN ?_ _ | refine blk_drew ?_ | refine blk_alloc ?_ _)); refine blk_put (cs := #[.int .i64 0, .int .i64 0]) ?_ 1 _ rfl; (with_reducible repeat (first | refine blk_drewN ?_ _ | refine blk_drew ?_ | refine blk_alloc ?_ _)); refine blk_put (cs := #[.int .i64 0, .int .i64 0]) ?_ 0 _ rfl; (with_reducible repeat (first | refine blk_drewN ?_ _ | refine blk_drew ?_ | refine blk_alloc ?_ _)); exact BK106.out) Try.underlying39 rfl (by kernel_rfl)) rfl ?_
          exact ⟨by first | rfl | (simp [errW_none, errW_some] <;> rfl) | (simp [*, errW_none, errW_some] <;> rfl), by repeat (first | (with_reducible first | exact HB.out | apply below_alloc | apply pw_below_drewN | apply below_drew1 | refine below_set ?_ GE106.out) | exact HB.out)⟩

/-! ### impl_Unary: function 12 -/
def impl_Unary.f (a0 : ByteArray) : Option (Int × Int × Bool) := (operator_FindUnary.f a0).bind fun bt107 => (some (bt107.1, bt107.2.1, bt107.2.2))
set_option maxHeartbeats 8000000 in
set_option maxRecDepth 100000 in
theorem impl_Unary.calls (a0 : ByteArray) (r1 : Int) (r2 : Int) (r3 : Bool) (w : World) (h : impl_Unary.f a0 = some (r1, r2, r3)) :
    Calls Try.prog 12 #[.string a0] w fun e w' => e = .returned (.tuple #[.int .i64 r1, .int .i64 r2, .bool r3]) ∧ Below w.heap.size w w' := by
  have hu39 := Try.underlying39
  have HB := Aside0.mk (Below.refl w.heap.size w)
  have H : ((operator_FindUnary.f a0).bind fun bt107 => (some (bt107.1, bt107.2.1, bt107.2.2))) = some (r1, r2, r3) := h
  clear h
  replace H := Option.bind_eq_some_iff.mp H
  obtain ⟨⟨t107, t108, t109⟩, A20, H⟩ := H
  replace H : (some (t107, t108, t109)) = some (r1, r2, r3) := H
  have A2 := Aside0.mk A20
  clear A20
  simp only [Option.some.injEq, Prod.mk.injEq] at H
  obtain ⟨rfl, rfl, rfl⟩ := H
  go_enter Try.func12, Try.ntmps12
  go_wp2_with (first | (go_at_call 18; (with_reducible refine (operator_FindUnary.calls a0 t107 t108 t109 _ A2.out).mono ?_); rintro e w3 ⟨rfl, hb⟩; have n0_ := Aside0.mk (below_step (by repeat (first | (with_reducible first | exact HB.out | apply below_alloc | apply pw_below_drewN | apply below_drew1) | exact HB.out)) hb); clear HB; have HB := n0_; clear n0_; (try clear hb); (try clear hb2); (try clear hk); (try clear hi)) | ((with_reducible refine gate_dst (N := 5) rfl ?_); refine box_event ?hg (N := 5) ?hd (cs := #[.int .i64 0, .int .i64 0]) (t := 39) ?hr ?_; (case hd => rfl); (case hg => rfl); (case hr => first | (go_simp; done) | (go_simp; rfl)); intro gb110 hg w4 hbox hb; have n0_ := Aside0.mk (below_step (by repeat (first | (with_reducible first | exact HB.out | apply below_alloc | apply pw_below_drewN | apply below_drew1) | exact HB.out)) hb); have n1_ := Aside0.mk (hbox); have n2_ := Aside0.mk ((by rw [hg]; exact (below_size (by repeat (first | (with_reducible first | exact HB.out | apply below_alloc | apply pw_below_drewN | apply below_drew1) | exact HB.out))) : w.heap.size ≤ gb110)); have n3_ := Aside0.mk ((by rw [hg]; exact (below_size (by repeat (first | (with_reducible first | exact HB.out | apply below_alloc | apply pw_below_drewN | apply below_drew1) | exact HB.out))) : w.heap.size ≤ gb110)); clear HB; have HB := n0_; have BK110 := n1_; have GW110 := n2_; have GE110 := n3_; clear n0_ n1_ n2_ n3_; clear hb hbox hg; have hcz5_0 : w4.cell? ⟨gb110, 0, none⟩ = some (.int .i64 0) := (blk_cell BK110.out 0).trans rfl; have hcz5_1 : w4.cell? ⟨gb110, 1, none⟩ = some (.int .i64 0) := (blk_cell BK110.out 1).trans rfl; have hfz5_0 := blk_frozen BK110.out 0; have hfz5_1 := blk_frozen BK110.out 1))
  repeat (go_quiet (first | (go_at_call 18; (with_reducible refine (operator_FindUnary.calls a0 t107 t108 t109 _ A2.out).mono ?_); rintro e w3 ⟨rfl, hb⟩; have n0_ := Aside0.mk (below_step (by repeat (first | (with_reducible first | exact HB.out | apply below_alloc | apply pw_below_drewN | apply below_drew1) | exact HB.out)) hb); clear HB; have HB := n0_; clear n0_; (try clear hb); (try clear hb2); (try clear hk); (try clear hi)) | ((with_reducible refine gate_dst (N := 5) rfl ?_); refine box_event ?hg (N := 5) ?hd (cs := #[.int .i64 0, .int .i64 0]) (t := 39) ?hr ?_; (case hd => rfl); (case hg => rfl); (case hr => first | (go_simp; done) | (go_simp; rfl)); intro gb110 hg w4 hbox hb; have n0_ := Aside0.mk (below_step (by repeat (first | (with_reducible first | exact HB.out | apply below_alloc | apply pw_below_drewN | apply below_drew1) | exact HB.out)) hb); have n1_ := Aside0.mk (hbox); have n2_ := Aside0.mk ((by rw [hg]; exact (below_size (by repeat (first | (with_reducible first | exact HB.out | apply below_alloc | apply pw_below_drewN | apply below_drew1) | exact HB.out))) : w.heap.size ≤ gb110)); have n3_ := Aside0.mk ((by rw [hg]; exact (below_size (by repeat (first | (with_reducible first | exact HB.out | apply below_alloc | apply pw_below_drewN | apply below_drew1) | exact HB.out))) : w.heap.size ≤ gb110)); clear HB; have HB := n0_; have BK110 := n1_; have GW110 := n2_; have GE110 := n3_; clear n0_ n1_ n2_ n3_; clear hb hbox hg; have hcz5_0 : w4.cell? ⟨gb110, 0, none⟩ = some (.int .i64 0) := (blk_cell BK110.out 0).trans rfl; have hcz5_1 : w4.cell? ⟨gb110, 1, none⟩ = some (.int .i64 0) := (blk_cell BK110.out 1).trans rfl; have hfz5_0 := blk_frozen BK110.out 0; have hfz5_1 := blk_frozen BK110.out 1)); try go_wp2_with (first | (go_at_call 18; (with_reducible refine (operator_FindUnary.calls a0 t107 t108 t109 _ A2.out).mono ?_); rintro e w3 ⟨rfl, hb⟩; have n0_ := Aside0.mk (below_step (by repeat (first | (with_reducible first | exact HB.out | apply below_alloc | apply pw_below_drewN | apply below_drew1) | exact HB.out)) hb); clear HB; have HB := n0_; clear n0_; (try clear hb); (try clear hb2); (try clear hk); (try clear hi)) | ((with_reducible refine gate_dst (N := 5) rfl ?_); refine box_event ?hg (N := 5) ?hd (cs := #[.int .i64 0, .int .i64 0]) (t := 39) ?hr ?_; (case hd => rfl); (case hg => rfl); (case hr => first | (go_simp; done) | (go_simp; rfl)); intro gb110 hg w4 hbox hb; have n0_ := Aside0.mk (below_step (by repeat (first | (with_reducible first | exact HB.out | apply below_alloc | apply pw_below_drewN | apply below_drew1) | exact HB.out)) hb); have n1_ := Aside0.mk (hbox); have n2_ := Aside0.mk ((by rw [hg]; exact (below_size (by repeat (first | (with_reducible first | exact HB.out | apply below_alloc | apply pw_below_drewN | apply below_drew1) | exact HB.out))) : w.heap.size ≤ gb110)); have n3_ := Aside0.mk ((by rw [hg]; exact (below_size (by repeat (first | (with_reducible first | exact HB.out | apply below_alloc | apply pw_below_drewN | apply below_drew1) | exact HB.out))) : w.heap.size ≤ gb110)); clear HB; have HB := n0_; have BK110 := n1_; have GW110 := n2_; have GE110 := n3_; clear n0_ n1_ n2_ n3_; clear hb hbox hg; have hcz5_0 : w4.cell? ⟨gb110, 0, none⟩ = some (.int .i64 0) := (blk_cell BK110.out 0).trans rfl; have hcz5_1 : w4.cell? ⟨gb110, 1, none⟩ = some (.int .i64 0) := (blk_cell BK110.out 1).trans rfl; have hfz5_0 := blk_frozen BK110.out 0; have hfz5_1 := blk_frozen BK110.out 1)))
  go_ret3
  exact ⟨by first | rfl | (simp [errW_none, errW_some] <;> rfl) | (simp [*, errW_none, errW_some] <;> rfl), by repeat (first | (with_reducible first | exact HB.out | apply below_alloc | apply pw_below_drewN | apply below_drew1 | refine below_set ?_ GE110.out) | exact HB.out)⟩

/-! ### laws_FnUnaries: function 5 -/
def laws_FnUnaries.j0 : Nat → Int → Bool → Int → Int → Int → Bool → ByteArray → Bool → Option (Bool)
  | 0, _, _, _, _, _, _, _, _ => none
  | k + 1, x3, x5, x6, x9, x12, x14, x39, x40 => if x40 = true then (if x5 = true then (if x6 < x3 then (some (decide (x3 < x9))) else (some false)) else (some false)) else (if x39.toList = ([45] : List UInt8) then (if x5 = true then (if x9 < x3 then (some (decide (x3 < x12))) else (some false)) else (some false)) else (if x39.toList = ([43] : List UInt8) then (if x5 = true then (if x9 < x3 then (some (decide (x3 < x12))) else (some false)) else (some false)) else (if x5 = true then (some false) else (some x14))))
def laws_FnUnaries.f (k : Nat) (a0 : ByteArray) : Option (Bool) := if (a0.size : Int) > 2147483647 then (some true) else ((impl_Unary.f a0).bind fun bt111 => ((impl_Binary.f (⟨#[43]⟩ : ByteArray)).bind fun bt114 => ((impl_Binary.f (⟨#[42]⟩ : ByteArray)).bind fun bt117 => ((impl_Binary.f (⟨#[94]⟩ : ByteArray)).bind fun bt120 => (if a0.toList = ([110, 111, 116] : List UInt8) then (laws_FnUnaries.j0 k bt111.1 bt111.2.2 bt114.1 bt117.1 bt120.1 bt120.2.2 a0 (a0.toList == ([110, 111, 116] : List UInt8))) else (laws_FnUnaries.j0 k bt111.1 bt111.2.2 bt114.1 bt117.1 bt120.1 bt120.2.2 a0 (a0.toList == ([33] : List UInt8))))))))
theorem laws_FnUnaries.mono_l : ∀ k, (∀ y0 y1 y2 y3 y4 y5 y6 y7, LeO (laws_FnUnaries.j0 k y0 y1 y2 y3 y4 y5 y6 y7) (laws_FnUnaries.j0 (k + 1) y0 y1 y2 y3 y4 y5 y6 y7))
  | 0 => fun _ _ _ _ _ _ _ _ r h => by simp [laws_FnUnaries.j0] at h
  | k + 1 => by
    have ih0 := laws_FnUnaries.mono_l k
    · intro y0 y1 y2 y3 y4 y5 y6 y7
      unfold laws_FnUnaries.j0
      repeat' first
      | (with_reducible exact ih0 _ _ _ _ _ _ _ _)
      | (with_reducible exact LeO.refl _)
      | (with_reducible exact LeO.none _)
      | (with_reducible refine LeO.ite ?_ ?_)
      | (with_reducible refine LeO.bind ?_ (fun _ => ?_))
      | exact ih0 _ _ _ _ _ _ _ _
      | exact LeO.none _
      | refine LeO.ite ?_ ?_
      | refine LeO.bind ?_ (fun _ => ?_)
theorem laws_FnUnaries.mono : ∀ a0 k, LeO (laws_FnUnaries.f k a0) (laws_FnUnaries.f (k + 1) a0) := by
  intro a0 k
  have ih0 := laws_FnUnaries.mono_l k
  unfold laws_FnUnaries.f
  repeat' first
      | (with_reducible exact ih0 _ _ _ _ _ _ _ _)
      | (with_reducible exact LeO.refl _)
      | (with_reducible exact LeO.none _)
      | (with_reducible refine LeO.ite ?_ ?_)
      | (with_reducible refine LeO.bind ?_ (fun _ => ?_))
      | exact ih0 _ _ _ _ _ _ _ _
      | exact LeO.none _
      | refine LeO.ite ?_ ?_
      | refine LeO.bind ?_ (fun _ => ?_)
set_option maxHeartbeats 8000000 in
set_option maxRecDepth 100000 in
theorem laws_FnUnaries.calls (k : Nat) (a0 : ByteArray) (r : Bool) (w : World) (h : laws_FnUnaries.f k a0 = some r) :
    Calls Try.prog 5 #[.string a0] w fun e w' => e = .returned (.bool r) ∧ Below w.heap.size w w' := by
  have HB := Aside0.mk (Below.refl w.heap.size w)
  have H : (if (a0.size : Int) > 2147483647 then (some true) else ((impl_Unary.f a0).bind fun bt111 => ((impl_Binary.f (⟨#[43]⟩ : ByteArray)).bind fun bt114 => ((impl_Binary.f (⟨#[42]⟩ : ByteArray)).bind fun bt117 => ((impl_Binary.f (⟨#[94]⟩ : ByteArray)).bind fun bt120 => (if a0.toList = ([110, 111, 116] : List UInt8) then (laws_FnUnaries.j0 k bt111.1 bt111.2.2 bt114.1 bt117.1 bt120.1 bt120.2.2 a0 (a0.toList == ([110, 111, 116] : List UInt8))) else (laws_FnUnaries.j0 k bt111.1 bt111.2.2 bt114.1 bt117.1 bt120.1 bt120.2.2 a0 (a0.toList == ([33] : List UInt8))))))))) = some r := h
  clear h
  by_cases c2 : (a0.size : Int) > 2147483647
  · rw [if_pos c2] at H
    have c2b0 : decide (2147483647 < (a0.size : Int)) = true := decide_eq_true c2
    have c2b1 : decide (2147483647 < a0.size) = true := decide_eq_true (by omega)
    clear c2
    obtain rfl := Option.some.inj H
    go_enter Try.func5, Try.ntmps5
    go_wp2
    go_ret
    exact ⟨by first | rfl | (simp [errW_none, errW_some] <;> rfl) | (simp [*, errW_none, errW_some] <;> rfl), by repeat (first | (with_reducible first | exact HB.out | apply below_alloc | apply pw_below_drewN | apply below_drew1) | exact HB.out)⟩
  · rw [if_neg c2] at H
    have c2b0 : decide (2147483647 < (a0.size : Int)) = false := decide_eq_false c2
    have c2b1 : decide (2147483647 < a0.size) = false := decide_eq_false (by omega)
    clear c2
    replace H := Option.bind_eq_some_iff.mp H
    obtain ⟨⟨t111, t112, t113⟩, A30, H⟩ := H
    replace H : ((impl_Binary.f (⟨#[43]⟩ : ByteArray)).bind fun bt114 => ((impl_Binary.f (⟨#[42]⟩ : ByteArray)).bind fun bt117 => ((impl_Binary.f (⟨#[94]⟩ : ByteArray)).bind fun bt120 => (if a0.toList = ([110, 111, 116] : List UInt8) then (laws_FnUnaries.j0 k t111 t113 bt114.1 bt117.1 bt120.1 bt120.2.2 a0 (a0.toList == ([110, 111, 116] : List UInt8))) else (laws_FnUnaries.j0 k t111 t113 bt114.1 bt117.1 bt120.1 bt120.2.2 a0 (a0.toList == ([33] : List UInt8))))))) = some r := H
    have A3 := Aside0.mk A30
    clear A30
    replace H := Option.bind_eq_some_iff.mp H
    obtain ⟨⟨t114, t115, t116⟩, A40, H⟩ := H
    replace H : ((impl_Binary.f (⟨#[42]⟩ : ByteArray)).bind fun bt117 => ((impl_Binary.f (⟨#[94]⟩ : ByteArray)).bind fun bt120 => (if a0.toList = ([110, 111, 116] : List UInt8) then (laws_FnUnaries.j0 k t111 t113 t114 bt117.1 bt120.1 bt120.2.2 a0 (a0.toList == ([110, 111, 116] : List UInt8))) else (laws_FnUnaries.j0 k t111 t113 t114 bt117.1 bt120.1 bt120.2.2 a0 (a0.toList == ([33] : List UInt8)))))) = some r := H
    have A4 := Aside0.mk A40
    clear A40
    replace H := Option.bind_eq_some_iff.mp H
    obtain ⟨⟨t117, t118, t119⟩, A50, H⟩ := H
    replace H : ((impl_Binary.f (⟨#[94]⟩ : ByteArray)).bind fun bt120 => (if a0.toList = ([110, 111, 116] : List UInt8) then (laws_FnUnaries.j0 k t111 t113 t114 t117 bt120.1 bt120.2.2 a0 (a0.toList == ([110, 111, 116] : List UInt8))) else (laws_FnUnaries.j0 k t111 t113 t114 t117 bt120.1 bt120.2.2 a0 (a0.toList == ([33] : List UInt8))))) = some r := H
    have A5 := Aside0.mk A50
    clear A50
    replace H := Option.bind_eq_some_iff.mp H
    obtain ⟨⟨t120, t121, t122⟩, A60, H⟩ := H
    replace H : (if a0.toList = ([110, 111, 116] : List UInt8) then (laws_FnUnaries.j0 k t111 t113 t114 t117 t120 t122 a0 (a0.toList == ([110, 111, 116] : List UInt8))) else (laws_FnUnaries.j0 k t111 t113 t114 t117 t120 t122 a0 (a0.toList == ([33] : List UInt8)))) = some r := H
    have A6 := Aside0.mk A60
    clear A60
    have HC7 := Aside0.mk H
    clear H
    go_enter Try.func5, Try.ntmps5
    go_upto_if 40 with (first | ((with_reducible refine gate_callee (f := 12) rfl ?_); refine goesL_ (some 20) rfl rfl Try.func12 (by kernel_rfl) rfl #[.string a0] rfl (by (try simp only [List.map_toArray, List.map_cons, List.map_nil]); first | done | rfl | (simp only [List.length_drop, List.length_take]; rfl)) ?_; (with_reducible refine (impl_Unary.calls a0 t111 t112 t113 _ A3.out).mono ?_); rintro e w8 ⟨rfl, hb⟩; refine ⟨_, rfl, ?_⟩; have n0_ := Aside0.mk (below_step (by repeat (first | (with_reducible first | exact HB.out | apply below_alloc | apply pw_below_drewN | apply below_drew1) | exact HB.out)) hb); clear HB; have HB := n0_; clear n0_; (try clear hb); (try clear hb2); (try clear hk); (try clear hi)) | ((with_reducible refine gate_callee (f := 10) rfl ?_); refine goesL_ (some 25) rfl rfl Try.func10 (by kernel_rfl) rfl #[.string (⟨#[43]⟩ : ByteArray)] rfl (by (try simp only [List.map_toArray, List.map_cons, List.map_nil]); first | done | rfl | (simp only [List.length_drop, List.length_take]; rfl)) ?_; (with_reducible refine (impl_Binary.calls (⟨#[43]⟩ : ByteArray) t114 t115 t116 _ A4.out).mono ?_); rintro e w9 ⟨rfl, hb⟩; refine ⟨_, rfl, ?_⟩; have n0_ := Aside0.mk (below_step (by repeat (first | (with_reducible first | exact HB.out | apply below_alloc | apply pw_below_drewN | apply below_drew1) | exact HB.out)) hb); clear HB; have HB := n0_; clear n0_; (try clear hb); (try clear hb2); (try clear hk); (try clear hi)) | ((with_reducible refine gate_callee (f := 10) rfl ?_); refine goesL_ (some 30) rfl rfl Try.func10 (by kernel_rfl) rfl #[.string (⟨#[42]⟩ : ByteArray)] rfl (by (try simp only [List.map_toArray, List.map_cons, List.map_nil]); first | done | rfl | (simp only [List.length_drop, List.length_take]; rfl)) ?_; (with_reducible refine (impl_Binary.calls (⟨#[42]⟩ : ByteArray) t117 t118 t119 _ A5.out).mono ?_); rintro e w10 ⟨rfl, hb⟩; refine ⟨_, rfl, ?_⟩; have n0_ := Aside0.mk (below_step (by repeat (first | (with_reducible first | exact HB.out | apply below_alloc | apply pw_below_drewN | apply below_drew1) | exact HB.out)) hb); clear HB; have HB := n0_; clear n0_; (try clear hb); (try clear hb2); (try clear hk); (try clear hi)) | ((with_reducible refine gate_callee (f := 10) rfl ?_); refine goesL_ (some 35) rfl rfl Try.func10 (by kernel_rfl) rfl #[.string (⟨#[94]⟩ : ByteArray)] rfl (by (try simp only [List.map_toArray, List.map_cons, List.map_nil]); first | done | rfl | (simp only [List.length_drop, List.length_take]; rfl)) ?_; (with_reducible refine (impl_Binary.calls (⟨#[94]⟩ : ByteArray) t120 t121 t122 _ A6.out).mono ?_); rintro e w11 ⟨rfl, hb⟩; refine ⟨_, rfl, ?_⟩; have n0_ := Aside0.mk (below_step (by repeat (first | (with_reducible first | exact HB.out | apply below_alloc | apply pw_below_drewN | apply below_drew1) | exact HB.out)) hb); clear HB; have HB := n0_; clear n0_; (try clear hb); (try clear hb2); (try clear hk); (try clear hi)))
    (try simp only [Act.put, List.setIfInBounds_toArray, List.set_cons_zero, List.set_cons_succ])
    go_cut [40] (fun v40 wc => ∃ (kq : Nat) (x40_6 : Bool), v40 = .bool x40_6 ∧ Aside0 (laws_FnUnaries.j0 kq t111 t113 t114 t117 t120 t122 a0 x40_6 = some r) ∧ Aside0 (kq ≤ k) ∧ Aside0 (Below w.heap.size w wc))
    case first =>
      have H := HC7.out
      clear HC7
      by_cases c12 : a0.toList = ([110, 111, 116] : List UInt8)
      · rw [if_pos c12] at H
        have c12b0 : (a0.toList == ([110, 111, 116] : List UInt8)) = true := beq_iff_eq.mpr c12
        have c12b1 : (a0.toList != ([110, 111, 116] : List UInt8)) = false := bne_eq_false_iff_eq.mpr c12
        clear c12
        (first | rw [c12b0] | (simp only [i64_w, i32_w]; rw [c12b0]) | skip)
        have H' := Aside0.mk H
        clear H
        go_wp2
        go_meet
        case rel => exact ⟨_, ((a0.toList == ([110, 111, 116] : List UInt8))), (by first | rfl | (simp; done) | (simp [*]; done)), H', ⟨by first | omega | exact Nat.le_refl _⟩, ⟨by repeat (first | (with_reducible first | exact HB.out | apply below_alloc | apply pw_below_drewN | apply below_drew1) | exact HB.out)⟩⟩
      · rw [if_neg c12] at H
        have c12b0 : (a0.toList == ([110, 111, 116] : List UInt8)) = false := beq_eq_false_iff_ne.mpr c12
        have c12b1 : (a0.toList != ([110, 111, 116] : List UInt8)) = true := bne_iff_ne.mpr c12
        (first | rw [c12b0] | (simp only [i64_w, i32_w]; rw [c12b0]) | skip)
        have H' := Aside0.mk H
        clear H
        go_wp2
        go_meet
        case rel => exact ⟨_, ((a0.toList == ([33] : List UInt8))), (by first | rfl | (simp; done) | (simp [*]; done)), H', ⟨by first | omega | exact Nat.le_refl _⟩, ⟨by repeat (first | (with_reducible first | exact HB.out | apply below_alloc | apply pw_below_drewN | apply below_drew1) | exact HB.out)⟩⟩
    case rest =>
      clear HC7
      try clear c1
      try clear c2
      try clear c2b0
      try clear c2b1
      try clear p2
      try clear c5
      try clear c10
      try clear c12
      try clear c12b0
      try clear c12b1
      obtain ⟨kq, x40_6, rfl, HA, HJ6, HB⟩ := hcut
      cases kq with
      | zero => exact absurd HA.out (by simp [laws_FnUnaries.j0])
      | succ kj6 =>
        have H := HA.out
        clear HA
        simp only [laws_FnUnaries.j0] at H
        by_cases c13 : x40_6 = true
        · subst c13
          have H1 : (if t113 = true then (if t114 < t111 then (some (decide (t111 < t117))) else (some false)) else (some false)) = some r := by rw [if_pos rfl] at H; exact H
          clear H
          have H := H1
          clear H1
          by_cases c14 : t113 = true
          · subst c14
            have H1 : (if t114 < t111 then (some (decide (t111 < t117))) else (some false)) = some r := by rw [if_pos rfl] at H; exact H
            clear H
            have H := H1
            clear H1
            by_cases c15 : t114 < t111
            · rw [if_pos c15] at H
              have c15b0 : decide (t114 < t111) = true := decide_eq_true c15
              clear c15
              obtain rfl := Option.some.inj H
              go_wp2
              go_ret
              exact ⟨by first | rfl | (simp [errW_none, errW_some] <;> rfl) | (simp [*, errW_none, errW_some] <;> rfl), by repeat (first | (with_reducible first | exact HB.out | apply below_alloc | apply pw_below_drewN | apply below_drew1) | exact HB.out)⟩
            · rw [if_neg c15] at H
              have c15b0 : decide (t114 < t111) = false := decide_eq_false c15
              clear c15
              obtain rfl := Option.some.inj H
              go_wp2
              go_ret
              exact ⟨by first | rfl | (simp [errW_none, errW_some] <;> rfl) | (simp [*, errW_none, errW_some] <;> rfl), by repeat (first | (with_reducible first | exact HB.out | apply below_alloc | apply pw_below_drewN | apply below_drew1) | exact HB.out)⟩
          · replace c14 := Bool.eq_false_iff.mpr c14
            subst c14
            have H1 : (some false) = some r := by rw [if_neg (show ¬ (false = true) by decide)] at H; exact H
            clear H
            have H := H1
            clear H1
            obtain rfl := Option.some.inj H
            go_wp2
            go_ret
            exact ⟨by first | rfl | (simp [errW_none, errW_some] <;> rfl) | (simp [*, errW_none, errW_some] <;> rfl), by repeat (first | (with_reducible first | exact HB.out | apply below_alloc | apply pw_below_drewN | apply below_drew1) | exact HB.out)⟩
        · replace c13 := Bool.eq_false_iff.mpr c13
          subst c13
          have H1 : (if a0.toList = ([45] : List UInt8) then (if t113 = true then (if t117 < t111 then (some (decide (t111 < t120))) else (some false)) else (some false)) else (if a0.toList = ([43] : List UInt8) then (if t113 = true then (if t117 < t111 then (some (decide (t111 < t120))) else (some false)) else (some false)) else (if t113 = true then (some false) else (some t122)))) = some r := by rw [if_neg (show ¬ (false = true) by decide)] at H; exact H
          clear H
          have H := H1
          clear H1
          by_cases c16 : a0.toList = ([45] : List UInt8)
          · rw [if_pos c16] at H
            have c16b0 : (a0.toList == ([45] : List UInt8)) = true := beq_iff_eq.mpr c16
            have c16b1 : (a0.toList != ([45] : List UInt8)) = false := bne_eq_false_iff_eq.mpr c16
            clear c16
            by_cases c17 : t113 = true
            · subst c17
              have H1 : (if t117 < t111 then (some (decide (t111 < t120))) else (some false)) = some r := by rw [if_pos rfl] at H; exact H
              clear H
              have H := H1
              clear H1
              by_cases c18 : t117 < t111
              · rw [if_pos c18] at H
                have c18b0 : decide (t117 < t111) = true := decide_eq_true c18
                clear c18
                obtain rfl := Option.some.inj H
                go_wp2
                go_ret
                exact ⟨by first | rfl | (simp [errW_none, errW_some] <;> rfl) | (simp [*, errW_none, errW_some] <;> rfl), by repeat (first | (with_reducible first | exact HB.out | apply below_alloc | apply pw_below_drewN | apply below_drew1) | exact HB.out)⟩
              · rw [if_neg c18] at H
                have c18b0 : decide (t117 < t111) = false := decide_eq_false c18
                clear c18
                obtain rfl := Option.some.inj H
                go_wp2
                go_ret
                exact ⟨by first | rfl | (simp [errW_none, errW_some] <;> rfl) | (simp [*, errW_none, errW_some] <;> rfl), by repeat (first | (with_reducible first | exact HB.out | apply below_alloc | apply pw_below_drewN | apply below_drew1) | exact HB.out)⟩
            · replace c17 := Bool.eq_false_iff.mpr c17
              subst c17
              have H1 : (some false) = some r := by rw [if_neg (show ¬ (false = true) by decide)] at H; exact H
              clear H
              have H := H1
              clear H1
              obtain rfl := Option.some.inj H
              go_wp2
              go_ret
              exact ⟨by first | rfl | (simp [errW_none, errW_some] <;> rfl) | (simp [*, errW_none, errW_some] <;> rfl), by repeat (first | (with_reducible first | exact HB.out | apply below_alloc | apply pw_below_drewN | apply below_drew1) | exact HB.out)⟩
          · rw [if_neg c16] at H
            have c16b0 : (a0.toList == ([45] : List UInt8)) = false := beq_eq_false_iff_ne.mpr c16
            have c16b1 : (a0.toList != ([45] : List UInt8)) = true := bne_iff_ne.mpr c16
            by_cases c19 : a0.toList = ([43] : List UInt8)
            · rw [if_pos c19] at H
              have c19b0 : (a0.toList == ([43] : List UInt8)) = true := beq_iff_eq.mpr c19
              have c19b1 : (a0.toList != ([43] : List UInt8)) = false := bne_eq_false_iff_eq.mpr c19
              clear c19
              by_cases c20 : t113 = true
              · subst c20
                have H1 : (if t117 < t111 then (some (decide (t111 < t120))) else (some false)) = some r := by rw [if_pos rfl] at H; exact H
                clear H
                have H := H1
                clear H1
                by_cases c21 : t117 < t111
                · rw [if_pos c21] at H
                  have c21b0 : decide (t117 < t111) = true := decide_eq_true c21
                  clear c21
                  obtain rfl := Option.some.inj H
                  go_wp2
                  go_ret
                  exact ⟨by first | rfl | (simp [errW_none, errW_some] <;> rfl) | (simp [*, errW_none, errW_some] <;> rfl), by repeat (first | (with_reducible first | exact HB.out | apply below_alloc | apply pw_below_drewN | apply below_drew1) | exact HB.out)⟩
                · rw [if_neg c21] at H
                  have c21b0 : decide (t117 < t111) = false := decide_eq_false c21
                  clear c21
                  obtain rfl := Option.some.inj H
                  go_wp2
                  go_ret
                  exact ⟨by first | rfl | (simp [errW_none, errW_some] <;> rfl) | (simp [*, errW_none, errW_some] <;> rfl), by repeat (first | (with_reducible first | exact HB.out | apply below_alloc | apply pw_below_drewN | apply below_drew1) | exact HB.out)⟩
              · replace c20 := Bool.eq_false_iff.mpr c20
                subst c20
                have H1 : (some false) = some r := by rw [if_neg (show ¬ (false = true) by decide)] at H; exact H
                clear H
                have H := H1
                clear H1
                obtain rfl := Option.some.inj H
                go_wp2
                go_ret
                exact ⟨by first | rfl | (simp [errW_none, errW_some] <;> rfl) | (simp [*, errW_none, errW_some] <;> rfl), by repeat (first | (with_reducible first | exact HB.out | apply below_alloc | apply pw_below_drewN | apply below_drew1) | exact HB.out)⟩
            · rw [if_neg c19] at H
              have c19b0 : (a0.toList == ([43] : List UInt8)) = false := beq_eq_false_iff_ne.mpr c19
              have c19b1 : (a0.toList != ([43] : List UInt8)) = true := bne_iff_ne.mpr c19
              by_cases c22 : t113 = true
              · subst c22
                have H1 : (some false) = some r := by rw [if_pos rfl] at H; exact H
                clear H
                have H := H1
                clear H1
                obtain rfl := Option.some.inj H
                go_wp2
                go_ret
                exact ⟨by first | rfl | (simp [errW_none, errW_some] <;> rfl) | (simp [*, errW_none, errW_some] <;> rfl), by repeat (first | (with_reducible first | exact HB.out | apply below_alloc | apply pw_below_drewN | apply below_drew1) | exact HB.out)⟩
              · replace c22 := Bool.eq_false_iff.mpr c22
                subst c22
                have H1 : (some t122) = some r := by rw [if_neg (show ¬ (false = true) by decide)] at H; exact H
                clear H
                have H := H1
                clear H1
                obtain rfl := Option.some.inj H
                go_wp2
                go_ret
                exact ⟨by first | rfl | (simp [errW_none, errW_some] <;> rfl) | (simp [*, errW_none, errW_some] <;> rfl), by repeat (first | (with_reducible first | exact HB.out | apply below_alloc | apply pw_below_drewN | apply below_drew1) | exact HB.out)⟩

/-- THE ONE PURE STATEMENT of laws_FnUnaries: yours. -/
def laws_FnUnaries.Pure : Prop := ∀ (a0 : ByteArray), a0.size ≤ 140737488351232 → ∃ k, laws_FnUnaries.f k a0 = some true
theorem laws_FnUnaries.walk (P : laws_FnUnaries.Pure) (a0 : ByteArray) (w : World) (w0 : a0.size ≤ 140737488351232) :
    Calls Try.prog 5 #[.string a0] w fun e w' => e = .returned (.bool true) ∧ Below w.heap.size w w' := by
  obtain ⟨k, h⟩ := P a0 w0
  refine (laws_FnUnaries.calls k a0 true w h).mono ?_
  rintro e w' ⟨rfl, hd⟩
  exact ⟨rfl, hd⟩

end Go.Proofs.Ytlphfinmdacolaa.PFnUnaries
