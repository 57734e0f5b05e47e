/- The walk of file.Error.Bind. -/
import Derived.Test.YtlphfinmdacolaaDoorRBiSpot
import Derived.Deep.Cut
import Derived.Deep.LoopGhost
import Derived.Deep.CutBlock
import Derived.Deep.DeepCutAuto
set_option linter.unusedSimpArgs false
set_option linter.unusedVariables false
namespace Go.Proofs.YtlphfinmdacolaaDoorR.Bi
open Go.RowKit
theorem src_any (s : ByteArray) (w : World) : Calls Tryd.prog 12 #[.string s] w (fun e w' => e = .returned (.agg #[.string s]) ∧ Below w.heap.size w w') := by
  go_enter Tryd.func12, Tryd.ntmps12
  go_wp2
  go_returns
  exact ⟨rfl, by go_grown⟩
theorem str_any (s : ByteArray) (w : World) : Calls Tryd.prog 16 #[.agg #[.string s]] w (fun e w' => e = .returned (.string s) ∧ Below w.heap.size w w') := by
  go_enter Tryd.func16, Tryd.ntmps16
  go_wp2
  go_ret
  exact ⟨rfl, by go_grown⟩

/-- the error at block b -/
def Err (w : World) (b : Nat) (fr line col : Int) (sn : ByteArray) : Prop := w.heap[b]? = some (.cells #[.int .i64 fr, .int .i64 0, .int .i64 line, .int .i64 col, .string ⟨#[]⟩, .string sn, .nilIface] 47 (0, 0))
section
variable {w : World} {b : Nat} {fr line col : Int} {sn : ByteArray}
theorem Err.c0 (h : Err w b fr line col sn) : w.cell? ⟨b, 0, none⟩ = some (.int .i64 fr) := by unfold Err at h; simp [World.cell?, h]
theorem Err.c2 (h : Err w b fr line col sn) : w.cell? ⟨b, 2, none⟩ = some (.int .i64 line) := by unfold Err at h; simp [World.cell?, h]
theorem Err.c3 (h : Err w b fr line col sn) : w.cell? ⟨b, 3, none⟩ = some (.int .i64 col) := by unfold Err at h; simp [World.cell?, h]
theorem Err.c5 (h : Err w b fr line col sn) : w.cell? ⟨b, 5, none⟩ = some (.string sn) := by unfold Err at h; simp [World.cell?, h]
theorem Err.fz (h : Err w b fr line col sn) (i : Nat) : w.frozen? ⟨b, i, none⟩ = false := by unfold Err at h; simp [World.frozen?, h]
theorem Err.lt (h : Err w b fr line col sn) : b < w.heap.size := (Array.getElem?_eq_some_iff.1 h).1
theorem heap_set (w : World) (g i : Nat) (u : Value) (cs : Array Value) (t : TypeId) (h : w.heap[g]? = some (.cells cs t (0, 0))) :
    (w.setCell ⟨g, i, none⟩ u).heap[g]? = some (.cells (cs.setIfInBounds i u) t (0, 0)) := by
  simp [World.setCell, Array.getElem?_modify, h]
theorem Err.set2 (h : Err w b fr line col sn) (v : Int) : Err (w.setCell ⟨b, 2, none⟩ (.int .i64 v)) b fr v col sn := by unfold Err at *; rw [heap_set _ _ _ _ _ _ h]; rfl
theorem Err.set3 (h : Err w b fr line col sn) (v : Int) : Err (w.setCell ⟨b, 3, none⟩ (.int .i64 v)) b fr line v sn := by unfold Err at *; rw [heap_set _ _ _ _ _ _ h]; rfl
theorem Err.set5 (h : Err w b fr line col sn) (v : ByteArray) : Err (w.setCell ⟨b, 5, none⟩ (.string v)) b fr line col v := by unfold Err at *; rw [heap_set _ _ _ _ _ _ h]; rfl
theorem Err.below {B : Nat} {w' : World} (h : Err w b fr line col sn) (hb : Below B w w') (hB : b < B) : Err w' b fr line col sn := (hb.block b hB).trans h
theorem Err.alloc (h : Err w b fr line col sn) (o : Obj) : Err (w.alloc o) b fr line col sn := (Below.heap_alloc w o b h.lt).trans h
end
theorem extract_drop (s : ByteArray) (k : Nat) : (s.extract k s.size).data.toList = s.data.toList.drop k := by
  rw [ByteArray.data_extract, Array.toList_extract, List.extract_eq_take_drop]
  apply List.take_of_length_le
  rw [List.length_drop]
  exact Nat.le_refl _
theorem index_lt (l : List UInt8) (c : UInt8) : Lib.indexByte l c < l.length ∨ Lib.indexByte l c = -1 := by
  induction l with
  | nil => right; rfl
  | cons b l ih =>
    unfold Lib.indexByte
    split
    · left; simp
    · split
      · right; rfl
      · rename_i h
        have h' : Lib.indexByte l c ≠ -1 := by simpa using h
        left; simp; omega
def Idx (s : ByteArray) (k : Nat) (w : World) (e : Ending) (w' : World) : Prop := ∃ X : Int, e = .returned (.int .i64 X) ∧ (-1 ≤ X ∧ (k + X < s.size ∨ X = -1)) ∧ w = w'
theorem idx_at (s : ByteArray) (k : Nat) (hk : k ≤ s.size) (w : World) : Calls Tryd.prog 15 #[.string (s.extract k s.size), .int .u8 10] w (Idx s k w) := by
  refine (Tryd.strings_IndexByte (s.extract k s.size) 10 w).mono fun e w' ⟨he, hw⟩ => ⟨_, he, ⟨Lib.indexByte_ge _ _, ?_⟩, hw.symm⟩
  rw [extract_drop]
  have := index_lt (s.data.toList.drop k) (10 : Int).toNat.toUInt8
  rw [List.length_drop] at this
  have e1 : s.data.toList.length = s.size := rfl
  omega
/-- a builder at block B that holds at most n bytes -/
def Bz (n B : Nat) (w : World) : Prop := ∃ l : List UInt8, l.length ≤ n ∧ Lib.IsBuilder 55 5 B B (Lib.byteCells l) w
theorem Bz.lt {n B : Nat} {w : World} (h : Bz n B w) : B < w.heap.size := by
  obtain ⟨l, _, h⟩ := h
  rcases h with ⟨_, v, h, _⟩ | ⟨_, v, h, _⟩
  · exact (Array.getElem?_eq_some_iff.1 h).1
  · exact (Array.getElem?_eq_some_iff.1 h).1
def Wrote (n B : Nat) (w : World) (v : Value) (e : Ending) (w' : World) : Prop := e = .returned v ∧ Bz n B w' ∧ Below B w w'
theorem grow_at (M C : Nat) (w : World) (B : Nat) (hM : M ≤ 100000) (hC : C ≤ 100000) (hb : w.heap[B]? = some (.cells #[.pointer none, .slice none 0 0] 55 (0, 0))) :
    Calls Tryd.prog 17 #[.pointer (some ⟨B, 0, none⟩), .int .i64 (8 + (M : Int) + (C : Int) + 1)] w (Wrote 0 B w (.tuple #[])) := by
  have := Tryd.Builder_Grow_fresh B B (8 + M + C + 1) w (Nat.le_refl _) hb (Nat.le_of_lt (Array.getElem?_eq_some_iff.1 hb).1) (by omega)
  have e1 : ((8 + M + C + 1 : Nat) : Int) = 8 + (M : Int) + (C : Int) + 1 := by omega
  rw [e1] at this
  exact this.mono fun e w' ⟨he, hb, hw⟩ => ⟨he, ⟨[], Nat.le_refl _, Or.inr hb⟩, hw⟩
theorem wstr (n B : Nat) (s : ByteArray) (w : World) (h : Bz n B w) (hn : n ≤ 1000000) (hs : s.size ≤ 1000000) :
    Calls Tryd.prog 18 #[.pointer (some ⟨B, 0, none⟩), .string s] w (Wrote (n + s.size) B w (.tuple #[.int .i64 s.size, .nilIface])) := by
  have hlt := h.lt
  obtain ⟨l, hl, hI⟩ := h
  refine (Tryd.Builder_WriteString B B (Lib.byteCells l) s w hI (by rw [Lib.byteCells_length]; omega) (Nat.le_of_lt hlt)).mono fun e w' ⟨he, hb, hw⟩ => ⟨he, ⟨l ++ s.data.toList, ?_, ?_⟩, hw⟩
  · rw [List.length_append]
    have e1 : s.data.toList.length = s.size := rfl
    omega
  · rw [Lib.byteCells_append, ← Lib.strCells_eq]; exact Or.inr hb
theorem wbyte (n B : Nat) (z : Int) (w : World) (h : Bz n B w) (hn : n ≤ 1000000) (hz : 0 ≤ z ∧ z < 256) :
    Calls Tryd.prog 19 #[.pointer (some ⟨B, 0, none⟩), .int .u8 z] w (Wrote (n + 1) B w .nilIface) := by
  have hlt := h.lt
  obtain ⟨l, hl, hI⟩ := h
  have hz' : Lib.byteCells [UInt8.ofNat z.toNat] = [.int .u8 z] := by
    simp only [Lib.byteCells, List.map_cons, List.map_nil, List.cons.injEq, and_true]
    have : ((UInt8.ofNat z.toNat).toNat : Int) = z := by
      rw [UInt8.toNat_ofNat']; omega
    rw [this]
  refine (Tryd.Builder_WriteByte B B (Lib.byteCells l) z w hI (by rw [Lib.byteCells_length]; omega) (Nat.le_of_lt hlt)).mono fun e w' ⟨he, hb, hw⟩ => ⟨he, ⟨l ++ [UInt8.ofNat z.toNat], ?_, ?_⟩, hw⟩
  · rw [List.length_append]; simpa using hl
  · rw [Lib.byteCells_append, hz']; exact Or.inr hb
theorem bstr (n B : Nat) (w : World) (h : Bz n B w) :
    Calls Tryd.prog 20 #[.pointer (some ⟨B, 0, none⟩)] w (fun e w' => ∃ t : ByteArray, e = .returned (.string t) ∧ Below B w w') := by
  have hlt := h.lt
  obtain ⟨l, hl, hI⟩ := h
  exact (Tryd.Builder_String_any B B l w hI (Nat.le_of_lt hlt)).mono fun e w' ⟨he, hw⟩ => ⟨_, he, hw⟩
def Bound (b : Nat) (B : Nat) (x : Int × Int) (fr : Int) (w : World) (e : Ending) (w' : World) : Prop := e = .returned (.pointer (some ⟨b, 0, none⟩)) ∧ (∃ sn, Err w' b fr x.1 x.2 sn) ∧ Below B w w'
set_option maxHeartbeats 1600000 in
set_option maxRecDepth 100000 in
theorem bind_any (s : ByteArray) (fr : Int) (w : World) (b : Nat) (B : Nat) (hB : B ≤ b) (hE : Err w b fr 0 0 ⟨#[]⟩) (hs : s.size ≤ 65536) :
    Calls Tryd.prog 14 #[.pointer (some ⟨b, 0, none⟩), .agg #[.string s]] w (Bound b B (spotGo s fr s.size 0 0 1 0) fr w) := by
  obtain ⟨ANS, hA⟩ : ∃ A, spotGo s fr s.size 0 0 1 0 = A := ⟨_, rfl⟩
  rw [hA]
  have HA := Lib.hid hA
  clear hA
  have HE := Lib.hid hE
  clear hE
  have hlt := HE.out.lt
  go_enter Tryd.func14, Tryd.ntmps14
  go_upto_block 0 with (first | (go_at_call 16; refine (str_any s _).mono ?_; rintro e w1 ⟨rfl, hb1⟩; have E1 : Err w1 b fr 0 0 ⟨#[]⟩ := (by exact (HE.out.alloc _).below hb1 (HE.out.alloc _).lt); have c2 := E1.c2; have c3 := E1.c3; have f2 := E1.fz 2; have f3 := E1.fz 3; have f5 := E1.fz 5; have H1 := Lib.hid E1; clear E1))
  have hbB : Below B w w1 := ((Below.refl _ _).alloc (by omega) _).trans (hb1.mono (by simp; omega))
  go_cut [7] (fun ls wx => ∃ (k : Nat) (line col : Int), ls = .int .i64 k ∧ k ≤ s.size ∧ 0 ≤ col ∧ col ≤ 65540 ∧ Err wx b fr line col ⟨#[]⟩ ∧ (line, col) = ANS ∧ Below B w wx)
  case first =>
    have hlt1 : b < w1.heap.size := H1.out.lt
    go_wp2_with (fail)
    go_loopw [6, 7] (fun rc ls wr => ∃ (pos fuel k : Nat) (line col i : Int), rc = .int .i64 i ∧ ls = .int .i64 k ∧ 1 ≤ line ∧ line ≤ pos + 1 ∧ 0 ≤ col ∧ col ≤ pos ∧ 0 ≤ i ∧ i ≤ pos ∧ pos ≤ s.size + 4 ∧ k ≤ s.size ∧ Err wr b fr line col ⟨#[]⟩ ∧ wr.heap[w1.heap.size]? = some (.stringIter s pos) ∧ Below B w wr ∧ spotGo s fr fuel pos i line col = ANS ∧ s.size ≤ pos + fuel) (fun _ _ wr => s.size - wr.iterPos w1.heap.size)
    case atStart =>
      refine ⟨0, s.size, 0, 1, 0, 0, rfl, rfl, by omega, by omega, by omega, by omega, by omega, by omega, by omega, by omega, ((H1.out.set2 1).set3 0).alloc _, ?_, ((hbB.setCell hB _).setCell hB _).alloc (by have := hbB.size; simp [World.setCell]; omega) _, HA.out, by omega⟩
      have := World.iter_heap ((w1.setCell ⟨b, 2, none⟩ (.int .i64 1)).setCell ⟨b, 3, none⟩ (.int .i64 0)) s 0
      simpa [World.setCell] using this
    case round =>
      obtain ⟨pos, fuel, k, line, col, i, rfl, rfl, l1, l2, cl1, cl2, i1, i2, hps, hks, hE3, hit, hbw, hR, hfu⟩ := hrel
      have HR := Lib.hid hR
      clear hR
      clear c2 c3 f2 f3 f5
      by_cases hp : pos < s.size
      · have hnx : ∀ ty, (Instr.next (.pointer (some ⟨w1.heap.size, 0, none⟩)) true ty).run Tryd.prog wr = _ := fun ty => Lib.run_next_any_at wr w1.heap.size s pos ty hit hp
        have hwd := width_pos s pos hp
        have hd1 := decode_le s pos
        have hw4 := width_le s pos
        have hit2 := Lib.iterAt_heap wr w1.heap.size s pos (pos + (Utf8.decode s pos).2) hit
        have hbw2 := Lib.below_iterAt hbw (k := w1.heap.size) (by omega) s (pos + (Utf8.decode s pos).2)
        have hE4 : Err (wr.iterAt w1.heap.size s (pos + (Utf8.decode s pos).2)) b fr line col ⟨#[]⟩ := (Lib.iterAt_other wr w1.heap.size b s _ (by omega)).trans hE3
        have c0 := hE4.c0; have c2 := hE4.c2; have c3 := hE4.c3; have f2 := hE4.fz 2; have f3 := hE4.fz 3
        have H4 := Lib.hid hE4
        clear hE4 hE3
        obtain ⟨f, rfl⟩ : ∃ f, fuel = f + 1 := ⟨fuel - 1, by omega⟩
        by_cases hi : i = fr
        · have hi1 : (i == fr) = true := by simpa using hi
          have HI := Lib.hid hi
          clear hi
          go_wp2_with (fail)
          go_meet
          refine ⟨k, line, col, rfl, hks, cl1, by omega, H4.out, ?_, hbw2⟩
          have := HR.out
          rw [spotGo, if_pos hp, if_pos HI.out] at this
          exact this
        · have hi1 : (i == fr) = false := by simpa using hi
          have HI := Lib.hid hi
          clear hi
          by_cases h10 : (Utf8.decode s pos).1 = 10
          · have hc : ((((Utf8.decode s pos).1 : Nat) : Int) == 10) = true := by rw [h10]; rfl
            have HC := Lib.hid h10
            clear h10
            have hw10 : pos + 1 ≤ s.size := by omega
            go_wp2_with (fail)
            go_roundw
            case rel =>
              refine ⟨pos + (Utf8.decode s pos).2, f, pos + 1, line + 1, 0, i + 1, rfl, by go_num, by omega, by omega, by omega, by omega, by omega, by omega, by omega, by omega, (H4.out.set2 _).set3 _, ?_, (hbw2.setCell hB _).setCell hB _, ?_, by omega⟩
              · rw [Below.heap_setCell _ _ _ _ (by simp; omega), Below.heap_setCell _ _ _ _ (by simp; omega)]; exact hit2
              · have := HR.out
                rw [spotGo, if_pos hp, if_neg HI.out, if_pos HC.out] at this
                exact this
            case measure =>
              simp only [World.iterPos]
              rw [Below.heap_setCell _ _ _ _ (by simp; omega), Below.heap_setCell _ _ _ _ (by simp; omega), hit2, hit]
              simp only
              omega
          · have hc : ((((Utf8.decode s pos).1 : Nat) : Int) == 10) = false := by
              simp only [beq_eq_false_iff_ne, ne_eq]; omega
            have HC := Lib.hid h10
            clear h10
            go_wp2_with (fail)
            go_roundw
            case rel =>
              refine ⟨pos + (Utf8.decode s pos).2, f, k, line, col + 1, i + 1, rfl, rfl, by omega, by omega, by omega, by omega, by omega, by omega, by omega, by omega, H4.out.set3 _, ?_, hbw2.setCell hB _, ?_, by omega⟩
              · rw [Below.heap_setCell _ _ _ _ (by simp; omega)]; exact hit2
              · have := HR.out
                rw [spotGo, if_pos hp, if_neg HI.out, if_neg HC.out] at this
                exact this
            case measure =>
              simp only [World.iterPos]
              rw [Below.heap_setCell _ _ _ _ (by simp; omega), hit2, hit]
              simp only
              omega
      · have hnx : ∀ ty, (Instr.next (.pointer (some ⟨w1.heap.size, 0, none⟩)) true ty).run Tryd.prog wr = _ := fun ty => Lib.run_next_end_at wr w1.heap.size s pos ty hit hp
        have H4 := Lib.hid hE3
        clear hE3
        go_wp2_with (fail)
        go_meet
        refine ⟨k, line, col, rfl, hks, cl1, by omega, H4.out, ?_, hbw⟩
        have := HR.out
        rw [spot_end s fr fuel pos i line col hp] at this
        exact this
  case rest =>
    obtain ⟨k, line, col, rfl, hk, hc0, hc1, hE2, hX, hbw⟩ := hcut
    have HX := Lib.hid hX
    clear hX
    have c0 := hE2.c0; have c2 := hE2.c2; have c3 := hE2.c3; have f5 := hE2.fz 5
    have hlt2 := hE2.lt
    have H2 := Lib.hid hE2
    clear hE2
    go_upto_if 67 with (first | (go_at_call 15; refine (idx_at s k hk _).mono ?_; rintro e w2 ⟨X, rfl, ⟨x0, x1⟩, rfl⟩))
    go_cut [10] (fun le wx => ∃ E : Nat, le = .int .i64 E ∧ k ≤ E ∧ E ≤ s.size ∧ wx = wc)
    case first =>
      by_cases hX : X = -1
      · subst hX
        go_wp2_with (fail)
        go_meet
        exact ⟨s.size, rfl, hk, Nat.le_refl _, rfl⟩
      · obtain ⟨p, rfl⟩ : ∃ p : Nat, X = p := ⟨X.toNat, by omega⟩
        have g3 : p + k < s.size := by omega
        clear x0 x1
        go_wp2_with (fail)
        go_meet
        exact ⟨k + p, by go_num, by omega, by omega, rfl⟩
    case rest =>
      obtain ⟨E, rfl, hkE, hEs, rfl⟩ := hcut
      by_cases hq : k = E
      · subst hq
        go_wp2_with (fail)
        go_ret
        refine ⟨rfl, ⟨⟨#[]⟩, ?_⟩, hbw⟩
        have := HX.out
        subst this
        exact H2.out
      · have hq1 : ((k : Int) == E) = false := by simp only [beq_eq_false_iff_ne, ne_eq]; omega
        have hkE2 : k < E := by omega
        clear hq
        obtain ⟨C, rfl⟩ : ∃ C : Nat, col = C := ⟨col.toNat, by omega⟩
        have hBs : B ≤ wc.heap.size := by omega
        obtain ⟨M, rfl⟩ : ∃ M, E = k + M := ⟨E - k, by omega⟩
        have hb0 : (wc.alloc (.cells #[.pointer none, .slice none 0 0] 55)).heap[wc.heap.size]? = some (.cells #[.pointer none, .slice none 0 0] 55 (0, 0)) := heap_alloc_new wc _
        have HB := Lib.hid hb0
        clear hb0
        obtain ⟨D, hD⟩ : ∃ D, wc.heap.size = D := ⟨_, rfl⟩
        have HD := Lib.hid hD
        clear hD
        go_wp2_with (first
          | (go_at_call 17; refine (grow_at M C _ _ (by omega) (by omega) HB.out).mono ?_; rintro e w2 ⟨rfl, z2, b2⟩; have E2 : Err w2 b fr line C ⟨#[]⟩ := (by exact (H2.out.alloc _).below b2 hlt2); clear c0 c2 c3 f5; have c3 := E2.c3; have f5 := E2.fz 5; have Z2 := Lib.hid (And.intro E2 (And.intro z2 b2)); clear E2 z2 b2)
          | (go_at_call 18; refine (wstr 0 _ _ _ Z2.out.2.1 (by omega) (by simp [ByteArray.size])).mono ?_; rintro e w3 ⟨rfl, z3, b3⟩; have E3 : Err w3 b fr line C ⟨#[]⟩ := (by exact Z2.out.1.below b3 hlt2); clear c3 f5; have c3 := E3.c3; have f5 := E3.fz 5; have Z3 := Lib.hid (And.intro E3 (And.intro z3 b3)); clear E3 z3 b3))
        have hb3 : Below B w w3 := hbw.trans (((Below.refl _ _).alloc (by omega) _).trans ((Z2.out.2.2.mono hBs).trans (Z3.out.2.2.mono hBs)))
        have hS : (s.extract k (k + M)).size = M := by simp only [ByteArray.size_extract]; omega
        have HS := Lib.hid hS
        clear hS
        clear c3 f5
        go_loopw [13] (fun i wr => ∃ j : Nat, i = .int .i64 j ∧ j ≤ M ∧ Bz (4 + j) wc.heap.size wr ∧ Err wr b fr line C ⟨#[]⟩ ∧ Below B w wr) (fun i _ => M - (intOf i).toNat)
        case atStart => exact ⟨0, rfl, Nat.zero_le _, Z3.out.2.1, Z3.out.1, hb3⟩
        case round =>
          obtain ⟨j, rfl, hj, hZ, hE5, hbr⟩ := hrel
          have Z := Lib.hid (And.intro hE5 hZ)
          have c3 := hE5.c3
          clear hE5 hZ
          by_cases hjM : j < M
          · have hjz : j < (s.extract k (k + M)).size := by rw [HS.out]; exact hjM
            have hz : 0 ≤ ((s.extract k (k + M))[j].toNat : Int) ∧ ((s.extract k (k + M))[j].toNat : Int) < 256 := ⟨by omega, by have := UInt8.toNat_lt (s.extract k (k + M))[j]; omega⟩
            have HZ := Lib.hid hz
            clear hz
            cases h9 : (((s.extract k (k + M))[j].toNat : Int) == 9)
            · go_wp2_with (go_at_call 19; refine (wbyte (4 + j) _ _ _ Z.out.2 (by omega) HZ.out).mono ?_; rintro e w4 ⟨rfl, z4, b4⟩)
              have E6 := Z.out.1.below b4 hlt2
              go_roundw
              case rel => exact ⟨j + 1, by go_num, by omega, z4, E6, hbr.trans (b4.mono hBs)⟩
              case measure => simp [intOf]; omega
            · go_wp2_with (go_at_call 19; refine (wbyte (4 + j) _ 32 _ Z.out.2 (by omega) (by omega)).mono ?_; rintro e w4 ⟨rfl, z4, b4⟩)
              have E6 := Z.out.1.below b4 hlt2
              go_roundw
              case rel => exact ⟨j + 1, by go_num, by omega, z4, E6, hbr.trans (b4.mono hBs)⟩
              case measure => simp [intOf]; omega
          · obtain rfl : j = M := by omega
            have hjn : ¬ ((j : Int) < (s.extract k (k + j)).size) := by rw [HS.out]; omega
            have f5 := Z.out.1.fz 5
            go_wp2_with (first
              | (go_at_call 18; refine (wstr (4 + j) _ _ _ Z.out.2 (by omega) (by simp [ByteArray.size])).mono ?_; rintro e w4 ⟨rfl, z4, b4⟩; have E4 : Err w4 b fr line C ⟨#[]⟩ := (by exact Z.out.1.below b4 hlt2); clear c3 f5; have Z4 := Lib.hid (And.intro E4 (And.intro z4 b4)); clear E4 z4 b4))
            have hb4 := hbr.trans (Z4.out.2.2.mono hBs)
            go_loopw [14] (fun i wr => ∃ q : Nat, i = .int .i64 q ∧ q ≤ C ∧ Bz (8 + j + q) wc.heap.size wr ∧ Err wr b fr line C ⟨#[]⟩ ∧ Below B w wr) (fun i _ => C - (intOf i).toNat)
            case atStart => exact ⟨0, rfl, Nat.zero_le _, (by have := Z4.out.2.1; simpa [ByteArray.size, Nat.add_comm, Nat.add_left_comm] using this), Z4.out.1, hb4⟩
            case round =>
              obtain ⟨q, rfl, hq, hZ5, hE7, hbr7⟩ := hrel
              have Z5 := Lib.hid (And.intro hE7 hZ5)
              have c3 := hE7.c3
              have f5 := hE7.fz 5
              clear hE7 hZ5
              by_cases hqC : q < C
              · go_wp2_with (go_at_call 19; refine (wbyte (8 + j + q) _ 46 _ Z5.out.2 (by omega) (by omega)).mono ?_; rintro e w5 ⟨rfl, z5, b5⟩)
                have E8 := Z5.out.1.below b5 hlt2
                go_roundw
                case rel => exact ⟨q + 1, by go_num, by omega, z5, E8, hbr7.trans (b5.mono hBs)⟩
                case measure => simp [intOf]; omega
              · obtain rfl : q = C := by omega
                go_wp2_with (first
                  | (go_at_call 19; refine (wbyte (8 + j + q) _ 94 _ Z5.out.2 (by omega) (by omega)).mono ?_; rintro e w5 ⟨rfl, z5, b5⟩; have E5 : Err w5 b fr line q ⟨#[]⟩ := (by exact Z5.out.1.below b5 hlt2); clear c3 f5; have f5 := E5.fz 5; have c5 := E5.c5; have Z6 := Lib.hid (And.intro E5 (And.intro z5 b5)); clear E5 z5 b5)
                  | (go_at_call 20; refine (bstr _ _ _ Z6.out.2.1).mono ?_; rintro e w6 ⟨t, rfl, b6⟩; have E6 : Err w6 b fr line q ⟨#[]⟩ := (by exact Z6.out.1.below b6 hlt2); clear c5 f5; have f5 := E6.fz 5; have c5 := E6.c5; have Z7 := Lib.hid (And.intro E6 b6); clear E6 b6))
                go_ret
                have hX := HX.out
                subst hX
                exact ⟨rfl, ⟨t, Z7.out.1.set5 t⟩, (hbr7.trans ((Z6.out.2.2.mono hBs).trans (Z7.out.2.mono hBs))).setCell hB _⟩
end Go.Proofs.YtlphfinmdacolaaDoorR.Bi
