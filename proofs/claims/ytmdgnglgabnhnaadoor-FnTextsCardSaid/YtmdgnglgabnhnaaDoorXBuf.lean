import Derived.Test.YtmdgnglgabnhnaaDoorPx0
import Derived.Test.YtmdgnglgabnhnaaDoorXShelfB
import Derived.Lib.BufferOld
import Derived.BigCall
/- The texts of a difference: 'DiffText1' and 'DiffText2' write the pieces but those of one type into a bytes.Buffer. -/
namespace Go.Proofs.YtmdgnglgabnhnaaDoor.P
open Go.RowKit Go.Proofs.YtmdgnglgabnhnaaDoorW.PrintWords Go.Proofs.YtmdgnglgabnhnaaDoorW.PrintLast Go.Proofs.YtmdgnglgabnhnaaDoorW.PrintMore
open Go.Proofs.YtmdgnglgabnhnaaDoorX
set_option linter.unusedVariables false
set_option linter.unusedSimpArgs false
/-- The bytes of the pieces but those of one type, behind what is there. -/
def textBut (no : Int) : List (S76) → List UInt8 → Option ByteArray
  | [], acc => some ⟨acc.toArray⟩
  | d :: r, acc => if d.f0 = no then textBut no r acc else if acc.length + d.f1.size ≤ 140737488355328 then textBut no r (acc ++ d.f1.data.toList) else none
theorem rd_drop (l : List (S76)) (i : Nat) (h : i < l.length) : l.drop i = rd_T76 l (i : Int) :: l.drop (i + 1) := by
  rw [List.drop_eq_getElem_cons h]
  simp [rd_T76, h]
theorem wadd1' (i : Nat) {n k : Nat} (h : i + k = n + 1 ∧ i ≤ n) (hn : n ≤ 1000000000) : wrap64 ((i : Int) + 1) = ((i + 1 : Nat) : Int) := by
  unfold wrap64
  omega
theorem byteCells_append (a b : List UInt8) : Lib.byteCells (a ++ b) = Lib.byteCells a ++ Lib.byteCells b := by simp [Lib.byteCells]
def diffmatchpatch_DiffMatchPatch_DiffText1.f (l : List (S76)) : Option ByteArray := if l.length ≤ 1000000000 then textBut (1) l [] else none
set_option maxHeartbeats 8000000 in
set_option maxRecDepth 100000 in
theorem diffmatchpatch_DiffMatchPatch_DiffText1.calls (p0_ : Value) (A1 : Option Addr) (c1 : Nat) (l1 : List (S76)) (r : ByteArray) (w : World) (hr1 : Kd.C k76 w A1 l1.length l1) (hc1 : l1.length ≤ c1) (h : diffmatchpatch_DiffMatchPatch_DiffText1.f l1 = some r) :
    Calls Tryd.prog 42 #[p0_, .slice A1 l1.length c1] w fun e w' => e = .returned (.string r) ∧ Below w.heap.size w w' := by
  have hu76 := Tryd.underlying76
  unfold diffmatchpatch_DiffMatchPatch_DiffText1.f at h
  by_cases hlen : l1.length ≤ 1000000000
  case neg => rw [if_neg hlen] at h; cases h
  rw [if_pos hlen] at h
  have HR1 := Aside0.mk hr1
  clear hr1
  have HI := Aside0.mk (Lib.fresh_isBuffer 80 5 w)
  have HB := Aside0.mk (below_alloc (Below.refl w.heap.size w) (.cells #[.slice none 0 0, .int .i64 0, .int .i8 0] 80))
  have H' := Aside0.mk h
  clear h
  go_enter Tryd.func42, Tryd.ntmps42
  go_wp2
  go_loopg [10] (l1.length + 1) (fun kq v10 w' => ∃ (i : Nat) (acc : List UInt8), v10 = .int .i64 (i : Int) ∧ Aside0 (i + kq = l1.length + 1 ∧ i ≤ l1.length) ∧ Aside0 (textBut (1) (l1.drop i) acc = some r) ∧ Aside0 (Lib.IsBuffer 80 5 w.heap.size w.heap.size (Lib.byteCells acc) w') ∧ Aside0 (Below w.heap.size w w'))
  case atStart => exact ⟨0, [], rfl, ⟨⟨by omega, by omega⟩⟩, H', HI, HB⟩
  case round =>
    clear H' HI HB
    obtain ⟨i, acc, rfl, HK, HA, HI, HB⟩ := hrel
    cases gk with
    | zero => exact absurd HK.out (by omega)
    | succ k1 =>
      have H := HA.out
      clear HA
      by_cases c3 : i < l1.length
      · have c3b0 : decide ((i : Int) < (l1.length : Int)) = true := decide_eq_true (by omega)
        have c3b1 : decide (i < l1.length) = true := decide_eq_true c3
        rw [rd_drop l1 i c3] at H
        unfold textBut at H
        have p156 : 0 ≤ (i : Int) := by omega
        have q156 : (i : Int) < (l1.length : Int) := by omega
        obtain ⟨ad156, e156, hx156_0, hx156_1⟩ := at_T76 HR1.out (i : Int) p156 q156
        cases e156
        simp only [Int.toNat_natCast] at hx156_0 hx156_1
        replace hx156_0 := (HB.out.cell (World.block_lt_of_cell? w _ hx156_0)).trans hx156_0
        replace hx156_1 := (HB.out.cell (World.block_lt_of_cell? w _ hx156_1)).trans hx156_1
        replace p156 := eq_true p156
        replace q156 := eq_true q156
        have HW := Aside0.mk (Below.refl wr.heap.size wr)
        by_cases c6 : (rd_T76 l1 (i : Int)).f0 = (1)
        · rw [if_pos c6] at H
          have c6b0 : (((rd_T76 l1 (i : Int)).f0) == (1)) = true := beq_iff_eq.mpr c6
          have c6b1 : (((rd_T76 l1 (i : Int)).f0) != (1)) = false := bne_eq_false_iff_eq.mpr c6
          clear c6
          have H' := Aside0.mk H
          clear H
          go_wp2_with (first | ((with_reducible refine gate_dst (N := 7) rfl ?_); refine box_event ?hg (N := 7) ?hd (cs := #[.int .i8 0, .string (⟨#[]⟩ : ByteArray)]) (t := 76) ?hr ?_; (case hd => rfl); (case hg => rfl); (case hr => first | (go_simp; done) | (go_simp; rfl)); intro gb hg w8 hbox hb; have n0_ := Aside0.mk (below_step (by repeat (first | (with_reducible first | exact HB.out | apply below_alloc | apply pw_below_drewN | apply below_drew1) | exact HB.out)) hb); have m0_ := Aside0.mk (below_step (by repeat (first | (with_reducible first | exact HW.out | apply below_alloc | apply pw_below_drewN | apply below_drew1) | exact HW.out)) hb); have n1_ := Aside0.mk (hbox); have n2_ := Aside0.mk ((by rw [hg]; exact (below_size (by repeat (first | (with_reducible first | exact HB.out | apply below_alloc | apply pw_below_drewN | apply below_drew1) | exact HB.out)))) : w.heap.size ≤ gb); have m2_ := Aside0.mk ((by rw [hg]; exact (below_size (by repeat (first | (with_reducible first | exact HW.out | apply below_alloc | apply pw_below_drewN | apply below_drew1) | exact HW.out)))) : wr.heap.size ≤ gb); clear HB HW; have HB := n0_; have HW := m0_; have BK := n1_; have GE := n2_; have GW := m2_; clear n0_ n1_ n2_ m0_ m2_; clear hb hbox hg; have hcz_0 : w8.cell? ⟨gb, 0, none⟩ = some (.int .i8 0) := (blk_cell BK.out 0).trans rfl; have hcz_1 : w8.cell? ⟨gb, 1, none⟩ = some (.string (⟨#[]⟩ : ByteArray)) := (blk_cell BK.out 1).trans rfl; have hfz_0 := blk_frozen BK.out 0; have hfz_1 := blk_frozen BK.out 1))
          go_roundg k1
          case measure => omega
          case rel =>
            exact ⟨i + 1, acc, by simp only [Value.int.injEq, true_and]; first | exact (wadd1' i HK.out hlen) | omega, ⟨by have := HK.out; omega⟩, H', ⟨Lib.IsBuffer.old HI.out (by repeat (first | (with_reducible first | exact HW.out | apply below_alloc | apply pw_below_drewN | apply below_drew1 | refine below_set ?_ GW.out) | exact HW.out))⟩, ⟨by repeat (first | (with_reducible first | exact HB.out | apply below_alloc | apply pw_below_drewN | apply below_drew1 | refine below_set ?_ GE.out) | exact HB.out)⟩⟩
        · rw [if_neg c6] at H
          have c6b0 : (((rd_T76 l1 (i : Int)).f0) == (1)) = false := beq_eq_false_iff_ne.mpr c6
          have c6b1 : (((rd_T76 l1 (i : Int)).f0) != (1)) = true := bne_iff_ne.mpr c6
          clear c6
          by_cases cl0 : acc.length + ((rd_T76 l1 (i : Int)).f1).size ≤ 140737488355328
          case neg => rw [if_neg cl0] at H; cases H
          rw [if_pos cl0] at H
          have cl := Aside0.mk cl0
          clear cl0
          have H' := Aside0.mk H
          clear H
          go_wp2_with (first | ((with_reducible refine gate_dst (N := 7) rfl ?_); refine box_event ?hg (N := 7) ?hd (cs := #[.int .i8 0, .string (⟨#[]⟩ : ByteArray)]) (t := 76) ?hr ?_; (case hd => rfl); (case hg => rfl); (case hr => first | (go_simp; done) | (go_simp; rfl)); intro gb hg w8 hbox hb; have n0_ := Aside0.mk (below_step (by repeat (first | (with_reducible first | exact HB.out | apply below_alloc | apply pw_below_drewN | apply below_drew1) | exact HB.out)) hb); have m0_ := Aside0.mk (below_step (by repeat (first | (with_reducible first | exact HW.out | apply below_alloc | apply pw_below_drewN | apply below_drew1) | exact HW.out)) hb); have n1_ := Aside0.mk (hbox); have n2_ := Aside0.mk ((by rw [hg]; exact (below_size (by repeat (first | (with_reducible first | exact HB.out | apply below_alloc | apply pw_below_drewN | apply below_drew1) | exact HB.out)))) : w.heap.size ≤ gb); have m2_ := Aside0.mk ((by rw [hg]; exact (below_size (by repeat (first | (with_reducible first | exact HW.out | apply below_alloc | apply pw_below_drewN | apply below_drew1) | exact HW.out)))) : wr.heap.size ≤ gb); clear HB HW; have HB := n0_; have HW := m0_; have BK := n1_; have GE := n2_; have GW := m2_; clear n0_ n1_ n2_ m0_ m2_; clear hb hbox hg; have hcz_0 : w8.cell? ⟨gb, 0, none⟩ = some (.int .i8 0) := (blk_cell BK.out 0).trans rfl; have hcz_1 : w8.cell? ⟨gb, 1, none⟩ = some (.string (⟨#[]⟩ : ByteArray)) := (blk_cell BK.out 1).trans rfl; have hfz_0 := blk_frozen BK.out 0; have hfz_1 := blk_frozen BK.out 1) | (go_at_call 56; refine (Tryd.Buffer_WriteString w.heap.size w.heap.size (Lib.byteCells acc) ((rd_T76 l1 (i : Int)).f1) _ (Lib.IsBuffer.old HI.out (by repeat (first | (with_reducible first | exact HW.out | apply below_alloc | apply pw_below_drewN | apply below_drew1 | refine below_set ?_ GW.out) | exact HW.out))) (below_size (by repeat (first | (with_reducible first | exact HB.out | apply below_alloc | apply pw_below_drewN | apply below_drew1 | refine below_set ?_ GE.out) | exact HB.out))) (Lib.byteCells_one acc) (by rw [Lib.byteCells_length]; exact cl.out)).mono ?_; rintro e w9 ⟨rfl, hI9, hb9⟩; have n0_ := Aside0.mk (Below.trans (by repeat (first | (with_reducible first | exact HB.out | apply below_alloc | apply pw_below_drewN | apply below_drew1 | refine below_set ?_ GE.out) | exact HB.out)) hb9); clear HB HW HI; have HB := n0_; have HI := Aside0.mk hI9; clear n0_ hb9 hI9))
          go_roundg k1
          case measure => omega
          case rel =>
            exact ⟨i + 1, acc ++ ((rd_T76 l1 (i : Int)).f1).data.toList, by simp only [Value.int.injEq, true_and]; first | exact (wadd1' i HK.out hlen) | omega, ⟨by have := HK.out; omega⟩, H', ⟨by rw [byteCells_append]; exact HI.out⟩, ⟨by repeat (first | (with_reducible first | exact HB.out | apply below_alloc | apply pw_below_drewN | apply below_drew1) | exact HB.out)⟩⟩
      · have c3b0 : decide ((i : Int) < (l1.length : Int)) = false := decide_eq_false (by omega)
        have c3b1 : decide (i < l1.length) = false := decide_eq_false c3
        rw [List.drop_eq_nil_of_le (by omega)] at H
        unfold textBut at H
        cases H
        go_wp2_with (go_at_call 57; refine (Tryd.Buffer_String w.heap.size w.heap.size acc _ (Lib.IsBuffer.old HI.out (by repeat (first | exact Below.refl _ _ | apply below_alloc | apply pw_below_drewN | apply below_drew1)))).mono ?_; rintro e w9 ⟨rfl, n9, rfl⟩)
        first | go_end0 | go_ret
        exact ⟨rfl, by repeat (first | (with_reducible first | exact HB.out | apply below_alloc | apply pw_below_drewN | apply below_drew1) | exact HB.out)⟩
def diffmatchpatch_DiffMatchPatch_DiffText2.f (l : List (S76)) : Option ByteArray := if l.length ≤ 1000000000 then textBut (-1) l [] else none
set_option maxHeartbeats 8000000 in
set_option maxRecDepth 100000 in
theorem diffmatchpatch_DiffMatchPatch_DiffText2.calls (p0_ : Value) (A1 : Option Addr) (c1 : Nat) (l1 : List (S76)) (r : ByteArray) (w : World) (hr1 : Kd.C k76 w A1 l1.length l1) (hc1 : l1.length ≤ c1) (h : diffmatchpatch_DiffMatchPatch_DiffText2.f l1 = some r) :
    Calls Tryd.prog 43 #[p0_, .slice A1 l1.length c1] w fun e w' => e = .returned (.string r) ∧ Below w.heap.size w w' := by
  have hu76 := Tryd.underlying76
  unfold diffmatchpatch_DiffMatchPatch_DiffText2.f at h
  by_cases hlen : l1.length ≤ 1000000000
  case neg => rw [if_neg hlen] at h; cases h
  rw [if_pos hlen] at h
  have HR1 := Aside0.mk hr1
  clear hr1
  have HI := Aside0.mk (Lib.fresh_isBuffer 80 5 w)
  have HB := Aside0.mk (below_alloc (Below.refl w.heap.size w) (.cells #[.slice none 0 0, .int .i64 0, .int .i8 0] 80))
  have H' := Aside0.mk h
  clear h
  go_enter Tryd.func43, Tryd.ntmps43
  go_wp2
  go_loopg [10] (l1.length + 1) (fun kq v10 w' => ∃ (i : Nat) (acc : List UInt8), v10 = .int .i64 (i : Int) ∧ Aside0 (i + kq = l1.length + 1 ∧ i ≤ l1.length) ∧ Aside0 (textBut (-1) (l1.drop i) acc = some r) ∧ Aside0 (Lib.IsBuffer 80 5 w.heap.size w.heap.size (Lib.byteCells acc) w') ∧ Aside0 (Below w.heap.size w w'))
  case atStart => exact ⟨0, [], rfl, ⟨⟨by omega, by omega⟩⟩, H', HI, HB⟩
  case round =>
    clear H' HI HB
    obtain ⟨i, acc, rfl, HK, HA, HI, HB⟩ := hrel
    cases gk with
    | zero => exact absurd HK.out (by omega)
    | succ k1 =>
      have H := HA.out
      clear HA
      by_cases c3 : i < l1.length
      · have c3b0 : decide ((i : Int) < (l1.length : Int)) = true := decide_eq_true (by omega)
        have c3b1 : decide (i < l1.length) = true := decide_eq_true c3
        rw [rd_drop l1 i c3] at H
        unfold textBut at H
        have p156 : 0 ≤ (i : Int) := by omega
        have q156 : (i : Int) < (l1.length : Int) := by omega
        obtain ⟨ad156, e156, hx156_0, hx156_1⟩ := at_T76 HR1.out (i : Int) p156 q156
        cases e156
        simp only [Int.toNat_natCast] at hx156_0 hx156_1
        replace hx156_0 := (HB.out.cell (World.block_lt_of_cell? w _ hx156_0)).trans hx156_0
        replace hx156_1 := (HB.out.cell (World.block_lt_of_cell? w _ hx156_1)).trans hx156_1
        replace p156 := eq_true p156
        replace q156 := eq_true q156
        have HW := Aside0.mk (Below.refl wr.heap.size wr)
        by_cases c6 : (rd_T76 l1 (i : Int)).f0 = (-1)
        · rw [if_pos c6] at H
          have c6b0 : (((rd_T76 l1 (i : Int)).f0) == (-1)) = true := beq_iff_eq.mpr c6
          have c6b1 : (((rd_T76 l1 (i : Int)).f0) != (-1)) = false := bne_eq_false_iff_eq.mpr c6
          clear c6
          have H' := Aside0.mk H
          clear H
          go_wp2_with (first | ((with_reducible refine gate_dst (N := 7) rfl ?_); refine box_event ?hg (N := 7) ?hd (cs := #[.int .i8 0, .string (⟨#[]⟩ : ByteArray)]) (t := 76) ?hr ?_; (case hd => rfl); (case hg => rfl); (case hr => first | (go_simp; done) | (go_simp; rfl)); intro gb hg w8 hbox hb; have n0_ := Aside0.mk (below_step (by repeat (first | (with_reducible first | exact HB.out | apply below_alloc | apply pw_below_drewN | apply below_drew1) | exact HB.out)) hb); have m0_ := Aside0.mk (below_step (by repeat (first | (with_reducible first | exact HW.out | apply below_alloc | apply pw_below_drewN | apply below_drew1) | exact HW.out)) hb); have n1_ := Aside0.mk (hbox); have n2_ := Aside0.mk ((by rw [hg]; exact (below_size (by repeat (first | (with_reducible first | exact HB.out | apply below_alloc | apply pw_below_drewN | apply below_drew1) | exact HB.out)))) : w.heap.size ≤ gb); have m2_ := Aside0.mk ((by rw [hg]; exact (below_size (by repeat (first | (with_reducible first | exact HW.out | apply below_alloc | apply pw_below_drewN | apply below_drew1) | exact HW.out)))) : wr.heap.size ≤ gb); clear HB HW; have HB := n0_; have HW := m0_; have BK := n1_; have GE := n2_; have GW := m2_; clear n0_ n1_ n2_ m0_ m2_; clear hb hbox hg; have hcz_0 : w8.cell? ⟨gb, 0, none⟩ = some (.int .i8 0) := (blk_cell BK.out 0).trans rfl; have hcz_1 : w8.cell? ⟨gb, 1, none⟩ = some (.string (⟨#[]⟩ : ByteArray)) := (blk_cell BK.out 1).trans rfl; have hfz_0 := blk_frozen BK.out 0; have hfz_1 := blk_frozen BK.out 1))
          go_roundg k1
          case measure => omega
          case rel =>
            exact ⟨i + 1, acc, by simp only [Value.int.injEq, true_and]; first | exact (wadd1' i HK.out hlen) | omega, ⟨by have := HK.out; omega⟩, H', ⟨Lib.IsBuffer.old HI.out (by repeat (first | (with_reducible first | exact HW.out | apply below_alloc | apply pw_below_drewN | apply below_drew1 | refine below_set ?_ GW.out) | exact HW.out))⟩, ⟨by repeat (first | (with_reducible first | exact HB.out | apply below_alloc | apply pw_below_drewN | apply below_drew1 | refine below_set ?_ GE.out) | exact HB.out)⟩⟩
        · rw [if_neg c6] at H
          have c6b0 : (((rd_T76 l1 (i : Int)).f0) == (-1)) = false := beq_eq_false_iff_ne.mpr c6
          have c6b1 : (((rd_T76 l1 (i : Int)).f0) != (-1)) = true := bne_iff_ne.mpr c6
          clear c6
          by_cases cl0 : acc.length + ((rd_T76 l1 (i : Int)).f1).size ≤ 140737488355328
          case neg => rw [if_neg cl0] at H; cases H
          rw [if_pos cl0] at H
          have cl := Aside0.mk cl0
          clear cl0
          have H' := Aside0.mk H
          clear H
          go_wp2_with (first | ((with_reducible refine gate_dst (N := 7) rfl ?_); refine box_event ?hg (N := 7) ?hd (cs := #[.int .i8 0, .string (⟨#[]⟩ : ByteArray)]) (t := 76) ?hr ?_; (case hd => rfl); (case hg => rfl); (case hr => first | (go_simp; done) | (go_simp; rfl)); intro gb hg w8 hbox hb; have n0_ := Aside0.mk (below_step (by repeat (first | (with_reducible first | exact HB.out | apply below_alloc | apply pw_below_drewN | apply below_drew1) | exact HB.out)) hb); have m0_ := Aside0.mk (below_step (by repeat (first | (with_reducible first | exact HW.out | apply below_alloc | apply pw_below_drewN | apply below_drew1) | exact HW.out)) hb); have n1_ := Aside0.mk (hbox); have n2_ := Aside0.mk ((by rw [hg]; exact (below_size (by repeat (first | (with_reducible first | exact HB.out | apply below_alloc | apply pw_below_drewN | apply below_drew1) | exact HB.out)))) : w.heap.size ≤ gb); have m2_ := Aside0.mk ((by rw [hg]; exact (below_size (by repeat (first | (with_reducible first | exact HW.out | apply below_alloc | apply pw_below_drewN | apply below_drew1) | exact HW.out)))) : wr.heap.size ≤ gb); clear HB HW; have HB := n0_; have HW := m0_; have BK := n1_; have GE := n2_; have GW := m2_; clear n0_ n1_ n2_ m0_ m2_; clear hb hbox hg; have hcz_0 : w8.cell? ⟨gb, 0, none⟩ = some (.int .i8 0) := (blk_cell BK.out 0).trans rfl; have hcz_1 : w8.cell? ⟨gb, 1, none⟩ = some (.string (⟨#[]⟩ : ByteArray)) := (blk_cell BK.out 1).trans rfl; have hfz_0 := blk_frozen BK.out 0; have hfz_1 := blk_frozen BK.out 1) | (go_at_call 56; refine (Tryd.Buffer_WriteString w.heap.size w.heap.size (Lib.byteCells acc) ((rd_T76 l1 (i : Int)).f1) _ (Lib.IsBuffer.old HI.out (by repeat (first | (with_reducible first | exact HW.out | apply below_alloc | apply pw_below_drewN | apply below_drew1 | refine below_set ?_ GW.out) | exact HW.out))) (below_size (by repeat (first | (with_reducible first | exact HB.out | apply below_alloc | apply pw_below_drewN | apply below_drew1 | refine below_set ?_ GE.out) | exact HB.out))) (Lib.byteCells_one acc) (by rw [Lib.byteCells_length]; exact cl.out)).mono ?_; rintro e w9 ⟨rfl, hI9, hb9⟩; have n0_ := Aside0.mk (Below.trans (by repeat (first | (with_reducible first | exact HB.out | apply below_alloc | apply pw_below_drewN | apply below_drew1 | refine below_set ?_ GE.out) | exact HB.out)) hb9); clear HB HW HI; have HB := n0_; have HI := Aside0.mk hI9; clear n0_ hb9 hI9))
          go_roundg k1
          case measure => omega
          case rel =>
            exact ⟨i + 1, acc ++ ((rd_T76 l1 (i : Int)).f1).data.toList, by simp only [Value.int.injEq, true_and]; first | exact (wadd1' i HK.out hlen) | omega, ⟨by have := HK.out; omega⟩, H', ⟨by rw [byteCells_append]; exact HI.out⟩, ⟨by repeat (first | (with_reducible first | exact HB.out | apply below_alloc | apply pw_below_drewN | apply below_drew1) | exact HB.out)⟩⟩
      · have c3b0 : decide ((i : Int) < (l1.length : Int)) = false := decide_eq_false (by omega)
        have c3b1 : decide (i < l1.length) = false := decide_eq_false c3
        rw [List.drop_eq_nil_of_le (by omega)] at H
        unfold textBut at H
        cases H
        go_wp2_with (go_at_call 57; refine (Tryd.Buffer_String w.heap.size w.heap.size acc _ (Lib.IsBuffer.old HI.out (by repeat (first | exact Below.refl _ _ | apply below_alloc | apply pw_below_drewN | apply below_drew1)))).mono ?_; rintro e w9 ⟨rfl, n9, rfl⟩)
        first | go_end0 | go_ret
        exact ⟨rfl, by repeat (first | (with_reducible first | exact HB.out | apply below_alloc | apply pw_below_drewN | apply below_drew1) | exact HB.out)⟩
end Go.Proofs.YtmdgnglgabnhnaaDoor.P
