import Derived.Test.YtfefjbifdbfmjaaDoorEvT
import Derived.Test.YtfefjbifdbfmjaaDoorXShelf
import Derived.Below
import Derived.Deep.Draws
import Derived.Deep.AppendLies
import Derived.OwnWalk
import Derived.Tactics
import Derived.Laws.Slices
import Derived.WalkKit
import Derived.KernelRfl
import Derived.Deep.LoopGhost
import Derived.Deep.QuietTactic
import Derived.BigQuiet
import Derived.BigCall
import Derived.Deep.DeepCutAuto
import Derived.Deep.CutBlock
import Derived.Deep.RegionHeld3
import Derived.Lib.BufferOld
import Derived.Tactics2
import Derived.Laws.DeepStrings4
/- Functions that write into a bytes.Buffer, walked by hand. -/
namespace Go.Proofs.YtfefjbifdbfmjaaDoor.E
open Go.Ev Go.RowKit
set_option linter.unusedVariables false
set_option linter.unusedSimpArgs false
structure Aside0 (p : Prop) : Prop where mk :: (out : p)
theorem below_alloc {w W : World} (h : Below w.heap.size w W) (o : Obj) : Below w.heap.size w (W.alloc o) := h.alloc h.size o
theorem pw_below_drewN {B : Nat} {w W : World} (h : Below B w W) (n : Nat) : Below B w (W.drewN n) := ⟨h.os, h.tape, h.output, h.size, h.block⟩
theorem below_drew1 {base : Nat} {w W : World} (h : Below base w W) : Below base w W.drew := h.drew
theorem below_then {B : Nat} {w w1 w2 : World} (h : Below B w w1) (hB : B ≤ w1.heap.size) (k : Below w1.heap.size w1 w2) : Below B w w2 :=
  h.trans ⟨k.os, k.tape, k.output, k.size, fun i hi => k.block i (Nat.lt_of_lt_of_le hi hB)⟩
theorem below_size {w W : World} (h : Below w.heap.size w W) : w.heap.size ≤ W.heap.size := h.size
theorem below_step {w W w2 : World} (h : Below w.heap.size w W) (k : Below W.heap.size W w2) : Below w.heap.size w w2 := below_then h h.size k
theorem below_set {w W : World} {g j : Nat} {v : Value} (h : Below w.heap.size w W) (hg : w.heap.size ≤ g) : Below w.heap.size w (W.setCell ⟨g, j, none⟩ v) := h.setCell hg _
theorem blk_cell {w : World} {g : Nat} {t : TypeId} {cs : Array Value} (h : w.heap[g]? = some (.cells cs t (0, 0))) (i : Nat) : w.cell? ⟨g, i, none⟩ = cs[i]? := by simp [World.cell?, h]
theorem blk_frozen {w : World} {g : Nat} {t : TypeId} {cs : Array Value} (h : w.heap[g]? = some (.cells cs t (0, 0))) (i : Nat) : w.frozen? ⟨g, i, none⟩ = false := by simp [World.frozen?, h]
section
variable {P : Program} {ops : Array Oper} {rest : List Oper} {o : Oper} {a : Act} {Q : Exit → Act → World → Prop} {W : World}
theorem box_event (hgd : o.guard = none) {N : Tmp} (_hd : o.dst = some N) {cs : Array Value} {t : TypeId}
    (hrun : (execOp a.eval o).run P W = .ok (.value (.pointer (some ⟨W.heap.size, 0, none⟩))) (W.alloc (.cells cs t (0, 0))))
    (h : ∀ g, g = W.heap.size → ∀ w1, w1.heap[g]? = some (.cells cs t (0, 0)) → Below W.heap.size W w1 → wpList P ops Q rest (a.put o.dst (.pointer (some ⟨g, 0, none⟩))) w1) : wpList P ops Q (o :: rest) a W :=
  wpList_plain hgd fun K hK => by
    unfold Oper.wp
    rw [hrun]
    exact hK _ _ (h _ rfl _ (heap_alloc_new W _) (below_alloc (Below.refl _ _) _))
theorem gate_dst {N : Tmp} (_hN : o.dst = some N) (h : wpList P ops Q (o :: rest) a W) : wpList P ops Q (o :: rest) a W := h
end
theorem box_set2 {w : World} {g : Nat} {a b x y : Value} {t : TypeId} (h : w.heap[g]? = some (.cells #[a, b] t (0, 0))) : ((w.setCell ⟨g, 0, none⟩ x).setCell ⟨g, 1, none⟩ y).heap[g]? = some (.cells #[x, y] t (0, 0)) := by
  simp [World.setCell, Array.getElem?_modify, h]
theorem blk_keep {W w9 : World} {g : Nat} {o : Obj} (hb : Below W.heap.size W w9) (h : W.heap[g]? = some o) : w9.heap[g]? = some o := (hb.block g (Array.getElem?_eq_some_iff.1 h).1).trans h
theorem add_field (ad : Addr) (m j : Nat) (hj : 0 < j) : ad.add (m + j) = ⟨(ad.add m).block, (ad.add m).off + j, none⟩ := by
  unfold Addr.add
  by_cases hm : m = 0
  · subst hm
    simp [Nat.ne_of_gt hj]
  · simp [hm, Nat.add_assoc]
def rd (l : List (Int × ByteArray)) (i : Nat) : Int × ByteArray := l.getD i (0, ⟨#[]⟩)
theorem rd_drop (l : List (Int × ByteArray)) (i : Nat) (h : i < l.length) : l.drop i = rd l i :: l.drop (i + 1) := by
  rw [List.drop_eq_getElem_cons h]
  simp [rd, h]
theorem at_d {w : World} {A : Option Addr} {c : Nat} {l : List (Int × ByteArray)} (h : ReadV w TS0 l (.slice A l.length c)) (i : Nat) (hi : i < l.length) :
    ∃ ad, A = some ad ∧ w.cell? (ad.add (i * 2)) = some (.int .i8 (rd l i).1) ∧ w.cell? ⟨(ad.add (i * 2)).block, (ad.add (i * 2)).off + 1, none⟩ = some (.string (rd l i).2) := by
  have hrd : rd l i = l[i] := by simp [rd, hi]
  obtain ⟨A', c', hV, hc, hcell⟩ := h
  injection hV with h1 h2 h3
  subst h1; subst h3
  have hat := cellsL_at TS0 l i hi
  have get : ∀ j u, (TS0.cells (l[i]))[j]? = some u → j < 2 → (cellsL TS0 l)[i * 2 + j]? = some u := by
    intro j u hj hj2
    have h4 : ((cellsL TS0 l).drop (i * 2)).take 2 = TS0.cells (l[i]) := hat
    rw [← h4, List.getElem?_take, if_pos hj2, List.getElem?_drop] at hj
    exact hj
  obtain ⟨ad, hA, h0⟩ := hcell (i * 2 + 0) (.int .i8 l[i].1) (get 0 _ rfl (by omega))
  obtain ⟨ad', hA', h1⟩ := hcell (i * 2 + 1) (.string l[i].2) (get 1 _ rfl (by omega))
  rw [hA] at hA'
  cases hA'
  refine ⟨ad, hA, by rw [hrd]; exact h0, ?_⟩
  rw [hrd, ← add_field _ _ 1 (by omega)]
  exact h1
theorem wadd1' (i : Nat) {n k : Nat} (h : i + k = n + 1 ∧ i ≤ n) (hn : n ≤ 1000000000) : wrap64 ((i : Int) + 1) = ((i + 1 : Nat) : Int) := by
  unfold wrap64
  omega
theorem byteCells_append (a b : List UInt8) : Lib.byteCells (a ++ b) = Lib.byteCells a ++ Lib.byteCells b := by simp [Lib.byteCells]
theorem one_b (a b : List UInt8) : ∀ v ∈ Lib.byteCells a ++ Lib.byteCells b, v.oneCell' = true := by
  rw [← byteCells_append]
  exact Lib.byteCells_one _
theorem one_c (a b c : List UInt8) : ∀ v ∈ Lib.byteCells a ++ Lib.byteCells b ++ Lib.byteCells c, v.oneCell' = true := by
  rw [← byteCells_append, ← byteCells_append]
  exact Lib.byteCells_one _
theorem lim_a {acc : List UInt8} {a b c : ByteArray} (h : acc.length + a.size + b.size + c.size ≤ 140737488355328) : (Lib.byteCells acc).length + a.size ≤ 140737488355328 := by
  rw [Lib.byteCells_length]
  omega
theorem lim_b {acc : List UInt8} {a b c : ByteArray} (h : acc.length + a.size + b.size + c.size ≤ 140737488355328) : (Lib.byteCells acc ++ Lib.byteCells a.data.toList).length + b.size ≤ 140737488355328 := by
  rw [List.length_append, Lib.byteCells_length, Lib.byteCells_length, ← Lib.size_eq]
  omega
theorem lim_c {acc : List UInt8} {a b c : ByteArray} (h : acc.length + a.size + b.size + c.size ≤ 140737488355328) : (Lib.byteCells acc ++ Lib.byteCells a.data.toList ++ Lib.byteCells b.data.toList).length + c.size ≤ 140737488355328 := by
  rw [List.length_append, List.length_append, Lib.byteCells_length, Lib.byteCells_length, Lib.byteCells_length, ← Lib.size_eq, ← Lib.size_eq]
  omega
theorem call_esc {W0 : World} {cf : (f : FuncId) → argL (sg f).ps → Option (retL (sg f).rs)} (hcf : ∀ f, CallOk Go.Proofs.Tryd.prog W0 sg cf f) {s u : ByteArray} (h : cf 55 (s, ()) = some u) {W : World} (hB : Below W0.heap.size W0 W) :
    Calls Go.Proofs.Tryd.prog 55 #[.string s] W fun e w' => e = .returned (.string u) ∧ Below W.heap.size W w' := by
  obtain ⟨_, hc⟩ := hcf 55 (s, ()) u h
  refine (hc W (fun _ => False) [.string s] hB (fun _ h => h.elim) ⟨rfl, trivial⟩ List.Pairwise.nil).mono ?_
  rintro e w' ⟨Rs, rfl, hR, _, hP⟩
  match Rs, hR with
  | [V], hR =>
    have hV : V = .string u := hR
    subst hV
    exact ⟨rfl, hP.below (fun _ h => h.elim) (Nat.le_refl _)⟩
theorem call_rep {W0 : World} {cf : (f : FuncId) → argL (sg f).ps → Option (retL (sg f).rs)} (hcf : ∀ f, CallOk Go.Proofs.Tryd.prog W0 sg cf f) {s a b u : ByteArray} (h : cf 42 (s, a, b, ()) = some u) {W : World} (hB : Below W0.heap.size W0 W) :
    Calls Go.Proofs.Tryd.prog 42 #[.string s, .string a, .string b] W fun e w' => e = .returned (.string u) ∧ Below W.heap.size W w' := by
  obtain ⟨_, hc⟩ := hcf 42 (s, a, b, ()) u h
  refine (hc W (fun _ => False) [.string s, .string a, .string b] hB (fun _ h => h.elim) ⟨rfl, rfl, rfl, trivial⟩ List.Pairwise.nil).mono ?_
  rintro e w' ⟨Rs, rfl, hR, _, hP⟩
  match Rs, hR with
  | [V], hR =>
    have hV : V = .string u := hR
    subst hV
    exact ⟨rfl, hP.below (fun _ h => h.elim) (Nat.le_refl _)⟩
theorem htmlF_nil (esc : ByteArray → Option ByteArray) (acc : List UInt8) : htmlF esc [] acc = some acc := rfl
theorem htmlF_cons (esc : ByteArray → Option ByteArray) (d : Int × ByteArray) (r : List (Int × ByteArray)) (acc : List UInt8) : htmlF esc (d :: r) acc = ((esc d.2).bind fun t =>
    if d.1 = 1 then (wr3 acc (⟨#[60, 105, 110, 115, 32, 115, 116, 121, 108, 101, 61, 34, 98, 97, 99, 107, 103, 114, 111, 117, 110, 100, 58, 35, 101, 54, 102, 102, 101, 54, 59, 34, 62]⟩ : ByteArray) t (⟨#[60, 47, 105, 110, 115, 62]⟩ : ByteArray)).bind (htmlF esc r)
    else if d.1 = -1 then (wr3 acc (⟨#[60, 100, 101, 108, 32, 115, 116, 121, 108, 101, 61, 34, 98, 97, 99, 107, 103, 114, 111, 117, 110, 100, 58, 35, 102, 102, 101, 54, 101, 54, 59, 34, 62]⟩ : ByteArray) t (⟨#[60, 47, 100, 101, 108, 62]⟩ : ByteArray)).bind (htmlF esc r)
    else if d.1 = 0 then (wr3 acc (⟨#[60, 115, 112, 97, 110, 62]⟩ : ByteArray) t (⟨#[60, 47, 115, 112, 97, 110, 62]⟩ : ByteArray)).bind (htmlF esc r)
    else htmlF esc r acc) := rfl

set_option maxHeartbeats 8000000 in
set_option maxRecDepth 100000 in
theorem html_calls {W0 : World} {cf : (f : FuncId) → argL (sg f).ps → Option (retL (sg f).rs)} (hcf : ∀ f, CallOk Go.Proofs.Tryd.prog W0 sg cf f) (p0_ : Value) (A1 : Option Addr) (c1 : Nat) (l1 : List (Int × ByteArray)) (r : ByteArray) (w : World) (hW : Below W0.heap.size W0 w) (hr1 : ReadV w TS0 l1 (.slice A1 l1.length c1))
    (esc : ByteArray → Option ByteArray) (hesc : ∀ s t, esc s = some t → ∃ u, cf 55 (s, ()) = some u ∧ cf 42 (u, (⟨#[10]⟩ : ByteArray), (⟨#[38, 112, 97, 114, 97, 59, 60, 98, 114, 62]⟩ : ByteArray), ()) = some t) (h : htmlE esc l1 = some r) :
    Calls Go.Proofs.Tryd.prog 39 #[p0_, .slice A1 l1.length c1] w fun e w' => e = .returned (.string r) ∧ Below w.heap.size w w' := by
  unfold htmlE at h
  by_cases hlen : l1.length ≤ 1000000000
  case neg => rw [if_neg hlen] at h; cases h
  rw [if_pos hlen] at h
  obtain ⟨out, h, hout⟩ := Option.map_eq_some_iff.1 h
  have hu76 := Go.Proofs.Tryd.underlying76
  have HW0 := Aside0.mk hW
  clear hW
  have HR1 := Aside0.mk hr1
  clear hr1
  have HI := Aside0.mk (Lib.fresh_isBuffer 82 5 w)
  have HB := Aside0.mk (below_alloc (Below.refl w.heap.size w) (.cells #[.slice none 0 0, .int .i64 0, .int .i8 0] 82))
  have H' := Aside0.mk h
  clear h
  go_enter Go.Proofs.Tryd.func39, Go.Proofs.Tryd.ntmps39
  go_wp2
  go_loopg [11] (l1.length + 1) (fun kq v10 w' => ∃ (i : Nat) (acc : List UInt8), v10 = .int .i64 (i : Int) ∧ Aside0 (i + kq = l1.length + 1 ∧ i ≤ l1.length) ∧ Aside0 (htmlF esc (l1.drop i) acc = some out) ∧ Aside0 (Lib.IsBuffer 82 5 w.heap.size w.heap.size (Lib.byteCells acc) w') ∧ Aside0 (Below w.heap.size w w'))
  case atStart => exact ⟨0, [], rfl, ⟨⟨by omega, by omega⟩⟩, H', HI, HB⟩
  case round =>
    clear H' HI HB
    obtain ⟨i, acc, rfl, HK, HA, HI, HB⟩ := hrel
    cases gk with
    | zero => exact absurd HK.out (by omega)
    | succ k1 =>
      have H := HA.out
      clear HA
      by_cases c3 : i < l1.length
      · have c3b0 : decide ((i : Int) < (l1.length : Int)) = true := decide_eq_true (by omega)
        have c3b1 : decide (i < l1.length) = true := decide_eq_true c3
        rw [rd_drop l1 i c3, htmlF_cons] at H
        obtain ⟨t, ht, H⟩ := Option.bind_eq_some_iff.1 H
        obtain ⟨u, hu1, hu2⟩ := hesc _ _ ht
        have E1 := Aside0.mk hu1
        have E2 := Aside0.mk hu2
        clear hu1 hu2 ht
        have p156 : 0 ≤ (i : Int) := by omega
        have q156 : (i : Int) < (l1.length : Int) := by omega
        obtain ⟨ad156, e156, hx156_0, hx156_1⟩ := at_d HR1.out i c3
        cases e156
        replace hx156_0 := (HB.out.cell (World.block_lt_of_cell? w _ hx156_0)).trans hx156_0
        replace hx156_1 := (HB.out.cell (World.block_lt_of_cell? w _ hx156_1)).trans hx156_1
        replace p156 := eq_true p156
        replace q156 := eq_true q156
        have HW := Aside0.mk (Below.refl wr.heap.size wr)
        by_cases c6_1 : (rd l1 i).1 = (1)
        · rw [if_pos c6_1] at H
          have c6b0_1 : ((rd l1 i).1 == (1)) = true := beq_iff_eq.mpr c6_1
          clear c6_1
          unfold wr3 at H
          obtain ⟨acc2, hacc, H⟩ := Option.bind_eq_some_iff.1 H
          split at hacc
          case isFalse => cases hacc
          rename_i cl0
          cases hacc
          have cl := Aside0.mk cl0
          clear cl0
          have H' := Aside0.mk H
          clear H
          go_wp2_with (first | ((with_reducible refine gate_dst (N := 7) rfl ?_); refine box_event ?hg (N := 7) ?hd (cs := #[.int .i8 0, .string (⟨#[]⟩ : ByteArray)]) (t := 76) ?hr ?_; (case hd => rfl); (case hg => rfl); (case hr => first | (go_simp; done) | (go_simp; rfl)); intro gb hg w8 hbox hb; have n0_ := Aside0.mk (below_step (by repeat (first | (with_reducible first | exact HB.out | apply below_alloc | apply pw_below_drewN | apply below_drew1) | exact HB.out)) hb); have m0_ := Aside0.mk (below_step (by repeat (first | (with_reducible first | exact HW.out | apply below_alloc | apply pw_below_drewN | apply below_drew1) | exact HW.out)) hb); have n1_ := Aside0.mk (hbox); have n2_ := Aside0.mk ((by rw [hg]; exact (below_size (by repeat (first | (with_reducible first | exact HB.out | apply below_alloc | apply pw_below_drewN | apply below_drew1) | exact HB.out)))) : w.heap.size ≤ gb); have m2_ := Aside0.mk ((by rw [hg]; exact (below_size (by repeat (first | (with_reducible first | exact HW.out | apply below_alloc | apply pw_below_drewN | apply below_drew1) | exact HW.out)))) : wr.heap.size ≤ gb); clear HB HW; have HB := n0_; have HW := m0_; have BK := n1_; have GE := n2_; have GW := m2_; clear n0_ n1_ n2_ m0_ m2_; clear hb hbox hg; have hcz_0 : w8.cell? ⟨gb, 0, none⟩ = some (.int .i8 0) := (blk_cell BK.out 0).trans rfl; have hcz_1 : w8.cell? ⟨gb, 1, none⟩ = some (.string (⟨#[]⟩ : ByteArray)) := (blk_cell BK.out 1).trans rfl; have hfz_0 := blk_frozen BK.out 0; have hfz_1 := blk_frozen BK.out 1; have NE := Aside0.mk (show gb ≠ w.heap.size from by have h1_ := HI.out.lt; have h2_ := GW.out; omega)) | (go_at_call 55; refine (call_esc hcf E1.out (below_then HW0.out HW0.out.size (by repeat (first | (with_reducible first | exact HB.out | apply below_alloc | apply pw_below_drewN | apply below_drew1 | refine below_set ?_ GE.out) | exact HB.out)))).mono ?_; rintro e w9 ⟨rfl, hb9⟩; have bx_ : w9.heap[gb]? = some (.cells #[.int .i8 (rd l1 i).1, .string (rd l1 i).2] 76 (0, 0)) := (by first | exact blk_keep hb9 BX.out | exact blk_keep hb9 (box_set2 BK.out)); (try clear BX hcy_0 hcy_1); have BX := Aside0.mk bx_; clear bx_; have hcy_0 : w9.cell? ⟨gb, 0, none⟩ = some (.int .i8 (rd l1 i).1) := (blk_cell BX.out 0).trans rfl; have hcy_1 : w9.cell? ⟨gb, 1, none⟩ = some (.string (rd l1 i).2) := (blk_cell BX.out 1).trans rfl; have n0_ := Aside0.mk (below_step (by repeat (first | (with_reducible first | exact HB.out | apply below_alloc | apply pw_below_drewN | apply below_drew1 | refine below_set ?_ GE.out) | exact HB.out)) hb9); have m0_ := Aside0.mk (below_step (by repeat (first | (with_reducible first | exact HW.out | apply below_alloc | apply pw_below_drewN | apply below_drew1 | refine below_set ?_ GW.out) | exact HW.out)) hb9); clear HB HW; have HB := n0_; have HW := m0_; clear n0_ m0_ hb9) | (go_at_call 42; refine (call_rep hcf E2.out (below_then HW0.out HW0.out.size (by repeat (first | (with_reducible first | exact HB.out | apply below_alloc | apply pw_below_drewN | apply below_drew1 | refine below_set ?_ GE.out) | exact HB.out)))).mono ?_; rintro e w9 ⟨rfl, hb9⟩; have bx_ : w9.heap[gb]? = some (.cells #[.int .i8 (rd l1 i).1, .string (rd l1 i).2] 76 (0, 0)) := (by first | exact blk_keep hb9 BX.out | exact blk_keep hb9 (box_set2 BK.out)); (try clear BX hcy_0 hcy_1); have BX := Aside0.mk bx_; clear bx_; have hcy_0 : w9.cell? ⟨gb, 0, none⟩ = some (.int .i8 (rd l1 i).1) := (blk_cell BX.out 0).trans rfl; have hcy_1 : w9.cell? ⟨gb, 1, none⟩ = some (.string (rd l1 i).2) := (blk_cell BX.out 1).trans rfl; have n0_ := Aside0.mk (below_step (by repeat (first | (with_reducible first | exact HB.out | apply below_alloc | apply pw_below_drewN | apply below_drew1 | refine below_set ?_ GE.out) | exact HB.out)) hb9); have m0_ := Aside0.mk (below_step (by repeat (first | (with_reducible first | exact HW.out | apply below_alloc | apply pw_below_drewN | apply below_drew1 | refine below_set ?_ GW.out) | exact HW.out)) hb9); clear HB HW; have HB := n0_; have HW := m0_; clear n0_ m0_ hb9) | (go_at_call 48; refine (Go.Proofs.Tryd.Buffer_WriteString_kept w.heap.size w.heap.size _ _ _ (Lib.IsBuffer.old HI.out (by repeat (first | (with_reducible first | exact HW.out | apply below_alloc | apply pw_below_drewN | apply below_drew1 | refine below_set ?_ GW.out) | exact HW.out))) (below_size (by repeat (first | (with_reducible first | exact HB.out | apply below_alloc | apply pw_below_drewN | apply below_drew1 | refine below_set ?_ GE.out) | exact HB.out))) (by with_reducible (first | exact Lib.byteCells_one _ | exact one_b _ _ | exact one_c _ _ _)) (by first | exact lim_a cl.out | exact lim_b cl.out | exact lim_c cl.out)).mono ?_; rintro e w9 ⟨rfl, hI9, hb9, hk9⟩; have bx_ : w9.heap[gb]? = some (.cells #[.int .i8 (rd l1 i).1, .string (rd l1 i).2] 76 (0, 0)) := (by first | exact hk9 gb _ BX.out (fun e_ => NE.out (Option.some.inj e_)) (fun c_ fz_ e_ => by cases e_) | exact hk9 gb _ (box_set2 BK.out) (fun e_ => NE.out (Option.some.inj e_)) (fun c_ fz_ e_ => by cases e_)); (try clear BX hcy_0 hcy_1); have BX := Aside0.mk bx_; clear bx_; have hcy_0 : w9.cell? ⟨gb, 0, none⟩ = some (.int .i8 (rd l1 i).1) := (blk_cell BX.out 0).trans rfl; have hcy_1 : w9.cell? ⟨gb, 1, none⟩ = some (.string (rd l1 i).2) := (blk_cell BX.out 1).trans rfl; have n0_ := Aside0.mk (Below.trans (by repeat (first | (with_reducible first | exact HB.out | apply below_alloc | apply pw_below_drewN | apply below_drew1 | refine below_set ?_ GE.out) | exact HB.out)) hb9); have m0_ := Aside0.mk (Below.refl w9.heap.size w9); clear HB HW HI; have HB := n0_; have HI := Aside0.mk hI9; have HW := m0_; clear n0_ m0_ hb9 hI9 hk9))
          go_roundg k1
          case measure => omega
          case rel =>
            exact ⟨i + 1, _, by simp only [Value.int.injEq, true_and]; first | exact (wadd1' i HK.out hlen) | omega, ⟨by have := HK.out; omega⟩, H', ⟨by rw [byteCells_append, byteCells_append, byteCells_append]; exact Lib.IsBuffer.old HI.out (by repeat (first | (with_reducible first | exact HW.out | apply below_alloc | apply pw_below_drewN | apply below_drew1 | refine below_set ?_ GW.out) | exact HW.out))⟩, ⟨by repeat (first | (with_reducible first | exact HB.out | apply below_alloc | apply pw_below_drewN | apply below_drew1 | refine below_set ?_ GE.out) | exact HB.out)⟩⟩
        · rw [if_neg c6_1] at H
          have c6b0_1 : ((rd l1 i).1 == (1)) = false := beq_eq_false_iff_ne.mpr c6_1
          clear c6_1
          by_cases c6_2 : (rd l1 i).1 = (-1)
          · rw [if_pos c6_2] at H
            have c6b0_2 : ((rd l1 i).1 == (-1)) = true := beq_iff_eq.mpr c6_2
            clear c6_2
            unfold wr3 at H
            obtain ⟨acc2, hacc, H⟩ := Option.bind_eq_some_iff.1 H
            split at hacc
            case isFalse => cases hacc
            rename_i cl0
            cases hacc
            have cl := Aside0.mk cl0
            clear cl0
            have H' := Aside0.mk H
            clear H
            go_wp2_with (first | ((with_reducible refine gate_dst (N := 7) rfl ?_); refine box_event ?hg (N := 7) ?hd (cs := #[.int .i8 0, .string (⟨#[]⟩ : ByteArray)]) (t := 76) ?hr ?_; (case hd => rfl); (case hg => rfl); (case hr => first | (go_simp; done) | (go_simp; rfl)); intro gb hg w8 hbox hb; have n0_ := Aside0.mk (below_step (by repeat (first | (with_reducible first | exact HB.out | apply below_alloc | apply pw_below_drewN | apply below_drew1) | exact HB.out)) hb); have m0_ := Aside0.mk (below_step (by repeat (first | (with_reducible first | exact HW.out | apply below_alloc | apply pw_below_drewN | apply below_drew1) | exact HW.out)) hb); have n1_ := Aside0.mk (hbox); have n2_ := Aside0.mk ((by rw [hg]; exact (below_size (by repeat (first | (with_reducible first | exact HB.out | apply below_alloc | apply pw_below_drewN | apply below_drew1) | exact HB.out)))) : w.heap.size ≤ gb); have m2_ := Aside0.mk ((by rw [hg]; exact (below_size (by repeat (first | (with_reducible first | exact HW.out | apply below_alloc | apply pw_below_drewN | apply below_drew1) | exact HW.out)))) : wr.heap.size ≤ gb); clear HB HW; have HB := n0_; have HW := m0_; have BK := n1_; have GE := n2_; have GW := m2_; clear n0_ n1_ n2_ m0_ m2_; clear hb hbox hg; have hcz_0 : w8.cell? ⟨gb, 0, none⟩ = some (.int .i8 0) := (blk_cell BK.out 0).trans rfl; have hcz_1 : w8.cell? ⟨gb, 1, none⟩ = some (.string (⟨#[]⟩ : ByteArray)) := (blk_cell BK.out 1).trans rfl; have hfz_0 := blk_frozen BK.out 0; have hfz_1 := blk_frozen BK.out 1; have NE := Aside0.mk (show gb ≠ w.heap.size from by have h1_ := HI.out.lt; have h2_ := GW.out; omega)) | (go_at_call 55; refine (call_esc hcf E1.out (below_then HW0.out HW0.out.size (by repeat (first | (with_reducible first | exact HB.out | apply below_alloc | apply pw_below_drewN | apply below_drew1 | refine below_set ?_ GE.out) | exact HB.out)))).mono ?_; rintro e w9 ⟨rfl, hb9⟩; have bx_ : w9.heap[gb]? = some (.cells #[.int .i8 (rd l1 i).1, .string (rd l1 i).2] 76 (0, 0)) := (by first | exact blk_keep hb9 BX.out | exact blk_keep hb9 (box_set2 BK.out)); (try clear BX hcy_0 hcy_1); have BX := Aside0.mk bx_; clear bx_; have hcy_0 : w9.cell? ⟨gb, 0, none⟩ = some (.int .i8 (rd l1 i).1) := (blk_cell BX.out 0).trans rfl; have hcy_1 : w9.cell? ⟨gb, 1, none⟩ = some (.string (rd l1 i).2) := (blk_cell BX.out 1).trans rfl; have n0_ := Aside0.mk (below_step (by repeat (first | (with_reducible first | exact HB.out | apply below_alloc | apply pw_below_drewN | apply below_drew1 | refine below_set ?_ GE.out) | exact HB.out)) hb9); have m0_ := Aside0.mk (below_step (by repeat (first | (with_reducible first | exact HW.out | apply below_alloc | apply pw_below_drewN | apply below_drew1 | refine below_set ?_ GW.out) | exact HW.out)) hb9); clear HB HW; have HB := n0_; have HW := m0_; clear n0_ m0_ hb9) | (go_at_call 42; refine (call_rep hcf E2.out (below_then HW0.out HW0.out.size (by repeat (first | (with_reducible first | exact HB.out | apply below_alloc | apply pw_below_drewN | apply below_drew1 | refine below_set ?_ GE.out) | exact HB.out)))).mono ?_; rintro e w9 ⟨rfl, hb9⟩; have bx_ : w9.heap[gb]? = some (.cells #[.int .i8 (rd l1 i).1, .string (rd l1 i).2] 76 (0, 0)) := (by first | exact blk_keep hb9 BX.out | exact blk_keep hb9 (box_set2 BK.out)); (try clear BX hcy_0 hcy_1); have BX := Aside0.mk bx_; clear bx_; have hcy_0 : w9.cell? ⟨gb, 0, none⟩ = some (.int .i8 (rd l1 i).1) := (blk_cell BX.out 0).trans rfl; have hcy_1 : w9.cell? ⟨gb, 1, none⟩ = some (.string (rd l1 i).2) := (blk_cell BX.out 1).trans rfl; have n0_ := Aside0.mk (below_step (by repeat (first | (with_reducible first | exact HB.out | apply below_alloc | apply pw_below_drewN | apply below_drew1 | refine below_set ?_ GE.out) | exact HB.out)) hb9); have m0_ := Aside0.mk (below_step (by repeat (first | (with_reducible first | exact HW.out | apply below_alloc | apply pw_below_drewN | apply below_drew1 | refine below_set ?_ GW.out) | exact HW.out)) hb9); clear HB HW; have HB := n0_; have HW := m0_; clear n0_ m0_ hb9) | (go_at_call 48; refine (Go.Proofs.Tryd.Buffer_WriteString_kept w.heap.size w.heap.size _ _ _ (Lib.IsBuffer.old HI.out (by repeat (first | (with_reducible first | exact HW.out | apply below_alloc | apply pw_below_drewN | apply below_drew1 | refine below_set ?_ GW.out) | exact HW.out))) (below_size (by repeat (first | (with_reducible first | exact HB.out | apply below_alloc | apply pw_below_drewN | apply below_drew1 | refine below_set ?_ GE.out) | exact HB.out))) (by with_reducible (first | exact Lib.byteCells_one _ | exact one_b _ _ | exact one_c _ _ _)) (by first | exact lim_a cl.out | exact lim_b cl.out | exact lim_c cl.out)).mono ?_; rintro e w9 ⟨rfl, hI9, hb9, hk9⟩; have bx_ : w9.heap[gb]? = some (.cells #[.int .i8 (rd l1 i).1, .string (rd l1 i).2] 76 (0, 0)) := (by first | exact hk9 gb _ BX.out (fun e_ => NE.out (Option.some.inj e_)) (fun c_ fz_ e_ => by cases e_) | exact hk9 gb _ (box_set2 BK.out) (fun e_ => NE.out (Option.some.inj e_)) (fun c_ fz_ e_ => by cases e_)); (try clear BX hcy_0 hcy_1); have BX := Aside0.mk bx_; clear bx_; have hcy_0 : w9.cell? ⟨gb, 0, none⟩ = some (.int .i8 (rd l1 i).1) := (blk_cell BX.out 0).trans rfl; have hcy_1 : w9.cell? ⟨gb, 1, none⟩ = some (.string (rd l1 i).2) := (blk_cell BX.out 1).trans rfl; have n0_ := Aside0.mk (Below.trans (by repeat (first | (with_reducible first | exact HB.out | apply below_alloc | apply pw_below_drewN | apply below_drew1 | refine below_set ?_ GE.out) | exact HB.out)) hb9); have m0_ := Aside0.mk (Below.refl w9.heap.size w9); clear HB HW HI; have HB := n0_; have HI := Aside0.mk hI9; have HW := m0_; clear n0_ m0_ hb9 hI9 hk9))
            go_roundg k1
            case measure => omega
            case rel =>
              exact ⟨i + 1, _, by simp only [Value.int.injEq, true_and]; first | exact (wadd1' i HK.out hlen) | omega, ⟨by have := HK.out; omega⟩, H', ⟨by rw [byteCells_append, byteCells_append, byteCells_append]; exact Lib.IsBuffer.old HI.out (by repeat (first | (with_reducible first | exact HW.out | apply below_alloc | apply pw_below_drewN | apply below_drew1 | refine below_set ?_ GW.out) | exact HW.out))⟩, ⟨by repeat (first | (with_reducible first | exact HB.out | apply below_alloc | apply pw_below_drewN | apply below_drew1 | refine below_set ?_ GE.out) | exact HB.out)⟩⟩
          · rw [if_neg c6_2] at H
            have c6b0_2 : ((rd l1 i).1 == (-1)) = false := beq_eq_false_iff_ne.mpr c6_2
            clear c6_2
            by_cases c6_3 : (rd l1 i).1 = (0)
            · rw [if_pos c6_3] at H
              have c6b0_3 : ((rd l1 i).1 == (0)) = true := beq_iff_eq.mpr c6_3
              clear c6_3
              unfold wr3 at H
              obtain ⟨acc2, hacc, H⟩ := Option.bind_eq_some_iff.1 H
              split at hacc
              case isFalse => cases hacc
              rename_i cl0
              cases hacc
              have cl := Aside0.mk cl0
              clear cl0
              have H' := Aside0.mk H
              clear H
              go_wp2_with (first | ((with_reducible refine gate_dst (N := 7) rfl ?_); refine box_event ?hg (N := 7) ?hd (cs := #[.int .i8 0, .string (⟨#[]⟩ : ByteArray)]) (t := 76) ?hr ?_; (case hd => rfl); (case hg => rfl); (case hr => first | (go_simp; done) | (go_simp; rfl)); intro gb hg w8 hbox hb; have n0_ := Aside0.mk (below_step (by repeat (first | (with_reducible first | exact HB.out | apply below_alloc | apply pw_below_drewN | apply below_drew1) | exact HB.out)) hb); have m0_ := Aside0.mk (below_step (by repeat (first | (with_reducible first | exact HW.out | apply below_alloc | apply pw_below_drewN | apply below_drew1) | exact HW.out)) hb); have n1_ := Aside0.mk (hbox); have n2_ := Aside0.mk ((by rw [hg]; exact (below_size (by repeat (first | (with_reducible first | exact HB.out | apply below_alloc | apply pw_below_drewN | apply below_drew1) | exact HB.out)))) : w.heap.size ≤ gb); have m2_ := Aside0.mk ((by rw [hg]; exact (below_size (by repeat (first | (with_reducible first | exact HW.out | apply below_alloc | apply pw_below_drewN | apply below_drew1) | exact HW.out)))) : wr.heap.size ≤ gb); clear HB HW; have HB := n0_; have HW := m0_; have BK := n1_; have GE := n2_; have GW := m2_; clear n0_ n1_ n2_ m0_ m2_; clear hb hbox hg; have hcz_0 : w8.cell? ⟨gb, 0, none⟩ = some (.int .i8 0) := (blk_cell BK.out 0).trans rfl; have hcz_1 : w8.cell? ⟨gb, 1, none⟩ = some (.string (⟨#[]⟩ : ByteArray)) := (blk_cell BK.out 1).trans rfl; have hfz_0 := blk_frozen BK.out 0; have hfz_1 := blk_frozen BK.out 1; have NE := Aside0.mk (show gb ≠ w.heap.size from by have h1_ := HI.out.lt; have h2_ := GW.out; omega)) | (go_at_call 55; refine (call_esc hcf E1.out (below_then HW0.out HW0.out.size (by repeat (first | (with_reducible first | exact HB.out | apply below_alloc | apply pw_below_drewN | apply below_drew1 | refine below_set ?_ GE.out) | exact HB.out)))).mono ?_; rintro e w9 ⟨rfl, hb9⟩; have bx_ : w9.heap[gb]? = some (.cells #[.int .i8 (rd l1 i).1, .string (rd l1 i).2] 76 (0, 0)) := (by first | exact blk_keep hb9 BX.out | exact blk_keep hb9 (box_set2 BK.out)); (try clear BX hcy_0 hcy_1); have BX := Aside0.mk bx_; clear bx_; have hcy_0 : w9.cell? ⟨gb, 0, none⟩ = some (.int .i8 (rd l1 i).1) := (blk_cell BX.out 0).trans rfl; have hcy_1 : w9.cell? ⟨gb, 1, none⟩ = some (.string (rd l1 i).2) := (blk_cell BX.out 1).trans rfl; have n0_ := Aside0.mk (below_step (by repeat (first | (with_reducible first | exact HB.out | apply below_alloc | apply pw_below_drewN | apply below_drew1 | refine below_set ?_ GE.out) | exact HB.out)) hb9); have m0_ := Aside0.mk (below_step (by repeat (first | (with_reducible first | exact HW.out | apply below_alloc | apply pw_below_drewN | apply below_drew1 | refine below_set ?_ GW.out) | exact HW.out)) hb9); clear HB HW; have HB := n0_; have HW := m0_; clear n0_ m0_ hb9) | (go_at_call 42; refine (call_rep hcf E2.out (below_then HW0.out HW0.out.size (by repeat (first | (with_reducible first | exact HB.out | apply below_alloc | apply pw_below_drewN | apply below_drew1 | refine below_set ?_ GE.out) | exact HB.out)))).mono ?_; rintro e w9 ⟨rfl, hb9⟩; have bx_ : w9.heap[gb]? = some (.cells #[.int .i8 (rd l1 i).1, .string (rd l1 i).2] 76 (0, 0)) := (by first | exact blk_keep hb9 BX.out | exact blk_keep hb9 (box_set2 BK.out)); (try clear BX hcy_0 hcy_1); have BX := Aside0.mk bx_; clear bx_; have hcy_0 : w9.cell? ⟨gb, 0, none⟩ = some (.int .i8 (rd l1 i).1) := (blk_cell BX.out 0).trans rfl; have hcy_1 : w9.cell? ⟨gb, 1, none⟩ = some (.string (rd l1 i).2) := (blk_cell BX.out 1).trans rfl; have n0_ := Aside0.mk (below_step (by repeat (first | (with_reducible first | exact HB.out | apply below_alloc | apply pw_below_drewN | apply below_drew1 | refine below_set ?_ GE.out) | exact HB.out)) hb9); have m0_ := Aside0.mk (below_step (by repeat (first | (with_reducible first | exact HW.out | apply below_alloc | apply pw_below_drewN | apply below_drew1 | refine below_set ?_ GW.out) | exact HW.out)) hb9); clear HB HW; have HB := n0_; have HW := m0_; clear n0_ m0_ hb9) | (go_at_call 48; refine (Go.Proofs.Tryd.Buffer_WriteString_kept w.heap.size w.heap.size _ _ _ (Lib.IsBuffer.old HI.out (by repeat (first | (with_reducible first | exact HW.out | apply below_alloc | apply pw_below_drewN | apply below_drew1 | refine below_set ?_ GW.out) | exact HW.out))) (below_size (by repeat (first | (with_reducible first | exact HB.out | apply below_alloc | apply pw_below_drewN | apply below_drew1 | refine below_set ?_ GE.out) | exact HB.out))) (by with_reducible (first | exact Lib.byteCells_one _ | exact one_b _ _ | exact one_c _ _ _)) (by first | exact lim_a cl.out | exact lim_b cl.out | exact lim_c cl.out)).mono ?_; rintro e w9 ⟨rfl, hI9, hb9, hk9⟩; have bx_ : w9.heap[gb]? = some (.cells #[.int .i8 (rd l1 i).1, .string (rd l1 i).2] 76 (0, 0)) := (by first | exact hk9 gb _ BX.out (fun e_ => NE.out (Option.some.inj e_)) (fun c_ fz_ e_ => by cases e_) | exact hk9 gb _ (box_set2 BK.out) (fun e_ => NE.out (Option.some.inj e_)) (fun c_ fz_ e_ => by cases e_)); (try clear BX hcy_0 hcy_1); have BX := Aside0.mk bx_; clear bx_; have hcy_0 : w9.cell? ⟨gb, 0, none⟩ = some (.int .i8 (rd l1 i).1) := (blk_cell BX.out 0).trans rfl; have hcy_1 : w9.cell? ⟨gb, 1, none⟩ = some (.string (rd l1 i).2) := (blk_cell BX.out 1).trans rfl; have n0_ := Aside0.mk (Below.trans (by repeat (first | (with_reducible first | exact HB.out | apply below_alloc | apply pw_below_drewN | apply below_drew1 | refine below_set ?_ GE.out) | exact HB.out)) hb9); have m0_ := Aside0.mk (Below.refl w9.heap.size w9); clear HB HW HI; have HB := n0_; have HI := Aside0.mk hI9; have HW := m0_; clear n0_ m0_ hb9 hI9 hk9))
              go_roundg k1
              case measure => omega
              case rel =>
                exact ⟨i + 1, _, by simp only [Value.int.injEq, true_and]; first | exact (wadd1' i HK.out hlen) | omega, ⟨by have := HK.out; omega⟩, H', ⟨by rw [byteCells_append, byteCells_append, byteCells_append]; exact Lib.IsBuffer.old HI.out (by repeat (first | (with_reducible first | exact HW.out | apply below_alloc | apply pw_below_drewN | apply below_drew1 | refine below_set ?_ GW.out) | exact HW.out))⟩, ⟨by repeat (first | (with_reducible first | exact HB.out | apply below_alloc | apply pw_below_drewN | apply below_drew1 | refine below_set ?_ GE.out) | exact HB.out)⟩⟩
            · rw [if_neg c6_3] at H
              have c6b0_3 : ((rd l1 i).1 == (0)) = false := beq_eq_false_iff_ne.mpr c6_3
              clear c6_3
              have H' := Aside0.mk H
              clear H
              go_wp2_with (first | ((with_reducible refine gate_dst (N := 7) rfl ?_); refine box_event ?hg (N := 7) ?hd (cs := #[.int .i8 0, .string (⟨#[]⟩ : ByteArray)]) (t := 76) ?hr ?_; (case hd => rfl); (case hg => rfl); (case hr => first | (go_simp; done) | (go_simp; rfl)); intro gb hg w8 hbox hb; have n0_ := Aside0.mk (below_step (by repeat (first | (with_reducible first | exact HB.out | apply below_alloc | apply pw_below_drewN | apply below_drew1) | exact HB.out)) hb); have m0_ := Aside0.mk (below_step (by repeat (first | (with_reducible first | exact HW.out | apply below_alloc | apply pw_below_drewN | apply below_drew1) | exact HW.out)) hb); have n1_ := Aside0.mk (hbox); have n2_ := Aside0.mk ((by rw [hg]; exact (below_size (by repeat (first | (with_reducible first | exact HB.out | apply below_alloc | apply pw_below_drewN | apply below_drew1) | exact HB.out)))) : w.heap.size ≤ gb); have m2_ := Aside0.mk ((by rw [hg]; exact (below_size (by repeat (first | (with_reducible first | exact HW.out | apply below_alloc | apply pw_below_drewN | apply below_drew1) | exact HW.out)))) : wr.heap.size ≤ gb); clear HB HW; have HB := n0_; have HW := m0_; have BK := n1_; have GE := n2_; have GW := m2_; clear n0_ n1_ n2_ m0_ m2_; clear hb hbox hg; have hcz_0 : w8.cell? ⟨gb, 0, none⟩ = some (.int .i8 0) := (blk_cell BK.out 0).trans rfl; have hcz_1 : w8.cell? ⟨gb, 1, none⟩ = some (.string (⟨#[]⟩ : ByteArray)) := (blk_cell BK.out 1).trans rfl; have hfz_0 := blk_frozen BK.out 0; have hfz_1 := blk_frozen BK.out 1; have NE := Aside0.mk (show gb ≠ w.heap.size from by have h1_ := HI.out.lt; have h2_ := GW.out; omega)) | (go_at_call 55; refine (call_esc hcf E1.out (below_then HW0.out HW0.out.size (by repeat (first | (with_reducible first | exact HB.out | apply below_alloc | apply pw_below_drewN | apply below_drew1 | refine below_set ?_ GE.out) | exact HB.out)))).mono ?_; rintro e w9 ⟨rfl, hb9⟩; have bx_ : w9.heap[gb]? = some (.cells #[.int .i8 (rd l1 i).1, .string (rd l1 i).2] 76 (0, 0)) := (by first | exact blk_keep hb9 BX.out | exact blk_keep hb9 (box_set2 BK.out)); (try clear BX hcy_0 hcy_1); have BX := Aside0.mk bx_; clear bx_; have hcy_0 : w9.cell? ⟨gb, 0, none⟩ = some (.int .i8 (rd l1 i).1) := (blk_cell BX.out 0).trans rfl; have hcy_1 : w9.cell? ⟨gb, 1, none⟩ = some (.string (rd l1 i).2) := (blk_cell BX.out 1).trans rfl; have n0_ := Aside0.mk (below_step (by repeat (first | (with_reducible first | exact HB.out | apply below_alloc | apply pw_below_drewN | apply below_drew1 | refine below_set ?_ GE.out) | exact HB.out)) hb9); have m0_ := Aside0.mk (below_step (by repeat (first | (with_reducible first | exact HW.out | apply below_alloc | apply pw_below_drewN | apply below_drew1 | refine below_set ?_ GW.out) | exact HW.out)) hb9); clear HB HW; have HB := n0_; have HW := m0_; clear n0_ m0_ hb9) | (go_at_call 42; refine (call_rep hcf E2.out (below_then HW0.out HW0.out.size (by repeat (first | (with_reducible first | exact HB.out | apply below_alloc | apply pw_below_drewN | apply below_drew1 | refine below_set ?_ GE.out) | exact HB.out)))).mono ?_; rintro e w9 ⟨rfl, hb9⟩; have bx_ : w9.heap[gb]? = some (.cells #[.int .i8 (rd l1 i).1, .string (rd l1 i).2] 76 (0, 0)) := (by first | exact blk_keep hb9 BX.out | exact blk_keep hb9 (box_set2 BK.out)); (try clear BX hcy_0 hcy_1); have BX := Aside0.mk bx_; clear bx_; have hcy_0 : w9.cell? ⟨gb, 0, none⟩ = some (.int .i8 (rd l1 i).1) := (blk_cell BX.out 0).trans rfl; have hcy_1 : w9.cell? ⟨gb, 1, none⟩ = some (.string (rd l1 i).2) := (blk_cell BX.out 1).trans rfl; have n0_ := Aside0.mk (below_step (by repeat (first | (with_reducible first | exact HB.out | apply below_alloc | apply pw_below_drewN | apply below_drew1 | refine below_set ?_ GE.out) | exact HB.out)) hb9); have m0_ := Aside0.mk (below_step (by repeat (first | (with_reducible first | exact HW.out | apply below_alloc | apply pw_below_drewN | apply below_drew1 | refine below_set ?_ GW.out) | exact HW.out)) hb9); clear HB HW; have HB := n0_; have HW := m0_; clear n0_ m0_ hb9) | (go_at_call 48; refine (Go.Proofs.Tryd.Buffer_WriteString_kept w.heap.size w.heap.size _ _ _ (Lib.IsBuffer.old HI.out (by repeat (first | (with_reducible first | exact HW.out | apply below_alloc | apply pw_below_drewN | apply below_drew1 | refine below_set ?_ GW.out) | exact HW.out))) (below_size (by repeat (first | (with_reducible first | exact HB.out | apply below_alloc | apply pw_below_drewN | apply below_drew1 | refine below_set ?_ GE.out) | exact HB.out))) (by with_reducible (first | exact Lib.byteCells_one _ | exact one_b _ _ | exact one_c _ _ _)) (by first | exact lim_a cl.out | exact lim_b cl.out | exact lim_c cl.out)).mono ?_; rintro e w9 ⟨rfl, hI9, hb9, hk9⟩; have bx_ : w9.heap[gb]? = some (.cells #[.int .i8 (rd l1 i).1, .string (rd l1 i).2] 76 (0, 0)) := (by first | exact hk9 gb _ BX.out (fun e_ => NE.out (Option.some.inj e_)) (fun c_ fz_ e_ => by cases e_) | exact hk9 gb _ (box_set2 BK.out) (fun e_ => NE.out (Option.some.inj e_)) (fun c_ fz_ e_ => by cases e_)); (try clear BX hcy_0 hcy_1); have BX := Aside0.mk bx_; clear bx_; have hcy_0 : w9.cell? ⟨gb, 0, none⟩ = some (.int .i8 (rd l1 i).1) := (blk_cell BX.out 0).trans rfl; have hcy_1 : w9.cell? ⟨gb, 1, none⟩ = some (.string (rd l1 i).2) := (blk_cell BX.out 1).trans rfl; have n0_ := Aside0.mk (Below.trans (by repeat (first | (with_reducible first | exact HB.out | apply below_alloc | apply pw_below_drewN | apply below_drew1 | refine below_set ?_ GE.out) | exact HB.out)) hb9); have m0_ := Aside0.mk (Below.refl w9.heap.size w9); clear HB HW HI; have HB := n0_; have HI := Aside0.mk hI9; have HW := m0_; clear n0_ m0_ hb9 hI9 hk9))
              go_roundg k1
              case measure => omega
              case rel =>
                exact ⟨i + 1, acc, by simp only [Value.int.injEq, true_and]; first | exact (wadd1' i HK.out hlen) | omega, ⟨by have := HK.out; omega⟩, H', ⟨Lib.IsBuffer.old HI.out (by repeat (first | (with_reducible first | exact HW.out | apply below_alloc | apply pw_below_drewN | apply below_drew1 | refine below_set ?_ GW.out) | exact HW.out))⟩, ⟨by repeat (first | (with_reducible first | exact HB.out | apply below_alloc | apply pw_below_drewN | apply below_drew1 | refine below_set ?_ GE.out) | exact HB.out)⟩⟩

      · have c3b0 : decide ((i : Int) < (l1.length : Int)) = false := decide_eq_false (by omega)
        have c3b1 : decide (i < l1.length) = false := decide_eq_false c3
        rw [List.drop_eq_nil_of_le (by omega)] at H
        rw [htmlF_nil] at H
        cases H
        go_wp2_with (go_at_call 51; refine (Go.Proofs.Tryd.Buffer_String w.heap.size w.heap.size _ _ (Lib.IsBuffer.old HI.out (by repeat (first | exact Below.refl _ _ | apply below_alloc | apply pw_below_drewN | apply below_drew1)))).mono ?_; rintro e w9 ⟨rfl, n9, rfl⟩)
        first | go_end0 | go_ret
        exact ⟨by rw [← hout]; rfl, by repeat (first | (with_reducible first | exact HB.out | apply below_alloc | apply pw_below_drewN | apply below_drew1) | exact HB.out)⟩
theorem call_qesc {W0 : World} {cf : (f : FuncId) → argL (sg f).ps → Option (retL (sg f).rs)} (hcf : ∀ f, CallOk Go.Proofs.Tryd.prog W0 sg cf f) {s u : ByteArray} (h : cf 49 (s, ()) = some u) {W : World} (hB : Below W0.heap.size W0 W) :
    Calls Go.Proofs.Tryd.prog 49 #[.string s] W fun e w' => e = .returned (.string u) ∧ Below W.heap.size W w' := by
  obtain ⟨_, hc⟩ := hcf 49 (s, ()) u h
  refine (hc W (fun _ => False) [.string s] hB (fun _ h => h.elim) ⟨rfl, trivial⟩ List.Pairwise.nil).mono ?_
  rintro e w' ⟨Rs, rfl, hR, _, hP⟩
  match Rs, hR with
  | [V], hR =>
    have hV : V = .string u := hR
    subst hV
    exact ⟨rfl, hP.below (fun _ h => h.elim) (Nat.le_refl _)⟩
theorem call_un {W0 : World} {cf : (f : FuncId) → argL (sg f).ps → Option (retL (sg f).rs)} (hcf : ∀ f, CallOk Go.Proofs.Tryd.prog W0 sg cf f) {s u : ByteArray} (h : cf 52 (s, ()) = some u) {W : World} (hB : Below W0.heap.size W0 W) :
    Calls Go.Proofs.Tryd.prog 52 #[.string s] W fun e w' => e = .returned (.string u) ∧ Below W.heap.size W w' := by
  obtain ⟨_, hc⟩ := hcf 52 (s, ()) u h
  refine (hc W (fun _ => False) [.string s] hB (fun _ h => h.elim) ⟨rfl, trivial⟩ List.Pairwise.nil).mono ?_
  rintro e w' ⟨Rs, rfl, hR, _, hP⟩
  match Rs, hR with
  | [V], hR =>
    have hV : V = .string u := hR
    subst hV
    exact ⟨rfl, hP.below (fun _ h => h.elim) (Nat.le_refl _)⟩
theorem call_cnt {W0 : World} {cf : (f : FuncId) → argL (sg f).ps → Option (retL (sg f).rs)} (hcf : ∀ f, CallOk Go.Proofs.Tryd.prog W0 sg cf f) {s : ByteArray} {u : Int} (h : cf 50 (s, ()) = some u) {W : World} (hB : Below W0.heap.size W0 W) :
    Calls Go.Proofs.Tryd.prog 50 #[.string s] W fun e w' => e = .returned (.int .i64 u) ∧ Below W.heap.size W w' := by
  obtain ⟨_, hc⟩ := hcf 50 (s, ()) u h
  refine (hc W (fun _ => False) [.string s] hB (fun _ h => h.elim) ⟨rfl, trivial⟩ List.Pairwise.nil).mono ?_
  rintro e w' ⟨Rs, rfl, hR, _, hP⟩
  match Rs, hR with
  | [V], hR =>
    have hV : V = .int .i64 u := hR
    subst hV
    exact ⟨rfl, hP.below (fun _ h => h.elim) (Nat.le_refl _)⟩
theorem call_itoa {W0 : World} {cf : (f : FuncId) → argL (sg f).ps → Option (retL (sg f).rs)} (hcf : ∀ f, CallOk Go.Proofs.Tryd.prog W0 sg cf f) {s : Int} {u : ByteArray} (h : cf 47 (s, ()) = some u) {W : World} (hB : Below W0.heap.size W0 W) :
    Calls Go.Proofs.Tryd.prog 47 #[.int .i64 s] W fun e w' => e = .returned (.string u) ∧ Below W.heap.size W w' := by
  obtain ⟨_, hc⟩ := hcf 47 (s, ()) u h
  refine (hc W (fun _ => False) [.int .i64 s] hB (fun _ h => h.elim) ⟨rfl, trivial⟩ List.Pairwise.nil).mono ?_
  rintro e w' ⟨Rs, rfl, hR, _, hP⟩
  match Rs, hR with
  | [V], hR =>
    have hV : V = .string u := hR
    subst hV
    exact ⟨rfl, hP.below (fun _ h => h.elim) (Nat.le_refl _)⟩
theorem deltaF_nil (esc num : ByteArray → Option ByteArray) (acc : List UInt8) : deltaF esc num [] acc = some acc := rfl
theorem deltaF_cons (esc num : ByteArray → Option ByteArray) (d : Int × ByteArray) (r : List (Int × ByteArray)) (acc : List UInt8) : deltaF esc num (d :: r) acc = (if d.1 = 1 then ((esc d.2).bind fun t => wr3 acc (⟨#[43]⟩ : ByteArray) t (⟨#[9]⟩ : ByteArray)).bind (deltaF esc num r)
    else if d.1 = -1 then ((num d.2).bind fun t => wr3 acc (⟨#[45]⟩ : ByteArray) t (⟨#[9]⟩ : ByteArray)).bind (deltaF esc num r)
    else if d.1 = 0 then ((num d.2).bind fun t => wr3 acc (⟨#[61]⟩ : ByteArray) t (⟨#[9]⟩ : ByteArray)).bind (deltaF esc num r)
    else deltaF esc num r acc) := rfl

set_option maxHeartbeats 8000000 in
set_option maxRecDepth 100000 in
theorem delta_calls {W0 : World} {cf : (f : FuncId) → argL (sg f).ps → Option (retL (sg f).rs)} (hcf : ∀ f, CallOk Go.Proofs.Tryd.prog W0 sg cf f) (p0_ : Value) (A1 : Option Addr) (c1 : Nat) (l1 : List (Int × ByteArray)) (r : ByteArray) (w : World) (hW : Below W0.heap.size W0 w) (hr1 : ReadV w TS0 l1 (.slice A1 l1.length c1))
    (esc num : ByteArray → Option ByteArray) (cnt : ByteArray → Option Int) (un : ByteArray → Option ByteArray)
    (hesc : ∀ s t, esc s = some t → ∃ u, cf 49 (s, ()) = some u ∧ cf 42 (u, (⟨#[43]⟩ : ByteArray), (⟨#[32]⟩ : ByteArray), ()) = some t)
    (hnum : ∀ s t, num s = some t → ∃ u, cf 50 (s, ()) = some u ∧ cf 47 (u, ()) = some t)
    (hcnt : ∀ s t, cnt s = some t → cf 50 (s, ()) = some t)
    (hun : ∀ s t, un s = some t → cf 52 (s, ()) = some t)
    (h : deltaE esc num cnt un l1 = some r) :
    Calls Go.Proofs.Tryd.prog 31 #[p0_, .slice A1 l1.length c1] w fun e w' => e = .returned (.string r) ∧ Below w.heap.size w w' := by
  unfold deltaE at h
  by_cases hlen : l1.length ≤ 1000000000
  case neg => rw [if_neg hlen] at h; cases h
  rw [if_pos hlen] at h
  obtain ⟨out, h, hout⟩ := Option.bind_eq_some_iff.1 h
  have HO := Aside0.mk hout
  clear hout
  have hu76 := Go.Proofs.Tryd.underlying76
  have HW0 := Aside0.mk hW
  clear hW
  have HR1 := Aside0.mk hr1
  clear hr1
  have HI := Aside0.mk (Lib.fresh_isBuffer 82 5 w)
  have HB := Aside0.mk (below_alloc (Below.refl w.heap.size w) (.cells #[.slice none 0 0, .int .i64 0, .int .i8 0] 82))
  have H' := Aside0.mk h
  clear h
  go_enter Go.Proofs.Tryd.func31, Go.Proofs.Tryd.ntmps31
  go_wp2
  go_loopg [11] (l1.length + 1) (fun kq v10 w' => ∃ (i : Nat) (acc : List UInt8), v10 = .int .i64 (i : Int) ∧ Aside0 (i + kq = l1.length + 1 ∧ i ≤ l1.length) ∧ Aside0 (deltaF esc num (l1.drop i) acc = some out) ∧ Aside0 (Lib.IsBuffer 82 5 w.heap.size w.heap.size (Lib.byteCells acc) w') ∧ Aside0 (Below w.heap.size w w'))
  case atStart => exact ⟨0, [], rfl, ⟨⟨by omega, by omega⟩⟩, H', HI, HB⟩
  case round =>
    clear H' HI HB
    obtain ⟨i, acc, rfl, HK, HA, HI, HB⟩ := hrel
    cases gk with
    | zero => exact absurd HK.out (by omega)
    | succ k1 =>
      have H := HA.out
      clear HA
      by_cases c3 : i < l1.length
      · have c3b0 : decide ((i : Int) < (l1.length : Int)) = true := decide_eq_true (by omega)
        have c3b1 : decide (i < l1.length) = true := decide_eq_true c3
        rw [rd_drop l1 i c3, deltaF_cons] at H
        have p156 : 0 ≤ (i : Int) := by omega
        have q156 : (i : Int) < (l1.length : Int) := by omega
        obtain ⟨ad156, e156, hx156_0, hx156_1⟩ := at_d HR1.out i c3
        cases e156
        replace hx156_0 := (HB.out.cell (World.block_lt_of_cell? w _ hx156_0)).trans hx156_0
        replace hx156_1 := (HB.out.cell (World.block_lt_of_cell? w _ hx156_1)).trans hx156_1
        replace p156 := eq_true p156
        replace q156 := eq_true q156
        have HW := Aside0.mk (Below.refl wr.heap.size wr)
        by_cases c6_1 : (rd l1 i).1 = (1)
        · rw [if_pos c6_1] at H
          have c6b0_1 : ((rd l1 i).1 == (1)) = true := beq_iff_eq.mpr c6_1
          clear c6_1
          obtain ⟨acc2, hacc, H⟩ := Option.bind_eq_some_iff.1 H
          obtain ⟨t, ht, hacc⟩ := Option.bind_eq_some_iff.1 hacc
          obtain ⟨u, hu1, hu2⟩ := hesc _ _ ht
          have E1 := Aside0.mk hu1
          have E2 := Aside0.mk hu2
          clear hu1 hu2 ht
          unfold wr3 at hacc
          split at hacc
          case isFalse => cases hacc
          rename_i cl0
          cases hacc
          have cl := Aside0.mk cl0
          clear cl0
          have H' := Aside0.mk H
          clear H
          go_wp2_with (first | ((with_reducible refine gate_dst (N := 7) rfl ?_); refine box_event ?hg (N := 7) ?hd (cs := #[.int .i8 0, .string (⟨#[]⟩ : ByteArray)]) (t := 76) ?hr ?_; (case hd => rfl); (case hg => rfl); (case hr => first | (go_simp; done) | (go_simp; rfl)); intro gb hg w8 hbox hb; have n0_ := Aside0.mk (below_step (by repeat (first | (with_reducible first | exact HB.out | apply below_alloc | apply pw_below_drewN | apply below_drew1) | exact HB.out)) hb); have m0_ := Aside0.mk (below_step (by repeat (first | (with_reducible first | exact HW.out | apply below_alloc | apply pw_below_drewN | apply below_drew1) | exact HW.out)) hb); have n1_ := Aside0.mk (hbox); have n2_ := Aside0.mk ((by rw [hg]; exact (below_size (by repeat (first | (with_reducible first | exact HB.out | apply below_alloc | apply pw_below_drewN | apply below_drew1) | exact HB.out)))) : w.heap.size ≤ gb); have m2_ := Aside0.mk ((by rw [hg]; exact (below_size (by repeat (first | (with_reducible first | exact HW.out | apply below_alloc | apply pw_below_drewN | apply below_drew1) | exact HW.out)))) : wr.heap.size ≤ gb); clear HB HW; have HB := n0_; have HW := m0_; have BK := n1_; have GE := n2_; have GW := m2_; clear n0_ n1_ n2_ m0_ m2_; clear hb hbox hg; have hcz_0 : w8.cell? ⟨gb, 0, none⟩ = some (.int .i8 0) := (blk_cell BK.out 0).trans rfl; have hcz_1 : w8.cell? ⟨gb, 1, none⟩ = some (.string (⟨#[]⟩ : ByteArray)) := (blk_cell BK.out 1).trans rfl; have hfz_0 := blk_frozen BK.out 0; have hfz_1 := blk_frozen BK.out 1; have NE := Aside0.mk (show gb ≠ w.heap.size from by have h1_ := HI.out.lt; have h2_ := GW.out; omega)) | (go_at_call 48; refine (Go.Proofs.Tryd.Buffer_WriteString_kept w.heap.size w.heap.size _ _ _ (Lib.IsBuffer.old HI.out (by repeat (first | (with_reducible first | exact HW.out | apply below_alloc | apply pw_below_drewN | apply below_drew1 | refine below_set ?_ GW.out) | exact HW.out))) (below_size (by repeat (first | (with_reducible first | exact HB.out | apply below_alloc | apply pw_below_drewN | apply below_drew1 | refine below_set ?_ GE.out) | exact HB.out))) (by with_reducible (first | exact Lib.byteCells_one _ | exact one_b _ _ | exact one_c _ _ _)) (by first | exact lim_a cl.out | exact lim_b cl.out | exact lim_c cl.out)).mono ?_; rintro e w9 ⟨rfl, hI9, hb9, hk9⟩; have bx_ : w9.heap[gb]? = some (.cells #[.int .i8 (rd l1 i).1, .string (rd l1 i).2] 76 (0, 0)) := (by first | exact hk9 gb _ BX.out (fun e_ => NE.out (Option.some.inj e_)) (fun c_ fz_ e_ => by cases e_) | exact hk9 gb _ (box_set2 BK.out) (fun e_ => NE.out (Option.some.inj e_)) (fun c_ fz_ e_ => by cases e_)); (try clear BX hcy_0 hcy_1); have BX := Aside0.mk bx_; clear bx_; have hcy_0 : w9.cell? ⟨gb, 0, none⟩ = some (.int .i8 (rd l1 i).1) := (blk_cell BX.out 0).trans rfl; have hcy_1 : w9.cell? ⟨gb, 1, none⟩ = some (.string (rd l1 i).2) := (blk_cell BX.out 1).trans rfl; have n0_ := Aside0.mk (Below.trans (by repeat (first | (with_reducible first | exact HB.out | apply below_alloc | apply pw_below_drewN | apply below_drew1 | refine below_set ?_ GE.out) | exact HB.out)) hb9); have m0_ := Aside0.mk (Below.refl w9.heap.size w9); clear HB HW HI; have HB := n0_; have HI := Aside0.mk hI9; have HW := m0_; clear n0_ m0_ hb9 hI9 hk9) | (go_at_call 49; refine (call_qesc hcf E1.out (below_then HW0.out HW0.out.size (by repeat (first | (with_reducible first | exact HB.out | apply below_alloc | apply pw_below_drewN | apply below_drew1 | refine below_set ?_ GE.out) | exact HB.out)))).mono ?_; rintro e w9 ⟨rfl, hb9⟩; have bx_ : w9.heap[gb]? = some (.cells #[.int .i8 (rd l1 i).1, .string (rd l1 i).2] 76 (0, 0)) := (by first | exact blk_keep hb9 BX.out | exact blk_keep hb9 (box_set2 BK.out)); (try clear BX hcy_0 hcy_1); have BX := Aside0.mk bx_; clear bx_; have hcy_0 : w9.cell? ⟨gb, 0, none⟩ = some (.int .i8 (rd l1 i).1) := (blk_cell BX.out 0).trans rfl; have hcy_1 : w9.cell? ⟨gb, 1, none⟩ = some (.string (rd l1 i).2) := (blk_cell BX.out 1).trans rfl; have n0_ := Aside0.mk (below_step (by repeat (first | (with_reducible first | exact HB.out | apply below_alloc | apply pw_below_drewN | apply below_drew1 | refine below_set ?_ GE.out) | exact HB.out)) hb9); have m0_ := Aside0.mk (below_step (by repeat (first | (with_reducible first | exact HW.out | apply below_alloc | apply pw_below_drewN | apply below_drew1 | refine below_set ?_ GW.out) | exact HW.out)) hb9); clear HB HW; have HB := n0_; have HW := m0_; clear n0_ m0_ hb9) | (go_at_call 42; refine (call_rep hcf E2.out (below_then HW0.out HW0.out.size (by repeat (first | (with_reducible first | exact HB.out | apply below_alloc | apply pw_below_drewN | apply below_drew1 | refine below_set ?_ GE.out) | exact HB.out)))).mono ?_; rintro e w9 ⟨rfl, hb9⟩; have bx_ : w9.heap[gb]? = some (.cells #[.int .i8 (rd l1 i).1, .string (rd l1 i).2] 76 (0, 0)) := (by first | exact blk_keep hb9 BX.out | exact blk_keep hb9 (box_set2 BK.out)); (try clear BX hcy_0 hcy_1); have BX := Aside0.mk bx_; clear bx_; have hcy_0 : w9.cell? ⟨gb, 0, none⟩ = some (.int .i8 (rd l1 i).1) := (blk_cell BX.out 0).trans rfl; have hcy_1 : w9.cell? ⟨gb, 1, none⟩ = some (.string (rd l1 i).2) := (blk_cell BX.out 1).trans rfl; have n0_ := Aside0.mk (below_step (by repeat (first | (with_reducible first | exact HB.out | apply below_alloc | apply pw_below_drewN | apply below_drew1 | refine below_set ?_ GE.out) | exact HB.out)) hb9); have m0_ := Aside0.mk (below_step (by repeat (first | (with_reducible first | exact HW.out | apply below_alloc | apply pw_below_drewN | apply below_drew1 | refine below_set ?_ GW.out) | exact HW.out)) hb9); clear HB HW; have HB := n0_; have HW := m0_; clear n0_ m0_ hb9))
          go_roundg k1
          case measure => omega
          case rel =>
            exact ⟨i + 1, _, by simp only [Value.int.injEq, true_and]; first | exact (wadd1' i HK.out hlen) | omega, ⟨by have := HK.out; omega⟩, H', ⟨by rw [byteCells_append, byteCells_append, byteCells_append]; exact Lib.IsBuffer.old HI.out (by repeat (first | (with_reducible first | exact HW.out | apply below_alloc | apply pw_below_drewN | apply below_drew1 | refine below_set ?_ GW.out) | exact HW.out))⟩, ⟨by repeat (first | (with_reducible first | exact HB.out | apply below_alloc | apply pw_below_drewN | apply below_drew1 | refine below_set ?_ GE.out) | exact HB.out)⟩⟩
        · rw [if_neg c6_1] at H
          have c6b0_1 : ((rd l1 i).1 == (1)) = false := beq_eq_false_iff_ne.mpr c6_1
          clear c6_1
          by_cases c6_2 : (rd l1 i).1 = (-1)
          · rw [if_pos c6_2] at H
            have c6b0_2 : ((rd l1 i).1 == (-1)) = true := beq_iff_eq.mpr c6_2
            clear c6_2
            obtain ⟨acc2, hacc, H⟩ := Option.bind_eq_some_iff.1 H
            obtain ⟨t, ht, hacc⟩ := Option.bind_eq_some_iff.1 hacc
            obtain ⟨u, hu1, hu2⟩ := hnum _ _ ht
            have E1 := Aside0.mk hu1
            have E2 := Aside0.mk hu2
            clear hu1 hu2 ht
            unfold wr3 at hacc
            split at hacc
            case isFalse => cases hacc
            rename_i cl0
            cases hacc
            have cl := Aside0.mk cl0
            clear cl0
            have H' := Aside0.mk H
            clear H
            go_wp2_with (first | ((with_reducible refine gate_dst (N := 7) rfl ?_); refine box_event ?hg (N := 7) ?hd (cs := #[.int .i8 0, .string (⟨#[]⟩ : ByteArray)]) (t := 76) ?hr ?_; (case hd => rfl); (case hg => rfl); (case hr => first | (go_simp; done) | (go_simp; rfl)); intro gb hg w8 hbox hb; have n0_ := Aside0.mk (below_step (by repeat (first | (with_reducible first | exact HB.out | apply below_alloc | apply pw_below_drewN | apply below_drew1) | exact HB.out)) hb); have m0_ := Aside0.mk (below_step (by repeat (first | (with_reducible first | exact HW.out | apply below_alloc | apply pw_below_drewN | apply below_drew1) | exact HW.out)) hb); have n1_ := Aside0.mk (hbox); have n2_ := Aside0.mk ((by rw [hg]; exact (below_size (by repeat (first | (with_reducible first | exact HB.out | apply below_alloc | apply pw_below_drewN | apply below_drew1) | exact HB.out)))) : w.heap.size ≤ gb); have m2_ := Aside0.mk ((by rw [hg]; exact (below_size (by repeat (first | (with_reducible first | exact HW.out | apply below_alloc | apply pw_below_drewN | apply below_drew1) | exact HW.out)))) : wr.heap.size ≤ gb); clear HB HW; have HB := n0_; have HW := m0_; have BK := n1_; have GE := n2_; have GW := m2_; clear n0_ n1_ n2_ m0_ m2_; clear hb hbox hg; have hcz_0 : w8.cell? ⟨gb, 0, none⟩ = some (.int .i8 0) := (blk_cell BK.out 0).trans rfl; have hcz_1 : w8.cell? ⟨gb, 1, none⟩ = some (.string (⟨#[]⟩ : ByteArray)) := (blk_cell BK.out 1).trans rfl; have hfz_0 := blk_frozen BK.out 0; have hfz_1 := blk_frozen BK.out 1; have NE := Aside0.mk (show gb ≠ w.heap.size from by have h1_ := HI.out.lt; have h2_ := GW.out; omega)) | (go_at_call 48; refine (Go.Proofs.Tryd.Buffer_WriteString_kept w.heap.size w.heap.size _ _ _ (Lib.IsBuffer.old HI.out (by repeat (first | (with_reducible first | exact HW.out | apply below_alloc | apply pw_below_drewN | apply below_drew1 | refine below_set ?_ GW.out) | exact HW.out))) (below_size (by repeat (first | (with_reducible first | exact HB.out | apply below_alloc | apply pw_below_drewN | apply below_drew1 | refine below_set ?_ GE.out) | exact HB.out))) (by with_reducible (first | exact Lib.byteCells_one _ | exact one_b _ _ | exact one_c _ _ _)) (by first | exact lim_a cl.out | exact lim_b cl.out | exact lim_c cl.out)).mono ?_; rintro e w9 ⟨rfl, hI9, hb9, hk9⟩; have bx_ : w9.heap[gb]? = some (.cells #[.int .i8 (rd l1 i).1, .string (rd l1 i).2] 76 (0, 0)) := (by first | exact hk9 gb _ BX.out (fun e_ => NE.out (Option.some.inj e_)) (fun c_ fz_ e_ => by cases e_) | exact hk9 gb _ (box_set2 BK.out) (fun e_ => NE.out (Option.some.inj e_)) (fun c_ fz_ e_ => by cases e_)); (try clear BX hcy_0 hcy_1); have BX := Aside0.mk bx_; clear bx_; have hcy_0 : w9.cell? ⟨gb, 0, none⟩ = some (.int .i8 (rd l1 i).1) := (blk_cell BX.out 0).trans rfl; have hcy_1 : w9.cell? ⟨gb, 1, none⟩ = some (.string (rd l1 i).2) := (blk_cell BX.out 1).trans rfl; have n0_ := Aside0.mk (Below.trans (by repeat (first | (with_reducible first | exact HB.out | apply below_alloc | apply pw_below_drewN | apply below_drew1 | refine below_set ?_ GE.out) | exact HB.out)) hb9); have m0_ := Aside0.mk (Below.refl w9.heap.size w9); clear HB HW HI; have HB := n0_; have HI := Aside0.mk hI9; have HW := m0_; clear n0_ m0_ hb9 hI9 hk9) | (go_at_call 50; refine (call_cnt hcf E1.out (below_then HW0.out HW0.out.size (by repeat (first | (with_reducible first | exact HB.out | apply below_alloc | apply pw_below_drewN | apply below_drew1 | refine below_set ?_ GE.out) | exact HB.out)))).mono ?_; rintro e w9 ⟨rfl, hb9⟩; have bx_ : w9.heap[gb]? = some (.cells #[.int .i8 (rd l1 i).1, .string (rd l1 i).2] 76 (0, 0)) := (by first | exact blk_keep hb9 BX.out | exact blk_keep hb9 (box_set2 BK.out)); (try clear BX hcy_0 hcy_1); have BX := Aside0.mk bx_; clear bx_; have hcy_0 : w9.cell? ⟨gb, 0, none⟩ = some (.int .i8 (rd l1 i).1) := (blk_cell BX.out 0).trans rfl; have hcy_1 : w9.cell? ⟨gb, 1, none⟩ = some (.string (rd l1 i).2) := (blk_cell BX.out 1).trans rfl; have n0_ := Aside0.mk (below_step (by repeat (first | (with_reducible first | exact HB.out | apply below_alloc | apply pw_below_drewN | apply below_drew1 | refine below_set ?_ GE.out) | exact HB.out)) hb9); have m0_ := Aside0.mk (below_step (by repeat (first | (with_reducible first | exact HW.out | apply below_alloc | apply pw_below_drewN | apply below_drew1 | refine below_set ?_ GW.out) | exact HW.out)) hb9); clear HB HW; have HB := n0_; have HW := m0_; clear n0_ m0_ hb9) | (go_at_call 47; refine (call_itoa hcf E2.out (below_then HW0.out HW0.out.size (by repeat (first | (with_reducible first | exact HB.out | apply below_alloc | apply pw_below_drewN | apply below_drew1 | refine below_set ?_ GE.out) | exact HB.out)))).mono ?_; rintro e w9 ⟨rfl, hb9⟩; have bx_ : w9.heap[gb]? = some (.cells #[.int .i8 (rd l1 i).1, .string (rd l1 i).2] 76 (0, 0)) := (by first | exact blk_keep hb9 BX.out | exact blk_keep hb9 (box_set2 BK.out)); (try clear BX hcy_0 hcy_1); have BX := Aside0.mk bx_; clear bx_; have hcy_0 : w9.cell? ⟨gb, 0, none⟩ = some (.int .i8 (rd l1 i).1) := (blk_cell BX.out 0).trans rfl; have hcy_1 : w9.cell? ⟨gb, 1, none⟩ = some (.string (rd l1 i).2) := (blk_cell BX.out 1).trans rfl; have n0_ := Aside0.mk (below_step (by repeat (first | (with_reducible first | exact HB.out | apply below_alloc | apply pw_below_drewN | apply below_drew1 | refine below_set ?_ GE.out) | exact HB.out)) hb9); have m0_ := Aside0.mk (below_step (by repeat (first | (with_reducible first | exact HW.out | apply below_alloc | apply pw_below_drewN | apply below_drew1 | refine below_set ?_ GW.out) | exact HW.out)) hb9); clear HB HW; have HB := n0_; have HW := m0_; clear n0_ m0_ hb9))
            go_roundg k1
            case measure => omega
            case rel =>
              exact ⟨i + 1, _, by simp only [Value.int.injEq, true_and]; first | exact (wadd1' i HK.out hlen) | omega, ⟨by have := HK.out; omega⟩, H', ⟨by rw [byteCells_append, byteCells_append, byteCells_append]; exact Lib.IsBuffer.old HI.out (by repeat (first | (with_reducible first | exact HW.out | apply below_alloc | apply pw_below_drewN | apply below_drew1 | refine below_set ?_ GW.out) | exact HW.out))⟩, ⟨by repeat (first | (with_reducible first | exact HB.out | apply below_alloc | apply pw_below_drewN | apply below_drew1 | refine below_set ?_ GE.out) | exact HB.out)⟩⟩
          · rw [if_neg c6_2] at H
            have c6b0_2 : ((rd l1 i).1 == (-1)) = false := beq_eq_false_iff_ne.mpr c6_2
            clear c6_2
            by_cases c6_3 : (rd l1 i).1 = (0)
            · rw [if_pos c6_3] at H
              have c6b0_3 : ((rd l1 i).1 == (0)) = true := beq_iff_eq.mpr c6_3
              clear c6_3
              obtain ⟨acc2, hacc, H⟩ := Option.bind_eq_some_iff.1 H
              obtain ⟨t, ht, hacc⟩ := Option.bind_eq_some_iff.1 hacc
              obtain ⟨u, hu1, hu2⟩ := hnum _ _ ht
              have E1 := Aside0.mk hu1
              have E2 := Aside0.mk hu2
              clear hu1 hu2 ht
              unfold wr3 at hacc
              split at hacc
              case isFalse => cases hacc
              rename_i cl0
              cases hacc
              have cl := Aside0.mk cl0
              clear cl0
              have H' := Aside0.mk H
              clear H
              go_wp2_with (first | ((with_reducible refine gate_dst (N := 7) rfl ?_); refine box_event ?hg (N := 7) ?hd (cs := #[.int .i8 0, .string (⟨#[]⟩ : ByteArray)]) (t := 76) ?hr ?_; (case hd => rfl); (case hg => rfl); (case hr => first | (go_simp; done) | (go_simp; rfl)); intro gb hg w8 hbox hb; have n0_ := Aside0.mk (below_step (by repeat (first | (with_reducible first | exact HB.out | apply below_alloc | apply pw_below_drewN | apply below_drew1) | exact HB.out)) hb); have m0_ := Aside0.mk (below_step (by repeat (first | (with_reducible first | exact HW.out | apply below_alloc | apply pw_below_drewN | apply below_drew1) | exact HW.out)) hb); have n1_ := Aside0.mk (hbox); have n2_ := Aside0.mk ((by rw [hg]; exact (below_size (by repeat (first | (with_reducible first | exact HB.out | apply below_alloc | apply pw_below_drewN | apply below_drew1) | exact HB.out)))) : w.heap.size ≤ gb); have m2_ := Aside0.mk ((by rw [hg]; exact (below_size (by repeat (first | (with_reducible first | exact HW.out | apply below_alloc | apply pw_below_drewN | apply below_drew1) | exact HW.out)))) : wr.heap.size ≤ gb); clear HB HW; have HB := n0_; have HW := m0_; have BK := n1_; have GE := n2_; have GW := m2_; clear n0_ n1_ n2_ m0_ m2_; clear hb hbox hg; have hcz_0 : w8.cell? ⟨gb, 0, none⟩ = some (.int .i8 0) := (blk_cell BK.out 0).trans rfl; have hcz_1 : w8.cell? ⟨gb, 1, none⟩ = some (.string (⟨#[]⟩ : ByteArray)) := (blk_cell BK.out 1).trans rfl; have hfz_0 := blk_frozen BK.out 0; have hfz_1 := blk_frozen BK.out 1; have NE := Aside0.mk (show gb ≠ w.heap.size from by have h1_ := HI.out.lt; have h2_ := GW.out; omega)) | (go_at_call 48; refine (Go.Proofs.Tryd.Buffer_WriteString_kept w.heap.size w.heap.size _ _ _ (Lib.IsBuffer.old HI.out (by repeat (first | (with_reducible first | exact HW.out | apply below_alloc | apply pw_below_drewN | apply below_drew1 | refine below_set ?_ GW.out) | exact HW.out))) (below_size (by repeat (first | (with_reducible first | exact HB.out | apply below_alloc | apply pw_below_drewN | apply below_drew1 | refine below_set ?_ GE.out) | exact HB.out))) (by with_reducible (first | exact Lib.byteCells_one _ | exact one_b _ _ | exact one_c _ _ _)) (by first | exact lim_a cl.out | exact lim_b cl.out | exact lim_c cl.out)).mono ?_; rintro e w9 ⟨rfl, hI9, hb9, hk9⟩; have bx_ : w9.heap[gb]? = some (.cells #[.int .i8 (rd l1 i).1, .string (rd l1 i).2] 76 (0, 0)) := (by first | exact hk9 gb _ BX.out (fun e_ => NE.out (Option.some.inj e_)) (fun c_ fz_ e_ => by cases e_) | exact hk9 gb _ (box_set2 BK.out) (fun e_ => NE.out (Option.some.inj e_)) (fun c_ fz_ e_ => by cases e_)); (try clear BX hcy_0 hcy_1); have BX := Aside0.mk bx_; clear bx_; have hcy_0 : w9.cell? ⟨gb, 0, none⟩ = some (.int .i8 (rd l1 i).1) := (blk_cell BX.out 0).trans rfl; have hcy_1 : w9.cell? ⟨gb, 1, none⟩ = some (.string (rd l1 i).2) := (blk_cell BX.out 1).trans rfl; have n0_ := Aside0.mk (Below.trans (by repeat (first | (with_reducible first | exact HB.out | apply below_alloc | apply pw_below_drewN | apply below_drew1 | refine below_set ?_ GE.out) | exact HB.out)) hb9); have m0_ := Aside0.mk (Below.refl w9.heap.size w9); clear HB HW HI; have HB := n0_; have HI := Aside0.mk hI9; have HW := m0_; clear n0_ m0_ hb9 hI9 hk9) | (go_at_call 50; refine (call_cnt hcf E1.out (below_then HW0.out HW0.out.size (by repeat (first | (with_reducible first | exact HB.out | apply below_alloc | apply pw_below_drewN | apply below_drew1 | refine below_set ?_ GE.out) | exact HB.out)))).mono ?_; rintro e w9 ⟨rfl, hb9⟩; have bx_ : w9.heap[gb]? = some (.cells #[.int .i8 (rd l1 i).1, .string (rd l1 i).2] 76 (0, 0)) := (by first | exact blk_keep hb9 BX.out | exact blk_keep hb9 (box_set2 BK.out)); (try clear BX hcy_0 hcy_1); have BX := Aside0.mk bx_; clear bx_; have hcy_0 : w9.cell? ⟨gb, 0, none⟩ = some (.int .i8 (rd l1 i).1) := (blk_cell BX.out 0).trans rfl; have hcy_1 : w9.cell? ⟨gb, 1, none⟩ = some (.string (rd l1 i).2) := (blk_cell BX.out 1).trans rfl; have n0_ := Aside0.mk (below_step (by repeat (first | (with_reducible first | exact HB.out | apply below_alloc | apply pw_below_drewN | apply below_drew1 | refine below_set ?_ GE.out) | exact HB.out)) hb9); have m0_ := Aside0.mk (below_step (by repeat (first | (with_reducible first | exact HW.out | apply below_alloc | apply pw_below_drewN | apply below_drew1 | refine below_set ?_ GW.out) | exact HW.out)) hb9); clear HB HW; have HB := n0_; have HW := m0_; clear n0_ m0_ hb9) | (go_at_call 47; refine (call_itoa hcf E2.out (below_then HW0.out HW0.out.size (by repeat (first | (with_reducible first | exact HB.out | apply below_alloc | apply pw_below_drewN | apply below_drew1 | refine below_set ?_ GE.out) | exact HB.out)))).mono ?_; rintro e w9 ⟨rfl, hb9⟩; have bx_ : w9.heap[gb]? = some (.cells #[.int .i8 (rd l1 i).1, .string (rd l1 i).2] 76 (0, 0)) := (by first | exact blk_keep hb9 BX.out | exact blk_keep hb9 (box_set2 BK.out)); (try clear BX hcy_0 hcy_1); have BX := Aside0.mk bx_; clear bx_; have hcy_0 : w9.cell? ⟨gb, 0, none⟩ = some (.int .i8 (rd l1 i).1) := (blk_cell BX.out 0).trans rfl; have hcy_1 : w9.cell? ⟨gb, 1, none⟩ = some (.string (rd l1 i).2) := (blk_cell BX.out 1).trans rfl; have n0_ := Aside0.mk (below_step (by repeat (first | (with_reducible first | exact HB.out | apply below_alloc | apply pw_below_drewN | apply below_drew1 | refine below_set ?_ GE.out) | exact HB.out)) hb9); have m0_ := Aside0.mk (below_step (by repeat (first | (with_reducible first | exact HW.out | apply below_alloc | apply pw_below_drewN | apply below_drew1 | refine below_set ?_ GW.out) | exact HW.out)) hb9); clear HB HW; have HB := n0_; have HW := m0_; clear n0_ m0_ hb9))
              go_roundg k1
              case measure => omega
              case rel =>
                exact ⟨i + 1, _, by simp only [Value.int.injEq, true_and]; first | exact (wadd1' i HK.out hlen) | omega, ⟨by have := HK.out; omega⟩, H', ⟨by rw [byteCells_append, byteCells_append, byteCells_append]; exact Lib.IsBuffer.old HI.out (by repeat (first | (with_reducible first | exact HW.out | apply below_alloc | apply pw_below_drewN | apply below_drew1 | refine below_set ?_ GW.out) | exact HW.out))⟩, ⟨by repeat (first | (with_reducible first | exact HB.out | apply below_alloc | apply pw_below_drewN | apply below_drew1 | refine below_set ?_ GE.out) | exact HB.out)⟩⟩
            · rw [if_neg c6_3] at H
              have c6b0_3 : ((rd l1 i).1 == (0)) = false := beq_eq_false_iff_ne.mpr c6_3
              clear c6_3
              have H' := Aside0.mk H
              clear H
              go_wp2_with (first | ((with_reducible refine gate_dst (N := 7) rfl ?_); refine box_event ?hg (N := 7) ?hd (cs := #[.int .i8 0, .string (⟨#[]⟩ : ByteArray)]) (t := 76) ?hr ?_; (case hd => rfl); (case hg => rfl); (case hr => first | (go_simp; done) | (go_simp; rfl)); intro gb hg w8 hbox hb; have n0_ := Aside0.mk (below_step (by repeat (first | (with_reducible first | exact HB.out | apply below_alloc | apply pw_below_drewN | apply below_drew1) | exact HB.out)) hb); have m0_ := Aside0.mk (below_step (by repeat (first | (with_reducible first | exact HW.out | apply below_alloc | apply pw_below_drewN | apply below_drew1) | exact HW.out)) hb); have n1_ := Aside0.mk (hbox); have n2_ := Aside0.mk ((by rw [hg]; exact (below_size (by repeat (first | (with_reducible first | exact HB.out | apply below_alloc | apply pw_below_drewN | apply below_drew1) | exact HB.out)))) : w.heap.size ≤ gb); have m2_ := Aside0.mk ((by rw [hg]; exact (below_size (by repeat (first | (with_reducible first | exact HW.out | apply below_alloc | apply pw_below_drewN | apply below_drew1) | exact HW.out)))) : wr.heap.size ≤ gb); clear HB HW; have HB := n0_; have HW := m0_; have BK := n1_; have GE := n2_; have GW := m2_; clear n0_ n1_ n2_ m0_ m2_; clear hb hbox hg; have hcz_0 : w8.cell? ⟨gb, 0, none⟩ = some (.int .i8 0) := (blk_cell BK.out 0).trans rfl; have hcz_1 : w8.cell? ⟨gb, 1, none⟩ = some (.string (⟨#[]⟩ : ByteArray)) := (blk_cell BK.out 1).trans rfl; have hfz_0 := blk_frozen BK.out 0; have hfz_1 := blk_frozen BK.out 1; have NE := Aside0.mk (show gb ≠ w.heap.size from by have h1_ := HI.out.lt; have h2_ := GW.out; omega)) | (go_at_call 55; refine (call_esc hcf E1.out (below_then HW0.out HW0.out.size (by repeat (first | (with_reducible first | exact HB.out | apply below_alloc | apply pw_below_drewN | apply below_drew1 | refine below_set ?_ GE.out) | exact HB.out)))).mono ?_; rintro e w9 ⟨rfl, hb9⟩; have bx_ : w9.heap[gb]? = some (.cells #[.int .i8 (rd l1 i).1, .string (rd l1 i).2] 76 (0, 0)) := (by first | exact blk_keep hb9 BX.out | exact blk_keep hb9 (box_set2 BK.out)); (try clear BX hcy_0 hcy_1); have BX := Aside0.mk bx_; clear bx_; have hcy_0 : w9.cell? ⟨gb, 0, none⟩ = some (.int .i8 (rd l1 i).1) := (blk_cell BX.out 0).trans rfl; have hcy_1 : w9.cell? ⟨gb, 1, none⟩ = some (.string (rd l1 i).2) := (blk_cell BX.out 1).trans rfl; have n0_ := Aside0.mk (below_step (by repeat (first | (with_reducible first | exact HB.out | apply below_alloc | apply pw_below_drewN | apply below_drew1 | refine below_set ?_ GE.out) | exact HB.out)) hb9); have m0_ := Aside0.mk (below_step (by repeat (first | (with_reducible first | exact HW.out | apply below_alloc | apply pw_below_drewN | apply below_drew1 | refine below_set ?_ GW.out) | exact HW.out)) hb9); clear HB HW; have HB := n0_; have HW := m0_; clear n0_ m0_ hb9) | (go_at_call 42; refine (call_rep hcf E2.out (below_then HW0.out HW0.out.size (by repeat (first | (with_reducible first | exact HB.out | apply below_alloc | apply pw_below_drewN | apply below_drew1 | refine below_set ?_ GE.out) | exact HB.out)))).mono ?_; rintro e w9 ⟨rfl, hb9⟩; have bx_ : w9.heap[gb]? = some (.cells #[.int .i8 (rd l1 i).1, .string (rd l1 i).2] 76 (0, 0)) := (by first | exact blk_keep hb9 BX.out | exact blk_keep hb9 (box_set2 BK.out)); (try clear BX hcy_0 hcy_1); have BX := Aside0.mk bx_; clear bx_; have hcy_0 : w9.cell? ⟨gb, 0, none⟩ = some (.int .i8 (rd l1 i).1) := (blk_cell BX.out 0).trans rfl; have hcy_1 : w9.cell? ⟨gb, 1, none⟩ = some (.string (rd l1 i).2) := (blk_cell BX.out 1).trans rfl; have n0_ := Aside0.mk (below_step (by repeat (first | (with_reducible first | exact HB.out | apply below_alloc | apply pw_below_drewN | apply below_drew1 | refine below_set ?_ GE.out) | exact HB.out)) hb9); have m0_ := Aside0.mk (below_step (by repeat (first | (with_reducible first | exact HW.out | apply below_alloc | apply pw_below_drewN | apply below_drew1 | refine below_set ?_ GW.out) | exact HW.out)) hb9); clear HB HW; have HB := n0_; have HW := m0_; clear n0_ m0_ hb9) | (go_at_call 48; refine (Go.Proofs.Tryd.Buffer_WriteString_kept w.heap.size w.heap.size _ _ _ (Lib.IsBuffer.old HI.out (by repeat (first | (with_reducible first | exact HW.out | apply below_alloc | apply pw_below_drewN | apply below_drew1 | refine below_set ?_ GW.out) | exact HW.out))) (below_size (by repeat (first | (with_reducible first | exact HB.out | apply below_alloc | apply pw_below_drewN | apply below_drew1 | refine below_set ?_ GE.out) | exact HB.out))) (by with_reducible (first | exact Lib.byteCells_one _ | exact one_b _ _ | exact one_c _ _ _)) (by first | exact lim_a cl.out | exact lim_b cl.out | exact lim_c cl.out)).mono ?_; rintro e w9 ⟨rfl, hI9, hb9, hk9⟩; have bx_ : w9.heap[gb]? = some (.cells #[.int .i8 (rd l1 i).1, .string (rd l1 i).2] 76 (0, 0)) := (by first | exact hk9 gb _ BX.out (fun e_ => NE.out (Option.some.inj e_)) (fun c_ fz_ e_ => by cases e_) | exact hk9 gb _ (box_set2 BK.out) (fun e_ => NE.out (Option.some.inj e_)) (fun c_ fz_ e_ => by cases e_)); (try clear BX hcy_0 hcy_1); have BX := Aside0.mk bx_; clear bx_; have hcy_0 : w9.cell? ⟨gb, 0, none⟩ = some (.int .i8 (rd l1 i).1) := (blk_cell BX.out 0).trans rfl; have hcy_1 : w9.cell? ⟨gb, 1, none⟩ = some (.string (rd l1 i).2) := (blk_cell BX.out 1).trans rfl; have n0_ := Aside0.mk (Below.trans (by repeat (first | (with_reducible first | exact HB.out | apply below_alloc | apply pw_below_drewN | apply below_drew1 | refine below_set ?_ GE.out) | exact HB.out)) hb9); have m0_ := Aside0.mk (Below.refl w9.heap.size w9); clear HB HW HI; have HB := n0_; have HI := Aside0.mk hI9; have HW := m0_; clear n0_ m0_ hb9 hI9 hk9))
              go_roundg k1
              case measure => omega
              case rel =>
                exact ⟨i + 1, acc, by simp only [Value.int.injEq, true_and]; first | exact (wadd1' i HK.out hlen) | omega, ⟨by have := HK.out; omega⟩, H', ⟨Lib.IsBuffer.old HI.out (by repeat (first | (with_reducible first | exact HW.out | apply below_alloc | apply pw_below_drewN | apply below_drew1 | refine below_set ?_ GW.out) | exact HW.out))⟩, ⟨by repeat (first | (with_reducible first | exact HB.out | apply below_alloc | apply pw_below_drewN | apply below_drew1 | refine below_set ?_ GE.out) | exact HB.out)⟩⟩

      · have c3b0 : decide ((i : Int) < (l1.length : Int)) = false := decide_eq_false (by omega)
        have c3b1 : decide (i < l1.length) = false := decide_eq_false c3
        rw [List.drop_eq_nil_of_le (by omega)] at H
        rw [deltaF_nil] at H
        have HW := Aside0.mk (Below.refl wr.heap.size wr)
        cases H
        have hout := HO.out
        clear HO
        by_cases c0 : out = []
        · rw [if_pos c0] at hout
          subst c0
          cases hout
          go_wp2_with (first | (go_at_call 51; refine (Go.Proofs.Tryd.Buffer_String w.heap.size w.heap.size _ _ (Lib.IsBuffer.old HI.out (by repeat (first | exact Below.refl _ _ | apply below_alloc | apply pw_below_drewN | apply below_drew1)))).mono ?_; rintro e w9 ⟨rfl, n9, rfl⟩))
          first | go_end0 | go_ret
          exact ⟨rfl, by repeat (first | (with_reducible first | exact HB.out | apply below_alloc | apply pw_below_drewN | apply below_drew1) | exact HB.out)⟩
        · rw [if_neg c0] at hout
          obtain ⟨n, hn, hout⟩ := Option.bind_eq_some_iff.1 hout
          split at hout
          case isFalse => cases hout
          rename_i hnn
          have E3 := Aside0.mk (hcnt _ _ hn)
          have E4 := Aside0.mk (hun _ _ hout)
          clear hn hout
          have hsz : ByteArray.size ⟨out.toArray⟩ = out.length := rfl
          have hsz0 : out.length ≠ 0 := fun e => c0 (List.eq_nil_of_length_eq_zero e)
          have d0 : (((ByteArray.size ⟨out.toArray⟩ : Nat) : Int) != 0) = true := bne_iff_ne.mpr (by rw [hsz]; omega)
          have d1 : (((ByteArray.size ⟨out.toArray⟩ : Nat) : Int) == 0) = false := beq_eq_false_iff_ne.mpr (by rw [hsz]; omega)
          have w1 : wrap64 (n - 1) = n - 1 := by unfold wrap64; omega
          have hsl : ∀ W : World, (Instr.slice 9 (.string ⟨out.toArray⟩) (some (.int .i64 0)) (some (.int .i64 (n - 1))) none).run Go.Proofs.Tryd.prog W = .ok (.string (ByteArray.extract ⟨out.toArray⟩ 0 (n.toNat - 1))) W := fun W => by
            rw [run_slice_string_if W 9 _ _ _ _ _ Go.Proofs.Tryd.underlying9, if_pos ⟨by omega, by rw [hsz]; omega⟩, if_pos ⟨by omega, by omega⟩]
            first | rfl | (rw [show (n - 1).toNat = n.toNat - 1 by omega]; rfl)
          go_wp2_with (first | (go_at_call 51; refine (Go.Proofs.Tryd.Buffer_String w.heap.size w.heap.size _ _ (Lib.IsBuffer.old HI.out (by repeat (first | exact Below.refl _ _ | apply below_alloc | apply pw_below_drewN | apply below_drew1)))).mono ?_; rintro e w9 ⟨rfl, n9, rfl⟩) | (go_at_call 50; refine (call_cnt hcf E3.out (below_then HW0.out HW0.out.size (by repeat (first | (with_reducible first | exact HB.out | apply below_alloc | apply pw_below_drewN | apply below_drew1) | exact HB.out)))).mono ?_; rintro e w9 ⟨rfl, hb9⟩; have n0_ := Aside0.mk (below_step (by repeat (first | (with_reducible first | exact HB.out | apply below_alloc | apply pw_below_drewN | apply below_drew1) | exact HB.out)) hb9); clear HB; have HB := n0_; clear n0_ hb9) | (go_at_call 52; refine (call_un hcf E4.out (below_then HW0.out HW0.out.size (by repeat (first | (with_reducible first | exact HB.out | apply below_alloc | apply pw_below_drewN | apply below_drew1) | exact HB.out)))).mono ?_; rintro e w9 ⟨rfl, hb9⟩; have n0_ := Aside0.mk (below_step (by repeat (first | (with_reducible first | exact HB.out | apply below_alloc | apply pw_below_drewN | apply below_drew1) | exact HB.out)) hb9); clear HB; have HB := n0_; clear n0_ hb9))
          first | go_end0 | go_ret
          exact ⟨rfl, by repeat (first | (with_reducible first | exact HB.out | apply below_alloc | apply pw_below_drewN | apply below_drew1) | exact HB.out)⟩
def rdS (ls : List ByteArray) (j : Nat) : ByteArray := ls.getD j ⟨#[]⟩
theorem ng_of {w W : World} {bs : List Value} {g : Nat} (hI : Lib.IsBuffer 82 5 w.heap.size w.heap.size bs W) (hg : W.heap.size ≤ g) : g ≠ w.heap.size := by
  have := hI.lt
  omega
theorem cells_str : ∀ ls : List ByteArray, cellsL .str ls = ls.map Value.string
  | [] => rfl
  | y :: ys => by rw [cellsL_cons, cells_str ys]; rfl
theorem call_split {W0 : World} {cf : (f : FuncId) → argL (sg f).ps → Option (retL (sg f).rs)} (hcf : ∀ f, CallOk Go.Proofs.Tryd.prog W0 sg cf f) {s : ByteArray} {ls : List ByteArray} (h : cf 41 (s, (⟨#[10]⟩ : ByteArray), ()) = some ls) (h1 : 1 ≤ ls.length) {W : World} (hB : Below W0.heap.size W0 W) :
    Calls Go.Proofs.Tryd.prog 41 #[.string s, .string (⟨#[10]⟩ : ByteArray)] W fun e w' => ∃ g cap cur, e = .returned (.slice (some ⟨g, 0, none⟩) ls.length cap) ∧ w'.heap[g]? = some (.cells cur 9 (0, 0)) ∧ (∀ j, j < ls.length → cur[j]? = some (.string (rdS ls j))) ∧ W.heap.size ≤ g ∧ Below W.heap.size W w' := by
  obtain ⟨_, hc⟩ := hcf 41 (s, (⟨#[10]⟩ : ByteArray), ()) ls h
  refine (hc W (fun _ => False) [.string s, .string (⟨#[10]⟩ : ByteArray)] hB (fun _ h => h.elim) ⟨rfl, rfl, trivial⟩ List.Pairwise.nil).mono ?_
  rintro e w' ⟨Rs, rfl, hR, _, hP⟩
  match Rs, hR with
  | [V], hR =>
    obtain ⟨ho, hg⟩ : OwnV w' .str 9 ls V ∧ ∀ g, V.ownBlock = some g → False ∨ W.heap.size ≤ g := hR
    have hcl := cells_str ls
    rcases id ho.2 with ⟨_, h0⟩ | ⟨g, cap, cur, hV, _, hh, _, _, _, htk⟩
    · omega
    · subst hV
      refine ⟨g, cap, cur, rfl, hh, fun j hj => ?_, (hg g rfl).resolve_left id, hP.below (fun _ h => h.elim) (Nat.le_refl _)⟩
      have h2 : cur.toList.take (ls.length * 1) = cellsL .str ls := htk
      rw [hcl, Nat.mul_one] at h2
      have h3 : (cur.toList.take ls.length)[j]? = some (.string (rdS ls j)) := by
        rw [h2, List.getElem?_map, List.getElem?_eq_getElem hj]
        unfold rdS
        rw [List.getD_eq_getElem?_getD, List.getElem?_eq_getElem hj]
        rfl
      rw [List.getElem?_take, if_pos hj] at h3
      simpa using h3
theorem lim_1 {acc : List UInt8} {a : ByteArray} (h : acc.length + a.size ≤ 140737488355328) : (Lib.byteCells acc).length + a.size ≤ 140737488355328 := by
  rw [Lib.byteCells_length]
  exact h
theorem lines_step (col : ByteArray) (ls : List ByteArray) (j : Nat) (acc : List UInt8) (hj : j < ls.length) : linesF col (ls.drop j) acc = (wr3 acc col (rdS ls j) (if j + 1 < ls.length then (⟨#[27, 91, 48, 109, 10]⟩ : ByteArray) else (⟨#[27, 91, 48, 109]⟩ : ByteArray))).bind (linesF col (ls.drop (j + 1))) := by
  have hg : rdS ls j = ls[j] := by simp [rdS, hj]
  rw [List.drop_eq_getElem_cons hj, hg]
  by_cases h : j + 1 < ls.length
  · rw [if_pos h, List.drop_eq_getElem_cons h]
    rfl
  · rw [if_neg h, List.drop_eq_nil_of_le (by omega)]
    show wr3 acc col ls[j] _ = _
    cases wr3 acc col ls[j] (⟨#[27, 91, 48, 109]⟩ : ByteArray) with
    | none => rfl
    | some x => rfl
theorem ptextF_nil (split : ByteArray → Option (List ByteArray)) (acc : List UInt8) : ptextF split [] acc = some acc := rfl
theorem ptextF_cons (split : ByteArray → Option (List ByteArray)) (d : Int × ByteArray) (r : List (Int × ByteArray)) (acc : List UInt8) : ptextF split (d :: r) acc = (if d.1 = 1 then ((split d.2).bind fun ls => if 1 ≤ ls.length ∧ ls.length ≤ 1000000000 then linesF (⟨#[27, 91, 51, 50, 109]⟩ : ByteArray) ls acc else none).bind (ptextF split r)
    else if d.1 = -1 then ((split d.2).bind fun ls => if 1 ≤ ls.length ∧ ls.length ≤ 1000000000 then linesF (⟨#[27, 91, 51, 49, 109]⟩ : ByteArray) ls acc else none).bind (ptextF split r)
    else if d.1 = 0 then (if acc.length + d.2.size ≤ 140737488355328 then ptextF split r (acc ++ d.2.data.toList) else none)
    else ptextF split r acc) := rfl

set_option maxHeartbeats 8000000 in
set_option maxRecDepth 100000 in
theorem ptext_calls {W0 : World} {cf : (f : FuncId) → argL (sg f).ps → Option (retL (sg f).rs)} (hcf : ∀ f, CallOk Go.Proofs.Tryd.prog W0 sg cf f) (p0_ : Value) (A1 : Option Addr) (c1 : Nat) (l1 : List (Int × ByteArray)) (r : ByteArray) (w : World) (hW : Below W0.heap.size W0 w) (hr1 : ReadV w TS0 l1 (.slice A1 l1.length c1))
    (split_ : ByteArray → Option (List ByteArray)) (hsplit : ∀ s t, split_ s = some t → cf 41 (s, (⟨#[10]⟩ : ByteArray), ()) = some t) (h : ptextE split_ l1 = some r) :
    Calls Go.Proofs.Tryd.prog 38 #[p0_, .slice A1 l1.length c1] w fun e w' => e = .returned (.string r) ∧ Below w.heap.size w w' := by
  unfold ptextE at h
  by_cases hlen : l1.length ≤ 1000000000
  case neg => rw [if_neg hlen] at h; cases h
  rw [if_pos hlen] at h
  obtain ⟨out, h, hout⟩ := Option.map_eq_some_iff.1 h
  have hu76 := Go.Proofs.Tryd.underlying76
  have HW0 := Aside0.mk hW
  clear hW
  have HR1 := Aside0.mk hr1
  clear hr1
  have HI := Aside0.mk (Lib.fresh_isBuffer 82 5 w)
  have HB := Aside0.mk (below_alloc (Below.refl w.heap.size w) (.cells #[.slice none 0 0, .int .i64 0, .int .i8 0] 82))
  have H' := Aside0.mk h
  clear h
  go_enter Go.Proofs.Tryd.func38, Go.Proofs.Tryd.ntmps38
  go_wp2
  go_loopg [17] (l1.length + 1) (fun kq v10 w' => ∃ (i : Nat) (acc : List UInt8), v10 = .int .i64 (i : Int) ∧ Aside0 (i + kq = l1.length + 1 ∧ i ≤ l1.length) ∧ Aside0 (ptextF split_ (l1.drop i) acc = some out) ∧ Aside0 (Lib.IsBuffer 82 5 w.heap.size w.heap.size (Lib.byteCells acc) w') ∧ Aside0 (Below w.heap.size w w'))
  case atStart => exact ⟨0, [], rfl, ⟨⟨by omega, by omega⟩⟩, H', HI, HB⟩
  case round =>
    clear H' HI HB
    obtain ⟨i, acc, rfl, HK, HA, HI, HB⟩ := hrel
    cases gk with
    | zero => exact absurd HK.out (by omega)
    | succ k1 =>
      have H := HA.out
      clear HA
      by_cases c3 : i < l1.length
      · have c3b0 : decide ((i : Int) < (l1.length : Int)) = true := decide_eq_true (by omega)
        have c3b1 : decide (i < l1.length) = true := decide_eq_true c3
        rw [rd_drop l1 i c3, ptextF_cons] at H
        have p156 : 0 ≤ (i : Int) := by omega
        have q156 : (i : Int) < (l1.length : Int) := by omega
        obtain ⟨ad156, e156, hx156_0, hx156_1⟩ := at_d HR1.out i c3
        cases e156
        replace hx156_0 := (HB.out.cell (World.block_lt_of_cell? w _ hx156_0)).trans hx156_0
        replace hx156_1 := (HB.out.cell (World.block_lt_of_cell? w _ hx156_1)).trans hx156_1
        replace p156 := eq_true p156
        replace q156 := eq_true q156
        have HW := Aside0.mk (Below.refl wr.heap.size wr)
        by_cases c6_1 : (rd l1 i).1 = (1)
        · rw [if_pos c6_1] at H
          have c6b0_1 : ((rd l1 i).1 == (1)) = true := beq_iff_eq.mpr c6_1
          clear c6_1
          obtain ⟨acc2, hacc, H⟩ := Option.bind_eq_some_iff.1 H
          obtain ⟨ls, ht, hacc⟩ := Option.bind_eq_some_iff.1 hacc
          have hu1 := hsplit _ _ ht
          have E1 := Aside0.mk hu1
          clear hu1 ht
          split at hacc
          case isFalse => cases hacc
          rename_i hls
          have H' := Aside0.mk H
          clear H
          have LA := Aside0.mk hacc
          clear hacc
          go_wp2_with (first | ((with_reducible refine gate_dst (N := 7) rfl ?_); refine box_event ?hg (N := 7) ?hd (cs := #[.int .i8 0, .string (⟨#[]⟩ : ByteArray)]) (t := 76) ?hr ?_; (case hd => rfl); (case hg => rfl); (case hr => first | (go_simp; done) | (go_simp; rfl)); intro gb hg w8 hbox hb; have n0_ := Aside0.mk (below_step (by repeat (first | (with_reducible first | exact HB.out | apply below_alloc | apply pw_below_drewN | apply below_drew1) | exact HB.out)) hb); have m0_ := Aside0.mk (below_step (by repeat (first | (with_reducible first | exact HW.out | apply below_alloc | apply pw_below_drewN | apply below_drew1) | exact HW.out)) hb); have n1_ := Aside0.mk (hbox); have n2_ := Aside0.mk ((by rw [hg]; exact (below_size (by repeat (first | (with_reducible first | exact HB.out | apply below_alloc | apply pw_below_drewN | apply below_drew1) | exact HB.out)))) : w.heap.size ≤ gb); have m2_ := Aside0.mk ((by rw [hg]; exact (below_size (by repeat (first | (with_reducible first | exact HW.out | apply below_alloc | apply pw_below_drewN | apply below_drew1) | exact HW.out)))) : wr.heap.size ≤ gb); clear HB HW; have HB := n0_; have HW := m0_; have BK := n1_; have GE := n2_; have GW := m2_; clear n0_ n1_ n2_ m0_ m2_; clear hb hbox hg; have hcz_0 : w8.cell? ⟨gb, 0, none⟩ = some (.int .i8 0) := (blk_cell BK.out 0).trans rfl; have hcz_1 : w8.cell? ⟨gb, 1, none⟩ = some (.string (⟨#[]⟩ : ByteArray)) := (blk_cell BK.out 1).trans rfl; have hfz_0 := blk_frozen BK.out 0; have hfz_1 := blk_frozen BK.out 1; have NE := Aside0.mk (show gb ≠ w.heap.size from by have h1_ := HI.out.lt; have h2_ := GW.out; omega)) | (go_at_call 41; refine (call_split hcf E1.out hls.1 (below_then HW0.out HW0.out.size (by repeat (first | (with_reducible first | exact HB.out | apply below_alloc | apply pw_below_drewN | apply below_drew1 | refine below_set ?_ GE.out) | exact HB.out)))).mono ?_; rintro e w9 ⟨g, cap, cur, rfl, hrg, hcur, hgW, hb9⟩; have RG := Aside0.mk hrg; have RC := Aside0.mk hcur; have NG := Aside0.mk (ng_of (Lib.IsBuffer.old HI.out (by repeat (first | (with_reducible first | exact HW.out | apply below_alloc | apply pw_below_drewN | apply below_drew1 | refine below_set ?_ GW.out) | exact HW.out))) hgW); have n0_ := Aside0.mk (below_step (by repeat (first | (with_reducible first | exact HB.out | apply below_alloc | apply pw_below_drewN | apply below_drew1 | refine below_set ?_ GE.out) | exact HB.out)) hb9); have hi_ := Aside0.mk (Lib.IsBuffer.old HI.out (below_step (by repeat (first | (with_reducible first | exact HW.out | apply below_alloc | apply pw_below_drewN | apply below_drew1 | refine below_set ?_ GW.out) | exact HW.out)) hb9)); clear HB HW HI; have HB := n0_; have HI := hi_; clear n0_ hi_ hb9 hrg hcur hgW))
          go_loopg [31] (ls.length + 1) (fun kq v10 w' => ∃ (j : Nat) (accj : List UInt8), v10 = .int .i64 (j : Int) ∧ Aside0 (j + kq = ls.length + 1 ∧ j ≤ ls.length) ∧ Aside0 (linesF (⟨#[27, 91, 51, 50, 109]⟩ : ByteArray) (ls.drop j) accj = some acc2) ∧ Aside0 (Lib.IsBuffer 82 5 w.heap.size w.heap.size (Lib.byteCells accj) w') ∧ Aside0 (Below w.heap.size w w') ∧ Aside0 (w'.heap[g]? = some (.cells cur 9 (0, 0))))
          case atStart => exact ⟨0, acc, rfl, ⟨⟨by omega, by omega⟩⟩, LA, HI, HB, RG⟩
          case round =>
            clear LA HI HB RG
            obtain ⟨j, accj, rfl, HJ, LA, HI, HB, RG⟩ := hrel
            cases gk with
            | zero => exact absurd HJ.out (by omega)
            | succ k2 =>
              have HW := Aside0.mk (Below.refl wr.heap.size wr)
              have wl : wrap64 ((ls.length : Int) - 1) = (ls.length : Int) - 1 := by unfold wrap64; omega
              by_cases c9 : j < ls.length
              · have c9b0 : decide ((j : Int) < (ls.length : Int)) = true := decide_eq_true (by omega)
                have p9 : 0 ≤ (j : Int) := by omega
                have q9 : (j : Int) < (ls.length : Int) := by omega
                replace p9 := eq_true p9
                replace q9 := eq_true q9
                have hx9 : wr.cell? ⟨g, j, none⟩ = some (.string (rdS ls j)) := (blk_cell RG.out j).trans (RC.out j c9)
                have L := LA.out
                clear LA
                rw [lines_step _ _ _ _ c9] at L
                by_cases cl1 : j + 1 < ls.length
                · rw [if_pos cl1] at L
                  have c8 : decide ((j : Int) < (ls.length : Int) - 1) = true := decide_eq_true (by omega)
                  unfold wr3 at L
                  obtain ⟨acc3, hacc3, L⟩ := Option.bind_eq_some_iff.1 L
                  split at hacc3
                  case isFalse => cases hacc3
                  rename_i cl0
                  cases hacc3
                  have cl := Aside0.mk cl0
                  clear cl0
                  have LA := Aside0.mk L
                  clear L
                  go_wp2_with (first | (go_at_call 48; refine (Go.Proofs.Tryd.Buffer_WriteString_kept w.heap.size w.heap.size _ _ _ (Lib.IsBuffer.old HI.out (by repeat (first | (with_reducible first | exact HW.out | apply below_alloc | apply pw_below_drewN | apply below_drew1) | exact HW.out))) (below_size (by repeat (first | (with_reducible first | exact HB.out | apply below_alloc | apply pw_below_drewN | apply below_drew1) | exact HB.out))) (by with_reducible (first | exact Lib.byteCells_one _ | exact one_b _ _ | exact one_c _ _ _)) (by first | exact lim_a cl.out | exact lim_b cl.out | exact lim_c cl.out | exact lim_1 cl.out)).mono ?_; rintro e w9 ⟨rfl, hI9, hb9, hk9⟩; have rg_ : w9.heap[g]? = some (.cells cur 9 (0, 0)) := hk9 g _ RG.out (fun e_ => NG.out (Option.some.inj e_)) (fun c_ fz_ e_ => by cases e_); clear RG; have RG := Aside0.mk rg_; clear rg_; have n0_ := Aside0.mk (Below.trans (by repeat (first | (with_reducible first | exact HB.out | apply below_alloc | apply pw_below_drewN | apply below_drew1) | exact HB.out)) hb9); have m0_ := Aside0.mk (Below.refl w9.heap.size w9); clear HB HW HI; have HB := n0_; have HI := Aside0.mk hI9; have HW := m0_; clear n0_ m0_ hb9 hI9 hk9))
                  go_roundg k2
                  case measure => omega
                  case rel =>
                    exact ⟨j + 1, _, by simp only [Value.int.injEq, true_and]; first | exact (wadd1' j HJ.out hls.2) | omega, ⟨by have := HJ.out; omega⟩, LA, ⟨by rw [byteCells_append, byteCells_append, byteCells_append]; exact Lib.IsBuffer.old HI.out (by repeat (first | (with_reducible first | exact HW.out | apply below_alloc | apply pw_below_drewN | apply below_drew1) | exact HW.out))⟩, ⟨by repeat (first | (with_reducible first | exact HB.out | apply below_alloc | apply pw_below_drewN | apply below_drew1) | exact HB.out)⟩, RG⟩
                · rw [if_neg cl1] at L
                  have c8 : decide ((j : Int) < (ls.length : Int) - 1) = false := decide_eq_false (by omega)
                  unfold wr3 at L
                  obtain ⟨acc3, hacc3, L⟩ := Option.bind_eq_some_iff.1 L
                  split at hacc3
                  case isFalse => cases hacc3
                  rename_i cl0
                  cases hacc3
                  have cl := Aside0.mk cl0
                  clear cl0
                  have LA := Aside0.mk L
                  clear L
                  go_wp2_with (first | (go_at_call 48; refine (Go.Proofs.Tryd.Buffer_WriteString_kept w.heap.size w.heap.size _ _ _ (Lib.IsBuffer.old HI.out (by repeat (first | (with_reducible first | exact HW.out | apply below_alloc | apply pw_below_drewN | apply below_drew1) | exact HW.out))) (below_size (by repeat (first | (with_reducible first | exact HB.out | apply below_alloc | apply pw_below_drewN | apply below_drew1) | exact HB.out))) (by with_reducible (first | exact Lib.byteCells_one _ | exact one_b _ _ | exact one_c _ _ _)) (by first | exact lim_a cl.out | exact lim_b cl.out | exact lim_c cl.out | exact lim_1 cl.out)).mono ?_; rintro e w9 ⟨rfl, hI9, hb9, hk9⟩; have rg_ : w9.heap[g]? = some (.cells cur 9 (0, 0)) := hk9 g _ RG.out (fun e_ => NG.out (Option.some.inj e_)) (fun c_ fz_ e_ => by cases e_); clear RG; have RG := Aside0.mk rg_; clear rg_; have n0_ := Aside0.mk (Below.trans (by repeat (first | (with_reducible first | exact HB.out | apply below_alloc | apply pw_below_drewN | apply below_drew1) | exact HB.out)) hb9); have m0_ := Aside0.mk (Below.refl w9.heap.size w9); clear HB HW HI; have HB := n0_; have HI := Aside0.mk hI9; have HW := m0_; clear n0_ m0_ hb9 hI9 hk9))
                  go_roundg k2
                  case measure => omega
                  case rel =>
                    exact ⟨j + 1, _, by simp only [Value.int.injEq, true_and]; first | exact (wadd1' j HJ.out hls.2) | omega, ⟨by have := HJ.out; omega⟩, LA, ⟨by rw [byteCells_append, byteCells_append, byteCells_append]; exact Lib.IsBuffer.old HI.out (by repeat (first | (with_reducible first | exact HW.out | apply below_alloc | apply pw_below_drewN | apply below_drew1) | exact HW.out))⟩, ⟨by repeat (first | (with_reducible first | exact HB.out | apply below_alloc | apply pw_below_drewN | apply below_drew1) | exact HB.out)⟩, RG⟩
              · have c9b0 : decide ((j : Int) < (ls.length : Int)) = false := decide_eq_false (by omega)
                have L := LA.out
                clear LA
                rw [List.drop_eq_nil_of_le (by omega)] at L
                have hj2 : accj = acc2 := Option.some.inj L
                subst hj2
                go_wp2
                go_roundg k1
                case measure => omega
                case rel =>
                  exact ⟨i + 1, accj, by simp only [Value.int.injEq, true_and]; first | exact (wadd1' i HK.out hlen) | omega, ⟨by have := HK.out; omega⟩, H', ⟨Lib.IsBuffer.old HI.out (by repeat (first | (with_reducible first | exact HW.out | apply below_alloc | apply pw_below_drewN | apply below_drew1) | exact HW.out))⟩, ⟨by repeat (first | (with_reducible first | exact HB.out | apply below_alloc | apply pw_below_drewN | apply below_drew1) | exact HB.out)⟩⟩
        · rw [if_neg c6_1] at H
          have c6b0_1 : ((rd l1 i).1 == (1)) = false := beq_eq_false_iff_ne.mpr c6_1
          clear c6_1
          by_cases c6_2 : (rd l1 i).1 = (-1)
          · rw [if_pos c6_2] at H
            have c6b0_2 : ((rd l1 i).1 == (-1)) = true := beq_iff_eq.mpr c6_2
            clear c6_2
            obtain ⟨acc2, hacc, H⟩ := Option.bind_eq_some_iff.1 H
            obtain ⟨ls, ht, hacc⟩ := Option.bind_eq_some_iff.1 hacc
            have hu1 := hsplit _ _ ht
            have E1 := Aside0.mk hu1
            clear hu1 ht
            split at hacc
            case isFalse => cases hacc
            rename_i hls
            have H' := Aside0.mk H
            clear H
            have LA := Aside0.mk hacc
            clear hacc
            go_wp2_with (first | ((with_reducible refine gate_dst (N := 7) rfl ?_); refine box_event ?hg (N := 7) ?hd (cs := #[.int .i8 0, .string (⟨#[]⟩ : ByteArray)]) (t := 76) ?hr ?_; (case hd => rfl); (case hg => rfl); (case hr => first | (go_simp; done) | (go_simp; rfl)); intro gb hg w8 hbox hb; have n0_ := Aside0.mk (below_step (by repeat (first | (with_reducible first | exact HB.out | apply below_alloc | apply pw_below_drewN | apply below_drew1) | exact HB.out)) hb); have m0_ := Aside0.mk (below_step (by repeat (first | (with_reducible first | exact HW.out | apply below_alloc | apply pw_below_drewN | apply below_drew1) | exact HW.out)) hb); have n1_ := Aside0.mk (hbox); have n2_ := Aside0.mk ((by rw [hg]; exact (below_size (by repeat (first | (with_reducible first | exact HB.out | apply below_alloc | apply pw_below_drewN | apply below_drew1) | exact HB.out)))) : w.heap.size ≤ gb); have m2_ := Aside0.mk ((by rw [hg]; exact (below_size (by repeat (first | (with_reducible first | exact HW.out | apply below_alloc | apply pw_below_drewN | apply below_drew1) | exact HW.out)))) : wr.heap.size ≤ gb); clear HB HW; have HB := n0_; have HW := m0_; have BK := n1_; have GE := n2_; have GW := m2_; clear n0_ n1_ n2_ m0_ m2_; clear hb hbox hg; have hcz_0 : w8.cell? ⟨gb, 0, none⟩ = some (.int .i8 0) := (blk_cell BK.out 0).trans rfl; have hcz_1 : w8.cell? ⟨gb, 1, none⟩ = some (.string (⟨#[]⟩ : ByteArray)) := (blk_cell BK.out 1).trans rfl; have hfz_0 := blk_frozen BK.out 0; have hfz_1 := blk_frozen BK.out 1; have NE := Aside0.mk (show gb ≠ w.heap.size from by have h1_ := HI.out.lt; have h2_ := GW.out; omega)) | (go_at_call 41; refine (call_split hcf E1.out hls.1 (below_then HW0.out HW0.out.size (by repeat (first | (with_reducible first | exact HB.out | apply below_alloc | apply pw_below_drewN | apply below_drew1 | refine below_set ?_ GE.out) | exact HB.out)))).mono ?_; rintro e w9 ⟨g, cap, cur, rfl, hrg, hcur, hgW, hb9⟩; have RG := Aside0.mk hrg; have RC := Aside0.mk hcur; have NG := Aside0.mk (ng_of (Lib.IsBuffer.old HI.out (by repeat (first | (with_reducible first | exact HW.out | apply below_alloc | apply pw_below_drewN | apply below_drew1 | refine below_set ?_ GW.out) | exact HW.out))) hgW); have n0_ := Aside0.mk (below_step (by repeat (first | (with_reducible first | exact HB.out | apply below_alloc | apply pw_below_drewN | apply below_drew1 | refine below_set ?_ GE.out) | exact HB.out)) hb9); have hi_ := Aside0.mk (Lib.IsBuffer.old HI.out (below_step (by repeat (first | (with_reducible first | exact HW.out | apply below_alloc | apply pw_below_drewN | apply below_drew1 | refine below_set ?_ GW.out) | exact HW.out)) hb9)); clear HB HW HI; have HB := n0_; have HI := hi_; clear n0_ hi_ hb9 hrg hcur hgW))
            go_loopg [65] (ls.length + 1) (fun kq v10 w' => ∃ (j : Nat) (accj : List UInt8), v10 = .int .i64 (j : Int) ∧ Aside0 (j + kq = ls.length + 1 ∧ j ≤ ls.length) ∧ Aside0 (linesF (⟨#[27, 91, 51, 49, 109]⟩ : ByteArray) (ls.drop j) accj = some acc2) ∧ Aside0 (Lib.IsBuffer 82 5 w.heap.size w.heap.size (Lib.byteCells accj) w') ∧ Aside0 (Below w.heap.size w w') ∧ Aside0 (w'.heap[g]? = some (.cells cur 9 (0, 0))))
            case atStart => exact ⟨0, acc, rfl, ⟨⟨by omega, by omega⟩⟩, LA, HI, HB, RG⟩
            case round =>
              clear LA HI HB RG
              obtain ⟨j, accj, rfl, HJ, LA, HI, HB, RG⟩ := hrel
              cases gk with
              | zero => exact absurd HJ.out (by omega)
              | succ k2 =>
                have HW := Aside0.mk (Below.refl wr.heap.size wr)
                have wl : wrap64 ((ls.length : Int) - 1) = (ls.length : Int) - 1 := by unfold wrap64; omega
                by_cases c9 : j < ls.length
                · have c9b0 : decide ((j : Int) < (ls.length : Int)) = true := decide_eq_true (by omega)
                  have p9 : 0 ≤ (j : Int) := by omega
                  have q9 : (j : Int) < (ls.length : Int) := by omega
                  replace p9 := eq_true p9
                  replace q9 := eq_true q9
                  have hx9 : wr.cell? ⟨g, j, none⟩ = some (.string (rdS ls j)) := (blk_cell RG.out j).trans (RC.out j c9)
                  have L := LA.out
                  clear LA
                  rw [lines_step _ _ _ _ c9] at L
                  by_cases cl1 : j + 1 < ls.length
                  · rw [if_pos cl1] at L
                    have c8 : decide ((j : Int) < (ls.length : Int) - 1) = true := decide_eq_true (by omega)
                    unfold wr3 at L
                    obtain ⟨acc3, hacc3, L⟩ := Option.bind_eq_some_iff.1 L
                    split at hacc3
                    case isFalse => cases hacc3
                    rename_i cl0
                    cases hacc3
                    have cl := Aside0.mk cl0
                    clear cl0
                    have LA := Aside0.mk L
                    clear L
                    go_wp2_with (first | (go_at_call 48; refine (Go.Proofs.Tryd.Buffer_WriteString_kept w.heap.size w.heap.size _ _ _ (Lib.IsBuffer.old HI.out (by repeat (first | (with_reducible first | exact HW.out | apply below_alloc | apply pw_below_drewN | apply below_drew1) | exact HW.out))) (below_size (by repeat (first | (with_reducible first | exact HB.out | apply below_alloc | apply pw_below_drewN | apply below_drew1) | exact HB.out))) (by with_reducible (first | exact Lib.byteCells_one _ | exact one_b _ _ | exact one_c _ _ _)) (by first | exact lim_a cl.out | exact lim_b cl.out | exact lim_c cl.out | exact lim_1 cl.out)).mono ?_; rintro e w9 ⟨rfl, hI9, hb9, hk9⟩; have rg_ : w9.heap[g]? = some (.cells cur 9 (0, 0)) := hk9 g _ RG.out (fun e_ => NG.out (Option.some.inj e_)) (fun c_ fz_ e_ => by cases e_); clear RG; have RG := Aside0.mk rg_; clear rg_; have n0_ := Aside0.mk (Below.trans (by repeat (first | (with_reducible first | exact HB.out | apply below_alloc | apply pw_below_drewN | apply below_drew1) | exact HB.out)) hb9); have m0_ := Aside0.mk (Below.refl w9.heap.size w9); clear HB HW HI; have HB := n0_; have HI := Aside0.mk hI9; have HW := m0_; clear n0_ m0_ hb9 hI9 hk9))
                    go_roundg k2
                    case measure => omega
                    case rel =>
                      exact ⟨j + 1, _, by simp only [Value.int.injEq, true_and]; first | exact (wadd1' j HJ.out hls.2) | omega, ⟨by have := HJ.out; omega⟩, LA, ⟨by rw [byteCells_append, byteCells_append, byteCells_append]; exact Lib.IsBuffer.old HI.out (by repeat (first | (with_reducible first | exact HW.out | apply below_alloc | apply pw_below_drewN | apply below_drew1) | exact HW.out))⟩, ⟨by repeat (first | (with_reducible first | exact HB.out | apply below_alloc | apply pw_below_drewN | apply below_drew1) | exact HB.out)⟩, RG⟩
                  · rw [if_neg cl1] at L
                    have c8 : decide ((j : Int) < (ls.length : Int) - 1) = false := decide_eq_false (by omega)
                    unfold wr3 at L
                    obtain ⟨acc3, hacc3, L⟩ := Option.bind_eq_some_iff.1 L
                    split at hacc3
                    case isFalse => cases hacc3
                    rename_i cl0
                    cases hacc3
                    have cl := Aside0.mk cl0
                    clear cl0
                    have LA := Aside0.mk L
                    clear L
                    go_wp2_with (first | (go_at_call 48; refine (Go.Proofs.Tryd.Buffer_WriteString_kept w.heap.size w.heap.size _ _ _ (Lib.IsBuffer.old HI.out (by repeat (first | (with_reducible first | exact HW.out | apply below_alloc | apply pw_below_drewN | apply below_drew1) | exact HW.out))) (below_size (by repeat (first | (with_reducible first | exact HB.out | apply below_alloc | apply pw_below_drewN | apply below_drew1) | exact HB.out))) (by with_reducible (first | exact Lib.byteCells_one _ | exact one_b _ _ | exact one_c _ _ _)) (by first | exact lim_a cl.out | exact lim_b cl.out | exact lim_c cl.out | exact lim_1 cl.out)).mono ?_; rintro e w9 ⟨rfl, hI9, hb9, hk9⟩; have rg_ : w9.heap[g]? = some (.cells cur 9 (0, 0)) := hk9 g _ RG.out (fun e_ => NG.out (Option.some.inj e_)) (fun c_ fz_ e_ => by cases e_); clear RG; have RG := Aside0.mk rg_; clear rg_; have n0_ := Aside0.mk (Below.trans (by repeat (first | (with_reducible first | exact HB.out | apply below_alloc | apply pw_below_drewN | apply below_drew1) | exact HB.out)) hb9); have m0_ := Aside0.mk (Below.refl w9.heap.size w9); clear HB HW HI; have HB := n0_; have HI := Aside0.mk hI9; have HW := m0_; clear n0_ m0_ hb9 hI9 hk9))
                    go_roundg k2
                    case measure => omega
                    case rel =>
                      exact ⟨j + 1, _, by simp only [Value.int.injEq, true_and]; first | exact (wadd1' j HJ.out hls.2) | omega, ⟨by have := HJ.out; omega⟩, LA, ⟨by rw [byteCells_append, byteCells_append, byteCells_append]; exact Lib.IsBuffer.old HI.out (by repeat (first | (with_reducible first | exact HW.out | apply below_alloc | apply pw_below_drewN | apply below_drew1) | exact HW.out))⟩, ⟨by repeat (first | (with_reducible first | exact HB.out | apply below_alloc | apply pw_below_drewN | apply below_drew1) | exact HB.out)⟩, RG⟩
                · have c9b0 : decide ((j : Int) < (ls.length : Int)) = false := decide_eq_false (by omega)
                  have L := LA.out
                  clear LA
                  rw [List.drop_eq_nil_of_le (by omega)] at L
                  have hj2 : accj = acc2 := Option.some.inj L
                  subst hj2
                  go_wp2
                  go_roundg k1
                  case measure => omega
                  case rel =>
                    exact ⟨i + 1, accj, by simp only [Value.int.injEq, true_and]; first | exact (wadd1' i HK.out hlen) | omega, ⟨by have := HK.out; omega⟩, H', ⟨Lib.IsBuffer.old HI.out (by repeat (first | (with_reducible first | exact HW.out | apply below_alloc | apply pw_below_drewN | apply below_drew1) | exact HW.out))⟩, ⟨by repeat (first | (with_reducible first | exact HB.out | apply below_alloc | apply pw_below_drewN | apply below_drew1) | exact HB.out)⟩⟩
          · rw [if_neg c6_2] at H
            have c6b0_2 : ((rd l1 i).1 == (-1)) = false := beq_eq_false_iff_ne.mpr c6_2
            clear c6_2
            by_cases c6_3 : (rd l1 i).1 = (0)
            · rw [if_pos c6_3] at H
              have c6b0_3 : ((rd l1 i).1 == (0)) = true := beq_iff_eq.mpr c6_3
              clear c6_3
              split at H
              case isFalse => cases H
              rename_i cl0
              have cl := Aside0.mk cl0
              clear cl0
              have H' := Aside0.mk H
              clear H
              go_wp2_with (first | ((with_reducible refine gate_dst (N := 7) rfl ?_); refine box_event ?hg (N := 7) ?hd (cs := #[.int .i8 0, .string (⟨#[]⟩ : ByteArray)]) (t := 76) ?hr ?_; (case hd => rfl); (case hg => rfl); (case hr => first | (go_simp; done) | (go_simp; rfl)); intro gb hg w8 hbox hb; have n0_ := Aside0.mk (below_step (by repeat (first | (with_reducible first | exact HB.out | apply below_alloc | apply pw_below_drewN | apply below_drew1) | exact HB.out)) hb); have m0_ := Aside0.mk (below_step (by repeat (first | (with_reducible first | exact HW.out | apply below_alloc | apply pw_below_drewN | apply below_drew1) | exact HW.out)) hb); have n1_ := Aside0.mk (hbox); have n2_ := Aside0.mk ((by rw [hg]; exact (below_size (by repeat (first | (with_reducible first | exact HB.out | apply below_alloc | apply pw_below_drewN | apply below_drew1) | exact HB.out)))) : w.heap.size ≤ gb); have m2_ := Aside0.mk ((by rw [hg]; exact (below_size (by repeat (first | (with_reducible first | exact HW.out | apply below_alloc | apply pw_below_drewN | apply below_drew1) | exact HW.out)))) : wr.heap.size ≤ gb); clear HB HW; have HB := n0_; have HW := m0_; have BK := n1_; have GE := n2_; have GW := m2_; clear n0_ n1_ n2_ m0_ m2_; clear hb hbox hg; have hcz_0 : w8.cell? ⟨gb, 0, none⟩ = some (.int .i8 0) := (blk_cell BK.out 0).trans rfl; have hcz_1 : w8.cell? ⟨gb, 1, none⟩ = some (.string (⟨#[]⟩ : ByteArray)) := (blk_cell BK.out 1).trans rfl; have hfz_0 := blk_frozen BK.out 0; have hfz_1 := blk_frozen BK.out 1; have NE := Aside0.mk (show gb ≠ w.heap.size from by have h1_ := HI.out.lt; have h2_ := GW.out; omega)) | (go_at_call 48; refine (Go.Proofs.Tryd.Buffer_WriteString_kept w.heap.size w.heap.size _ _ _ (Lib.IsBuffer.old HI.out (by repeat (first | (with_reducible first | exact HW.out | apply below_alloc | apply pw_below_drewN | apply below_drew1 | refine below_set ?_ GW.out) | exact HW.out))) (below_size (by repeat (first | (with_reducible first | exact HB.out | apply below_alloc | apply pw_below_drewN | apply below_drew1 | refine below_set ?_ GE.out) | exact HB.out))) (by with_reducible (first | exact Lib.byteCells_one _ | exact one_b _ _ | exact one_c _ _ _)) (by first | exact lim_a cl.out | exact lim_b cl.out | exact lim_c cl.out | exact lim_1 cl.out)).mono ?_; rintro e w9 ⟨rfl, hI9, hb9, hk9⟩; have n0_ := Aside0.mk (Below.trans (by repeat (first | (with_reducible first | exact HB.out | apply below_alloc | apply pw_below_drewN | apply below_drew1 | refine below_set ?_ GE.out) | exact HB.out)) hb9); have m0_ := Aside0.mk (Below.refl w9.heap.size w9); clear HB HW HI; have HB := n0_; have HI := Aside0.mk hI9; have HW := m0_; clear n0_ m0_ hb9 hI9 hk9))
              go_roundg k1
              case measure => omega
              case rel =>
                exact ⟨i + 1, _, by simp only [Value.int.injEq, true_and]; first | exact (wadd1' i HK.out hlen) | omega, ⟨by have := HK.out; omega⟩, H', ⟨by rw [byteCells_append]; exact Lib.IsBuffer.old HI.out (by repeat (first | (with_reducible first | exact HW.out | apply below_alloc | apply pw_below_drewN | apply below_drew1 | refine below_set ?_ GW.out) | exact HW.out))⟩, ⟨by repeat (first | (with_reducible first | exact HB.out | apply below_alloc | apply pw_below_drewN | apply below_drew1 | refine below_set ?_ GE.out) | exact HB.out)⟩⟩
            · rw [if_neg c6_3] at H
              have c6b0_3 : ((rd l1 i).1 == (0)) = false := beq_eq_false_iff_ne.mpr c6_3
              clear c6_3
              have H' := Aside0.mk H
              clear H
              go_wp2_with (first | ((with_reducible refine gate_dst (N := 7) rfl ?_); refine box_event ?hg (N := 7) ?hd (cs := #[.int .i8 0, .string (⟨#[]⟩ : ByteArray)]) (t := 76) ?hr ?_; (case hd => rfl); (case hg => rfl); (case hr => first | (go_simp; done) | (go_simp; rfl)); intro gb hg w8 hbox hb; have n0_ := Aside0.mk (below_step (by repeat (first | (with_reducible first | exact HB.out | apply below_alloc | apply pw_below_drewN | apply below_drew1) | exact HB.out)) hb); have m0_ := Aside0.mk (below_step (by repeat (first | (with_reducible first | exact HW.out | apply below_alloc | apply pw_below_drewN | apply below_drew1) | exact HW.out)) hb); have n1_ := Aside0.mk (hbox); have n2_ := Aside0.mk ((by rw [hg]; exact (below_size (by repeat (first | (with_reducible first | exact HB.out | apply below_alloc | apply pw_below_drewN | apply below_drew1) | exact HB.out)))) : w.heap.size ≤ gb); have m2_ := Aside0.mk ((by rw [hg]; exact (below_size (by repeat (first | (with_reducible first | exact HW.out | apply below_alloc | apply pw_below_drewN | apply below_drew1) | exact HW.out)))) : wr.heap.size ≤ gb); clear HB HW; have HB := n0_; have HW := m0_; have BK := n1_; have GE := n2_; have GW := m2_; clear n0_ n1_ n2_ m0_ m2_; clear hb hbox hg; have hcz_0 : w8.cell? ⟨gb, 0, none⟩ = some (.int .i8 0) := (blk_cell BK.out 0).trans rfl; have hcz_1 : w8.cell? ⟨gb, 1, none⟩ = some (.string (⟨#[]⟩ : ByteArray)) := (blk_cell BK.out 1).trans rfl; have hfz_0 := blk_frozen BK.out 0; have hfz_1 := blk_frozen BK.out 1; have NE := Aside0.mk (show gb ≠ w.heap.size from by have h1_ := HI.out.lt; have h2_ := GW.out; omega)) | (go_at_call 55; refine (call_esc hcf E1.out (below_then HW0.out HW0.out.size (by repeat (first | (with_reducible first | exact HB.out | apply below_alloc | apply pw_below_drewN | apply below_drew1 | refine below_set ?_ GE.out) | exact HB.out)))).mono ?_; rintro e w9 ⟨rfl, hb9⟩; have bx_ : w9.heap[gb]? = some (.cells #[.int .i8 (rd l1 i).1, .string (rd l1 i).2] 76 (0, 0)) := (by first | exact blk_keep hb9 BX.out | exact blk_keep hb9 (box_set2 BK.out)); (try clear BX hcy_0 hcy_1); have BX := Aside0.mk bx_; clear bx_; have hcy_0 : w9.cell? ⟨gb, 0, none⟩ = some (.int .i8 (rd l1 i).1) := (blk_cell BX.out 0).trans rfl; have hcy_1 : w9.cell? ⟨gb, 1, none⟩ = some (.string (rd l1 i).2) := (blk_cell BX.out 1).trans rfl; have n0_ := Aside0.mk (below_step (by repeat (first | (with_reducible first | exact HB.out | apply below_alloc | apply pw_below_drewN | apply below_drew1 | refine below_set ?_ GE.out) | exact HB.out)) hb9); have m0_ := Aside0.mk (below_step (by repeat (first | (with_reducible first | exact HW.out | apply below_alloc | apply pw_below_drewN | apply below_drew1 | refine below_set ?_ GW.out) | exact HW.out)) hb9); clear HB HW; have HB := n0_; have HW := m0_; clear n0_ m0_ hb9) | (go_at_call 42; refine (call_rep hcf E2.out (below_then HW0.out HW0.out.size (by repeat (first | (with_reducible first | exact HB.out | apply below_alloc | apply pw_below_drewN | apply below_drew1 | refine below_set ?_ GE.out) | exact HB.out)))).mono ?_; rintro e w9 ⟨rfl, hb9⟩; have bx_ : w9.heap[gb]? = some (.cells #[.int .i8 (rd l1 i).1, .string (rd l1 i).2] 76 (0, 0)) := (by first | exact blk_keep hb9 BX.out | exact blk_keep hb9 (box_set2 BK.out)); (try clear BX hcy_0 hcy_1); have BX := Aside0.mk bx_; clear bx_; have hcy_0 : w9.cell? ⟨gb, 0, none⟩ = some (.int .i8 (rd l1 i).1) := (blk_cell BX.out 0).trans rfl; have hcy_1 : w9.cell? ⟨gb, 1, none⟩ = some (.string (rd l1 i).2) := (blk_cell BX.out 1).trans rfl; have n0_ := Aside0.mk (below_step (by repeat (first | (with_reducible first | exact HB.out | apply below_alloc | apply pw_below_drewN | apply below_drew1 | refine below_set ?_ GE.out) | exact HB.out)) hb9); have m0_ := Aside0.mk (below_step (by repeat (first | (with_reducible first | exact HW.out | apply below_alloc | apply pw_below_drewN | apply below_drew1 | refine below_set ?_ GW.out) | exact HW.out)) hb9); clear HB HW; have HB := n0_; have HW := m0_; clear n0_ m0_ hb9) | (go_at_call 48; refine (Go.Proofs.Tryd.Buffer_WriteString_kept w.heap.size w.heap.size _ _ _ (Lib.IsBuffer.old HI.out (by repeat (first | (with_reducible first | exact HW.out | apply below_alloc | apply pw_below_drewN | apply below_drew1 | refine below_set ?_ GW.out) | exact HW.out))) (below_size (by repeat (first | (with_reducible first | exact HB.out | apply below_alloc | apply pw_below_drewN | apply below_drew1 | refine below_set ?_ GE.out) | exact HB.out))) (by with_reducible (first | exact Lib.byteCells_one _ | exact one_b _ _ | exact one_c _ _ _)) (by first | exact lim_a cl.out | exact lim_b cl.out | exact lim_c cl.out)).mono ?_; rintro e w9 ⟨rfl, hI9, hb9, hk9⟩; have bx_ : w9.heap[gb]? = some (.cells #[.int .i8 (rd l1 i).1, .string (rd l1 i).2] 76 (0, 0)) := (by first | exact hk9 gb _ BX.out (fun e_ => NE.out (Option.some.inj e_)) (fun c_ fz_ e_ => by cases e_) | exact hk9 gb _ (box_set2 BK.out) (fun e_ => NE.out (Option.some.inj e_)) (fun c_ fz_ e_ => by cases e_)); (try clear BX hcy_0 hcy_1); have BX := Aside0.mk bx_; clear bx_; have hcy_0 : w9.cell? ⟨gb, 0, none⟩ = some (.int .i8 (rd l1 i).1) := (blk_cell BX.out 0).trans rfl; have hcy_1 : w9.cell? ⟨gb, 1, none⟩ = some (.string (rd l1 i).2) := (blk_cell BX.out 1).trans rfl; have n0_ := Aside0.mk (Below.trans (by repeat (first | (with_reducible first | exact HB.out | apply below_alloc | apply pw_below_drewN | apply below_drew1 | refine below_set ?_ GE.out) | exact HB.out)) hb9); have m0_ := Aside0.mk (Below.refl w9.heap.size w9); clear HB HW HI; have HB := n0_; have HI := Aside0.mk hI9; have HW := m0_; clear n0_ m0_ hb9 hI9 hk9))
              go_roundg k1
              case measure => omega
              case rel =>
                exact ⟨i + 1, acc, by simp only [Value.int.injEq, true_and]; first | exact (wadd1' i HK.out hlen) | omega, ⟨by have := HK.out; omega⟩, H', ⟨Lib.IsBuffer.old HI.out (by repeat (first | (with_reducible first | exact HW.out | apply below_alloc | apply pw_below_drewN | apply below_drew1 | refine below_set ?_ GW.out) | exact HW.out))⟩, ⟨by repeat (first | (with_reducible first | exact HB.out | apply below_alloc | apply pw_below_drewN | apply below_drew1 | refine below_set ?_ GE.out) | exact HB.out)⟩⟩

      · have c3b0 : decide ((i : Int) < (l1.length : Int)) = false := decide_eq_false (by omega)
        have c3b1 : decide (i < l1.length) = false := decide_eq_false c3
        rw [List.drop_eq_nil_of_le (by omega)] at H
        rw [ptextF_nil] at H
        cases H
        go_wp2_with (first | (go_at_call 51; refine (Go.Proofs.Tryd.Buffer_String w.heap.size w.heap.size _ _ (Lib.IsBuffer.old HI.out (by repeat (first | exact Below.refl _ _ | apply below_alloc | apply pw_below_drewN | apply below_drew1)))).mono ?_; rintro e w9 ⟨rfl, n9, rfl⟩))
        first | go_end0 | go_ret
        exact ⟨by rw [← hout]; rfl, by repeat (first | (with_reducible first | exact HB.out | apply below_alloc | apply pw_below_drewN | apply below_drew1) | exact HB.out)⟩
end Go.Proofs.YtfefjbifdbfmjaaDoor.E
