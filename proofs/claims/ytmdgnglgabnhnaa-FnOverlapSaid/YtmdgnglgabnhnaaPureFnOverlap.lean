import Derived.Test.YtmdgnglgabnhnaaPx
import Derived.Test.YtmdgnglgabnhnaaXEvt
import Derived.Test.YtmdgnglgabnhnaaQFloat
import Derived.Lib.Strings
/- The plain law of FnOverlap: the loop with jumps finds the longest end of the first text that is a beginning of the second one. -/
namespace Go.Proofs.Ytmdgnglgabnhnaa.Pure
open Go.RowKit Go.Proofs.YtmdgnglgabnhnaaW.PrintWords Go.Proofs.YtmdgnglgabnhnaaX Go.Proofs.Ytmdgnglgabnhnaa.P
def PP (a b : List UInt8) (n : Nat) : Prop := a.drop (a.length - n) = b.take n
instance (a b : List UInt8) (n : Nat) : Decidable (PP a b n) := by unfold PP; infer_instance
/-- The longest one, of at most so many bytes. -/
def ov (a b : List UInt8) : Nat → Nat
  | 0 => 0
  | n + 1 => if PP a b (n + 1) then n + 1 else ov a b n
theorem ov_eq (a b : List UInt8) (n : Nat) (h0 : PP a b n ∨ n = 0) : ∀ m, n ≤ m → (∀ j, n < j → j ≤ m → ¬ PP a b j) → ov a b m = n
  | 0, h, _ => by simp only [ov]; omega
  | m + 1, h, hno => by
    unfold ov
    by_cases c : n = m + 1
    · subst c
      rcases h0 with h0 | h0
      · rw [if_pos h0]
      · omega
    · rw [if_neg (hno (m + 1) (by omega) (by omega))]
      exact ov_eq a b n h0 m (by omega) (fun j h1 h2 => hno j h1 (by omega))
/-- The second text stands in the first one at a place. -/
def Occ (s p : ByteArray) (m : Nat) : Prop := m + p.size ≤ s.size ∧ (s.data.toList.drop m).take p.size = p.data.toList
theorem zz_all (s p : ByteArray) (hs : s.size ≤ 1000000) (hp : p.size ≤ 1000000) : ∀ n i : Nat, i + n = s.size + 1 → (∀ m, m < i → ¬ Occ s p m) →
    ∃ r, Evt (fun k => diffmatchpatch_zzIndex.l0 k s p (i : Int)) r ∧ ((r = -1 ∧ ∀ m, ¬ Occ s p m) ∨ (∃ j : Nat, r = j ∧ Occ s p j ∧ ∀ m, m < j → ¬ Occ s p m)) := by
  intro n
  induction n with
  | zero =>
    intro i hi hno
    refine ⟨-1, Evt.succ (fun k => by rw [diffmatchpatch_zzIndex.l0]) (Evt.neg (by rw [wadd i p.size (by omega)]; omega) (Evt.ret _)), .inl ⟨rfl, fun m hm => ?_⟩⟩
    have := hm.1
    exact hno m (by omega) hm
  | succ n ih =>
    intro i hi hno
    have hw : wrap64 ((i : Int) + (p.size : Int)) = (i : Int) + p.size := wrap64_eq (by omega) (by omega)
    by_cases c : i + p.size ≤ s.size
    · have he : (s.extract (i : Int).toNat ((i : Int) + (p.size : Int)).toNat).toList = p.toList ↔ Occ s p i := by
        have h1 : ((i : Int) + (p.size : Int)).toNat = i + p.size := by omega
        rw [Lib.extract_toList, ByteArray.toList_eq, h1, Int.toNat_natCast, Nat.add_sub_cancel_left]
        exact ⟨fun h => ⟨c, h⟩, fun h => h.2⟩
      by_cases c2 : Occ s p i
      · refine ⟨i, Evt.succ (fun k => by rw [diffmatchpatch_zzIndex.l0]) ?_, .inr ⟨i, rfl, c2, hno⟩⟩
        rw [hw]
        refine Evt.pos (by omega) (Evt.pos (by omega) (Evt.pos (by omega) (Evt.pos (he.2 c2) (Evt.ret _))))
      · obtain ⟨r, h1, h2⟩ := ih (i + 1) (by omega) (fun m hm => by
          by_cases hmi : m = i
          · subst hmi; exact c2
          · exact hno m (by omega))
        refine ⟨r, Evt.succ (fun k => by rw [diffmatchpatch_zzIndex.l0]) ?_, h2⟩
        rw [hw]
        refine Evt.pos (by omega) (Evt.pos (by omega) (Evt.pos (by omega) (Evt.neg (fun h => c2 (he.1 h)) ?_)))
        have hw1 : wrap64 ((i : Int) + 1) = ((i + 1 : Nat) : Int) := wrap64_eq (by omega) (by omega)
        rw [hw1]
        exact h1
    · refine ⟨-1, Evt.succ (fun k => by rw [diffmatchpatch_zzIndex.l0]) (Evt.neg (by rw [hw]; omega) (Evt.ret _)), .inl ⟨rfl, fun m hm => ?_⟩⟩
      have := hm.1
      by_cases hmi : m < i
      · exact hno m hmi hm
      · omega
theorem ext_end (a : ByteArray) (n : Nat) (h : n ≤ a.size) : (a.extract (a.size - n) a.size).data.toList = a.data.toList.drop (a.data.toList.length - n) := by
  have hl : a.data.toList.length = a.size := Array.length_toList
  rw [Lib.extract_data, hl, List.take_of_length_le]
  rw [List.length_drop, hl]
  omega
theorem ext_begin (a : ByteArray) (n : Nat) : (a.extract 0 n).data.toList = a.data.toList.take n := by
  rw [Lib.extract_data, List.drop_zero, Nat.sub_zero]
theorem ext_size_end (a : ByteArray) (n : Nat) (h : n ≤ a.size) : (a.extract (a.size - n) a.size).size = n := by
  rw [ByteArray.size_extract]; omega
theorem dlen (a : ByteArray) : a.data.toList.length = a.size := Array.length_toList
/-- What stands at both ends, a shorter end stands within. -/
theorem occ_of_pp (a b : ByteArray) (t : Nat) (ha : a.size = t) (hb : b.size = t) (len j : Nat) (h1 : len ≤ j) (h2 : j ≤ t) (h : PP a.data.toList b.data.toList j) : Occ b (a.extract (t - len) a.size) (j - len) := by
  subst ha
  refine ⟨by rw [ext_size_end a len (by omega)]; omega, ?_⟩
  rw [ext_size_end a len (by omega), ext_end a len (by omega), dlen]
  have h3 := congrArg (List.drop (j - len)) h
  unfold PP at h
  rw [dlen] at h
  rw [dlen] at h3
  rw [List.drop_drop, List.drop_take] at h3
  rw [show a.size - j + (j - len) = a.size - len from by omega, show j - (j - len) = len from by omega] at h3
  exact h3.symm
set_option maxHeartbeats 2000000 in
theorem loop (a b : ByteArray) (t : Nat) (ha : a.size = t) (hb : b.size = t) (ht : t ≤ 100000) (hne : a.data.toList ≠ b.data.toList) : ∀ n best len : Nat, t < len + n → len ≤ t → 1 ≤ len → best < len → (PP a.data.toList b.data.toList best ∨ best = 0) →
    (∀ j, best < j → j < len → ¬ PP a.data.toList b.data.toList j) → Evt (fun k => diffmatchpatch_DiffMatchPatch_DiffCommonOverlap.l0 k a b (t : Int) (best : Int) (len : Int)) (ov a.data.toList b.data.toList t : Int) := by
  intro n
  induction n with
  | zero => intro best len h1 h2; omega
  | succ n ih =>
    intro best len h1 h2 h3 h4 hb0 hno
    have hPt : ¬ PP a.data.toList b.data.toList t := by
      intro h
      unfold PP at h
      rw [dlen, ha, Nat.sub_self, List.drop_zero, List.take_of_length_le (by rw [dlen]; omega)] at h
      exact hne h
    refine Evt.succ (fun k => by rw [diffmatchpatch_DiffMatchPatch_DiffCommonOverlap.l0]) ?_
    rw [wsub t len h2 (by omega)]
    refine Evt.pos (by omega) (Evt.pos (by omega) ?_)
    simp only [Int.toNat_natCast]
    have hps : (a.extract (t - len) a.size).size = len := by rw [← ha]; exact ext_size_end a len (by omega)
    obtain ⟨r, hr1, hr2⟩ := zz_all b (a.extract (t - len) a.size) (by omega) (by omega) (b.size + 1) 0 (by omega) (fun m hm => by omega)
    refine Evt.bind (f := fun k => diffmatchpatch_zzIndex.f k b (a.extract (t - len) a.size)) hr1 ?_
    rcases hr2 with ⟨rfl, hr2⟩ | ⟨i, rfl, hr2, hr3⟩
    · refine Evt.pos rfl ((Evt.ret _).cast ?_)
      rw [ov_eq _ _ best hb0 t (by omega) (fun j hj1 hj2 hP => ?_)]
      by_cases c : j < len
      · exact hno j hj1 c hP
      · have := occ_of_pp a b t ha hb len j (by omega) hj2 hP
        exact hr2 _ this
    · refine Evt.neg (by omega) ?_
      have hi := hr2.1
      rw [hps, hb] at hi
      rw [wadd len i (by omega), wadd1 (len + i) (by omega)]
      have hskip : ∀ j, len ≤ j → j < len + i → ¬ PP a.data.toList b.data.toList j := by
        intro j hj1 hj2 hP
        have := occ_of_pp a b t ha hb len j hj1 (by omega) hP
        exact hr3 _ (by omega) this
      have hnew : PP a.data.toList b.data.toList (len + i) → Evt (fun k => diffmatchpatch_DiffMatchPatch_DiffCommonOverlap.l0 k a b (t : Int) ((len + i : Nat) : Int) ((len + i + 1 : Nat) : Int)) (ov a.data.toList b.data.toList t : Int) := by
        intro hP
        have hlt : len + i < t := by
          rcases Nat.lt_or_ge (len + i) t with h | h
          · exact h
          · exact absurd (show PP a.data.toList b.data.toList t from by rw [← show len + i = t from by omega]; exact hP) hPt
        exact ih (len + i) (len + i + 1) (by omega) (by omega) (by omega) (by omega) (.inl hP) (fun j hj1 hj2 => by omega)
      by_cases ci : i = 0
      · subst ci
        refine Evt.pos rfl (hnew ?_)
        have h5 := hr2.2
        rw [hps, List.drop_zero, ← ha, ext_end a len (by omega)] at h5
        exact h5.symm
      · refine Evt.neg (by omega) ?_
        rw [wsub t (len + i) (by omega) (by omega)]
        refine Evt.pos (by omega) (Evt.pos (by omega) (Evt.pos (by omega) (Evt.pos (by omega) ?_)))
        simp only [Int.toNat_natCast]
        have he : (a.extract (t - (len + i)) a.size).toList = (b.extract 0 (len + i)).toList ↔ PP a.data.toList b.data.toList (len + i) := by
          rw [ByteArray.toList_eq, ByteArray.toList_eq, ← ha, ext_end a (len + i) (by omega), ext_begin]
          exact Iff.rfl
        by_cases cP : PP a.data.toList b.data.toList (len + i)
        · exact Evt.pos (he.2 cP) (hnew cP)
        · refine Evt.neg (fun h => cP (he.1 h)) ?_
          exact ih best (len + i) (by omega) (by omega) (by omega) (by omega) hb0 (fun j hj1 hj2 => by
            by_cases c : j < len
            · exact hno j hj1 c
            · exact hskip j (by omega) hj2)
theorem min_float (n m : Nat) (hn : n ≤ 100000) (hm : m ≤ 100000) : math_Min.f (i2f (n : Int)) (i2f (m : Int)) = some (i2f ((min n m : Nat) : Int)) := by
  unfold math_Min.f
  rw [pick_min n m (by omega) (by omega)]
theorem ov_congr (a b a' b' : List UInt8) : ∀ m, (∀ n, n ≤ m → (PP a b n ↔ PP a' b' n)) → ov a b m = ov a' b' m
  | 0, _ => rfl
  | m + 1, h => by
    unfold ov
    rw [ov_congr a b a' b' m (fun n hn => h n (by omega))]
    by_cases c : PP a b (m + 1)
    · rw [if_pos c, if_pos ((h _ (Nat.le_refl _)).1 c)]
    · rw [if_neg c, if_neg (fun h' => c ((h _ (Nat.le_refl _)).2 h'))]
/-- Behind the cuts: texts of one length. -/
theorem tail_ (a b : ByteArray) (t : Nat) (x y : Nat) (hx : min x y = t) (hxm : x ≤ 100000) (hym : y ≤ 100000) (ha : a.size = t) (hb : b.size = t) (ht : 0 < t) :
    Evt (fun k => diffmatchpatch_DiffMatchPatch_DiffCommonOverlap.j1 k a b (x : Int) (y : Int)) (ov a.data.toList b.data.toList t : Int) := by
  refine Evt.succ (fun k => by rw [diffmatchpatch_DiffMatchPatch_DiffCommonOverlap.j1]) ?_
  refine Evt.obind (min_float x y hxm hym) ?_
  obtain ⟨f1, f2⟩ := f2i_i2f (min x y) (by omega)
  rw [f1, f2, hx]
  refine Evt.pos rfl ?_
  refine Evt.ite (fun c => (Evt.ret _).cast ?_) (fun c => ?_)
  · rw [ByteArray.toList_eq, ByteArray.toList_eq] at c
    rw [ov_eq _ _ t (.inl ?_) t (Nat.le_refl _) (fun j h1 h2 => by omega)]
    unfold PP
    rw [dlen, ha, Nat.sub_self, List.drop_zero, c, List.take_of_length_le (by rw [dlen]; omega)]
  · rw [ByteArray.toList_eq, ByteArray.toList_eq] at c
    exact loop a b t ha hb (by omega) c t 0 1 (by omega) (by omega) (by omega) (by omega) (.inr rfl) (fun j h1 h2 => by omega)
theorem impl_ov (a b : ByteArray) (hx : a.size ≤ 100000) (hy : b.size ≤ 100000) : Evt (fun k => impl_Overlap.f k a b) (ov a.data.toList b.data.toList (min a.size b.size) : Int) := by
  unfold impl_Overlap.f
  refine Evt.obind (o := impl_plain.f) rfl (Evt.bind ?_ (Evt.ret _))
  unfold diffmatchpatch_DiffMatchPatch_DiffCommonOverlap.f
  refine Evt.ite (fun c => ?_) (fun c => ?_)
  · refine Evt.succ (fun k => by rw [diffmatchpatch_DiffMatchPatch_DiffCommonOverlap.j0]) (Evt.pos rfl ((Evt.ret _).cast ?_))
    rw [show min a.size b.size = 0 from by omega]
    rfl
  refine Evt.succ (fun k => by rw [diffmatchpatch_DiffMatchPatch_DiffCommonOverlap.j0]) ?_
  by_cases c2 : (b.size : Int) = 0
  · refine Evt.pos (by simp [c2]) ((Evt.ret _).cast ?_)
    rw [show min a.size b.size = 0 from by omega]
    rfl
  refine Evt.neg (by simp only [beq_iff_eq]; exact c2) ?_
  refine Evt.ite (fun c3 => ?_) (fun c3 => Evt.ite (fun c4 => ?_) (fun c4 => ?_))
  · have w1 : wrap64 ((a.size : Int) - (b.size : Int)) = ((a.size - b.size : Nat) : Int) := by rw [wrap64_eq (by omega) (by omega)]; omega
    rw [w1]
    refine Evt.pos (by omega) (Evt.pos (by omega) ?_)
    simp only [Int.toNat_natCast]
    refine (tail_ _ b b.size a.size b.size (by omega) hx hy (ext_size_end a b.size (by omega)) rfl (by omega)).cast ?_
    rw [ext_end a b.size (by omega), show min a.size b.size = b.size from by omega]
    rw [ov_congr _ _ a.data.toList b.data.toList b.size (fun n hn => ?_)]
    unfold PP
    rw [List.length_drop, List.drop_drop, dlen]
    rw [show a.size - b.size + (a.size - (a.size - b.size) - n) = a.size - n from by omega]
  · refine Evt.pos (by omega) (Evt.pos (by omega) ?_)
    simp only [Int.toNat_natCast]
    refine (tail_ a _ a.size a.size b.size (by omega) hx hy rfl (by rw [ByteArray.size_extract]; omega) (by omega)).cast ?_
    rw [ext_begin, show min a.size b.size = a.size from by omega]
    rw [ov_congr _ _ a.data.toList b.data.toList a.size (fun n hn => ?_)]
    unfold PP
    rw [List.take_take, show min n a.size = n from by omega]
  · exact (tail_ a b a.size a.size b.size (by omega) hx hy rfl (by omega) (by omega)).cast (by rw [show min a.size b.size = a.size from by omega])
theorem spec_ov (a b : ByteArray) (hx : a.size ≤ 100000) (hy : b.size ≤ 100000) : ∀ n, n ≤ a.size → n ≤ b.size → Evt (fun k => spec_DiffOverlap.l0 k a b (n : Int)) (ov a.data.toList b.data.toList n : Int) := by
  intro n
  induction n with
  | zero =>
    intro _ _
    refine Evt.succ (fun k => by rw [spec_DiffOverlap.l0]) (Evt.neg (by omega) ?_)
    exact Evt.ret _
  | succ n ih =>
    intro h1 h2
    refine Evt.succ (fun k => by rw [spec_DiffOverlap.l0]) ?_
    rw [wsub a.size (n + 1) (by omega) (by omega), wsub1 (n + 1) (by omega) (by omega), Nat.add_sub_cancel]
    refine Evt.pos (by omega) (Evt.pos (by omega) (Evt.pos (by omega) (Evt.pos (by omega) (Evt.pos (by omega) ?_))))
    simp only [Int.toNat_natCast]
    have he : (a.extract (a.size - (n + 1)) a.size).toList = (b.extract 0 (n + 1)).toList ↔ PP a.data.toList b.data.toList (n + 1) := by
      rw [ByteArray.toList_eq, ByteArray.toList_eq, ext_end a (n + 1) (by omega), ext_begin]
      exact Iff.rfl
    unfold ov
    by_cases c : PP a.data.toList b.data.toList (n + 1)
    · rw [if_pos c]
      exact Evt.pos (he.2 c) (Evt.ret _)
    · rw [if_neg c]
      exact Evt.neg (fun h => c (he.1 h)) (ih (by omega) (by omega))
theorem ascii_some (a : ByteArray) (ha : a.size ≤ 1000000) : ∀ n i : Nat, i + n = a.size → ∃ r, Evt (fun k => laws_isAsciiText.l0 k a (a.size : Int) (i : Int)) r := by
  intro n
  induction n with
  | zero => intro i hi; exact ⟨true, Evt.succ (fun k => by rw [laws_isAsciiText.l0]) (Evt.neg (by omega) (Evt.ret _))⟩
  | succ n ih =>
    intro i hi
    obtain ⟨r, hr⟩ := ih (i + 1) (by omega)
    by_cases c : bt a (i : Int) ≥ 128
    · exact ⟨false, Evt.succ (fun k => by rw [laws_isAsciiText.l0]) (Evt.pos (by omega) (Evt.pos (by omega) (Evt.pos (by omega) (Evt.pos c (Evt.ret _)))))⟩
    · refine ⟨r, Evt.succ (fun k => by rw [laws_isAsciiText.l0]) (Evt.pos (by omega) (Evt.pos (by omega) (Evt.pos (by omega) (Evt.neg c ?_))))⟩
      rw [wadd1 i (by omega)]
      exact hr
theorem FnOverlap : ∀ (a0 : ByteArray) (a1 : ByteArray), (a0.size ≤ 9223372036854775807) → (a1.size ≤ 9223372036854775807) → ∃ k, laws_FnOverlap.f k a0 a1 = some true := by
  intro a b _ _
  refine Evt.some_ ?_
  unfold laws_FnOverlap.f
  have hj0 : Evt (fun k => laws_FnOverlap.j0 k a b true) true := Evt.succ (fun k => by rw [laws_FnOverlap.j0]) (Evt.pos rfl (Evt.ret _))
  have hj1 : Evt (fun k => laws_FnOverlap.j1 k a b true) true := Evt.succ (fun k => by rw [laws_FnOverlap.j1]) (Evt.pos rfl (Evt.ret _))
  refine Evt.ite (fun _ => hj0) (fun c1 => ?_)
  by_cases c2 : (b.size : Int) > 2147483647
  · simpa only [decide_eq_true c2] using hj0
  rw [decide_eq_false c2]
  refine Evt.succ (fun k => by rw [laws_FnOverlap.j0]) (Evt.neg (by decide) (Evt.ite (fun _ => hj1) (fun c3 => Evt.ite (fun _ => hj1) (fun c4 => ?_))))
  obtain ⟨r1, h1⟩ := ascii_some a (by omega) a.size 0 (by omega)
  obtain ⟨r2, h2⟩ := ascii_some b (by omega) b.size 0 (by omega)
  refine Evt.bind (f := fun k => laws_isAsciiText.f k a) h1 ?_
  refine Evt.ite (fun _ => Evt.bind (f := fun k => laws_isAsciiText.f k b) h2 ?_) (fun _ => hj1)
  cases r2 with
  | false => exact hj1
  | true =>
    refine Evt.succ (fun k => by rw [laws_FnOverlap.j1]) (Evt.neg (by decide) ?_)
    refine Evt.bind (impl_ov a b (by omega) (by omega)) ?_
    refine Evt.bind (f := fun k => spec_DiffOverlap.f k a b) (x := (ov a.data.toList b.data.toList (min a.size b.size) : Int)) ?_ ?_
    · unfold spec_DiffOverlap.f
      have : mn (a.size : Int) (b.size : Int) = ((min a.size b.size : Nat) : Int) := by
        unfold mn
        split <;> omega
      rw [this]
      exact spec_ov a b (by omega) (by omega) _ (Nat.min_le_left _ _) (Nat.min_le_right _ _)
    · refine Evt.pos rfl (Evt.bind (impl_ov _ _ (by decide) (by decide)) ((Evt.ret _).cast ?_))
      decide
end Go.Proofs.Ytmdgnglgabnhnaa.Pure
