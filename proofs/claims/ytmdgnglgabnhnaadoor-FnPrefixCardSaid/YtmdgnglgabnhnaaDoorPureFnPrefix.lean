import Derived.Test.YtmdgnglgabnhnaaDoorPx2
import Derived.Test.YtmdgnglgabnhnaaDoorQPrefix
import Derived.Test.YtmdgnglgabnhnaaDoorQText
/- Common prefixes and suffixes of two texts: the package's loops and the reference's tell the same numbers. -/
namespace Go.Proofs.YtmdgnglgabnhnaaDoor.P
open Go.RowKit Go.Proofs.YtmdgnglgabnhnaaDoorW.PrintWords Go.Proofs.YtmdgnglgabnhnaaDoorX
theorem sdp_loop (x y : List Int) (hx : x.length ≤ 9223372036854775807) : ∀ (d i : Nat), i + d = x.length →
    Evt (fun k => spec_DiffPrefix.l0 k x y (i : Int)) ((i + cpl (x.drop i) (y.drop i) : Nat) : Int)
  | 0, i, h => by
    refine Evt.succ (fun k => by rw [spec_DiffPrefix.l0]) ?_
    refine Evt.neg (by omega) ?_
    rw [cpl_out _ _ (.inl (List.drop_eq_nil_of_le (by omega)))]
    exact Evt.ret _
  | d + 1, i, h => by
    refine Evt.succ (fun k => by rw [spec_DiffPrefix.l0]) ?_
    refine Evt.pos (by omega) ?_
    refine Evt.ite (fun hc => ?_) (fun hc => ?_)
    · have hy : i < y.length := by omega
      have hxi : i < x.length := by omega
      refine Evt.pos (by omega) ?_
      rw [rd_eq x i hxi, rd_eq y i hy, cpl_step x y i hxi hy]
      refine Evt.ite (fun he => ?_) (fun he => ?_)
      · rw [if_pos he, wrap64_eq (by omega) (by omega)]
        exact (sdp_loop x y hx d (i + 1) (by omega)).cast (by omega)
      · rw [if_neg he]; exact (Evt.ret _).cast (by omega)
    · rw [cpl_out _ _ (.inr (List.drop_eq_nil_of_le (by omega)))]
      exact Evt.ret _
theorem sds_loop (x y : List Int) (hx : x.length ≤ 9223372036854775807) (hy : y.length ≤ 9223372036854775807) : ∀ (d n : Nat), n + d = x.length →
    Evt (fun k => spec_DiffSuffix.l0 k x y (n : Int)) ((n + cpl (x.reverse.drop n) (y.reverse.drop n) : Nat) : Int)
  | 0, n, h => by
    refine Evt.succ (fun k => by rw [spec_DiffSuffix.l0]) ?_
    refine Evt.neg (by omega) ?_
    rw [cpl_out _ _ (.inl (List.drop_eq_nil_of_le (by simp; omega)))]
    exact Evt.ret _
  | d + 1, n, h => by
    refine Evt.succ (fun k => by rw [spec_DiffSuffix.l0]) ?_
    refine Evt.pos (by omega) ?_
    refine Evt.ite (fun hc => ?_) (fun hc => ?_)
    · rw [wrap64_eq (n := (x.length : Int) - 1) (by omega) (by omega), wrap64_eq (n := (y.length : Int) - 1) (by omega) (by omega), wrap64_eq (n := (x.length : Int) - 1 - (n : Int)) (by omega) (by omega), wrap64_eq (n := (y.length : Int) - 1 - (n : Int)) (by omega) (by omega)]
      refine Evt.pos (by omega) (Evt.pos (by omega) (Evt.pos (by omega) (Evt.pos (by omega) ?_)))
      rw [show (x.length : Int) - 1 - (n : Int) = ((x.length - 1 - n : Nat) : Int) by omega, show (y.length : Int) - 1 - (n : Int) = ((y.length - 1 - n : Nat) : Int) by omega, rd_eq x _ (by omega), rd_eq y _ (by omega)]
      have e1 : x.reverse[n]'(by simp; omega) = x[x.length - 1 - n]'(by omega) := by rw [List.getElem_reverse]
      have e2 : y.reverse[n]'(by simp; omega) = y[y.length - 1 - n]'(by omega) := by rw [List.getElem_reverse]
      rw [cpl_step x.reverse y.reverse n (by simp; omega) (by simp; omega), e1, e2]
      refine Evt.ite (fun he => ?_) (fun he => ?_)
      · rw [if_pos he, wrap64_eq (by omega) (by omega)]
        exact (sds_loop x y hx hy d (n + 1) (by omega)).cast (by omega)
      · rw [if_neg he]; exact (Evt.ret _).cast (by omega)
    · rw [cpl_out _ _ (.inr (List.drop_eq_nil_of_le (by simp; omega)))]
      exact Evt.ret _
theorem impl_prefix (a b : ByteArray) (ha : a.size ≤ 2147483647) (hb : b.size ≤ 2147483647) : Evt (fun k => impl_Prefix.f k a b) (cpl (runesI a) (runesI b) : Int) := by
  have h1 := runesI_length_le a
  have h2 := runesI_length_le b
  unfold impl_Prefix.f diffmatchpatch_DiffMatchPatch_DiffCommonPrefix.f
  refine Evt.obind (x := ()) rfl ?_
  refine Evt.bind ?_ (Evt.ret _)
  refine Evt.pos (by omega) (Evt.pos (by omega) ?_)
  exact Evt.bind (cplf _ _ (by omega)) (Evt.ret _)
theorem impl_suffix (a b : ByteArray) (ha : a.size ≤ 2147483647) (hb : b.size ≤ 2147483647) : Evt (fun k => impl_Suffix.f k a b) (csl (runesI a) (runesI b) : Int) := by
  have h1 := runesI_length_le a
  have h2 := runesI_length_le b
  unfold impl_Suffix.f diffmatchpatch_DiffMatchPatch_DiffCommonSuffix.f
  refine Evt.obind (x := ()) rfl ?_
  refine Evt.bind ?_ (Evt.ret _)
  refine Evt.pos (by omega) (Evt.pos (by omega) ?_)
  exact Evt.bind (cslf _ _ (by omega) (by omega)) (Evt.ret _)
theorem spec_prefix (a b : ByteArray) (ha : a.size ≤ 2147483647) (hb : b.size ≤ 2147483647) : Evt (fun k => spec_DiffPrefix.f k a b) (cpl (runesI a) (runesI b) : Int) := by
  have h1 := runesI_length_le a
  have h2 := runesI_length_le b
  unfold spec_DiffPrefix.f
  refine Evt.pos (by omega) (Evt.pos (by omega) ?_)
  exact (sdp_loop (runesI a) (runesI b) (by omega) (runesI a).length 0 (by omega)).cast (by simp)
theorem spec_suffix (a b : ByteArray) (ha : a.size ≤ 2147483647) (hb : b.size ≤ 2147483647) : Evt (fun k => spec_DiffSuffix.f k a b) (csl (runesI a) (runesI b) : Int) := by
  have h1 := runesI_length_le a
  have h2 := runesI_length_le b
  unfold spec_DiffSuffix.f
  refine Evt.pos (by omega) (Evt.pos (by omega) ?_)
  exact (sds_loop (runesI a) (runesI b) (by omega) (by omega) (runesI a).length 0 (by omega)).cast (by simp [csl])
theorem laws_prefix (a b : ByteArray) : Evt (fun k => laws_FnPrefix.f k a b) true := by
  have early : ∀ a b, Evt (fun k => laws_FnPrefix.j0 k a b true) true := fun a b => by
    refine Evt.succ (fun k => by rw [laws_FnPrefix.j0]) ?_
    exact Evt.pos rfl (Evt.ret _)
  have early1 : ∀ a b, Evt (fun k => laws_FnPrefix.j1 k a b true) true := fun a b => by
    refine Evt.succ (fun k => by rw [laws_FnPrefix.j1]) ?_
    exact Evt.pos rfl (Evt.ret _)
  unfold laws_FnPrefix.f
  refine Evt.ite (fun _ => early a b) (fun ha => ?_)
  by_cases hb : (b.size : Int) > 2147483647
  · rw [decide_eq_true hb]; exact early a b
  rw [decide_eq_false hb]
  refine Evt.succ (fun k => by rw [laws_FnPrefix.j0]) ?_
  refine Evt.neg (by simp) ?_
  obtain ⟨p, hp, _⟩ := isDiffText a 200 (by omega)
  obtain ⟨q, hq, _⟩ := isDiffText b 200 (by omega)
  refine Evt.obind hp ?_
  refine Evt.ite (fun _ => ?_) (fun _ => early1 a b)
  refine Evt.obind hq ?_
  cases q
  · exact early1 a b
  refine Evt.succ (fun k => by rw [laws_FnPrefix.j1]) ?_
  refine Evt.neg (by simp) ?_
  refine Evt.bind (impl_prefix a b (by omega) (by omega)) (Evt.bind (spec_prefix a b (by omega) (by omega)) ?_)
  refine Evt.pos rfl ?_
  refine Evt.bind (impl_suffix a b (by omega) (by omega)) (Evt.bind (spec_suffix a b (by omega) (by omega)) ?_)
  refine Evt.pos rfl ?_
  refine Evt.bind (impl_prefix _ _ (by decide) (by decide)) ?_
  exact (Evt.ret _).cast (by decide)
end Go.Proofs.YtmdgnglgabnhnaaDoor.P
namespace Go.Proofs.YtmdgnglgabnhnaaDoor.Pure
open Go.Proofs.YtmdgnglgabnhnaaDoorX Go.Proofs.YtmdgnglgabnhnaaDoor.P
theorem FnPrefix : ∀ (a0 : ByteArray) (a1 : ByteArray), (a0.size ≤ 9223372036854775807) → (a1.size ≤ 9223372036854775807) → ∃ k, laws_FnPrefix.f k a0 a1 = some true :=
  fun a b _ _ => (laws_prefix a b).some_
end Go.Proofs.YtmdgnglgabnhnaaDoor.Pure
