import Derived.Test.YtfefjbifdbfmjaaDoorDL
/- Differences that are shown in two parts are shown as both parts one behind the other. -/
set_option linter.unusedVariables false
set_option linter.unusedSimpArgs false
namespace Go.Proofs.YtfefjbifdbfmjaaDoor.E
open Go.Ev
theorem Pure.FnPrettyApart (l : List TS1.den) (p : Int) (_h : l.length ≤ 9223372036854775807 ∧ ∀ y ∈ l, ((Lit.int .i64 y.1).wf = true) ∧ (y.2.size ≤ 9223372036854775807)) (_hp : (Lit.int .u8 p).wf = true) : ∃ k, callF k 9 (l, p, ()) = some true := by
  refine ⟨2 * l.length + 10000, ?_⟩
  show E.FnPrettyApart (2 * l.length + 9999 + 1) l p = some true
  refine guarded (F := fun K => E.FnPrettyApart K l p) (J0 := fun _ => none) (J1 := fun _ => none) (J0' := fun K k => FnPrettyApart_j0 K k l p) (J1' := fun K k => FnPrettyApart_j1 K k l p) _ l (by omega) (by omega) (FnPrettyApart_eq _ l p) (fun k => FnPrettyApart_j0_eq _ k l p) ?_
  intro hl hg aw k hk
  obtain ⟨k, rfl⟩ : ∃ m, k = m + 1 := ⟨k - 1, by omega⟩
  have hp : 0 ≤ p ∧ p ≤ 255 := by
    have h' : And (IntKind.u8.min ≤ p) (p ≤ IntKind.u8.max) := by simpa [Lit.wf] using _hp
    exact ⟨h'.1, h'.2⟩
  have hg' : ∀ d ∈ l, d.2.size ≤ 40 ∧ -1 ≤ d.1 ∧ d.1 ≤ 1 := fun d hd => ⟨(hg d hd).1, (hg d hd).2.1, (hg d hd).2.2.1⟩
  obtain ⟨n, hn, hn2⟩ : ∃ n : Nat, Int.tmod p ((l.length : Int) + 1) = (n : Int) ∧ n ≤ l.length := by
    refine ⟨(Int.tmod p ((l.length : Int) + 1)).toNat, ?_, ?_⟩
    · have := Int.tmod_nonneg ((l.length : Int) + 1) hp.1
      omega
    · have := Int.tmod_lt_of_pos p (show (0 : Int) < (l.length : Int) + 1 by omega)
      have := Int.tmod_nonneg ((l.length : Int) + 1) hp.1
      omega
  have ha : List.take (Int.toNat (n : Int) - Int.toNat 0) (List.drop (Int.toNat 0) l) = l.take n := by
    rw [Int.toNat_natCast]
    simp
  have hb : List.take (Int.toNat (l.length : Int) - Int.toNat (n : Int)) (List.drop (Int.toNat (n : Int)) l) = l.drop n := by
    rw [Int.toNat_natCast, Int.toNat_natCast]
    exact List.take_of_length_le (by rw [List.length_drop]; omega)
  have hta : ∀ d ∈ l.take n, d.2.size ≤ 40 ∧ -1 ≤ d.1 ∧ d.1 ≤ 1 := fun d hd => hg' d (List.mem_of_mem_take hd)
  have htb : ∀ d ∈ l.drop n, d.2.size ≤ 40 ∧ -1 ≤ d.1 ∧ d.1 ≤ 1 := fun d hd => hg' d (List.mem_of_mem_drop hd)
  have la : (l.take n).length ≤ 12 := by rw [List.length_take]; omega
  have lb : (l.drop n).length ≤ 12 := by rw [List.length_drop]; omega
  have flat : ∀ f : Int × ByteArray → List UInt8, l.flatMap f = (l.take n).flatMap f ++ (l.drop n).flatMap f := fun f => by rw [← List.flatMap_append, List.take_append_drop]
  have small : ∀ (f : Int × ByteArray → List UInt8) (r : List (Int × ByteArray)), (∀ d ∈ r, (f d).length ≤ 500) → (r.flatMap f).length ≤ 500 * r.length := by
    intro f r
    induction r with
    | nil => intro _; simp
    | cons d r ih =>
      intro h
      have h1 := h d (List.mem_cons_self ..)
      have h2 := ih (fun x hx => h x (List.mem_cons_of_mem _ hx))
      rw [List.flatMap_cons, List.length_append, List.length_cons]
      omega
  have s1 := small textD (l.take n) (fun d hd => textD_len d (hta d hd).1)
  have s2 := small textD (l.drop n) (fun d hd => textD_len d (htb d hd).1)
  have s3 := small markD (l.take n) (fun d hd => markD_len d (hta d hd).1)
  have s4 := small markD (l.drop n) (fun d hd => markD_len d (htb d hd).1)
  rw [FnPrettyApart_j1_eq, wrap_id (x := p) (by omega) (by omega), wrap_id (x := (l.length : Int) + 1) (by omega) (by omega), hn, ha, hb, chk_neq (by omega), chk_le (by omega), chk_le (by omega), chk_le (by omega), cleanOwn_ok _ (l.take n) (by omega) (by omega), Option.bind_some, chk_le (by omega), chk_le (by omega), chk_le (by omega), cleanOwn_ok _ (l.drop n) (by omega) (by omega), Option.bind_some, aw, Option.bind_some, br_true]
  rw [cleanOwn_ok _ l (by omega) (by omega), Option.bind_some, ptext_ok _ l hl hg' (by omega), Option.bind_some, ptext_ok _ (l.take n) la hta (by omega), Option.bind_some, ptext_ok _ (l.drop n) lb htb (by omega), Option.bind_some, mk_size, mk_size, chk_nle (by omega), mk_append, eqS_iff, decide_eq_true (by rw [flat textD]), br_true]
  rw [Option.bind_some, html_ok _ l hl hg' (by omega), Option.bind_some, html_ok _ (l.take n) la hta (by omega), Option.bind_some, html_ok _ (l.drop n) lb htb (by omega), Option.bind_some, mk_size, mk_size, chk_nle (by omega), mk_append, eqS_iff, decide_eq_true (by rw [flat markD])]
end Go.Proofs.YtfefjbifdbfmjaaDoor.E
