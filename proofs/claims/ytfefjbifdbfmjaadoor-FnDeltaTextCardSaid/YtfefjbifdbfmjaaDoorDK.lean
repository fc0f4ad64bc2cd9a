import Derived.Test.YtfefjbifdbfmjaaDoorDJ
/- Deltas: written and read. -/
set_option linter.unusedVariables false
set_option linter.unusedSimpArgs false
namespace Go.Proofs.YtfefjbifdbfmjaaDoor.E
open Go.Ev
theorem same_loop (K : Nat) (l : List TS1.den) (hl : l.length ≤ 100000) : ∀ (d i k : Nat), i + d = l.length → 2 * d + 1 ≤ k → CleanSame_l0 K k l l (l.length : Int) (i : Int) = some true
  | 0, i, k, h, hk => by
    obtain ⟨k, rfl⟩ : ∃ m, k = m + 1 := ⟨k - 1, by omega⟩
    rw [CleanSame_l0_eq, br_ge (by omega)]
  | d + 1, i, k, h, hk => by
    obtain ⟨k, rfl⟩ : ∃ m, k = m + 1 := ⟨k - 1, by omega⟩
    obtain ⟨k, rfl⟩ : ∃ m, k = m + 1 := ⟨k - 1, by omega⟩
    rw [CleanSame_l0_eq, br_lt (by omega), CleanSame_j1_eq, chk_le (by omega), chk_lt (by omega), chk_le (by omega), chk_lt (by omega), eqI_t rfl, eqS_iff, decide_eq_true rfl, wrap_id (by omega) (by omega), show (i : Int) + 1 = ((i + 1 : Nat) : Int) by omega, same_loop K l hl d (i + 1) k (by omega) (by omega)]
    rfl
theorem same_ok (K : Nat) (l : List TS1.den) (hl : l.length ≤ 100000) (hK : 2 * l.length + 3 ≤ K) : CleanSame K l l = some true := by
  obtain ⟨K, rfl⟩ : ∃ m, K = m + 1 := ⟨K - 1, by omega⟩
  obtain ⟨K, rfl⟩ : ∃ m, K = m + 1 := ⟨K - 1, by omega⟩
  rw [CleanSame_eq, br_not, br_eq rfl, CleanSame_j0_eq]
  exact same_loop (K + 1) l hl l.length 0 K (by omega) (by omega)
theorem fromdelta_ok (K : Nat) (hK : 300000 ≤ K) (l : List TS1.den) (hl : l.length ≤ 100) (hg : ∀ d ∈ l, d.2.size ≤ 200 ∧ -1 ≤ d.1 ∧ d.1 ≤ 1 ∧ Vt d.2) : FromDelta K ⟨(sideB l).toArray⟩ ⟨((unitsJ l).flatMap outB).toArray⟩ = some (l, ⟨#[]⟩) := by
  obtain ⟨K, rfl⟩ : ∃ m, K = m + 3 := ⟨K - 3, by omega⟩
  obtain ⟨X, hX⟩ := plain_ok (K + 2) (by omega)
  have hv : ∀ d ∈ l, Vt d.2 := fun d hd => (hg d hd).2.2.2
  have hst := side_str l hv
  have hru : runesI (⟨(sideB l).toArray⟩ : ByteArray) = sideR l := by rw [hst]; exact runesI_of (side_enc l hv).2
  have hRl : (sideR l).length ≤ 200 * l.length := by
    clear hX hv hst hru hl
    induction l with
    | nil => simp [sideR]
    | cons d l ih =>
      have h1 := (hg d (List.mem_cons_self ..)).1
      have h2 := runesI_le d.2
      have h3 := ih (fun x hx => hg x (List.mem_cons_of_mem _ hx))
      have e2 : sideR (d :: l) = (if d.1 = 1 then [] else runesI d.2) ++ sideR l := List.flatMap_cons ..
      rw [e2, List.length_append, List.length_cons]
      split <;> simp <;> omega
  have hrn : ∀ d ∈ l, (runesI d.2).length < 1000 := fun d hd => by
    have h1 := (hg d hd).1
    have h2 := runesI_le d.2
    omega
  have hdf : DiffFromDelta (K + 1 + 1) X ⟨(sideB l).toArray⟩ ⟨((unitsJ l).flatMap outB).toArray⟩ = some (l, ()) := by
    rw [DiffFromDelta_eq, hru, chk_nle (by omega), units_join]
    by_cases hnil : l = []
    · subst hnil
      have h1 := split_ok (K + 1) 9 [[]] (by simp) (by simp) (by simp [joinB]) (by simp) (by simp [joinB]; omega)
      have h2 : zzSplit (K + 1) ⟨(joinB 9 (List.map tokO [])).toArray⟩ ⟨#[9]⟩ = some [⟨#[]⟩] := h1
      rw [h2, Option.bind_some]
      obtain ⟨k, hk⟩ : ∃ m, K + 1 = m + 1 + 1 + 1 + 1 := ⟨K - 3, by omega⟩
      rw [hk]
      have hn : nth .str ([⟨#[]⟩] : List ByteArray) 0 = ⟨#[]⟩ := rfl
      rw [show (List.length ([⟨#[]⟩] : List ByteArray) : Int) = 1 from rfl, DiffFromDelta_l0_eq, br_lt (by omega), DiffFromDelta_j0_eq, chk_le (by omega), show (List.length ([⟨#[]⟩] : List ByteArray) : Int) = 1 from rfl, chk_lt (by omega), hn, br_eq (show ((ByteArray.size (⟨#[]⟩ : ByteArray) : Nat) : Int) = 0 from rfl), wrap_id (by omega) (by omega), DiffFromDelta_l0_eq, br_ge (by omega), DiffFromDelta_j1_eq]
      rw [br_not, br_eq (show (0 : Int) = ((sideR []).length : Int) from rfl)]
    · have hjl : (joinB 9 (List.map tokO l)).length ≤ 611 * l.length := by
        clear hX hst hru hRl hnil
        have : ∀ (ts : List (Int × ByteArray)), (∀ d ∈ ts, d.2.size ≤ 200) → (joinB 9 (List.map tokO ts)).length ≤ 611 * ts.length := by
          intro ts
          induction ts with
          | nil => intro _; simp [joinB]
          | cons d r ih =>
            intro h
            have h1 := (tok_len d (h d (List.mem_cons_self ..))).2
            have h1' : (tokO d).length ≤ 610 := h1
            have h2 := ih (fun x hx => h x (List.mem_cons_of_mem _ hx))
            cases r with
            | nil => show (tokO d).length ≤ _; simp; omega
            | cons e r =>
              show (tokO d ++ 9 :: joinB 9 (List.map tokO (e :: r))).length ≤ _
              rw [List.length_append, List.length_cons, List.length_cons]
              omega
        exact this l (fun d hd => (hg d hd).1)
      have h1 := split_ok (K + 1) 9 (l.map tokO) (by simpa using hnil) (fun t ht => by
        obtain ⟨d, hd, rfl⟩ := List.mem_map.1 ht
        exact tokO_no9 d (hrn d hd)) (by omega) (by rw [List.length_map]; omega) (by rw [List.length_map]; omega)
      rw [h1, Option.bind_some, List.map_map, List.length_map]
      exact fd_loop (K + 1) (by omega) _ l (by omega) hg (by omega) l [] (K + 1) rfl (by omega)
  rw [FromDelta_eq, hX, Option.bind_some, hdf, Option.bind_some, show K + 2 = K + 1 + 1 from rfl, FromDelta_j0_eq, back_ok _ l (by omega) (fun d hd => ⟨(hg d hd).2.1, (hg d hd).2.2.1⟩) (by omega), Option.bind_some]
end Go.Proofs.YtfefjbifdbfmjaaDoor.E
