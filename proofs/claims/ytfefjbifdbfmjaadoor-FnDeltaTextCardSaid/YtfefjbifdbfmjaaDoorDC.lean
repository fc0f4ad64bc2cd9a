import Derived.Test.YtfefjbifdbfmjaaDoorDB
/- HTML: what the package writes is what the specification says. -/
set_option linter.unusedVariables false
set_option linter.unusedSimpArgs false
namespace Go.Proofs.YtfefjbifdbfmjaaDoor.E
open Go.Ev
def nlT : List UInt8 := [38, 112, 97, 114, 97, 59, 60, 98, 114, 62]
def markB (c : UInt8) : List UInt8 := if c = 38 then [38, 97, 109, 112, 59] else if c = 39 then [38, 35, 51, 57, 59] else if c = 60 then [38, 108, 116, 59] else if c = 62 then [38, 103, 116, 59] else if c = 34 then [38, 35, 51, 52, 59] else if c = 10 then nlT else [c]
theorem mark_fin : ∀ n : Fin 256, (escB (UInt8.ofNat n.val)).flatMap (repB 10 nlT) = markB (UInt8.ofNat n.val) := by decide +kernel
theorem mark_eq (c : UInt8) : (escB c).flatMap (repB 10 nlT) = markB c := by
  have := mark_fin ⟨c.toNat, c.toNat_lt⟩
  simpa using this
theorem markB_len (c : UInt8) : (markB c).length ≤ 10 := by
  unfold markB nlT
  repeat' split
  all_goals simp
theorem mark_all (l : List UInt8) : (l.flatMap escB).flatMap (repB 10 nlT) = l.flatMap markB := by
  rw [List.flatMap_assoc]
  congr 1
  funext c
  exact mark_eq c
def insB : List UInt8 := [60, 105, 110, 115, 32, 115, 116, 121, 108, 101, 61, 34, 98, 97, 99, 107, 103, 114, 111, 117, 110, 100, 58, 35, 101, 54, 102, 102, 101, 54, 59, 34, 62]
def insE : List UInt8 := [60, 47, 105, 110, 115, 62]
def delB : List UInt8 := [60, 100, 101, 108, 32, 115, 116, 121, 108, 101, 61, 34, 98, 97, 99, 107, 103, 114, 111, 117, 110, 100, 58, 35, 102, 102, 101, 54, 101, 54, 59, 34, 62]
def delE : List UInt8 := [60, 47, 100, 101, 108, 62]
def spnB : List UInt8 := [60, 115, 112, 97, 110, 62]
def spnE : List UInt8 := [60, 47, 115, 112, 97, 110, 62]
def beg (t : Int) : List UInt8 := if 0 < t then insB else if t < 0 then delB else spnB
def fin_ (t : Int) : List UInt8 := if 0 < t then insE else if t < 0 then delE else spnE
theorem beg_len (t : Int) : (beg t).length ≤ 40 := by
  unfold beg insB delB spnB
  repeat' split
  all_goals simp
theorem fin_len (t : Int) : (fin_ t).length ≤ 40 := by
  unfold fin_ insE delE spnE
  repeat' split
  all_goals simp
def markD (d : Int × ByteArray) : List UInt8 := beg d.1 ++ (B d.2).flatMap markB ++ fin_ d.1
theorem markD_len (d : Int × ByteArray) (h : d.2.size ≤ 40) : (markD d).length ≤ 500 := by
  have h1 := flat_len markB_len (B d.2)
  have h2 := beg_len d.1
  have h3 := fin_len d.1
  have h4 := B_size d.2
  unfold markD
  rw [List.length_append, List.length_append]
  omega
theorem mark_in (K m : Nat) (l : List TS1.den) (len p : Int) (dd : Int × ByteArray) (e : List UInt8) (he : e.length ≤ 40) (hs : dd.2.size ≤ 1000) : ∀ (d i : Nat) (acc : List UInt8), i + d = dd.2.size → acc.length ≤ 100000 + 10 * i →
    PrettyMarked_l1 K (2 * d + 1 + m) ⟨acc.toArray⟩ 0 [dd] ⟨e.toArray⟩ l len p (dd.2.size : Int) (i : Int) = PrettyMarked_l0 K m ⟨(acc ++ ((B dd.2).drop i).flatMap markB ++ e).toArray⟩ l len (IntKind.i64.wrap (p + 1))
  | 0, i, acc, h, ha => by
    rw [show 2 * 0 + 1 + m = m + 1 by omega, PrettyMarked_l1_eq, br_ge (by omega)]
    rw [mk_size, mk_size, chk_nle (by omega), mk_append, List.drop_eq_nil_of_le (by rw [B_size]; omega), List.flatMap_nil, List.append_nil]
  | d + 1, i, acc, h, ha => by
    rw [show 2 * (d + 1) + 1 + m = (2 * d + 1 + m) + 1 + 1 by omega]
    have hi : i < (B dd.2).length := by rw [B_size]; omega
    have hn : (nth TS1 [dd] 0) = dd := rfl
    have step : ∀ x : List UInt8, x.length ≤ 10 → markB (B dd.2)[i] = x → PrettyMarked_l1 K (2 * d + 1 + m) (ByteArray.append ⟨acc.toArray⟩ ⟨x.toArray⟩) 0 [dd] ⟨e.toArray⟩ l len p (dd.2.size : Int) (IntKind.i64.wrap ((i : Int) + 1)) = PrettyMarked_l0 K m ⟨(acc ++ ((B dd.2).drop i).flatMap markB ++ e).toArray⟩ l len (IntKind.i64.wrap (p + 1)) := by
      intro x hx he'
      rw [wrap_id (by omega) (by omega), show (i : Int) + 1 = ((i + 1 : Nat) : Int) by omega, mk_append, mark_in K m l len p dd e he hs d (i + 1) _ (by omega) (by rw [List.length_append]; omega), List.drop_eq_getElem_cons hi, List.flatMap_cons, he', List.append_assoc, List.append_assoc, List.append_assoc, List.append_assoc]
    have lim : ∀ (n : Nat) (o : Option ByteArray), n ≤ 10 → chk (nleI (ByteArray.size ⟨acc.toArray⟩ + n) 9223372036854775807) o = o := fun n o hn => chk_nle (by rw [mk_size]; omega)
    rw [PrettyMarked_l1_eq, br_lt (by omega), PrettyMarked_j3_eq, hn, chk_le (by omega), chk_lt (by omega), bt_at dd.2 i (by omega), e38, e39, e60, e62, e34, e10]
    simp only [br_dec]
    unfold markB at step
    split
    · rename_i c
      rw [if_pos c] at step
      exact (lim 5 _ (by omega)).trans (step _ (by decide) rfl)
    · rename_i c1
      rw [if_neg c1] at step
      split
      · rename_i c
        rw [if_pos c] at step
        exact (lim 5 _ (by omega)).trans (step _ (by decide) rfl)
      · rename_i c2
        rw [if_neg c2] at step
        split
        · rename_i c
          rw [if_pos c] at step
          exact (lim 4 _ (by omega)).trans (step _ (by decide) rfl)
        · rename_i c3
          rw [if_neg c3] at step
          split
          · rename_i c
            rw [if_pos c] at step
            exact (lim 4 _ (by omega)).trans (step _ (by decide) rfl)
          · rename_i c4
            rw [if_neg c4] at step
            split
            · rename_i c
              rw [if_pos c] at step
              exact (lim 5 _ (by omega)).trans (step _ (by decide) rfl)
            · rename_i c5
              rw [if_neg c5] at step
              split
              · rename_i c
                rw [if_pos c] at step
                exact (lim 10 _ (by omega)).trans (step nlT (by decide) rfl)
              · rename_i c6
                rw [if_neg c6] at step
                have hx : ByteArray.extract dd.2 (Int.toNat (i : Int)) (Int.toNat ((i : Int) + 1)) = ⟨[(B dd.2)[i]].toArray⟩ := B_inj (by
                  rw [B_extract, show Int.toNat ((i : Int) + 1) - Int.toNat (i : Int) = 1 by omega, Int.toNat_natCast, List.drop_eq_getElem_cons hi]
                  rfl)
                have hw := wrap_id (x := (i : Int) + 1) (by omega) (by omega)
                have st := step _ (by simp) rfl
                rw [hw] at st ⊢
                rw [chk_le (by omega), chk_le (by omega), chk_le (by omega), hx]
                exact (lim 1 _ (by omega)).trans st
theorem mark_loop (K : Nat) (l : List TS1.den) (hl : l.length ≤ 1000) (hs : ∀ d ∈ l, d.2.size ≤ 40) : ∀ (d i k : Nat) (acc : List UInt8), i + d = l.length → acc.length ≤ 500 * i → 100 * d + 1 ≤ k → 500 * l.length ≤ 90000 →
    PrettyMarked_l0 K k ⟨acc.toArray⟩ l (l.length : Int) (i : Int) = some ⟨(acc ++ (l.drop i).flatMap markD).toArray⟩
  | 0, i, k, acc, h, ha, hk, hb => by
    obtain ⟨k, rfl⟩ : ∃ m, k = m + 1 := ⟨k - 1, by omega⟩
    rw [PrettyMarked_l0_eq, br_ge (by omega), List.drop_eq_nil_of_le (by omega), List.flatMap_nil, List.append_nil]
  | d + 1, i, k, acc, h, ha, hk, hb => by
    have hi : i < l.length := by omega
    have hd := hs (l[i]) (List.getElem_mem _)
    have hm := markD_len (l[i]) hd
    have hbl := beg_len (l[i]).1
    have hfl := fin_len (l[i]).1
    have hn : nth TS1 l (i : Int) = l[i] := nth_at TS1 l i hi
    have hn0 : (nth TS1 [l[i]] 0) = l[i] := rfl
    have inner : ∀ k', 2 * (l[i]).2.size + 1 + (100 * d + 1) ≤ k' → PrettyMarked_l1 K k' ⟨(acc ++ beg (l[i]).1).toArray⟩ 0 [l[i]] ⟨(fin_ (l[i]).1).toArray⟩ l (l.length : Int) (i : Int) ((l[i]).2.size : Int) 0 = some ⟨(acc ++ (l.drop i).flatMap markD).toArray⟩ := by
      intro k' hk'
      obtain ⟨m, rfl⟩ : ∃ m, k' = 2 * (l[i]).2.size + 1 + m := ⟨k' - (2 * (l[i]).2.size + 1), by omega⟩
      have h1 := mark_in K m l (l.length : Int) (i : Int) (l[i]) (fin_ (l[i]).1) hfl (by omega) (l[i]).2.size 0 (acc ++ beg (l[i]).1) (by omega) (by rw [List.length_append]; omega)
      rw [show ((0 : Nat) : Int) = 0 from rfl] at h1
      rw [h1, wrap_id (by omega) (by omega), show (i : Int) + 1 = ((i + 1 : Nat) : Int) by omega]
      have e1 : acc ++ beg (l[i]).1 ++ ((B (l[i]).2).drop 0).flatMap markB ++ fin_ (l[i]).1 = acc ++ markD (l[i]) := by
        unfold markD
        rw [List.drop_zero]
        simp only [List.append_assoc]
      rw [e1, mark_loop K l hl hs d (i + 1) m _ (by omega) (by rw [List.length_append]; omega) (by omega) hb, List.drop_eq_getElem_cons hi, List.flatMap_cons, List.append_assoc]
    have j2 : ∀ k' (b e : List UInt8), b = beg (l[i]).1 → e = fin_ (l[i]).1 → 2 * (l[i]).2.size + 1 + (100 * d + 1) ≤ k' → PrettyMarked_j2 K (k' + 1) ⟨acc.toArray⟩ 0 [l[i]] ⟨b.toArray⟩ ⟨e.toArray⟩ l (l.length : Int) (i : Int) = some ⟨(acc ++ (l.drop i).flatMap markD).toArray⟩ := by
      rintro k' b e rfl rfl hk'
      rw [PrettyMarked_j2_eq, mk_size, mk_size, chk_nle (by omega), mk_append, hn0]
      exact inner k' hk'
    obtain ⟨k', rfl⟩ : ∃ m, k = m + 1 + 1 + 1 + 1 := ⟨k - 4, by omega⟩
    rw [PrettyMarked_l0_eq, br_lt (by omega), PrettyMarked_j0_eq, hn, chk_le (by omega), chk_lt (by omega)]
    by_cases h1 : 0 < (l[i]).1
    · have h1' : (0 : Int) ≤ (l[i]).1 := Int.le_of_lt h1
      rw [br_lt h1, PrettyMarked_j1_eq, hn0, br_ge h1']
      exact j2 k' insB insE (by unfold beg; rw [if_pos h1]) (by unfold fin_; rw [if_pos h1]) (by omega)
    · rw [br_ge (Int.not_lt.1 h1), PrettyMarked_j1_eq, hn0]
      by_cases h2 : (l[i]).1 < 0
      · rw [br_lt h2]
        exact j2 k' delB delE (by unfold beg; rw [if_neg h1, if_pos h2]) (by unfold fin_; rw [if_neg h1, if_pos h2]) (by omega)
      · rw [br_ge (Int.not_lt.1 h2)]
        exact j2 k' spnB spnE (by unfold beg; rw [if_neg h1, if_neg h2]) (by unfold fin_; rw [if_neg h1, if_neg h2]) (by omega)
theorem mark_ok (K : Nat) (l : List TS1.den) (hl : l.length ≤ 100) (hs : ∀ d ∈ l, d.2.size ≤ 40) (hK : 100 * l.length + 2 ≤ K) : PrettyMarked K l = some ⟨(l.flatMap markD).toArray⟩ := by
  obtain ⟨K, rfl⟩ : ∃ m, K = m + 1 := ⟨K - 1, by omega⟩
  rw [PrettyMarked_eq]
  have := mark_loop K l (by omega) hs l.length 0 K [] (by omega) (by simp) (by omega) (by omega)
  simpa using this
/-- What the package's loop writes. -/
theorem htmlF_ok (esc : ByteArray → Option ByteArray) : ∀ (l : List (Int × ByteArray)) (acc : List UInt8), (∀ d ∈ l, esc d.2 = some ⟨((B d.2).flatMap markB).toArray⟩) → (∀ d ∈ l, d.2.size ≤ 40 ∧ -1 ≤ d.1 ∧ d.1 ≤ 1) → acc.length + 500 * l.length ≤ 1000000 → htmlF esc l acc = some (acc ++ l.flatMap markD)
  | [], acc, _, _, _ => by rw [htmlF_nil, List.flatMap_nil, List.append_nil]
  | d :: l, acc, he, hs, hb => by
    obtain ⟨h1, h2, h3⟩ := hs d (List.mem_cons_self ..)
    have hm := markD_len d h1
    rw [List.length_cons] at hb
    have ih := htmlF_ok esc l (acc ++ markD d) (fun x hx => he x (List.mem_cons_of_mem _ hx)) (fun x hx => hs x (List.mem_cons_of_mem _ hx)) (by rw [List.length_append]; omega)
    have hw : ∀ b e : List UInt8, b = beg d.1 → e = fin_ d.1 → (wr3 acc ⟨b.toArray⟩ ⟨((B d.2).flatMap markB).toArray⟩ ⟨e.toArray⟩).bind (htmlF esc l) = some (acc ++ (d :: l).flatMap markD) := by
      rintro b e rfl rfl
      have h4 : ((beg d.1).length + ((B d.2).flatMap markB).length) + (fin_ d.1).length ≤ 500 := by
        unfold markD at hm
        rwa [List.length_append, List.length_append] at hm
      unfold wr3
      rw [mk_size, mk_size, mk_size, if_pos (by omega), Option.bind_some, List.flatMap_cons, ← List.append_assoc, ← ih]
      unfold markD
      simp only [List.append_assoc]
    rw [htmlF_cons, he d (List.mem_cons_self ..), Option.bind_some]
    by_cases c1 : d.1 = 1
    · rw [if_pos c1]
      exact hw insB insE (by rw [c1]; rfl) (by rw [c1]; rfl)
    · rw [if_neg c1]
      by_cases c2 : d.1 = -1
      · rw [if_pos c2]
        exact hw delB delE (by rw [c2]; rfl) (by rw [c2]; rfl)
      · have c3 : d.1 = 0 := by omega
        rw [if_neg c2, if_pos c3]
        exact hw spnB spnE (by rw [c3]; rfl) (by rw [c3]; rfl)
theorem html_ok (K : Nat) (l : List TS1.den) (hl : l.length ≤ 12) (hs : ∀ d ∈ l, d.2.size ≤ 40 ∧ -1 ≤ d.1 ∧ d.1 ≤ 1) (hK : 1000 ≤ K) : PrettyHTML K l = some ⟨(l.flatMap markD).toArray⟩ := by
  obtain ⟨K, rfl⟩ : ∃ m, K = m + 3 := ⟨K - 3, by omega⟩
  obtain ⟨X, hX⟩ := plain_ok (K + 2) (by omega)
  rw [PrettyHTML_eq, hX, Option.bind_some, diffs_ok (K + 2) l (by omega) (fun d hd => (hs d hd).2) (by omega), Option.bind_some]
  have he : ∀ d ∈ l, ((zzEscapeHTML (K + 1) d.2).bind fun t => zzReplace (K + 1) t ⟨#[10]⟩ ⟨#[38, 112, 97, 114, 97, 59, 60, 98, 114, 62]⟩) = some ⟨((B d.2).flatMap markB).toArray⟩ := by
    intro d hd
    have h1 := (hs d hd).1
    have h2 := flat_len escB_len (B d.2)
    have h3 := B_size d.2
    rw [esc_ok (K + 1) d.2 (by omega) (by omega), Option.bind_some, rep_ok (K + 1) _ 10 _ (by decide) (by rw [mk_size]; omega) (by rw [mk_size]; omega), show B ⟨#[38, 112, 97, 114, 97, 59, 60, 98, 114, 62]⟩ = [38, 112, 97, 114, 97, 59, 60, 98, 114, 62] from rfl]
    have := mark_all (B d.2)
    unfold nlT at this
    rw [B_mk, this]
  have h : DiffPrettyHtml (K + 2) l = htmlE (fun s => (zzEscapeHTML (K + 1) s).bind fun t => zzReplace (K + 1) t ⟨#[10]⟩ ⟨#[38, 112, 97, 114, 97, 59, 60, 98, 114, 62]⟩) l := rfl
  rw [show K + 2 = K + 1 + 1 from rfl] at h ⊢
  rw [h]
  unfold htmlE
  rw [if_pos (by omega), htmlF_ok _ l [] he hs (by simp; omega)]
  rfl
end Go.Proofs.YtfefjbifdbfmjaaDoor.E
