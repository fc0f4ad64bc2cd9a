import Derived.Test.YtfefjbifdbfmjaaDoorDF
/- Deltas: the package's text and the specification's. -/
set_option linter.unusedVariables false
set_option linter.unusedSimpArgs false
namespace Go.Proofs.YtfefjbifdbfmjaaDoor.E
open Go.Ev
def opB (t : Int) : UInt8 := if t = 1 then 43 else if t = -1 then 45 else 61
/-- A difference as units. -/
def tokU (d : Int × ByteArray) : List (Bool × UInt8) := (false, opB d.1) :: (if d.1 = 1 then (B d.2).map fun c => (true, c) else (itoa2 (runesI d.2).length).map fun c => (false, c))
def unitsJ : List (Int × ByteArray) → List (Bool × UInt8)
  | [] => []
  | [d] => tokU d
  | d :: e :: r => tokU d ++ (false, 9) :: unitsJ (e :: r)
theorem map_t (l : List UInt8) : (l.map fun c => ((true, c) : Bool × UInt8)).flatMap unitB = l.flatMap escD ∧ (l.map fun c => ((true, c) : Bool × UInt8)).flatMap outB = l.flatMap specD := by
  constructor <;> (rw [List.flatMap_map]; rfl)
theorem map_f (l : List UInt8) : (l.map fun c => ((false, c) : Bool × UInt8)).flatMap unitB = l ∧ (l.map fun c => ((false, c) : Bool × UInt8)).flatMap outB = l := by
  induction l with
  | nil => exact ⟨rfl, rfl⟩
  | cons c l ih =>
    constructor
    · rw [List.map_cons, List.flatMap_cons, ih.1]; rfl
    · rw [List.map_cons, List.flatMap_cons, ih.2]; rfl
theorem itoa2_fin : ∀ n : Fin 1000, (itoa2 n.val).all (fun c => decide (48 ≤ c.toNat ∧ c.toNat ≤ 57)) = true ∧ 1 ≤ (itoa2 n.val).length ∧ (itoa2 n.val).length ≤ 3 := by decide +kernel
theorem itoa2_digit (n : Nat) (hn : n < 1000) : (∀ c ∈ itoa2 n, 48 ≤ c.toNat ∧ c.toNat ≤ 57) ∧ 1 ≤ (itoa2 n).length ∧ (itoa2 n).length ≤ 3 := by
  obtain ⟨h1, h2, h3⟩ := itoa2_fin ⟨n, hn⟩
  exact ⟨fun c hc => of_decide_eq_true (List.all_eq_true.1 h1 c hc), h2, h3⟩
theorem opB_cases (t : Int) : opB t = 43 ∨ opB t = 45 ∨ opB t = 61 := by
  unfold opB
  repeat' split
  all_goals simp
theorem tokU_ok (d : Int × ByteArray) (hn : (runesI d.2).length < 1000) : Oku (tokU d) := by
  refine Oku.cons (fun _ => ?_) ?_
  · rcases opB_cases d.1 with h | h | h <;> (rw [h]; decide)
  · split
    · intro u hu
      obtain ⟨c, _, rfl⟩ := List.mem_map.1 hu
      intro h
      cases h
    · intro u hu
      obtain ⟨c, hc, rfl⟩ := List.mem_map.1 hu
      intro _ e
      have h1 := (itoa2_digit _ hn).1 c hc
      have e : c = 37 := e
      rw [e] at h1
      have : (37 : UInt8).toNat = 37 := rfl
      omega
theorem unitsJ_ok : ∀ (l : List (Int × ByteArray)), (∀ d ∈ l, (runesI d.2).length < 1000) → Oku (unitsJ l)
  | [], _ => fun u hu => by cases hu
  | [d], h => tokU_ok d (h d (List.mem_cons_self ..))
  | d :: e :: r, h => Oku.append (tokU_ok d (h d (List.mem_cons_self ..))) (Oku.cons (fun _ => by decide) (unitsJ_ok (e :: r) (fun x hx => h x (List.mem_cons_of_mem _ hx))))
/-- What the package writes of one difference. -/
def tokB (d : Int × ByteArray) : List UInt8 := (tokU d).flatMap unitB ++ [9]
theorem flat_join : ∀ (l : List (Int × ByteArray)), l ≠ [] → l.flatMap tokB = (unitsJ l).flatMap unitB ++ [9]
  | [], h => absurd rfl h
  | [d], _ => by rw [List.flatMap_cons, List.flatMap_nil, List.append_nil]; rfl
  | d :: e :: r, _ => by
    rw [List.flatMap_cons, flat_join (e :: r) (by simp)]
    show _ = (tokU d ++ (false, 9) :: unitsJ (e :: r)).flatMap unitB ++ [9]
    rw [List.flatMap_append, List.flatMap_cons]
    unfold tokB
    simp [unitB]
theorem tokU_bytes (d : Int × ByteArray) : (tokU d).flatMap unitB = opB d.1 :: (if d.1 = 1 then (B d.2).flatMap escD else itoa2 (runesI d.2).length) ∧ (tokU d).flatMap outB = opB d.1 :: (if d.1 = 1 then (B d.2).flatMap specD else itoa2 (runesI d.2).length) := by
  unfold tokU
  split
  · rw [List.flatMap_cons, List.flatMap_cons, (map_t _).1, (map_t _).2]
    exact ⟨rfl, rfl⟩
  · rw [List.flatMap_cons, List.flatMap_cons, (map_f _).1, (map_f _).2]
    exact ⟨rfl, rfl⟩
theorem tok_len (d : Int × ByteArray) (h : d.2.size ≤ 200) : (tokB d).length ≤ 610 ∧ ((tokU d).flatMap outB).length ≤ 610 := by
  have h1 := flat_len escD_len (B d.2)
  have h2 := flat_len specD_len (B d.2)
  have h3 := B_size d.2
  have h4 := runesI_le d.2
  have h5 := (itoa2_digit (runesI d.2).length (by omega)).2
  unfold tokB
  rw [List.length_append, (tokU_bytes d).1, (tokU_bytes d).2]
  simp only [List.length_cons, List.length_nil]
  constructor <;> split <;> omega
/-! ### all is ASCII -/
theorem asc_fin : ∀ n : Fin 256, (escD (UInt8.ofNat n.val)).all (fun c => decide (c.toNat < 128)) = true := by decide +kernel
theorem escD_asc (c : UInt8) : ∀ x ∈ escD c, x.toNat < 128 := by
  have := asc_fin ⟨c.toNat, c.toNat_lt⟩
  simp only [UInt8.ofNat_toNat] at this
  exact fun x hx => of_decide_eq_true (List.all_eq_true.1 this x hx)
theorem tokB_asc (d : Int × ByteArray) (hn : (runesI d.2).length < 1000) : ∀ x ∈ tokB d, x.toNat < 128 := by
  intro x hx
  unfold tokB at hx
  rw [(tokU_bytes d).1] at hx
  rcases List.mem_append.1 hx with h | h
  · rcases List.mem_cons.1 h with h | h
    · rcases opB_cases d.1 with e | e | e <;> (rw [h, e]; decide)
    · split at h
      · obtain ⟨c, _, hc⟩ := List.mem_flatMap.1 h
        exact escD_asc c x hc
      · have := (itoa2_digit _ hn).1 x h
        omega
  · rw [List.mem_singleton.1 h]
    decide
theorem asc_runes : ∀ l : List UInt8, (∀ x ∈ l, x.toNat < 128) → (runesB l).length = l.length
  | [], _ => rfl
  | x :: l, h => by
    have hx := h x (List.mem_cons_self ..)
    have he : encL (x.toNat : Int) = [x] := by
      obtain ⟨c, hc, h1⟩ := encL_cases (x.toNat : Int) (.inl ⟨by omega, by omega⟩)
      have : c = x.toNat := by omega
      subst this
      rcases h1 with h1 | h1 | h1 | h1
      · rw [h1.2]; simp
      · omega
      · omega
      · omega
    have h2 := runesB_enc (x.toNat : Int) l (.inl ⟨by omega, by omega⟩)
    rw [he] at h2
    rw [show x :: l = [x] ++ l from rfl, h2, List.length_cons, asc_runes l (fun y hy => h y (List.mem_cons_of_mem _ hy))]
    rfl
/-! ### the package's loop -/
theorem deltaF_ok (esc num : ByteArray → Option ByteArray) : ∀ (l : List (Int × ByteArray)) (acc : List UInt8), (∀ d ∈ l, esc d.2 = some ⟨((B d.2).flatMap escD).toArray⟩ ∧ num d.2 = some ⟨(itoa2 (runesI d.2).length).toArray⟩) → (∀ d ∈ l, d.2.size ≤ 200 ∧ -1 ≤ d.1 ∧ d.1 ≤ 1) → acc.length + 610 * l.length ≤ 1000000 → deltaF esc num l acc = some (acc ++ l.flatMap tokB)
  | [], acc, _, _, _ => by rw [deltaF_nil, List.flatMap_nil, List.append_nil]
  | d :: l, acc, he, hs, hb => by
    obtain ⟨h1, h2, h3⟩ := hs d (List.mem_cons_self ..)
    obtain ⟨k1, k2⟩ := he d (List.mem_cons_self ..)
    have hm := (tok_len d h1).1
    rw [List.length_cons] at hb
    have ih := deltaF_ok esc num l (acc ++ tokB d) (fun x hx => he x (List.mem_cons_of_mem _ hx)) (fun x hx => hs x (List.mem_cons_of_mem _ hx)) (by rw [List.length_append]; omega)
    have hw : ∀ (o : UInt8) (t : List UInt8), tokB d = o :: t ++ [9] → (wr3 acc ⟨#[o]⟩ ⟨t.toArray⟩ ⟨#[9]⟩).bind (deltaF esc num l) = some (acc ++ (d :: l).flatMap tokB) := by
      intro o t ht
      have hl : t.length + 2 ≤ 610 := by
        rw [ht] at hm
        simpa using hm
      unfold wr3
      rw [show (ByteArray.size ⟨#[o]⟩) = 1 from rfl, mk_size, show (ByteArray.size ⟨#[9]⟩) = 1 from rfl, if_pos (by omega), Option.bind_some, List.flatMap_cons, ← List.append_assoc, ← ih, ht]
      simp
    rw [deltaF_cons]
    have hB : tokB d = (opB d.1 :: (if d.1 = 1 then (B d.2).flatMap escD else itoa2 (runesI d.2).length)) ++ [9] := by
      unfold tokB
      rw [(tokU_bytes d).1]
    by_cases c1 : d.1 = 1
    · rw [if_pos c1, k1, Option.bind_some]
      exact hw 43 _ (by rw [hB, if_pos c1, c1]; rfl)
    · rw [if_neg c1]
      by_cases c2 : d.1 = -1
      · rw [if_pos c2, k2, Option.bind_some]
        exact hw 45 _ (by rw [hB, if_neg c1, c2]; rfl)
      · have c3 : d.1 = 0 := by omega
        rw [if_neg c2, if_pos c3, k2, Option.bind_some]
        exact hw 61 _ (by rw [hB, if_neg c1, c3]; rfl)
theorem todelta_ok (K : Nat) (l : List TS1.den) (hl : l.length ≤ 100) (hs : ∀ d ∈ l, d.2.size ≤ 200 ∧ -1 ≤ d.1 ∧ d.1 ≤ 1) (hK : 300000 ≤ K) : ToDelta K l = some ⟨((unitsJ l).flatMap outB).toArray⟩ := by
  obtain ⟨K, rfl⟩ : ∃ m, K = m + 3 := ⟨K - 3, by omega⟩
  obtain ⟨X, hX⟩ := plain_ok (K + 2) (by omega)
  rw [ToDelta_eq, hX, Option.bind_some, diffs_ok (K + 2) l (by omega) (fun d hd => (hs d hd).2) (by omega), Option.bind_some]
  have hr : ∀ d ∈ l, (runesI d.2).length < 1000 := fun d hd => by
    have h1 := (hs d hd).1
    have h2 := runesI_le d.2
    omega
  have he : ∀ d ∈ l, ((zzQueryEscape (K + 1) d.2).bind fun t => zzReplace (K + 1) t ⟨#[43]⟩ ⟨#[32]⟩) = some ⟨((B d.2).flatMap escD).toArray⟩ ∧ ((RuneCountInString (K + 1) d.2).bind fun n => Itoa (K + 1) n) = some ⟨(itoa2 (runesI d.2).length).toArray⟩ := by
    intro d hd
    have h1 := (hs d hd).1
    have h2 := flat_len qescB_len (B d.2)
    have h3 := B_size d.2
    have h4 := hr d hd
    constructor
    · rw [qesc_ok (K + 1) d.2 (by omega) (by omega), Option.bind_some, rep_ok (K + 1) _ 43 _ (by decide) (by rw [mk_size]; omega) (by rw [mk_size]; omega)]
      have := escD_all (B d.2)
      rw [B_mk]
      exact congrArg (fun x : List UInt8 => some (⟨x.toArray⟩ : ByteArray)) this
    · have e1 : RuneCountInString (K + 1) d.2 = runeCountE d.2 := rfl
      have e2 : ∀ n, Itoa (K + 1) n = itoaE n := fun n => rfl
      rw [e1]
      unfold runeCountE
      rw [if_pos (by omega), Option.bind_some, e2, runeCount_eq]
      unfold itoaE
      rw [if_pos (by omega), Int.toNat_natCast]
  have h : DiffToDelta (K + 1 + 1) l = deltaE (fun s => (zzQueryEscape (K + 1) s).bind fun t => zzReplace (K + 1) t ⟨#[43]⟩ ⟨#[32]⟩) (fun s => (RuneCountInString (K + 1) s).bind fun n => Itoa (K + 1) n) (fun s => RuneCountInString (K + 1) s) (fun s => zzUnescape (K + 1) s) l := rfl
  rw [show K + 2 = K + 1 + 1 from rfl, h]
  unfold deltaE
  rw [if_pos (by omega), deltaF_ok _ _ l [] he hs (by simp; omega), List.nil_append, Option.bind_some]
  have hlen : (l.flatMap tokB).length ≤ 610 * l.length := by
    clear he h hr hX
    induction l with
    | nil => simp
    | cons d l ih =>
      have h1 := (tok_len d (hs d (List.mem_cons_self ..)).1).1
      have h2 := ih (by simp at hl; omega) (fun x hx => hs x (List.mem_cons_of_mem _ hx))
      rw [List.flatMap_cons, List.length_append, List.length_cons]
      omega
  by_cases hnil : l = []
  · subst hnil
    rfl
  · have hj := flat_join l hnil
    have hne : l.flatMap tokB ≠ [] := by rw [hj]; simp
    have hasc : ∀ x ∈ l.flatMap tokB, x.toNat < 128 := fun x hx => by
      obtain ⟨d, hd, hx⟩ := List.mem_flatMap.1 hx
      exact tokB_asc d (hr d hd) x hx
    have hpos : 0 < (l.flatMap tokB).length := List.length_pos_iff.2 hne
    have e1 : RuneCountInString (K + 1) ⟨(l.flatMap tokB).toArray⟩ = runeCountE ⟨(l.flatMap tokB).toArray⟩ := rfl
    have hcnt : Go.Lib.runeCount ⟨(l.flatMap tokB).toArray⟩ = (l.flatMap tokB).length := by
      rw [runeCount_eq, runesI_eq]
      exact asc_runes _ hasc
    rw [if_neg hne]
    show Option.bind (Option.bind (RuneCountInString (K + 1) ⟨(l.flatMap tokB).toArray⟩) _) _ = _
    rw [e1]
    unfold runeCountE
    rw [mk_size, if_pos (by omega), Option.bind_some, hcnt, if_pos (by omega), Int.toNat_natCast]
    have hx : ByteArray.extract ⟨(l.flatMap tokB).toArray⟩ 0 ((l.flatMap tokB).length - 1) = ⟨((unitsJ l).flatMap unitB).toArray⟩ := B_inj (by
      rw [B_to, B_mk, B_mk, hj, List.length_append, List.length_singleton, Nat.add_sub_cancel]
      exact List.take_left' rfl)
    have hl2 : ((unitsJ l).flatMap unitB).length ≤ 61000 := by
      have := congrArg List.length hj
      rw [List.length_append, List.length_singleton] at this
      omega
    rw [hx]
    show Option.bind (zzUnescape (K + 1) ⟨((unitsJ l).flatMap unitB).toArray⟩) _ = _
    rw [un_ok (K + 1) (unitsJ l) (unitsJ_ok l hr) (by omega) (by omega), Option.bind_some]
end Go.Proofs.YtfefjbifdbfmjaaDoor.E
