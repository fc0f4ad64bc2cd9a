import Derived.Test.YtfglahmbnnkijaaLU
/- The edits from a text to another one, as the library finds them. -/
set_option linter.unusedVariables false
set_option linter.unusedSimpArgs false
namespace Go.Proofs.Ytfglahmbnnkijaa.E
open Go.Ev Go.Lcs
/-! ### texts and characters in the heap -/
theorem decL_i32 : ∀ (n : Nat) (L : List Int), n ≤ L.length → decL (.p (.int .i32)) n (L.map fun x => Cell.v (.int .i32 x)) = some (L.take n)
  | 0, L, _ => by rw [List.take_zero]; rfl
  | n + 1, [], h => by simp at h
  | n + 1, x :: L, h => by
    have ih := decL_i32 n L (by simp at h; omega)
    unfold decL
    have e1 : HTy.dec (.p (.int .i32)) (List.take (HTy.p (.int .i32)).sz (List.map (fun x => Cell.v (.int .i32 x)) (x :: L))) = some x := rfl
    have e2 : List.drop (HTy.p (.int .i32)).sz (List.map (fun x => Cell.v (.int .i32 x)) (x :: L)) = L.map (fun x => Cell.v (.int .i32 x)) := rfl
    rw [e1, e2, ih]
    rfl
theorem rdok_ro {h : Hp} {n : Nat} {s : ByteArray} (ho : h.ob n = some (.ro (roBytes s))) (hn : n < h.nx) : RdOk h (.int .u8) (.at n 0 s.size) (bytesI s) := by
  refine ⟨(bytesI_len s).symm, fun h' hk lo hi h1 h2 => ?_⟩
  rw [bytesI_len] at h2
  have hc : h'.cl n = some (roBytes s) := by
    unfold Hp.cl
    rw [hk.ob n hn, ho]
  have hl : (roBytes s).length = s.size := by
    unfold roBytes
    rw [List.length_map, bytesI_len]
  show Hp.rd h' (.int .u8) (.at n (0 + lo * 1) (hi - lo)) = _
  unfold Hp.rd
  simp only [hc]
  rw [show Nat.ble (0 + lo * 1 + (hi - lo) * Ty.sz (.int .u8)) (roBytes s).length = true by rw [hl]; exact Nat.ble_eq_true_of_le (by show 0 + lo * 1 + (hi - lo) * 1 ≤ _; omega)]
  simp only [cond_true]
  have e : (roBytes s).drop (0 + lo * 1) = ((bytesI s).drop lo).map fun x => Cell.v (.int .u8 x) := by
    unfold roBytes
    rw [List.map_drop, show 0 + lo * 1 = lo by omega]
  rw [e]
  exact decL_u8 (hi - lo) ((bytesI s).drop lo) (by rw [List.length_drop, bytesI_len]; omega)
theorem rdok_i32 {h : Hp} {n : Nat} {l : List Int} (ho : h.ob n = some (.cells 21 1 (l.map fun x => Cell.v (.int .i32 x)))) (hn : n < h.nx) : RdOk h (.int .i32) (.at n 0 l.length) l := by
  refine ⟨rfl, fun h' hk lo hi h1 h2 => ?_⟩
  have hc : h'.cl n = some (l.map fun x => Cell.v (.int .i32 x)) := by
    unfold Hp.cl
    rw [hk.ob n hn, ho]
  show Hp.rd h' (.int .i32) (.at n (0 + lo * 1) (hi - lo)) = _
  unfold Hp.rd
  simp only [hc]
  rw [show Nat.ble (0 + lo * 1 + (hi - lo) * Ty.sz (.int .i32)) (l.map fun x => Cell.v (.int .i32 x)).length = true by rw [List.length_map]; exact Nat.ble_eq_true_of_le (by show 0 + lo * 1 + (hi - lo) * 1 ≤ _; omega)]
  simp only [cond_true]
  have e : (l.map fun x => Cell.v (.int .i32 x)).drop (0 + lo * 1) = (l.drop lo).map fun x => Cell.v (.int .i32 x) := by
    rw [List.map_drop, show 0 + lo * 1 = lo by omega]
  rw [e]
  exact decL_i32 (hi - lo) (l.drop lo) (by rw [List.length_drop]; omega)
theorem new_i32 (h : Hp) (l : List Int) : (Hp.new h 21 (.p (.int .i32)) l).ob h.nx = some (.cells 21 1 (l.map fun x => Cell.v (.int .i32 x))) := by
  unfold Hp.new
  rw [push_ob, if_pos rfl]
  have : ∀ l : List Int, (l.map (HTy.cc (.p (.int .i32)))).flatten = l.map fun x => Cell.v (.int .i32 x) := by
    intro l
    induction l with
    | nil => rfl
    | cons a l ih => rw [List.map_cons, List.flatten_cons, ih]; rfl
  rw [this]
  rfl
/-! ### ASCII -/
def Asc (s : ByteArray) : Prop := ∀ b ∈ B s, b.toNat < 128
theorem isASCII_ok (K : Nat) (s : ByteArray) (hs : s.size ≤ 100000) (hK : 2 * s.size + 10 ≤ K) : ∃ b, isASCII_string_ K s = some b ∧ (b = true → Asc s) := by
  obtain ⟨K, rfl⟩ : ∃ m, K = m + 1 := ⟨K - 1, by omega⟩
  rw [isASCII_string__eq]
  have key : ∀ (n i k : Nat), i + n = s.size → 2 * n + 1 ≤ k → (∀ j, j < i → ∀ b, (B s)[j]? = some b → b.toNat < 128) → ∃ b, isASCII_string__l0 K k s (i : Int) = some b ∧ (b = true → Asc s) := by
    intro n
    induction n with
    | zero =>
      intro i k hi hk hb
      obtain ⟨k, rfl⟩ : ∃ m, k = m + 1 := ⟨k - 1, by omega⟩
      refine ⟨true, by rw [isASCII_string__l0_eq, br_ge (by omega)], fun _ b hbm => ?_⟩
      obtain ⟨j, hj, rfl⟩ := List.mem_iff_getElem.1 hbm
      have hj2 := hj
      rw [B_size] at hj2
      exact hb j (by omega) _ (List.getElem?_eq_getElem hj)
    | succ n ih =>
      intro i k hi hk hb
      obtain ⟨k, rfl⟩ : ∃ q, k = q + 2 := ⟨k - 2, by omega⟩
      have hil : i < (B s).length := by rw [B_size]; omega
      have hbt := bt_eq s i _ (List.getElem?_eq_getElem hil)
      rw [isASCII_string__l0_eq, br_lt (by omega), isASCII_string__j0_eq, chk_le (by omega), chk_lt (by omega), hbt]
      by_cases hc : (128 : Int) ≤ ((B s)[i].toNat : Int)
      · rw [br_le hc]
        exact ⟨false, rfl, fun h => (by cases h)⟩
      · rw [br_gt (by omega), wrap_id (by omega) (by omega), show (i : Int) + 1 = ((i + 1 : Nat) : Int) by omega]
        refine ih (i + 1) k (by omega) (by omega) (fun j hj b hjb => ?_)
        by_cases hji : j = i
        · rw [hji, List.getElem?_eq_getElem hil] at hjb
          rw [← Option.some.inj hjb]
          omega
        · exact hb j (by omega) b hjb
  exact key s.size 0 K (by omega) (by omega) (fun j hj => by omega)
def Low (l : List Int) : Prop := ∀ r ∈ l, 0 ≤ r ∧ r < 128
theorem Low.okl {l : List Int} (h : Low l) : Okl l := fun r hr => .inl (by have := h r hr; omega)
theorem low_enc (r : Int) (h : 0 ≤ r ∧ r < 128) : encL r = [UInt8.ofNat r.toNat] := by
  obtain ⟨c, rfl, ⟨h1, e⟩ | ⟨h0, _⟩ | ⟨h0, _⟩ | ⟨h0, _⟩⟩ := encL_cases r (.inl (by omega))
  · rw [e, Int.toNat_natCast]
  · omega
  · omega
  · omega
theorem low_encs : ∀ l : List Int, Low l → encs8 l = l.map fun r => UInt8.ofNat r.toNat
  | [], _ => rfl
  | r :: l, h => by
    rw [encs8_cons, low_enc r (h r (List.mem_cons_self ..)), low_encs l fun x hx => h x (List.mem_cons_of_mem _ hx)]
    rfl
theorem low_str (l : List Int) (h : Low l) : strOfBytes l = strOfRunes l := by
  apply B_inj
  rw [B_str, low_encs l h]
  rfl
theorem low_pos (l : List Int) (h : Low l) (i : Nat) (hi : i ≤ l.length) : pos l i = i := by
  unfold pos
  rw [low_encs _ fun r hr => h r (List.mem_of_mem_take hr), List.length_map, List.length_take]
  omega
theorem asc_low {s : ByteArray} (h : Asc s) : Low (bytesI s) := by
  intro r hr
  unfold bytesI at hr
  obtain ⟨b, hb, rfl⟩ := List.mem_map.1 hr
  have := h b hb
  omega
theorem asc_runes {s : ByteArray} (h : Asc s) : runesI s = bytesI s := by
  have hl := asc_low h
  have : strOfRunes (bytesI s) = s := by rw [← low_str _ hl, strOf_bytesI]
  have h2 := runesI_of hl.okl
  rw [this] at h2
  exact h2
/-! ### lengths in bytes -/
theorem RuneLen_ok (K : Nat) (r : Int) (h : okR r) (hK : 2 ≤ K) : RuneLen K r = some ((encL r).length : Int) := by
  obtain ⟨K, rfl⟩ : ∃ m, K = m + 1 := ⟨K - 1, by omega⟩
  obtain ⟨K, rfl⟩ : ∃ m, K = m + 1 := ⟨K - 1, by omega⟩
  obtain ⟨c, rfl, ⟨h1, e⟩ | ⟨h0, h1, e⟩ | ⟨h0, h1, h2, e⟩ | ⟨h0, h1, e⟩⟩ := encL_cases r h
  · rw [RuneLen_eq, br_ge (by omega), br_le (by omega), e]
    rfl
  · rw [RuneLen_eq, br_ge (by omega), br_gt (by omega), br_le (by omega), e]
    rfl
  · rw [RuneLen_eq, br_ge (by omega), br_gt (by omega), br_gt (by omega), e]
    have j : RuneLen_j0 (K + 1) (K + 1) (c : Int) false = some 3 := by rw [RuneLen_j0_eq, br_false, br_le (by omega)]
    by_cases hc : (55296 : Int) ≤ c
    · rw [br_le hc, leI_eq, decide_eq_false (by omega), j]
      rfl
    · rw [br_gt (by omega), j]
      rfl
  · rw [RuneLen_eq, br_ge (by omega), br_gt (by omega), br_gt (by omega), e]
    rw [br_le (by omega), leI_eq, decide_eq_false (by omega), RuneLen_j0_eq, br_false, br_gt (by omega), br_le (by omega)]
    rfl
theorem runesLen_ok (K : Nat) (l : List Int) (h : Okl l) (hl : l.length ≤ 100000) (hK : 2 * l.length + 10 ≤ K) : runesLen K l = some ((encs8 l).length : Int) := by
  obtain ⟨K, rfl⟩ : ∃ m, K = m + 1 := ⟨K - 1, by omega⟩
  rw [runesLen_eq]
  have key : ∀ (R P : List Int) (k : Nat), P ++ R = l → 2 * R.length + 1 ≤ k → runesLen_l0 K k ((encs8 P).length : Int) l (l.length : Int) (P.length : Int) = some ((encs8 l).length : Int) := by
    intro R
    induction R with
    | nil =>
      intro P k hP hk
      obtain ⟨k, rfl⟩ : ∃ m, k = m + 1 := ⟨k - 1, by omega⟩
      rw [List.append_nil] at hP
      rw [runesLen_l0_eq, br_ge (by rw [hP]; omega), hP]
    | cons r R ih =>
      intro P k hP hk
      simp only [List.length_cons] at hk
      obtain ⟨k, rfl⟩ : ∃ q, k = q + 2 := ⟨k - 2, by omega⟩
      have hll : l.length = P.length + (R.length + 1) := by rw [← hP]; simp
      have hn : nth (.int .i32) l (P.length : Int) = r := by rw [← hP]; exact nth_mid (.int .i32) P r R
      have hr : okR r := h r (by rw [← hP]; simp)
      have hb := encL_len r hr
      have hp := encs8_len P fun x hx => h x (by rw [← hP]; simp [hx])
      rw [runesLen_l0_eq, br_lt (by omega), runesLen_j0_eq, chk_le (by omega), chk_lt (by omega), hn, RuneLen_ok K r hr (by omega), obs, wrap_id (by omega) (by omega), wrap_id (by omega) (by omega)]
      have := ih (P ++ [r]) k (by rw [List.append_assoc]; exact hP) (by omega)
      rw [List.length_append, encs8_append, List.length_append] at this
      have e : encs8 [r] = encL r := by rw [encs8_cons, encs8_nil, List.append_nil]
      rw [e] at this
      exact this
  exact key l [] K rfl (by omega)
/-! ### the edits, one behind the other -/
theorem set_rep {α : Type} (P : List α) (x z : α) (n : Nat) : (P ++ List.replicate (n + 1) z).set P.length x = P ++ [x] ++ List.replicate n z := by
  rw [List.replicate_succ, set_mid, List.append_assoc]
  rfl
theorem ld_bound {E : Int → Int → Prop} {N M : Int} : ∀ (D : List Sp) (i k : Int), Ld E D i k N M → i ≤ N ∧ (D.length : Int) ≤ (N - i) + (M - k)
  | [], i, k, h => ⟨h.2.1, by have := h.1; have := h.2.1; show ((0 : Nat) : Int) ≤ _; omega⟩
  | s :: D, i, k, h => by
    obtain ⟨h1, h2, h3, h4, h5, h6, h7, h8, h9, h10⟩ := h
    have := ld_bound D _ _ h10
    rw [List.length_cons]
    omega
def zE : Ed := ((0 : Int), ((0 : Int), (ByteArray.mk (List.toArray []))))
theorem asc_loop (K : Nat) {hb : Hp} {rb : Rf} {la lb : List Int} (hrb : RdOk hb (.int .u8) rb lb) (lowA : Low la) (lowB : Low lb) (ha : la.length ≤ 1000) (hlb : lb.length ≤ 1000) (D : List Sp) (hD : D.length ≤ 3000) (n : Nat) (hn : hb.nx ≤ n) : ∀ (R P : List Sp) (i k : Int) (h : Hp) (k' : Nat), P ++ R = D → 0 ≤ i → 0 ≤ k → Ld (EM (Eqs la lb) la.length lb.length) R i k la.length lb.length → KeepH hb h → FreeH h → n < h.nx → HO h 74 TS1 n (P.map (edR la lb) ++ List.replicate R.length zE) → 2 * R.length + 1 ≤ k' →
    ∃ h', diffASCII_l0 K k' rb (.at n 0 D.length) D (D.length : Int) (P.length : Int) h = some (h', .at n 0 D.length) ∧ HO h' 74 TS1 n (D.map (edR la lb)) ∧ KeepH hb h' ∧ FreeH h' ∧ n < h'.nx := by
  intro R
  induction R with
  | nil =>
    intro P i k h k' hP hi hk0 hld hk hf hnx ho hk'
    obtain ⟨k', rfl⟩ : ∃ q, k' = q + 1 := ⟨k' - 1, by simp only [List.length_nil] at hk'; omega⟩
    rw [List.append_nil] at hP
    rw [show List.replicate ([] : List Sp).length zE = [] from rfl, List.append_nil, hP] at ho
    exact ⟨h, by rw [diffASCII_l0_eq, br_ge (by rw [hP]; omega)], ho, hk, hf, hnx⟩
  | cons s R ih =>
    intro P i k h k' hP hi hk0 hld hk hf hnx ho hk'
    simp only [List.length_cons] at hk'
    obtain ⟨k', rfl⟩ : ∃ q, k' = q + 2 := ⟨k' - 2, by omega⟩
    have hll : D.length = P.length + (R.length + 1) := by rw [← hP]; simp
    have hs : nth TS0 D (P.length : Int) = s := by rw [← hP]; exact nth_mid TS0 P s R
    obtain ⟨h1, h2, h3, h4, h5, h6, h7, h8, h9, h10⟩ := hld
    have rd := hrb.2 h hk s.2.2.1.toNat s.2.2.2.toNat (by omega) (by omega)
    have hlen : (P.map (edR la lb) ++ List.replicate (s :: R).length zE).length = D.length := by
      rw [List.length_append, List.length_map, List.length_replicate, List.length_cons]
      omega
    have e1 : (s.1, (s.2.1, strOfBytes ((lb.drop s.2.2.1.toNat).take (s.2.2.2.toNat - s.2.2.1.toNat)))) = edR la lb s := by
      unfold edR
      rw [low_pos la lowA _ (by omega), low_pos la lowA _ (by omega), low_str _ (fun r hr => lowB r (List.mem_of_mem_drop (List.mem_of_mem_take hr))), show s.2.2.2.toNat - s.2.2.1.toNat = (s.2.2.2 - s.2.2.1).toNat by omega]
      have a1 : ((s.1.toNat : Nat) : Int) = s.1 := by omega
      have a2 : ((s.2.1.toNat : Nat) : Int) = s.2.1 := by omega
      rw [a1, a2]
    obtain ⟨h', w1', w2, w3⟩ := ho.wr P.length (by rw [hlen]; omega) (edR la lb s)
    have w1' : Hp.st h (.p TS1) (.at n (P.length * 3)) (edR la lb s) = some h' := w1'
    have hset : (P.map (edR la lb) ++ List.replicate (s :: R).length zE).set P.length (edR la lb s) = (P ++ [s]).map (edR la lb) ++ List.replicate R.length zE := by
      have := set_rep (P.map (edR la lb)) (edR la lb s) zE R.length
      rw [List.length_map] at this
      rw [List.length_cons, this, List.map_append]
      rfl
    rw [hset] at w2
    obtain ⟨h2', g1, g2⟩ := ih (P ++ [s]) s.2.1 s.2.2.2 h' k' (by rw [List.append_assoc]; exact hP) (by omega) (by omega) h10 (w3.keep hk hn) (w3.free hf hnx) (by rw [w3.1]; exact hnx) w2 (by omega)
    rw [List.length_append] at g1
    refine ⟨h2', ?_, g2⟩
    rw [diffASCII_l0_eq, br_lt (by omega), diffASCII_j0_eq, hs, hrb.1, chk_le (by omega), chk_lt (by omega), chk_le (by omega), chk_le (by omega), chk_le (by omega), rd, obs, radr0, rlen0, chk_le (by omega), chk_lt (by omega)]
    show Option.bind (Hp.st h (.p TS1) (.at n (P.length * 3)) (s.1, (s.2.1, strOfBytes ((lb.drop s.2.2.1.toNat).take (s.2.2.2.toNat - s.2.2.1.toNat))))) _ = _
    rw [e1, w1', obs, wrap_id (by omega) (by omega)]
    exact g1
theorem rune_loop (K : Nat) {hb : Hp} {ra rb : Rf} {la lb : List Int} (hra : RdOk hb (.int .i32) ra la) (hrb : RdOk hb (.int .i32) rb lb) (okA : Okl la) (ha : la.length ≤ 1000) (hlb : lb.length ≤ 1000) (D : List Sp) (hD : D.length ≤ 3000) (n : Nat) (hn : hb.nx ≤ n) (hK : 10000 ≤ K) : ∀ (R P : List Sp) (i k : Int) (h : Hp) (k' : Nat), P ++ R = D → 0 ≤ i → 0 ≤ k → Ld (EM (Eqs la lb) la.length lb.length) R i k la.length lb.length → KeepH hb h → FreeH h → n < h.nx → HO h 74 TS1 n (P.map (edR la lb) ++ List.replicate R.length zE) → 2 * R.length + 1 ≤ k' →
    ∃ h', diffRunes_l0 K k' ra rb (.at n 0 D.length) i (pos la i.toNat : Int) D (D.length : Int) (P.length : Int) h = some (h', .at n 0 D.length) ∧ HO h' 74 TS1 n (D.map (edR la lb)) ∧ KeepH hb h' ∧ FreeH h' ∧ n < h'.nx := by
  intro R
  induction R with
  | nil =>
    intro P i k h k' hP hi hk0 hld hk hf hnx ho hk'
    obtain ⟨k', rfl⟩ : ∃ q, k' = q + 1 := ⟨k' - 1, by simp only [List.length_nil] at hk'; omega⟩
    rw [List.append_nil] at hP
    rw [show List.replicate ([] : List Sp).length zE = [] from rfl, List.append_nil, hP] at ho
    exact ⟨h, by rw [diffRunes_l0_eq, br_ge (by rw [hP]; omega)], ho, hk, hf, hnx⟩
  | cons s R ih =>
    intro P i k h k' hP hi hk0 hld hk hf hnx ho hk'
    simp only [List.length_cons] at hk'
    obtain ⟨k', rfl⟩ : ∃ q, k' = q + 2 := ⟨k' - 2, by omega⟩
    have hll : D.length = P.length + (R.length + 1) := by rw [← hP]; simp
    have hs : nth TS0 D (P.length : Int) = s := by rw [← hP]; exact nth_mid TS0 P s R
    obtain ⟨h1, h2, h3, h4, h5, h6, h7, h8, h9, h10⟩ := hld
    have rd1 := hra.2 h hk i.toNat s.1.toNat (by omega) (by omega)
    have rd2 := hra.2 h hk s.1.toNat s.2.1.toNat (by omega) (by omega)
    have rd3 := hrb.2 h hk s.2.2.1.toNat s.2.2.2.toNat (by omega) (by omega)
    have n1 := runesLen_ok K ((la.drop i.toNat).take (s.1.toNat - i.toNat)) (fun r hr => okA r (List.mem_of_mem_drop (List.mem_of_mem_take hr))) (by rw [List.length_take, List.length_drop]; omega) (by rw [List.length_take, List.length_drop]; omega)
    have n2 := runesLen_ok K ((la.drop s.1.toNat).take (s.2.1.toNat - s.1.toNat)) (fun r hr => okA r (List.mem_of_mem_drop (List.mem_of_mem_take hr))) (by rw [List.length_take, List.length_drop]; omega) (by rw [List.length_take, List.length_drop]; omega)
    have p1 := pos_add la i.toNat s.1.toNat (by omega)
    have p2 := pos_add la s.1.toNat s.2.1.toNat (by omega)
    have ps := pos_size la s.2.1.toNat
    have hsz := encs8_len la okA
    rw [← strOfRunes_size] at hsz
    have hlen : (P.map (edR la lb) ++ List.replicate (s :: R).length zE).length = D.length := by
      rw [List.length_append, List.length_map, List.length_replicate, List.length_cons]
      omega
    obtain ⟨h', w1', w2, w3⟩ := ho.wr P.length (by rw [hlen]; omega) (edR la lb s)
    have w1' : Hp.st h (.p TS1) (.at n (P.length * 3)) (edR la lb s) = some h' := w1'
    have hset : (P.map (edR la lb) ++ List.replicate (s :: R).length zE).set P.length (edR la lb s) = (P ++ [s]).map (edR la lb) ++ List.replicate R.length zE := by
      have := set_rep (P.map (edR la lb)) (edR la lb s) zE R.length
      rw [List.length_map] at this
      rw [List.length_cons, this, List.map_append]
      rfl
    rw [hset] at w2
    obtain ⟨h2', g1, g2⟩ := ih (P ++ [s]) s.2.1 s.2.2.2 h' k' (by rw [List.append_assoc]; exact hP) (by omega) (by omega) h10 (w3.keep hk hn) (w3.free hf hnx) (by rw [w3.1]; exact hnx) w2 (by omega)
    rw [List.length_append] at g1
    refine ⟨h2', ?_, g2⟩
    have e1 : ((pos la s.1.toNat : Int), ((pos la s.2.1.toNat : Int), strOfRunes ((lb.drop s.2.2.1.toNat).take (s.2.2.2.toNat - s.2.2.1.toNat)))) = edR la lb s := by
      unfold edR
      rw [show s.2.2.2.toNat - s.2.2.1.toNat = (s.2.2.2 - s.2.2.1).toNat by omega]
    rw [diffRunes_l0_eq, br_lt (by omega), diffRunes_j0_eq, hs, hra.1, hrb.1, chk_le (by omega), chk_lt (by omega), chk_le (by omega), chk_le (by omega), chk_le (by omega), rd1, obs, n1, obs, chk_le (by omega), chk_le (by omega), chk_le (by omega), rd2, obs, n2, obs, chk_le (by omega), chk_le (by omega), chk_le (by omega), rd3, obs, radr0, rlen0, chk_le (by omega), chk_lt (by omega)]
    have q1 : IntKind.wrap IntKind.i64 ((pos la i.toNat : Int) + ((encs8 ((la.drop i.toNat).take (s.1.toNat - i.toNat))).length : Int)) = (pos la s.1.toNat : Int) := by rw [wrap_id (by omega) (by omega)]; omega
    have q2 : IntKind.wrap IntKind.i64 ((pos la s.1.toNat : Int) + ((encs8 ((la.drop s.1.toNat).take (s.2.1.toNat - s.1.toNat))).length : Int)) = (pos la s.2.1.toNat : Int) := by rw [wrap_id (by omega) (by omega)]; omega
    rw [q1, q2]
    clear q1 q2
    show Option.bind (Hp.st h (.p TS1) (.at n (P.length * 3)) ((pos la s.1.toNat : Int), ((pos la s.2.1.toNat : Int), strOfRunes ((lb.drop s.2.2.1.toNat).take (s.2.2.2.toNat - s.2.2.1.toNat))))) _ = _
    rw [e1, w1', obs, wrap_id (by omega) (by omega)]
    exact g1
end Go.Proofs.Ytfglahmbnnkijaa.E
