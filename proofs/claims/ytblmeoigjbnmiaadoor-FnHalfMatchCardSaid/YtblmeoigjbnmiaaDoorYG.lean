import Derived.Test.YtblmeoigjbnmiaaDoorYF
import Derived.Test.YtblmeoigjbnmiaaDoorEvOk
/- HalfMatch: the texts of a half match. -/
set_option linter.unusedVariables false
set_option linter.unusedSimpArgs false
namespace Go.Proofs.YtblmeoigjbnmiaaDoor.E
open Go.Ev
def txt (m : Int) (s : ByteArray) : Bool := decide ((s.size : Int) ≤ 4 * m) && (Go.Lib.validD s.data.toList && decide ((runesI s).length ≤ m))
theorem isDiffText_ok (K : Nat) (s : ByteArray) (m : Int) (h0 : 0 ≤ m) (hm : m ≤ 100000) (hs : s.size ≤ 9223372036854775806) (hK : 2 ≤ K) : IsDiffText K s m = some (txt m s) := by
  obtain ⟨K, rfl⟩ : ∃ m, K = m + 1 := ⟨K - 1, by omega⟩
  obtain ⟨K, rfl⟩ : ∃ m, K = m + 1 := ⟨K - 1, by omega⟩
  have e1 : ValidString (K + 1) s = validE s := rfl
  have e2 : RuneCountInString (K + 1) s = runeCountE s := rfl
  rw [IsDiffText_eq, wrap_id (by omega) (by omega), e1, e2]
  unfold validE runeCountE txt
  rw [if_pos (by omega), if_pos (by omega), runeCount_eq]
  simp only [obs]
  by_cases h1 : (s.size : Int) ≤ 4 * m
  · rw [br_le h1, decide_eq_true h1, Bool.true_and]
    cases Go.Lib.validD s.data.toList with
    | false => rfl
    | true =>
      rw [br_true, Bool.true_and, leI_eq]
  · rw [br_gt (by omega), decide_eq_false h1, Bool.false_and]
theorem txt_vt {m : Int} {s : ByteArray} (h : txt m s = true) : Vt s ∧ (runesI s).length ≤ m := by
  unfold txt at h
  simp only [Bool.and_eq_true, decide_eq_true_eq] at h
  exact h.2
theorem count_ok (K : Nat) {x : List Int} (hx : Okl x) (hl : x.length ≤ 1000000) (hK : 1 ≤ K) : RuneCountInString K (strOfRunes x) = some (x.length : Int) := by
  obtain ⟨K, rfl⟩ : ∃ m, K = m + 1 := ⟨K - 1, by omega⟩
  have e : RuneCountInString (K + 1) (strOfRunes x) = runeCountE (strOfRunes x) := rfl
  have hs := size_le hx
  rw [e]
  unfold runeCountE
  rw [if_pos (by omega), runeCount_eq, runesI_of hx]
theorem hm_step (K k : Nat) (h : Hp) (m : Nat) (x8 : List ByteArray) (h8 : x8.length = 5) (i : Nat) (hi : i < 5) {r : Rf} {T : List Int} (hl : Hp.ld h .sr (.at m i) = some r) (hr : Hp.rd h (.int .i32) r = some T) :
    DiffHalfMatch_l0 K (k + 2) x8 (.at m 0 5) (5 : Int) (i : Int) h = DiffHalfMatch_l0 K k (x8.set i (strOfRunes T)) (.at m 0 5) (5 : Int) ((i + 1 : Nat) : Int) h := by
  rw [DiffHalfMatch_l0_eq, br_lt (by omega), DiffHalfMatch_j1_eq, radr_at m i _ rfl, rlen_at, chk_le (by omega), chk_lt (by omega), hl, obs, hr, obs, h8, chk_le (by omega), chk_lt (by omega), Int.toNat_natCast, wrap_id (by omega) (by omega)]
  rfl
theorem DiffHM_ok (K : Nat) (X : TS0.den) (hX : X.1 = 1000000000) (x y : ByteArray) (lx : (runesI x).length ≤ 150) (ly : (runesI y).length ≤ 150) (hK : 4000000 ≤ K) :
    ∃ l, DiffHalfMatch K X x y = some l ∧ (l = [] ∨ ∃ T0 T1 T2 T3 T4 : List Int, l = [strOfRunes T0, strOfRunes T1, strOfRunes T2, strOfRunes T3, strOfRunes T4] ∧ T0 ++ (T4 ++ T1) = runesI x ∧ T2 ++ (T4 ++ T3) = runesI y ∧ (runesI x).length ≤ 2 * T4.length ∧ (runesI y).length ≤ 2 * T4.length) ∧
      ((max (runesI x).length (runesI y).length < 4 ∨ 2 * min (runesI x).length (runesI y).length < max (runesI x).length (runesI y).length) → l = []) := by
  obtain ⟨K, rfl⟩ : ∃ m, K = m + 1 := ⟨K - 1, by omega⟩
  rw [DiffHalfMatch_eq, chk_nle (by omega), chk_nle (by omega)]
  have f0 : Fr Hp.empty := fun _ _ => rfl
  have tA := new_tx Hp.empty (runesI x)
  have f1 : Fr (Hp.new Hp.empty 21 (.p (.int .i32)) (runesI x)) := f0.push _
  have tB := new_tx (Hp.new Hp.empty 21 (.p (.int .i32)) (runesI x)) (runesI y)
  have f2 : Fr (Hp.new (Hp.new Hp.empty 21 (.p (.int .i32)) (runesI x)) 21 (.p (.int .i32)) (runesI y)) := f1.push _
  have tA2 : TxO (Hp.new (Hp.new Hp.empty 21 (.p (.int .i32)) (runesI x)) 21 (.p (.int .i32)) (runesI y)) 0 (runesI x) := tA.push (Nat.lt_succ_self 0) _
  obtain ⟨⟨h', r, e, hr⟩, hnone⟩ := dh_ok K _ X hX 0 1 (runesI x) (runesI y) f2 tA2 tB (by show 0 < 2; omega) (by show 1 < 2; omega) lx ly (by omega)
  have e' : diffHalfMatch K (Hp.new (Hp.new Hp.empty (21 : TypeId) (.p (.int (.i32))) (runesI x)) (21 : TypeId) (.p (.int (.i32))) (runesI y)) X (Rf.at 0 0 (List.length (runesI x))) (Rf.at (Nat.succ 0) 0 (List.length (runesI y))) = some (h', r) := e
  rw [e', obs]
  rcases hr with rfl | ⟨m, rfl, r0, r1, r2, r3, r4, T0, T1, T2, T3, T4, o, g0, g1, g2, g3, g4, k1, k2, k3, k4⟩
  · exact ⟨[], by rw [sureN, nilN], .inl rfl, fun _ => rfl⟩
  · refine ⟨_, ?_, .inr ⟨T0, T1, T2, T3, T4, rfl, k1, k2, k3, k4⟩, fun hc => ?_⟩
    · obtain ⟨k, rfl⟩ : ∃ q, K = q + 12 := ⟨K - 12, by omega⟩
      show chk (rsure (.at m 0 5)) (br (rnil (.at m 0 5)) (some []) (DiffHalfMatch_j0 (k + 12) (k + 12) (.at m 0 5) h')) = _
      rw [sure5, nil5, DiffHalfMatch_j0_eq, rlen_at, chk_le (by omega), chk_le (by omega), chk_lt (by omega)]
      have i0 : DiffHalfMatch_l0 (k + 12) (k + 11) (List.replicate (Int.toNat ((5 : Nat) : Int)) (ByteArray.mk (List.toArray []))) (.at m 0 5) ((5 : Nat) : Int) (0 : Int) h' = DiffHalfMatch_l0 (k + 12) (k + 9 + 2) (List.replicate 5 (ByteArray.mk (List.toArray []))) (.at m 0 5) (5 : Int) ((0 : Nat) : Int) h' := rfl
      rw [i0, hm_step (k + 12) (k + 9) h' m _ rfl 0 (by omega) (ld5_0 o) g0, hm_step (k + 12) (k + 7) h' m _ rfl (0 + 1) (by omega) (ld5_1 o) g1, hm_step (k + 12) (k + 5) h' m _ rfl (0 + 1 + 1) (by omega) (ld5_2 o) g2, hm_step (k + 12) (k + 3) h' m _ rfl (0 + 1 + 1 + 1) (by omega) (ld5_3 o) g3, hm_step (k + 12) (k + 1) h' m _ rfl (0 + 1 + 1 + 1 + 1) (by omega) (ld5_4 o) g4, DiffHalfMatch_l0_eq, br_ge (by omega)]
      rfl
    · obtain ⟨h2, e2⟩ := hnone hc
      rw [e] at e2
      cases e2
theorem HM_ok (K : Nat) (x y : ByteArray) (lx : (runesI x).length ≤ 150) (ly : (runesI y).length ≤ 150) (hK : 5000000 ≤ K) :
    ∃ l, HalfMatch K x y = some l ∧ (l = [] ∨ ∃ T0 T1 T2 T3 T4 : List Int, l = [strOfRunes T0, strOfRunes T1, strOfRunes T2, strOfRunes T3, strOfRunes T4] ∧ T0 ++ (T4 ++ T1) = runesI x ∧ T2 ++ (T4 ++ T3) = runesI y ∧ (runesI x).length ≤ 2 * T4.length ∧ (runesI y).length ≤ 2 * T4.length) ∧
      ((max (runesI x).length (runesI y).length < 4 ∨ 2 * min (runesI x).length (runesI y).length < max (runesI x).length (runesI y).length) → l = []) := by
  obtain ⟨k, rfl⟩ : ∃ q, K = q + 3 := ⟨K - 3, by omega⟩
  rw [HalfMatch_eq, fast_eq, New_eq, obs, obs]
  obtain ⟨l, h1, h2, h3⟩ := DiffHM_ok (k + 2) ((1000000000 : Int), ((4 : Int), ((1000 : Int), (4602678819172646912, ((4 : Int), ((32 : Int), 4602678819172646912)))))) rfl x y lx ly (by omega)
  rw [h1, obs]
  refine ⟨l, ?_, h2, h3⟩
  rw [chk_lt (by rcases h2 with rfl | ⟨T0, T1, T2, T3, T4, rfl, _⟩ <;> simp)]
/-- The table with questions of floats that compute, too. -/
noncomputable def Td : Tab := { Tc with
  f2iOk := fun k b => (floatToIntVal .f64 b k).isSome
  faOk := fun o x y => (floatBits o .f64 x y).isSome }
theorem Td_eq : Td = T := by
  rw [← Tc_eq]
  have h1 : (fun (k : IntKind) (b : Nat) => (floatToIntVal .f64 b k).isSome) = Tc.f2iOk := by
    funext k b
    show _ = f2iOkI k b
    cases h : (floatToIntVal .f64 b k).isSome <;> simp [f2iOkI, h]
  have h2 : (fun (o : BinOp) (x y : Nat) => (floatBits o .f64 x y).isSome) = Tc.faOk := by
    funext o x y
    show _ = faOkI o x y
    cases h : (floatBits o .f64 x y).isSome <;> simp [faOkI, h]
  unfold Td
  rw [h1, h2]
noncomputable def HMT (K : Nat) (x0 x1 : ByteArray) : Option (List ByteArray) := callFT Td K 8 (x0, x1, ())
theorem HMT_eq (K : Nat) (x0 x1 : ByteArray) : HMT K x0 x1 = HalfMatch K x0 x1 := by
  unfold HMT
  rw [Td_eq]
  rfl
set_option maxRecDepth 100000 in
theorem awakeHT (K : Nat) : (HMT (K + 60) (ByteArray.mk (List.toArray ((49 : UInt8) :: ((50 : UInt8) :: ((51 : UInt8) :: ((52 : UInt8) :: ((53 : UInt8) :: ((54 : UInt8) :: ((55 : UInt8) :: ((56 : UInt8) :: ((57 : UInt8) :: ((48 : UInt8) :: [])))))))))))) (ByteArray.mk (List.toArray ((97 : UInt8) :: ((51 : UInt8) :: ((52 : UInt8) :: ((53 : UInt8) :: ((54 : UInt8) :: ((55 : UInt8) :: ((56 : UInt8) :: ((122 : UInt8) :: []))))))))))).map List.length = some 5 := by kernel_rfl
theorem awakeH (K : Nat) : ∃ l : List ByteArray, HalfMatch (K + 60) (ByteArray.mk (List.toArray ((49 : UInt8) :: ((50 : UInt8) :: ((51 : UInt8) :: ((52 : UInt8) :: ((53 : UInt8) :: ((54 : UInt8) :: ((55 : UInt8) :: ((56 : UInt8) :: ((57 : UInt8) :: ((48 : UInt8) :: [])))))))))))) (ByteArray.mk (List.toArray ((97 : UInt8) :: ((51 : UInt8) :: ((52 : UInt8) :: ((53 : UInt8) :: ((54 : UInt8) :: ((55 : UInt8) :: ((56 : UInt8) :: ((122 : UInt8) :: [])))))))))) = some l ∧ l.length = 5 := by
  have h := awakeHT K
  rw [HMT_eq] at h
  obtain ⟨l, h1, h2⟩ := Option.map_eq_some_iff.1 h
  exact ⟨l, h1, h2⟩
end Go.Proofs.YtblmeoigjbnmiaaDoor.E
