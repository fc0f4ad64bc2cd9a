import Derived.Test.YtmdgnglgabnhnaaXMap
import Derived.OpenShut
import Derived.Lib.Buffer
/- 'MatchAlphabet' and 'impl.Alphabet': the bits of the places of each byte. -/
namespace Go.Proofs.Ytmdgnglgabnhnaa.P
open Go.RowKit Go.Maps Go.Proofs.YtmdgnglgabnhnaaW.PrintWords Go.Proofs.YtmdgnglgabnhnaaW.PrintLast Go.Proofs.YtmdgnglgabnhnaaW.PrintMore
open Go.Proofs.YtmdgnglgabnhnaaX
set_option linter.unusedVariables false
set_option linter.unusedSimpArgs false
def byteK : KeyK Try.prog 5 Int where
  val x := .int .u8 x
  lit x := .int .u8 x
  ok x := 0 ≤ x ∧ x ≤ 255
  key x h := keyOf_int_mk Try.underlying5 (by show (decide ((0 : Int) ≤ x) && decide (x ≤ 255)) = true; simp; exact h)
  inj x y h := by simpa using h
  isKey x := trivial
/-- Each byte is in the map, without bits. -/
def alpha1 : List Int → (Int → Option Int) → Int → Option Int
  | [], g => g
  | c :: r, g => alpha1 r (if (g c).isSome then g else upd g c 0)
/-- The bits of the places from the i-th on. -/
def alpha2 (n : Nat) : List Int → Nat → (Int → Option Int) → Int → Option Int
  | [], _, g => g
  | c :: r, i, g => alpha2 n r (i + 1) (upd g c (Go.bits .or .i64 ((g c).getD 0) (wrap64 (IntKind.u64.wrap (2 ^ (n - i - 1))))))
def alphaG (s : ByteArray) : Int → Option Int := alpha2 s.size (bytesOf s) 0 (alpha1 (bytesOf s) fun _ => none)
theorem bytes_drop (s : ByteArray) (i : Nat) (h : i < s.size) : (bytesOf s).drop i = rd (bytesOf s) (i : Int) :: (bytesOf s).drop (i + 1) := by
  have h' : i < (bytesOf s).length := by rw [bytesOf_length]; exact h
  rw [List.drop_eq_getElem_cons h']
  simp [rd, List.getD_eq_getElem?_getD, List.getElem?_eq_getElem h']
theorem byte_ok (s : ByteArray) (i : Nat) (h : i < s.size) : 0 ≤ rd (bytesOf s) (i : Int) ∧ rd (bytesOf s) (i : Int) ≤ 255 := by
  have h' : i < (bytesOf s).length := by rw [bytesOf_length]; exact h
  have : rd (bytesOf s) (i : Int) = (bytesOf s)[i] := by simp [rd, List.getD_eq_getElem?_getD, List.getElem?_eq_getElem h']
  rw [this]
  simp only [bytesOf, List.getElem_map]
  have := (s.data.toList[i]'(by simpa [bytesOf_length] using h')).toNat_lt
  omega
theorem cell_same {w w' : World} {b : Nat} (h : w'.heap[b]? = w.heap[b]?) (i : Nat) : w'.cell? ⟨b, i, none⟩ = w.cell? ⟨b, i, none⟩ := by simp [World.cell?, h]
theorem law5 : Keyed Try.prog 5 := int_keyed Try.underlying5
theorem zero3 (w : World) : (zeroValue 3).run Try.prog w = .ok (.int .i64 0) w := by kernel_rfl
set_option maxHeartbeats 4000000 in
set_option maxRecDepth 100000 in
theorem matchAlphabet (p0_ : Value) (s : ByteArray) (hs : s.size ≤ 62) (w : World) :
    Calls Try.prog 11 #[p0_, .string s] w fun e w' => ∃ b n, e = .returned (.map (some b)) ∧ MapIs byteK 3 w' b n (alphaG s) ∧ w.heap.size ≤ b ∧ Below w.heap.size w w' := by
  have hmm := @run_makeMap Try.prog
  have hcv := fun w => Lib.run_convert_string_bytes (P := Try.prog) w 9 40 5 s Try.underlying9 Try.underlying40 Try.underlying5
  generalize hw1 : w.alloc (.map #[] 0) = w1 at *
  have hM0 : MapIs byteK 3 w1 w.heap.size 0 (fun _ => none) := hw1 ▸ MapIs.made w
  have hb1 : Below w.heap.size w w1 := hw1 ▸ below_alloc (Below.refl _ _) _
  generalize hw2 : Lib.bytesWorld w1 5 s = w2
  have hM2 : MapIs byteK 3 w2 w.heap.size 0 (fun _ => none) := MapIs.old hM0 (hw2 ▸ Go.Joins.below_bytesWorld _ _ _ _ (Nat.le_refl _))
  have hb2 : Below w.heap.size w w2 := hb1.trans (hw2 ▸ Go.Joins.below_bytesWorld _ _ _ _ hb1.size)
  have hR2 : ReadsInt w2 .u8 (some ⟨w1.heap.size, 0, none⟩) s.size (bytesOf s) := hw2 ▸ bytes_reads w1 5 s (by omega)
  have hne : w.heap.size < w1.heap.size := hM0.lt
  go_enter Try.func11, Try.ntmps11
  go_wp2
  obtain ⟨G, hG⟩ : ∃ G, alpha1 (bytesOf s) (fun _ => none) = G := ⟨_, rfl⟩
  go_loopg [20] (s.size + 1) (fun kq v20 w' => ∃ (i n : Nat) (g : Int → Option Int), v20 = .int .i64 (i : Int) ∧ Aside0 (i + kq = s.size + 1 ∧ i ≤ s.size ∧ n ≤ i) ∧ Aside0 (alpha1 ((bytesOf s).drop i) g = G) ∧ Aside0 (MapIs byteK 3 w' w.heap.size n g) ∧ Aside0 (w'.heap[w1.heap.size]? = w2.heap[w1.heap.size]?) ∧ Aside0 (w1.heap.size < w'.heap.size) ∧ Aside0 (Below w.heap.size w w'))
  case atStart => exact ⟨0, 0, _, rfl, ⟨⟨by omega, by omega, by omega⟩⟩, ⟨hG⟩, ⟨hM2⟩, ⟨rfl⟩, ⟨by rw [← hw2, Lib.bytesWorld_size]; omega⟩, ⟨hb2⟩⟩
  case round =>
    obtain ⟨i, n, g, rfl, HK, HA, HM, HF, HL, HB⟩ := hrel
    cases gk with
    | zero => exact absurd HK.out (by omega)
    | succ k1 =>
      by_cases c3 : i < s.size
      · have c3b0 : decide ((i : Int) < (s.size : Int)) = true := decide_eq_true (by omega)
        have c3b1 : decide (i < s.size) = true := decide_eq_true c3
        have hA := HA.out
        rw [bytes_drop s i c3] at hA
        unfold alpha1 at hA
        obtain ⟨ad, ead, hc0⟩ := hR2.at_ (i : Int) (by omega) (by omega)
        cases ead
        rw [Lib.addr_add, Nat.zero_add, Int.toNat_natCast] at hc0
        have hc := (cell_same HF.out i).trans hc0
        have hok := byte_ok s i c3
        generalize rd (bytesOf s) (i : Int) = c at *
        by_cases c4 : (g c).isSome = true
        · rw [if_pos c4] at hA
          have hA' := Aside0.mk hA
          clear hA
          go_wp2_with (first | (at_lookup; refine MapIs.look_ok (K := byteK) HM.out rfl _ _ rfl law5 Try.underlying31 Try.underlying3 (zero3 _) rfl c rfl hok ?_) | go_in)
          go_roundg k1
          case measure => omega
          case rel => exact ⟨i + 1, n, g, by simp only [Value.int.injEq, true_and]; omega, ⟨by have := HK.out; omega⟩, hA', HM, HF, HL, HB⟩
        · rw [if_neg c4] at hA
          have c4b : (g c).isSome = false := by simpa using c4
          have hA' := Aside0.mk hA
          clear hA c4
          go_wp2_with (first | (at_lookup; refine MapIs.look_ok (K := byteK) HM.out rfl _ _ rfl law5 Try.underlying31 Try.underlying3 (zero3 _) rfl c rfl hok ?_) | (at_mapUpdate; refine MapIs.store (K := byteK) HM.out rfl _ _ _ rfl law5 Try.underlying31 Try.underlying3 rfl (by have := HK.out; unfold maxLen; omega) c rfl hok 0 rfl rfl ?_; intro w5 hM5 hg5) | go_in)
          go_roundg k1
          case measure => omega
          case rel => exact ⟨i + 1, n + 1, upd g c 0, by simp only [Value.int.injEq, true_and]; omega, ⟨by have := HK.out; omega⟩, hA', ⟨hM5⟩, ⟨(hg5.block _ HL.out (by simp; omega)).trans HF.out⟩, ⟨Nat.lt_of_lt_of_le HL.out hg5.size⟩, ⟨HB.out.grown hg5 HB.out.size (fun j hj => by cases hj; exact Nat.le_refl _)⟩⟩
      · have c3b0 : decide ((i : Int) < (s.size : Int)) = false := decide_eq_false (by omega)
        have c3b1 : decide (i < s.size) = false := decide_eq_false c3
        have hA := HA.out
        rw [List.drop_eq_nil_of_le (by rw [bytesOf_length]; omega)] at hA
        unfold alpha1 at hA
        clear HA
        have HK := Aside0.mk HK.out
        go_wp2
        go_loopg [37, 11] (s.size + 1) (fun kq v37 v11 w' => ∃ (i n : Nat) (g : Int → Option Int), v37 = .int .i64 (i : Int) ∧ v11 = .int .i64 (i : Int) ∧ Aside0 (i + kq = s.size + 1 ∧ i ≤ s.size ∧ n ≤ s.size + i) ∧ Aside0 (alpha2 s.size ((bytesOf s).drop i) i g = alphaG s) ∧ Aside0 (MapIs byteK 3 w' w.heap.size n g) ∧ Aside0 (w'.heap[w1.heap.size]? = w2.heap[w1.heap.size]?) ∧ Aside0 (w1.heap.size < w'.heap.size) ∧ Aside0 (Below w.heap.size w w'))
        case atStart => exact ⟨0, n, g, rfl, rfl, ⟨⟨by omega, by omega, by have := HK.out; omega⟩⟩, ⟨by rw [List.drop_zero, hA, ← hG]; rfl⟩, HM, HF, HL, HB⟩
        case round =>
          clear HK hA HM HF HL HB
          obtain ⟨i, n, g, rfl, rfl, HK, HA, HM, HF, HL, HB⟩ := hrel
          cases gk with
          | zero => exact absurd HK.out (by omega)
          | succ k1 =>
            by_cases c3 : i < s.size
            · have c3b0 : decide ((i : Int) < (s.size : Int)) = true := decide_eq_true (by omega)
              have c3b1 : decide (i < s.size) = true := decide_eq_true c3
              have hA := HA.out
              rw [bytes_drop s i c3] at hA
              unfold alpha2 at hA
              obtain ⟨ad, ead, hc0⟩ := hR2.at_ (i : Int) (by omega) (by omega)
              cases ead
              rw [Lib.addr_add, Nat.zero_add, Int.toNat_natCast] at hc0
              have hc := (cell_same HF.out i).trans hc0
              have hok := byte_ok s i c3
              generalize rd (bytesOf s) (i : Int) = c at *
              have hA' := Aside0.mk hA
              clear hA
              go_wp2_with (first | (at_lookup; refine MapIs.look (K := byteK) HM.out rfl _ _ rfl law5 Try.underlying31 Try.underlying3 (zero3 _) rfl c rfl hok ?_) | (at_mapUpdate; refine MapIs.store (K := byteK) HM.out rfl _ _ _ rfl law5 Try.underlying31 Try.underlying3 rfl (by have := HK.out; unfold maxLen; omega) c rfl hok _ rfl (wf_bits _ _ _ _) ?_; intro w5 hM5 hg5) | go_in)
              go_roundg k1
              case measure => omega
              case rel => exact ⟨i + 1, n + 1, _, by simp only [Value.int.injEq, true_and]; omega, by simp only [Value.int.injEq, true_and]; omega, ⟨by have := HK.out; omega⟩, hA', ⟨hM5⟩, ⟨(hg5.block _ HL.out (by simp; omega)).trans HF.out⟩, ⟨Nat.lt_of_lt_of_le HL.out hg5.size⟩, ⟨HB.out.grown hg5 HB.out.size (fun j hj => by cases hj; exact Nat.le_refl _)⟩⟩
            · have c3b0 : decide ((i : Int) < (s.size : Int)) = false := decide_eq_false (by omega)
              have c3b1 : decide (i < s.size) = false := decide_eq_false c3
              have hA := HA.out
              rw [List.drop_eq_nil_of_le (by rw [bytesOf_length]; omega)] at hA
              unfold alpha2 at hA
              subst hA
              go_wp2
              go_ret
              exact ⟨w.heap.size, n, rfl, HM.out, Nat.le_refl _, HB.out⟩
/-- The letters from b on. -/
def lettersFrom (g : Int → Option Int) : Nat → Nat → List (S25)
  | 0, _ => []
  | m + 1, b => (match g (b : Int) with | some v => [⟨(b : Int), v⟩] | none => []) ++ lettersFrom g m (b + 1)
def impl_Alphabet.f (s : ByteArray) : Option (List (S25)) := if s.size ≤ 62 then some (lettersFrom (alphaG s) 256 0) else none
theorem map_ne_row {α β : Type} {P : Program} {k e e' : TypeId} {K : KeyK P k α} {w : World} {b n base : Nat} {g : α → Option Int} {d : Kd β} {ok : Nat → Prop} {v : Value} {xs : List β} (h : MapIs K e w b n g) (hR : d.R e' w base ok v xs) : some b ≠ v.ownBlock := by
  intro he
  obtain ⟨_, _, _, q, _, cells, hc⟩ := (Kd.R_bound hR).1 b he.symm
  obtain ⟨D, ⟨es, clock, h1, _⟩, _⟩ := h
  rw [hc] at h1
  cases h1
set_option maxHeartbeats 4000000 in
set_option maxRecDepth 100000 in
theorem impl_Alphabet.calls (a0 : ByteArray) (r : List (S25)) (w : World) (h : impl_Alphabet.f a0 = some r) :
    Calls Try.prog 5 #[.string a0] w fun e w' => ∃ v0_ : Value, e = .returned (v0_) ∧ Kd.R k25 25 w' w.heap.size (fun _ => True) v0_ r ∧ Below w.heap.size w w' := by
  unfold impl_Alphabet.f at h
  by_cases hs : a0.size ≤ 62
  case neg => rw [if_neg hs] at h; cases h
  rw [if_pos hs] at h
  have hr := Option.some.inj h
  clear h
  have HB := Aside0.mk (Below.refl w.heap.size w)
  go_enter Try.func5, Try.ntmps5
  go_wp2_with (first | (go_at_call 10; (with_reducible refine (impl_plain.calls _ rfl).mono ?_); rintro e w3 ⟨v3, rfl, hb3⟩; have n0_ := Aside0.mk (below_step HB.out hb3); clear HB hb3; have HB := n0_; clear n0_) | (go_at_call 11; refine (matchAlphabet _ a0 hs _).mono ?_; rintro e w4 ⟨b, n, rfl, hM, hbb, hb4⟩; have n0_ := Aside0.mk (below_step HB.out hb4); have n1_ : w.heap.size ≤ b := Nat.le_trans HB.out.size hbb; clear HB hb4 hbb; have HB := n0_; have HM := Aside0.mk hM; clear n0_ hM))
  go_loopg [4, 5] (257) (fun kq v4 v5 w' => ∃ (i : Nat) (acc : List (S25)), v5 = .int .i64 (i : Int) ∧ Aside0 (i + kq = 257 ∧ i ≤ 256 ∧ acc.length ≤ i) ∧ Aside0 (acc ++ lettersFrom (alphaG a0) (256 - i) i = r) ∧ Aside0 (Kd.R k25 25 w' w.heap.size (fun _ => True) v4 acc) ∧ Aside0 (MapIs byteK 3 w' b n (alphaG a0)) ∧ Aside0 (Below w.heap.size w w'))
  case atStart => exact ⟨0, [], rfl, ⟨⟨by omega, by omega, by simp⟩⟩, ⟨hr⟩, ⟨Kd.R_nil _ _ _ _ _⟩, HM, HB⟩
  case round =>
    clear HM HB
    obtain ⟨i, acc, rfl, HK, HA, HO, HM, HB⟩ := hrel
    cases gk with
    | zero => exact absurd HK.out (by omega)
    | succ k1 =>
      by_cases c3 : i < 256
      · have c3b0 : decide ((i : Int) < 256) = true := decide_eq_true (by omega)
        have c3b1 : decide (i < 256) = true := decide_eq_true c3
        have hu8 : IntKind.u8.wrap (i : Int) = i := IntWalk.u8_in _ (by omega)
        have hA := HA.out
        rw [show 256 - i = (255 - i) + 1 from by omega] at hA
        simp only [lettersFrom] at hA
        cases hg : alphaG a0 (i : Int) with
        | none =>
          rw [hg, List.nil_append, show 255 - i = 256 - (i + 1) from by omega] at hA
          go_wp2_with (first | (at_lookup; refine MapIs.look_ok (K := byteK) HM.out rfl _ _ rfl law5 Try.underlying31 Try.underlying3 (zero3 _) rfl (i : Int) rfl ⟨by omega, by omega⟩ ?_; rw [hg]) | go_in)
          go_roundg k1
          case measure => omega
          case rel => exact ⟨i + 1, acc, by simp only [Value.int.injEq, true_and]; omega, ⟨by have := HK.out; omega⟩, ⟨hA⟩, HO, HM, HB⟩
        | some v =>
          rw [hg, ← List.append_assoc, show 255 - i = 256 - (i + 1) from by omega] at hA
          go_wp2_with (first | (at_lookup; refine MapIs.look_ok (K := byteK) HM.out rfl _ _ rfl law5 Try.underlying31 Try.underlying3 (zero3 _) rfl (i : Int) rfl ⟨by omega, by omega⟩ ?_; rw [hg]) | ((with_reducible refine gate_builtin (b := .append) (xs := #[.tmp 23, .tmp 28]) rfl ?_); at_builtin; refine Kd.R_append k25 (w0 := w) w.heap.size rfl (.tmp 23) (.tmp 28) 22 25 (.agg #[(.int .u8 0), (.int .i64 0)]) 16 rfl Try.underlying22 (by kernel_rfl) rfl (by decide) (by omega) u4 acc (⟨(i : Int), v⟩ : S25) [.int .u8 (i : Int), .int .i64 v] (fun _ => True) (fun _ => False) rfl (by first | (go_simp; done) | (go_simp; rfl)) ?aP (fun _ hk => hk.elim) ?aF ?aO ?aB ?aS ?aL ?_; (case aP => exact k25_mkM _ _ _ (⟨(i : Int), v⟩ : S25)); (case aB => exact HB.out); (case aF => exact (fun _ _ => trivial)); (case aO => exact HO.out); (case aS => exact HB.out.size); (case aL => have := HK.out; omega); intro v113 w8 ho hb hg8 hat) | go_in)
          go_roundg k1
          case measure => omega
          case rel => exact ⟨i + 1, acc ++ [⟨(i : Int), v⟩], by simp only [Value.int.injEq, true_and]; omega, ⟨by have := HK.out; rw [List.length_append, List.length_singleton]; omega⟩, ⟨hA⟩, ⟨ho⟩, ⟨MapIs.grown HM.out hg8 (map_ne_row HM.out HO.out)⟩, ⟨hb⟩⟩
      · have c3b0 : decide ((i : Int) < 256) = false := decide_eq_false (by omega)
        have c3b1 : decide (i < 256) = false := decide_eq_false c3
        have hA := HA.out
        rw [show 256 - i = 0 from by omega] at hA
        simp only [lettersFrom, List.append_nil] at hA
        subst hA
        go_wp2
        go_ret
        exact ⟨_, rfl, HO.out, HB.out⟩
end Go.Proofs.Ytmdgnglgabnhnaa.P
