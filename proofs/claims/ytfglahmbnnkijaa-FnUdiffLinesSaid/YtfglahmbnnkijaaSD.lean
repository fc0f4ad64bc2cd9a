import Derived.Test.YtfglahmbnnkijaaSC
/- Edits applied to a text: by the library, and as specified. -/
set_option linter.unusedVariables false
set_option linter.unusedSimpArgs false
namespace Go.Proofs.Ytfglahmbnnkijaa.E
open Go.Ev Go.Lcs
/-! ### plain -/
/-- What is wrong with sorted edits: 0 nothing, 1 one lies outside, 2 two overlap. -/
def vchk (n : Int) : Int → List Ed → Nat
  | _, [] => 0
  | last, e :: L => if 0 ≤ e.1 ∧ e.1 ≤ e.2.1 ∧ e.2.1 ≤ n then (if e.1 < last then 2 else vchk n e.2.1 L) else 1
def apB (s : ByteArray) : ByteArray → Int → List Ed → ByteArray
  | X, at_, [] => X ++ s.extract at_.toNat s.size
  | X, at_, e :: L => apB s (X ++ (s.extract at_.toNat e.1.toNat ++ e.2.2)) e.2.1 L
theorem ex_size (s : ByteArray) (i j : Nat) (h1 : i ≤ j) (h2 : j ≤ s.size) : (s.extract i j).size = j - i := by
  rw [← B_size, B_extract, List.length_take, List.length_drop, B_size]
  omega
theorem ba_size_app (a b : ByteArray) : (a ++ b).size = a.size + b.size := size_app a b
theorem bytesI_app (a b : ByteArray) : bytesI (a ++ b) = bytesI a ++ bytesI b := by
  unfold bytesI
  have := B_append a b
  unfold B at this
  rw [this, List.map_append]
theorem bytesI_len (s : ByteArray) : (bytesI s).length = s.size := by
  unfold bytesI
  rw [List.length_map]
  exact szL s
theorem strOf_bytesI (s : ByteArray) : strOfBytes (bytesI s) = s := by
  apply ba_ext
  unfold strOfBytes bytesI
  rw [List.map_map]
  show (s.data.toList.map _) = _
  conv => rhs; rw [← List.map_id s.data.toList]
  apply List.map_congr_left
  intro b _
  show UInt8.ofNat (Int.toNat (b.toNat : Int)) = b
  rw [Int.toNat_natCast]
  simp
/-! ### the library -/
/-- An error that tells a text. -/
def ErrIs (h : Hp) (i : If) (s : ByteArray) : Prop := ∃ n, n < h.nx ∧ i = .pt 123 (.at n 0) ∧ h.ob n = some (.cells 125 1 [.v (.string s)])
end Go.Proofs.Ytfglahmbnnkijaa.E
