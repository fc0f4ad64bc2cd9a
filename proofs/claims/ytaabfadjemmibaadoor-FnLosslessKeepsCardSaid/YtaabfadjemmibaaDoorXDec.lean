import Derived.Test.YtaabfadjemmibaaDoorPx0
import Derived.Test.YtaabfadjemmibaaDoorXShelf
import Derived.Lib.RuneCount
import Derived.Shelf.Unicode.DecodeAny
import Derived.Shelf.Unicode.DecodeLast
/- 'utf8.DecodeRuneInString', 'utf8.DecodeLastRuneInString' and 'utf8.RuneCountInString', in the form in which the printed functions call them. -/
namespace Go.Proofs.YtaabfadjemmibaaDoorX
open Go.RowKit Go.Lib
/-- What the library's two tables hold. -/
structure Glob (w : World) : Prop where
  tabs : Lib.Utf8Tabs (Tryd.lays197_ren.g 3) (Tryd.lays197_ren.g 4) w
theorem Glob.below {w w1 : World} (h : Glob w) (hb : Below w.heap.size w w1) : Glob w1 := by
  refine ⟨⟨fun c hc => ?_, fun i hi => ?_⟩⟩
  · have h1 := h.tabs.1 c hc
    exact (hb.cell (World.block_lt_of_cell? w _ h1)).trans h1
  · have h1 := h.tabs.2 i hi
    exact ⟨(hb.cell (World.block_lt_of_cell? w _ h1.1)).trans h1.1, (hb.cell (World.block_lt_of_cell? w _ h1.2)).trans h1.2⟩
end Go.Proofs.YtaabfadjemmibaaDoorX
namespace Go.Proofs.YtaabfadjemmibaaDoor.P
open Go.RowKit Go.Proofs.YtaabfadjemmibaaDoorW.PrintWords Go.Proofs.YtaabfadjemmibaaDoorW.PrintLast Go.Proofs.YtaabfadjemmibaaDoorW.PrintMore
open Go.Proofs.YtaabfadjemmibaaDoorX
def utf8_DecodeRuneInString.f (s : ByteArray) : Option (Int × Int) := some (((Lib.decodeGo s).1 : Int), ((Lib.decodeGo s).2 : Int))
def utf8_DecodeLastRuneInString.f (s : ByteArray) : Option (Int × Int) := if s.size ≤ 9223372036854775807 then some (((Lib.decodeLastL s.data.toList).1 : Int), ((Lib.decodeLastL s.data.toList).2 : Int)) else none
def utf8_RuneCountInString.f (s : ByteArray) : Option Int := if s.size < 9223372036854775807 then some (Lib.runeCount s : Int) else none
theorem utf8_DecodeRuneInString.calls (a0 : ByteArray) (r0 r1 : Int) (w : World) (hG_ : Glob w) (h : utf8_DecodeRuneInString.f a0 = some (r0, r1)) :
    Calls Tryd.prog 48 #[.string a0] w fun e w' => e = .returned (.tuple #[.int .i32 r0, .int .i64 r1]) ∧ Below w.heap.size w w' := by
  unfold utf8_DecodeRuneInString.f at h
  cases h
  exact Any.utf8_DecodeRuneInString Tryd.lays197 a0 w hG_.tabs
theorem utf8_DecodeLastRuneInString.calls (a0 : ByteArray) (r0 r1 : Int) (w : World) (hG_ : Glob w) (h : utf8_DecodeLastRuneInString.f a0 = some (r0, r1)) :
    Calls Tryd.prog 57 #[.string a0] w fun e w' => e = .returned (.tuple #[.int .i32 r0, .int .i64 r1]) ∧ Below w.heap.size w w' := by
  unfold utf8_DecodeLastRuneInString.f at h
  by_cases c : a0.size ≤ 9223372036854775807
  · rw [if_pos c] at h
    cases h
    exact Any.utf8_DecodeLastRuneInString Tryd.lays271 a0 w c hG_.tabs
  · rw [if_neg c] at h
    cases h
theorem utf8_RuneCountInString.calls (a0 : ByteArray) (r : Int) (w : World) (h : utf8_RuneCountInString.f a0 = some r) :
    Calls Tryd.prog 54 #[.string a0] w fun e w' => e = .returned (.int .i64 r) ∧ Below w.heap.size w w' := by
  unfold utf8_RuneCountInString.f at h
  by_cases c : a0.size < 9223372036854775807
  · rw [if_pos c] at h
    cases h
    refine (Tryd.utf8_RuneCountInString a0 w c).mono ?_
    rintro e w' ⟨rfl, pos, rfl⟩
    exact ⟨rfl, below_alloc (Below.refl _ _) _⟩
  · rw [if_neg c] at h
    cases h
end Go.Proofs.YtaabfadjemmibaaDoor.P
