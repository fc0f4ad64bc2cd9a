import Derived.Test.YtmdgnglgabnhnaaDoorPx0
import Derived.Test.YtmdgnglgabnhnaaDoorXShelf
import Derived.Lib.RuneCount
import Derived.Shelf.Unicode.ValidAny
/- 'utf8.ValidString' and 'utf8.RuneCountInString', in the form in which the printed functions call them. -/
namespace Go.Proofs.YtmdgnglgabnhnaaDoorX
open Go.RowKit Go.Lib
/-- What the library's two tables hold. -/
structure Glob (w : World) : Prop where
  tabs : Lib.Utf8Tabs (Tryd.laysValid_ren.g 3) (Tryd.laysValid_ren.g 4) w
theorem Glob.below {w w1 : World} (h : Glob w) (hb : Below w.heap.size w w1) : Glob w1 := by
  refine ⟨⟨fun c hc => ?_, fun i hi => ?_⟩⟩
  · have h1 := h.tabs.1 c hc
    exact (hb.cell (World.block_lt_of_cell? w _ h1)).trans h1
  · have h1 := h.tabs.2 i hi
    exact ⟨(hb.cell (World.block_lt_of_cell? w _ h1.1)).trans h1.1, (hb.cell (World.block_lt_of_cell? w _ h1.2)).trans h1.2⟩
end Go.Proofs.YtmdgnglgabnhnaaDoorX
namespace Go.Proofs.YtmdgnglgabnhnaaDoor.P
open Go.RowKit Go.Proofs.YtmdgnglgabnhnaaDoorW.PrintWords Go.Proofs.YtmdgnglgabnhnaaDoorW.PrintLast Go.Proofs.YtmdgnglgabnhnaaDoorW.PrintMore
open Go.Proofs.YtmdgnglgabnhnaaDoorX
def utf8_ValidString.f (s : ByteArray) : Option Bool := if s.size ≤ 9223372036854775807 then some (Lib.validD s.data.toList) else none
def utf8_RuneCountInString.f (s : ByteArray) : Option Int := if s.size < 9223372036854775807 then some (Lib.runeCount s : Int) else none
theorem utf8_ValidString.calls (a0 : ByteArray) (r : Bool) (w : World) (hG_ : Glob w) (h : utf8_ValidString.f a0 = some r) :
    Calls Tryd.prog 34 #[.string a0] w fun e w' => e = .returned (.bool r) ∧ Below w.heap.size w w' := by
  unfold utf8_ValidString.f at h
  by_cases c : a0.size ≤ 9223372036854775807
  · rw [if_pos c] at h
    cases h
    exact Any.utf8_ValidString Tryd.laysValid a0 w c hG_.tabs
  · rw [if_neg c] at h
    cases h
theorem utf8_RuneCountInString.calls (a0 : ByteArray) (r : Int) (w : World) (h : utf8_RuneCountInString.f a0 = some r) :
    Calls Tryd.prog 30 #[.string a0] w fun e w' => e = .returned (.int .i64 r) ∧ Below w.heap.size w w' := by
  unfold utf8_RuneCountInString.f at h
  by_cases c : a0.size < 9223372036854775807
  · rw [if_pos c] at h
    cases h
    refine (Tryd.utf8_RuneCountInString a0 w c).mono ?_
    rintro e w' ⟨rfl, pos, rfl⟩
    exact ⟨rfl, below_alloc (Below.refl _ _) _⟩
  · rw [if_neg c] at h
    cases h
end Go.Proofs.YtmdgnglgabnhnaaDoor.P
