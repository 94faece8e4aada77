/-
strconv.Quote and impl.VtUnquote in the print's form, over the library's tables.
-/
import Derived.Test.YthhehbocbhhbbaaDoorVs
import Derived.Test.YthhehbocbhhbbaaDoorSq
import Derived.Lib.PrintData
namespace Go.Proofs.YthhehbocbhhbbaaDoor.Gv
set_option linter.unusedVariables false
set_option linter.unusedSimpArgs false
open Go.RowKit Go.Proofs.YthhehbocbhhbbaaDoorW.PrintWords Go.Proofs.YthhehbocbhhbbaaDoor.Vp

def TabsQ (w : World) : Prop := Tabs w ∧ Lib.PrintTabsAt 3 4 5 6 Lib.goPrintTabs w
theorem slice_below {g : Nat} {k : IntKind} {t : List Nat} {w w' : World} (h : Lib.TabSlice g k t w) (hg : g < w.heap.size) (hb : Below w.heap.size w w') : Lib.TabSlice g k t w' := by
  obtain ⟨R, o, c, h1, h2⟩ := h
  refine ⟨R, o, c, (hb.cell (show (⟨g, 0, none⟩ : Addr).block < w.heap.size from hg)).trans h1, fun j hj => ?_⟩
  have hR : R < w.heap.size := Lib.lt_of_cell (h2 j hj)
  exact (hb.cell (show (⟨R, o + j, none⟩ : Addr).block < w.heap.size from hR)).trans (h2 j hj)
theorem TabsQ.below {w w' : World} (h : TabsQ w) (hb : Below w.heap.size w w') : TabsQ w' := by
  obtain ⟨h1, a, b, c, d, e⟩ := h
  have hl := h1.lt
  exact ⟨h1.below hb hl, slice_below a (by omega) hb, slice_below b (by omega) hb, slice_below c (by omega) hb, slice_below d (by omega) hb, e⟩

def strconv_Quote.f (s : ByteArray) : Option ByteArray := if s.size ≤ 1099511627776 then some (strOfNums (Lib.quoteZ Lib.goPrintTabs s)) else none
theorem strconv_Quote.calls (a0 : ByteArray) (r : ByteArray) (w : World) (hT : TabsQ w) (h : strconv_Quote.f a0 = some r) :
    Calls Tryd.prog 10 #[.string a0] w fun e w' => e = .returned (.string r) ∧ Below w.heap.size w w' := by
  unfold strconv_Quote.f at h
  by_cases hs : a0.size ≤ 1099511627776
  · rw [if_pos hs] at h
    obtain rfl := Option.some.inj h
    exact Tryd.strconv_Quote Lib.goPrintTabs a0 w (by omega) hT.2 hT.1.1
  · rw [if_neg hs] at h; cases h
abbrev impl_VtUnquote.f (s : ByteArray) : Option (ByteArray × Bool) := Vs.impl_VtUnquote.f s
theorem impl_VtUnquote.calls (a0 : ByteArray) (r1 : ByteArray) (r2 : Bool) (w : World) (hT : TabsQ w) (h : impl_VtUnquote.f a0 = some (r1, r2)) :
    Calls Tryd.prog 9 #[.string a0] w fun e w' => e = .returned (.tuple #[.string r1, .bool r2]) ∧ Below w.heap.size w w' := Vs.impl_VtUnquote.calls a0 r1 r2 w hT.1 h
end Go.Proofs.YthhehbocbhhbbaaDoor.Gv
