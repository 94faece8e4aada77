/-
What is proved: what varParseString, DoorUnquote and impl.VtUnquote answer, in plain words, for every text.
-/
import Derived.Test.YthhehbocbhhbbaaDoorPn
import Derived.Test.YthhehbocbhhbbaaDoorShelf
import Derived.Lib.BufferOld
import Derived.Lib.RuneBytes
import Derived.Lib.RuneLoops
import Derived.Lib.TrimU
import Derived.Lib.DecodeN
import Derived.LaidLaws
namespace Go.Proofs.YthhehbocbhhbbaaDoor.Vp
set_option linter.unusedVariables false
set_option linter.unusedSimpArgs false
open Go.RowKit Go.Proofs.YthhehbocbhhbbaaDoor.Pn

/-- The library's tables lie as they are laid. -/
def Tabs (w : World) : Prop := Lib.Utf8Tabs 0 1 w ∧ ∃ ev, w.cell? ⟨8, 0, none⟩ = some ev ∧ (ev = .nilIface ∨ ∃ te pe, ev = .iface te pe)
theorem Tabs.lt {w : World} (h : Tabs w) : 9 ≤ w.heap.size := by
  obtain ⟨_, ev, hv, _⟩ := h
  have h8 : 8 < w.heap.size := Lib.lt_of_cell hv
  omega
theorem Tabs.below {B : Nat} {w w' : World} (h : Tabs w) (hb : Below B w w') (hB : 9 ≤ B) : Tabs w' := by
  obtain ⟨⟨h1, h2⟩, ev, hv, he⟩ := h
  refine ⟨⟨fun c hc => ?_, fun i hi => ⟨?_, ?_⟩⟩, ev, ?_, he⟩
  · exact (hb.cell (show (⟨0, c, none⟩ : Addr).block < B by show 0 < B; omega)).trans (h1 c hc)
  · exact (hb.cell (show (⟨1, 2 * i, none⟩ : Addr).block < B by show 1 < B; omega)).trans (h2 i hi).1
  · exact (hb.cell (show (⟨1, 2 * i + 1, none⟩ : Addr).block < B by show 1 < B; omega)).trans (h2 i hi).2
  · exact (hb.cell (show (⟨8, 0, none⟩ : Addr).block < B by show 8 < B; omega)).trans hv

/-- What the public ParseUint answers. -/
def ansP : Option Nat → Ending → Prop
  | some v, e => e = .returned (.tuple #[.int .u64 v, .nilIface])
  | none, e => ∃ tp p, e = .returned (.tuple #[.int .u64 0, .iface tp p])

set_option maxHeartbeats 4000000 in
set_option maxRecDepth 100000 in
theorem pub_some (t : ByteArray) (hne : t.size ≠ 0) (hmax : t.size ≤ 8) (v : Nat) (hp : px 0 t.data.toList = some v) (w : World) :
    Calls Tryd.prog 24 #[.string t, .int .i64 16, .int .i64 32] w fun e w' => e = .returned (.tuple #[.int .u64 v, .nilIface]) ∧ Below w.heap.size w w' := by
  have hI := inner t hne hmax w
  rw [hp] at hI
  have hI : Calls Tryd.prog 32 #[.string t, .int .i64 16, .int .i64 32] w fun e w' => e = .returned (.tuple #[.int .u64 v, .nilIface]) ∧ w' = Lib.bytesWorld w 5 t := hI
  clear hp
  have hb := Lib.bytesWorld_below w 5 t
  generalize Lib.bytesWorld w 5 t = W1 at *
  go_enter Tryd.func24, Tryd.ntmps24
  go_wp2_with (go_at_call 32; refine hI.mono ?_; rintro e W2 ⟨rfl, rfl⟩)
  go_ret2
  exact ⟨rfl, hb⟩

set_option maxHeartbeats 4000000 in
set_option maxRecDepth 100000 in
theorem pub_none (t : ByteArray) (hne : t.size ≠ 0) (hmax : t.size ≤ 8) (hp : px 0 t.data.toList = none) (w : World) (hT : Tabs w) :
    Calls Tryd.prog 24 #[.string t, .int .i64 16, .int .i64 32] w fun e w' => (∃ tp p, e = .returned (.tuple #[.int .u64 0, .iface tp p])) ∧ Below w.heap.size w w' := by
  have hI := inner t hne hmax w
  rw [hp] at hI
  have hI : Calls Tryd.prog 32 #[.string t, .int .i64 16, .int .i64 32] w fun e w' => e = .returned (.tuple #[.int .u64 0, .iface 75 (.int .i64 2)]) ∧ w' = Lib.bytesWorld w 5 t := hI
  clear hp
  have hb := Lib.bytesWorld_below w 5 t
  generalize Lib.bytesWorld w 5 t = W1 at *
  have hT1 := hT.below hb hT.lt
  obtain ⟨_, ev, hv, hev⟩ := hT1
  have hE := AnyPu.strconv_toError_syntax { Tryd.laysPu14 with } ⟨#[80, 97, 114, 115, 101, 85, 105, 110, 116]⟩ t 16 32 ev W1 (by omega) hv hev
  have hE : Calls Tryd.prog 33 #[.string ⟨#[80, 97, 114, 115, 101, 85, 105, 110, 116]⟩, .string t, .int .i64 16, .int .i64 32, .iface 75 (.int .i64 2)] W1 fun e w' => ∃ N, e = .returned (.iface 76 (.pointer (some ⟨N, 0, none⟩))) ∧ W1.heap.size ≤ N ∧ w'.heap[N]? = some (.cells #[.string ⟨#[80, 97, 114, 115, 101, 85, 105, 110, 116]⟩, .string t, ev] 85 (0, 0)) ∧ Below W1.heap.size W1 w' := hE
  clear hv hev
  go_enter Tryd.func24, Tryd.ntmps24
  go_wp2_with (first | (go_at_call 32; refine hI.mono ?_; rintro e W2 ⟨rfl, rfl⟩) | (go_at_call 33; refine hE.mono ?_; rintro e W3 ⟨N, rfl, h1, h2, h3⟩))
  go_ret2
  exact ⟨⟨_, _, rfl⟩, hb.trans (h3.mono hb.size)⟩

set_option maxHeartbeats 4000000 in
set_option maxRecDepth 100000 in
theorem newErr (s : ByteArray) (w : World) : Calls Tryd.prog 22 #[.string s] w fun e w' => (∃ tp p, e = .returned (.iface tp p)) ∧ Below w.heap.size w w' := by
  go_enter Tryd.func22, Tryd.ntmps22
  go_wp2
  go_ret
  exact ⟨⟨_, _, rfl⟩, (Below.refl _ w).alloc (Nat.le_refl _) _⟩
end Go.Proofs.YthhehbocbhhbbaaDoor.Vp
