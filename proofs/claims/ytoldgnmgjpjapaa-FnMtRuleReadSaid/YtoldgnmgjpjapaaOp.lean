/-
An argument that is a slice of pairs of strings, opened as a list.
-/
import Derived.Test.YtoldgnmgjpjapaaQ0
import Derived.OpenShut
import Derived.SliceStrings
import Derived.DataReads
namespace Go.Proofs.Ytoldgnmgjpjapaa.Op
set_option linter.unusedVariables false
set_option linter.unusedSimpArgs false
open Go.RowKit Go.ChangeShapes Go.WideShapes Go.Proofs.Ytoldgnmgjpjapaa.Q Go.Proofs.YtoldgnmgjpjapaaW.PrintWords

theorem add_two (a : Addr) (i j : Nat) : (a.add i).add j = a.add (i + j) := by
  unfold Addr.add
  by_cases h1 : i = 0 <;> by_cases h2 : j = 0 <;> simp [h1, h2, Nat.add_assoc]

section
variable {H : Type} {enc : TypeId × Value → H} {P : Program} {w : World} {base : Nat} {spare : Nat → Bool} {held : Bool}

def pairOf (y : DataW H × List MemPlace) : S30 := match y.1 with
  | .agg [.lit (.string a), .lit (.string b)] => ⟨⟨a.toArray⟩, ⟨b.toArray⟩⟩
  | _ => z30

theorem open_pair {e s : TypeId} {fuel : Nat} {cs : List Value} {y : DataW H × List MemPlace} (he : P.underlying e = some (.array 2 s)) (hs : P.underlying s = some .string) (hce : P.cellsOf e = 2) (hcs : P.cellsOf s = 1)
    (h : DataW.trod enc P w base spare held fuel e cs = some y) : cs = [.string (pairOf y).f0, .string (pairOf y).f1] := by
  obtain ⟨xs, m, rfl, rfl, hl, hx, hi⟩ := DataW.trod_array he h
  rw [hce] at hl
  obtain ⟨c0, c1, rfl⟩ : ∃ c0 c1, cs = [c0, c1] := by
    match cs, hl with
    | [a, b], _ => exact ⟨a, b, rfl⟩
  obtain ⟨x0, x1, rfl⟩ : ∃ x0 x1, xs = [x0, x1] := by
    match xs, hx with
    | [a, b], _ => exact ⟨a, b, rfl⟩
  have h0 := hi 0 (by omega)
  have h1 := hi 1 (by omega)
  rw [hcs] at h0 h1
  obtain ⟨s0, e0, rfl, _⟩ := DataW.trod_string hs (x := x0) h0
  obtain ⟨s1, e1, rfl, _⟩ := DataW.trod_string hs (x := x1) h1
  simp at e0 e1
  subst e0 e1
  rfl

theorem open_pairs {t e s : TypeId} {fuel : Nat} {cs : List Value} {x : DataW H × List MemPlace} (ht : P.underlying t = some (.slice e)) (he : P.underlying e = some (.array 2 s)) (hs : P.underlying s = some .string) (hce : P.cellsOf e = 2) (hcs : P.cellsOf s = 1)
    (h : DataW.trod enc P w base spare held fuel t cs = some x) :
    ∃ (A : Option Addr) (cap : Nat) (l : List S30), cs = [.slice A l.length cap] ∧ l.length ≤ cap ∧ Kd.C k30 w A l.length l := by
  rcases DataW.trod_slice ht h with ⟨rfl, _⟩ | ⟨a, len, cap, elems, rest, n, _, rfl, _, hb, hl, hm, hlen, hel, _, _⟩
  · exact ⟨none, 0, [], rfl, Nat.le_refl _, Kd.C_nil _ _⟩
  · refine ⟨some a, cap, elems.map pairOf, by rw [List.length_map, hlen], by rw [List.length_map, hlen]; exact hl, rfl, ?_, fun _ => ⟨a, rfl, fun j p hp => ?_⟩⟩
    · unfold maxLen at hm; rw [List.length_map, hlen]; omega
    · rw [List.getElem?_map] at hp
      obtain ⟨y, hy, rfl⟩ := Option.map_eq_some_iff.1 hp
      have hj : j < len := by
        have := (List.getElem?_eq_some_iff.1 hy).1
        omega
      have h9 := hel j hj
      rw [hy, hce, Option.bind_eq_some_iff] at h9
      obtain ⟨cs', hc, hy'⟩ := h9
      have hcs' := open_pair he hs hce hcs hy'
      subst hcs'
      refine ⟨_, rfl, k30_mk w (pairOf y), fun i u hu => ?_⟩
      have hcell := World.cells?_some hc
      have hi : i < 2 := by
        have := (List.getElem?_eq_some_iff.1 hu).1
        simpa using this
      have := hcell.2.2 i hi
      rw [add_two] at this
      show w.cell? (a.add (j * 2 + i)) = some u
      rw [this, hu]
end
end Go.Proofs.Ytoldgnmgjpjapaa.Op
