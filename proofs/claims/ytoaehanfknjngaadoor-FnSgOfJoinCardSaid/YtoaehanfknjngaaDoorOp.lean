import Derived.Test.YtoaehanfknjngaaDoorPa
import Derived.OpenShut
import Derived.SliceStrings
import Derived.DataReads
namespace Go.Proofs.YtoaehanfknjngaaDoor.Op
set_option linter.unusedVariables false
set_option linter.unusedSimpArgs false
open Go.RowKit Go.ChangeShapes Go.WideShapes Go.Proofs.YtoaehanfknjngaaDoor.L Go.Proofs.YtoaehanfknjngaaDoorW.PrintWords Go.Proofs.YtoaehanfknjngaaDoor.Pl

theorem add_two (a : Addr) (i j : Nat) : (a.add i).add j = a.add (i + j) := by
  unfold Addr.add
  by_cases h1 : i = 0 <;> by_cases h2 : j = 0 <;> simp [h1, h2, Nat.add_assoc]

theorem dms_map : ∀ (n : List Nat) (f : Nat → S30), (∀ i ∈ n, dm (f i)) → dms (n.map f)
  | [], f, _ => by rw [List.map_nil, dms]; trivial
  | i :: n, f, h => by rw [List.map_cons, dms]; exact ⟨h i (by simp), dms_map n f (fun j hj => h j (by simp [hj]))⟩

section
variable {H : Type} {enc : TypeId × Value → H} {w : World} {base : Nat} {spare : Nat → Bool} {held : Bool}
theorem cells22 : Tryd.prog.cellsOf 22 = 1 := by kernel_rfl
theorem cells30 : Tryd.prog.cellsOf 30 = 4 := by kernel_rfl
theorem cells5 : Tryd.prog.cellsOf 5 = 1 := by kernel_rfl
theorem cells28 : Tryd.prog.cellsOf 28 = 1 := by kernel_rfl
theorem cells9 : Tryd.prog.cellsOf 9 = 1 := by kernel_rfl

def Opens (w : World) (cs : List Value) : Prop := ∃ (A : Option Addr) (cap : Nat) (l : List S30), cs = [.slice A l.length cap] ∧ l.length ≤ cap ∧ Kd.C k30 w A l.length l ∧ dms l

set_option maxRecDepth 100000 in
theorem open_kids : ∀ (fuel : Nat) {cs : List Value} {x : DataW H × List MemPlace}, DataW.trod enc Tryd.prog w base spare held fuel 22 cs = some x → Opens w cs := by
  intro fuel
  induction fuel using Nat.strongRecOn with
  | _ fuel ih =>
  intro cs x h
  rcases DataW.trod_slice Tryd.underlying22 h with ⟨rfl, _⟩ | ⟨a, len, cap, elems, rest, n, hn, rfl, _, hb, hl, hm, hlen, hel, _, _⟩
  · exact ⟨none, 0, [], rfl, Nat.le_refl _, Kd.C_nil _ _, by rw [dms]; trivial⟩
  · have kid : ∀ i, ∃ v : S30, i < len → dm v ∧ ∃ c : List Value, k30.K w v c ∧ c.length = 4 ∧ ∀ j, j < 4 → w.cell? (a.add (i * 4 + j)) = c[j]? := by
      intro i
      by_cases hi : i < len
      · have h9 := hel i hi
        rw [cells30] at h9
        have hy : elems[i]? = some (elems[i]'(by omega)) := List.getElem?_eq_getElem (by omega)
        rw [hy, Option.bind_eq_some_iff] at h9
        obtain ⟨cs', hc, ht⟩ := h9
        obtain ⟨xs, m, hm', hx, hcl, hxl, hf⟩ := DataW.trod_struct Tryd.underlying30 ht
        rw [cells30] at hcl
        obtain ⟨c0, c1, c2, c3, rfl⟩ : ∃ c0 c1 c2 c3, cs' = [c0, c1, c2, c3] := by
          match cs', hcl with
          | [a, b, c, d], _ => exact ⟨a, b, c, d, rfl⟩
        obtain ⟨x0, x1, x2, x3, rfl⟩ : ∃ x0 x1 x2 x3, xs = [x0, x1, x2, x3] := by
          match xs, hxl with
          | [a, b, c, d], _ => exact ⟨a, b, c, d, rfl⟩
        have f0 : DataW.trod enc Tryd.prog w base spare held m 5 (([c0, c1, c2, c3].drop 0).take (Tryd.prog.cellsOf 5)) = [x0, x1, x2, x3][0]? := hf 0 _ rfl
        have f1 : DataW.trod enc Tryd.prog w base spare held m 28 (([c0, c1, c2, c3].drop 1).take (Tryd.prog.cellsOf 28)) = [x0, x1, x2, x3][1]? := hf 1 _ rfl
        have f2 : DataW.trod enc Tryd.prog w base spare held m 9 (([c0, c1, c2, c3].drop 2).take (Tryd.prog.cellsOf 9)) = [x0, x1, x2, x3][2]? := hf 2 _ rfl
        have f3 : DataW.trod enc Tryd.prog w base spare held m 22 (([c0, c1, c2, c3].drop 3).take (Tryd.prog.cellsOf 22)) = [x0, x1, x2, x3][3]? := hf 3 _ rfl
        rw [cells5] at f0
        rw [cells28] at f1
        rw [cells9] at f2
        rw [cells22] at f3
        obtain ⟨n0, e0, _, w0⟩ := DataW.trod_int Tryd.underlying5 (x := x0) f0
        obtain ⟨n1, e1, _, _⟩ := DataW.trod_int Tryd.underlying28 (x := x1) f1
        obtain ⟨s2, e2, _, _⟩ := DataW.trod_string Tryd.underlying9 (x := x2) f2
        obtain ⟨A3, cap3, l3, e3, hl3, hC3, hd3⟩ := ih m (by omega) (x := x3) f3
        simp at e0 e1 e2 e3
        subst e0 e1 e2 e3
        have hcell := World.cells?_some hc
        refine ⟨⟨n0, n1, s2, l3⟩, fun _ => ⟨?_, [.int .u8 n0, .int .u64 n1, .string s2, .slice A3 l3.length cap3], k30_mk w ⟨n0, n1, s2, l3⟩ hl3 hC3, rfl, fun j hj => ?_⟩⟩
        · rw [dm_eq]
          have hw := w0
          simp only [Lit.wf, Bool.and_eq_true, decide_eq_true_eq] at hw
          exact ⟨hw, hd3⟩
        · rw [← add_two]
          exact hcell.2.2 j hj
      · exact ⟨z30, fun h => absurd h hi⟩
    obtain ⟨f, hf⟩ := Classical.axiomOfChoice kid
    refine ⟨some a, cap, (List.range len).map f, by simp, by simpa using hl, ⟨rfl, ?_, fun _ => ⟨a, rfl, fun j p hp => ?_⟩⟩, dms_map _ f (fun i hi => (hf i (by simpa using hi)).1)⟩
    · unfold maxLen at hm; simp; omega
    · rw [List.getElem?_map] at hp
      obtain ⟨y, hy, rfl⟩ := Option.map_eq_some_iff.1 hp
      obtain ⟨hj, rfl⟩ := List.getElem?_eq_some_iff.1 hy
      simp only [List.length_range] at hj
      simp only [List.getElem_range]
      obtain ⟨_, c, hK, hcl, hcc⟩ := hf j hj
      refine ⟨c, hcl, hK, fun i u hu => ?_⟩
      have hi : i < 4 := by
        have := (List.getElem?_eq_some_iff.1 hu).1
        omega
      show w.cell? (a.add (j * 4 + i)) = some u
      rw [hcc i hi, hu]
end
end Go.Proofs.YtoaehanfknjngaaDoor.Op
