/-
Sets of signatures: a map whose keys are a struct of one string, with true beside each.
-/
import Derived.Test.YtlnkgifpiinnoaaProg
import Derived.Maps.OwnSet
import Derived.Maps.RangeWalk
import Derived.DeepKeys4
import Derived.Test.YtlnkgifpiinnoaaWWords
namespace Go.Proofs.Ytlnkgifpiinnoaa.Mk
set_option linter.unusedVariables false
set_option linter.unusedSimpArgs false
open Go.RowKit Go.WideMaps Go.Maps Go.Proofs.YtlnkgifpiinnoaaW.PrintWords

theorem laidOut : laidOutB Try.prog = true := by kernel_rfl
theorem row60 : (60 : TypeId) < Try.prog.types.size := of_decide_eq_true (by kernel_rfl)
theorem cells60 : Try.prog.cellsOf 60 = 1 := by kernel_rfl
theorem cells9 : Try.prog.cellsOf 9 = 1 := by kernel_rfl
theorem wide60 : (match Try.prog.underlying 60 with | some (.array _ _) | some (.struct _) => true | _ => false) = true := by rw [Try.underlying60]
theorem law : KeyLaw Try.prog 60 := deep_law_laid laidOut (m := 2) (by omega) row60 (by kernel_rfl) wide60
theorem K : Keyed Try.prog 60 := Keyed.of_law law
theorem kt60 : Try.prog.keyType 60 = true := by kernel_rfl

/-- A signature as a value; as a key. -/
def kv (s : ByteArray) : Value := .agg #[.string s]
def kl (s : ByteArray) : Lit := .string (keyBytes [.string s.data.toList])
theorem lits (d : Nat) (s : ByteArray) (h : s.size ≤ maxLen) : Try.prog.keyLits (d + 2) 60 [.string s] = some [.string s.data.toList] := by
  have h9 : Try.prog.keyLits (d + 1) 9 [.string s] = some [.string s.data.toList] := by
    rw [Program.keyLits]
    · exact if_pos h
    · exact Try.underlying9
  rw [Program.keyLits.eq_def]
  simp only [Try.underlying60]
  rw [if_pos ⟨by rw [cells60]; rfl, by kernel_rfl⟩]
  simp [h9, cells9]
theorem key_is (s : ByteArray) (h : s.size ≤ maxLen) : keyOf Try.prog 60 (kv s) = some (kl s) := by
  have hf : (kv s).formed Try.prog 60 = true := by simp [kv, Value.formed, Try.underlying60, cells60]
  obtain ⟨d, hd⟩ : ∃ d, Try.prog.types.size + 1 = d + 2 := ⟨Try.prog.types.size - 1, by have h0 : 60 < Try.prog.types.size := row60; omega⟩
  have hl : Try.prog.keyLits (Try.prog.types.size + 1) 60 (kv s).cells.toList = some [.string s.data.toList] := by rw [hd]; exact lits d s h
  unfold keyOf
  rw [Try.underlying60]
  show (if _ then _ else _) = _
  rw [if_pos (by rw [kt60, hf]; rfl), hl]
  rfl
theorem lits_inv (d : Nat) (cs : List Value) (ls : List Lit) (h : Try.prog.keyLits (d + 2) 60 cs = some ls) : ∃ s : ByteArray, cs = [.string s] ∧ s.size ≤ maxLen := by
  rw [Program.keyLits.eq_def] at h
  simp only [Try.underlying60] at h
  split at h
  · rename_i hc
    obtain ⟨hc, _⟩ := hc
    rw [cells60] at hc
    obtain ⟨v, rfl⟩ : ∃ v, cs = [v] := by
      cases cs with
      | nil => simp at hc
      | cons v r => cases r with
        | nil => exact ⟨v, rfl⟩
        | cons _ _ => simp at hc
    have h9 : ∃ l9, Try.prog.keyLits (d + 1) 9 [v] = some l9 := by
      cases hk : Try.prog.keyLits (d + 1) 9 [v] with
      | some l => exact ⟨l, rfl⟩
      | none => simp [hk, cells9] at h
    obtain ⟨l9, h9⟩ := h9
    rw [Program.keyLits.eq_def] at h9
    simp only [Try.underlying9] at h9
    cases v <;> simp at h9
    rename_i s
    exact ⟨s, rfl, h9.1⟩
  · cases h
theorem key_inv (v : Value) (l : Lit) (h : keyOf Try.prog 60 v = some l) : ∃ s : ByteArray, v = kv s ∧ s.size ≤ maxLen ∧ l = kl s := by
  have h' := h
  unfold keyOf at h
  rw [Try.underlying60] at h
  have hc : (Try.prog.keyType 60 && v.formed Try.prog 60) = true := by
    cases hb : (Try.prog.keyType 60 && v.formed Try.prog 60) with
    | true => rfl
    | false => simp [hb] at h
  have hf : v.formed Try.prog 60 = true := by
    rw [kt60] at hc; simpa using hc
  have h2 : (Try.prog.keyLits (Try.prog.types.size + 1) 60 v.cells.toList).map (fun ls => Lit.string (keyBytes ls)) = some l := by
    simpa [hc] using h
  obtain ⟨ls, hls, _⟩ := Option.map_eq_some_iff.1 h2
  obtain ⟨d, hd⟩ : ∃ d, Try.prog.types.size + 1 = d + 2 := ⟨Try.prog.types.size - 1, by have h0 : 60 < Try.prog.types.size := row60; omega⟩
  rw [hd] at hls
  obtain ⟨s, hs, hz⟩ := lits_inv d _ ls hls
  have hv : v = kv s := by
    cases v <;> simp [Value.formed, Try.underlying60] at hf
    rename_i cs
    show Value.agg cs = Value.agg #[.string s]
    congr 1
    exact Array.toList_inj.1 hs
  subst hv
  refine ⟨s, rfl, hz, ?_⟩
  rw [key_is s hz] at h'
  exact (Option.some.inj h').symm
theorem kl_inj {s t : ByteArray} (hs : s.size ≤ maxLen) (ht : t.size ≤ maxLen) (h : kl s = kl t) : s = t := by
  have h1 := law.inj (key_is s hs) (by rw [h]; exact key_is t ht)
  simpa [kv] using h1

noncomputable abbrev R : Value → Option (DataW Unit × List MemPlace) := plainElem Try.prog 4
/-- Block b is a set of these signatures. -/
def SetIs (w : World) (b : Nat) (ks : List ByteArray) : Prop := ∃ D, w.ownsMap Try.prog 60 R b ks.length D ∧ (∀ s : ByteArray, s.size ≤ maxLen → (has D (kl s) = true ↔ s ∈ ks)) ∧ ∀ s ∈ ks, s.size ≤ maxLen
end Go.Proofs.Ytlnkgifpiinnoaa.Mk
