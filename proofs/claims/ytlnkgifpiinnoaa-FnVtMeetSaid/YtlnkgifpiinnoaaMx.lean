/-
The arrays of a set of signatures.
-/
import Derived.Test.YtlnkgifpiinnoaaMu
namespace Go.Proofs.Ytlnkgifpiinnoaa.Mx
set_option linter.unusedVariables false
set_option linter.unusedSimpArgs false
open Go.RowKit Go.WideShapes Go.WideMaps Go.Maps Go.Proofs.YtlnkgifpiinnoaaW.PrintWords Go.Proofs.Ytlnkgifpiinnoaa.Mk Go.Proofs.Ytlnkgifpiinnoaa.Ms Go.Proofs.Ytlnkgifpiinnoaa.Mu

theorem make_n (w : World) (n : Nat) (hn : n ≤ 1000) : (Instr.makeMap 40 (some (.int .i64 (n : Int)))).run Try.prog w = .ok (.map (some w.heap.size)) (w.alloc (.map #[] 0)) := by
  have h : ¬ ((n : Int) < 0) := by omega
  have hu := run_underlying (w := w) Try.underlying40
  simp [Instr.makeMap, h, hu, go_sem]
def ar : ByteArray := ⟨#[97]⟩
set_option maxHeartbeats 8000000 in
set_option maxRecDepth 100000 in
theorem toArray (b1 n1 : Nat) (P1 : ByteArray → Prop) (w : World) (h1 : SetOf w b1 n1 P1) (hn : n1 ≤ 1000) (hP : ∀ s, P1 s → s.size ≤ 1000) :
    Calls Try.prog 25 #[.map (some b1)] w fun e w' => (∃ b, e = .returned (.map (some b)) ∧ w.heap.size ≤ b ∧ SetOf w' b n1 (fun s => ∃ x, P1 x ∧ s = ar ++ x)) ∧ Below w.heap.size w w' := by
  have l1 := Mu.SetOf.lt h1
  obtain ⟨D, ho, hD⟩ := h1
  have HD := Aside0.mk hD
  have HO := Aside0.mk ho
  have HPP := Aside0.mk hP
  have hsz := ho.size_le
  have hmm := make_n w (size D) (by omega)
  clear hD ho hP
  go_enter Try.func25, Try.ntmps25
  go_wp2_with (first
    | (at_len; refine wpList_len_own _ rfl _ 40 rfl 60 4 Try.underlying40 R b1 n1 D rfl HO.out ?_)
    | (at_range; refine wpList_range_own _ rfl _ 40 rfl 60 4 K Try.underlying40 R b1 n1 D rfl (HO.out.alloc _) ?_; intro w0 hrg0 hg0 hs0)
    | go_in)
  go_frame
  have z0 : (w.alloc (Obj.map #[] 0)).heap.size = w.heap.size + 1 := by simp
  rw [z0] at hrg0 hs0
  rw [z0]
  go_loopw [4] (fun v wr => ∃ (left : Lit → Bool) (cnt j : Nat), wr.ranges Try.prog 60 R b1 (w.heap.size + 1) n1 D left cnt ∧ Aside0 (SetOf wr w.heap.size j (fun s => ∃ x, (P1 x ∧ left (kl x) = false) ∧ s = ar ++ x)) ∧ Aside0 (j + cnt ≤ n1) ∧ Aside0 (Below w.heap.size w wr)) (fun _ wr => wr.rangeLeft b1 (w.heap.size + 1))
  case atStart =>
    refine ⟨_, _, 0, hrg0, ⟨Mu.SetOf.kept (row := none) ⟨_, World.ownsMap_made w Try.prog 60 R, fun s hs => ⟨?_, fun h => by simp [has] at h⟩⟩ hg0 (by simp)⟩, ⟨by omega⟩, ⟨?_⟩⟩
    · constructor
      · intro h
        exact absurd ((show has (DataW.map [] : DataW Unit) (kl s) = false from rfl).symm.trans h) (by simp)
      · rintro ⟨x, ⟨h1, h2⟩, rfl⟩
        have hx := HPP.out x h1
        rw [((HD.out x (by unfold maxLen; omega)).1).2 h1] at h2
        cases h2
    · exact ((Below.refl _ w).alloc (Nat.le_refl _) _).grown hg0 (by simp) (fun k hk => by cases hk)
  case round =>
    obtain ⟨left, cnt, j, hrg, HS, HJ, HB⟩ := hrel
    have hm0 : wr.rangeLeft b1 (w.heap.size + 1) = cnt := hrg.left_eq
    clear hmm
    go_wp2_with (first
      | (at_next; refine wpList_next_set _ rfl _ rfl b1 (w.heap.size + 1) n1 D left cnt rfl hrg (fun s hs => (HD.out s hs).2) ?_ ?_)
      | go_in)
    · intro hc0 hl0
      have hfin := Mu.SetOf.mono (Mu.SetOf.congr HS.out (Q := fun s => ∃ x, P1 x ∧ s = ar ++ x) (fun s => ⟨fun ⟨x, h1, h2⟩ => ⟨x, h1.1, h2⟩, fun ⟨x, h1, h2⟩ => ⟨x, ⟨h1, hl0 _⟩, h2⟩⟩)) (n' := n1) (by have := HJ.out; omega)
      have HF := Aside0.mk hfin
      clear hfin HS hrg
      go_wp2
      go_ret
      exact ⟨⟨_, rfl, Nat.le_refl _, HF.out⟩, HB.out⟩
    · intro x w1 cnt1 hzx hleft hhas hrg1 hlt hg1 hs1 hen
      have HP1 : P1 x := (HD.out x hzx).1.1 hhas
      have hx1000 := HPP.out x HP1
      have S1 := Aside0.mk (Mu.SetOf.kept HS.out hg1 (by simp))
      have B1 := Aside0.mk (HB.out.grown hg1 HB.out.size (fun k hk => by cases hk; omega))
      have hsz1 : w.heap.size ≤ w1.heap.size := B1.out.size
      have hbm := Mu.SetOf.lt S1.out
      have hza : (ar ++ x).size ≤ maxLen := by rw [ByteArray.size_append]; unfold maxLen; have : ar.size = 1 := rfl; omega
      simp only [kv] at hen ⊢
      clear HS
      go_wp2_with (first
        | (at_mapUpdate; refine wpList_update_set _ rfl _ _ _ rfl w.heap.size j (fun s => ∃ x, (P1 x ∧ left (kl x) = false) ∧ s = ar ++ x) rfl ?hS (by have := HJ.out; omega) (ar ++ x) rfl rfl hza ?_; (case hS => exact Mu.SetOf.alloc S1.out _); intro w2 hS2 hg2))
      have hrg2 := (hrg1.alloc (Obj.cells #[Value.string x] 60)).kept hg2 (by simp; omega) (by simp)
      go_frame
      go_roundw
      case rel =>
        refine ⟨_, cnt1, j + 1, hrg2, ⟨Mu.SetOf.congr2 hS2 (fun s hs => ?_)⟩, ⟨by have := HJ.out; omega⟩, ⟨(B1.out.alloc hsz1 _).grown hg2 (by simp; omega) (fun k hk => by cases hk; exact Nat.le_refl _)⟩⟩
        constructor
        · rintro (rfl | ⟨y, ⟨h1, h2⟩, rfl⟩)
          · exact ⟨x, ⟨HP1, by simp [WideAt.sameKey_self (show WideAt.IsKeyLit (kl x) from trivial)]⟩, rfl⟩
          · exact ⟨y, ⟨h1, by simp [h2]⟩, rfl⟩
        · rintro ⟨y, ⟨h1, h2⟩, rfl⟩
          have hy := HPP.out y h1
          have := same_kl (s := y) (t := x) (by unfold maxLen; omega) hzx
          by_cases e : y = x
          · subst e; exact .inl rfl
          · rw [decide_eq_false e] at this
            exact .inr ⟨y, ⟨h1, by simpa [this] using h2⟩, rfl⟩
      case measure =>
        rw [hrg2.left_eq, hm0]
        exact hlt
end Go.Proofs.Ytlnkgifpiinnoaa.Mx
