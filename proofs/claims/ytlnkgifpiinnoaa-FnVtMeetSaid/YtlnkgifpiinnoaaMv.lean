/-
What two sets of signatures have in common.
-/
import Derived.Test.YtlnkgifpiinnoaaMu
namespace Go.Proofs.Ytlnkgifpiinnoaa.Mv
set_option linter.unusedVariables false
set_option linter.unusedSimpArgs false
open Go.RowKit Go.WideShapes Go.WideMaps Go.Maps Go.Proofs.YtlnkgifpiinnoaaW.PrintWords Go.Proofs.Ytlnkgifpiinnoaa.Mk Go.Proofs.Ytlnkgifpiinnoaa.Ms Go.Proofs.Ytlnkgifpiinnoaa.Mu

set_option maxHeartbeats 8000000 in
set_option maxRecDepth 100000 in
theorem intersect (b1 b2 n1 n2 : Nat) (P1 P2 : ByteArray → Prop) (w : World) (h1 : SetOf w b1 n1 P1) (h2 : SetOf w b2 n2 P2) (hn : n1 ≤ 1000) :
    Calls Try.prog 24 #[.map (some b1), .map (some b2)] w fun e w' => (∃ b, e = .returned (.map (some b)) ∧ w.heap.size ≤ b ∧ SetOf w' b n1 (fun s => P1 s ∧ P2 s)) ∧ Below w.heap.size w w' := by
  have l1 := Mu.SetOf.lt h1
  have l2 := Mu.SetOf.lt h2
  obtain ⟨D, ho, hD⟩ := h1
  have HD := Aside0.mk hD
  have HO := Aside0.mk ho
  have H2 := Aside0.mk h2
  clear hD ho h2
  have hmm := @run_makeMap Try.prog
  go_enter Try.func24, Try.ntmps24
  go_wp2_with (first
    | (at_range; refine wpList_range_own _ rfl _ 40 rfl 60 4 K Try.underlying40 R b1 n1 D rfl (HO.out.alloc _) ?_; intro w0 hrg0 hg0 hs0)
    | go_in)
  go_frame
  have z0 : (w.alloc (Obj.map #[] 0)).heap.size = w.heap.size + 1 := by simp
  rw [z0] at hrg0 hs0
  rw [z0]
  go_loopw [6] (fun v wr => ∃ (left : Lit → Bool) (cnt j : Nat), wr.ranges Try.prog 60 R b1 (w.heap.size + 1) n1 D left cnt ∧ Aside0 (SetOf wr w.heap.size j (fun s => (P1 s ∧ left (kl s) = false) ∧ P2 s)) ∧ Aside0 (SetOf wr b2 n2 P2) ∧ Aside0 (j + cnt ≤ n1) ∧ Aside0 (Below w.heap.size w wr)) (fun _ wr => wr.rangeLeft b1 (w.heap.size + 1))
  case atStart =>
    refine ⟨_, _, 0, hrg0, ⟨Mu.SetOf.kept (row := none) ⟨_, World.ownsMap_made w Try.prog 60 R, fun s hs => ⟨?_, fun h => by simp [has] at h⟩⟩ hg0 (by simp)⟩, ⟨Mu.SetOf.kept (Mu.SetOf.alloc H2.out _) hg0 (by simp)⟩, ⟨?_⟩, ⟨?_⟩⟩
    · have := (HD.out s hs).1
      constructor
      · intro h
        exact absurd ((show has (DataW.map [] : DataW Unit) (kl s) = false from rfl).symm.trans h) (by simp)
      · rintro ⟨⟨h1, h2⟩, _⟩
        rw [this.2 h1] at h2
        cases h2
    · have := HO.out.size_le
      omega
    · exact ((Below.refl _ w).alloc (Nat.le_refl _) _).grown hg0 (by simp) (fun k hk => by cases hk)
  case round =>
    obtain ⟨left, cnt, j, hrg, HS, HT, HJ, HB⟩ := hrel
    have hm0 : wr.rangeLeft b1 (w.heap.size + 1) = cnt := hrg.left_eq
    go_wp2_with (first
      | (at_next; refine wpList_next_set _ rfl _ rfl b1 (w.heap.size + 1) n1 D left cnt rfl hrg (fun s hs => (HD.out s hs).2) ?_ ?_)
      | go_in)
    · intro hc0 hl0
      have hfin := Mu.SetOf.mono (Mu.SetOf.congr HS.out (Q := fun s => P1 s ∧ P2 s) (fun s => ⟨fun h => ⟨h.1.1, h.2⟩, fun h => ⟨⟨h.1, hl0 _⟩, h.2⟩⟩)) (n' := n1) (by have := HJ.out; omega)
      have HF := Aside0.mk hfin
      clear hfin HS HT hrg
      go_wp2
      go_ret
      exact ⟨⟨_, rfl, Nat.le_refl _, HF.out⟩, HB.out⟩
    · intro x w1 cnt1 hzx hleft hhas hrg1 hlt hg1 hs1 hen
      have HP1 : P1 x := (HD.out x hzx).1.1 hhas
      have T1 := Aside0.mk (Mu.SetOf.kept HT.out hg1 (by simp; omega))
      have S1 := Aside0.mk (Mu.SetOf.kept HS.out hg1 (by simp))
      have B1 := Aside0.mk (HB.out.grown hg1 HB.out.size (fun k hk => by cases hk; omega))
      have hsz1 : w.heap.size ≤ w1.heap.size := B1.out.size
      have hb2 := Mu.SetOf.lt T1.out
      have hbm := Mu.SetOf.lt S1.out
      simp only [kv] at hen ⊢
      clear HT HS
      by_cases hp : P2 x
      · go_wp2_with (first
          | (at_lookup; refine wpList_lookup_set _ rfl _ _ rfl b2 n2 P2 rfl ?hS x rfl hzx ?_; (case hS => exact Mu.SetOf.alloc T1.out _); intro cc hcc; obtain rfl : cc = true := hcc.2 hp; clear hcc)
          | (at_mapUpdate; refine wpList_update_set _ rfl _ _ _ rfl w.heap.size j (fun s => (P1 s ∧ left (kl s) = false) ∧ P2 s) rfl ?hS (by have := HJ.out; omega) x rfl rfl hzx ?_; (case hS => exact Mu.SetOf.alloc S1.out _); intro w2 hS2 hg2))
        have hrg2 := (hrg1.alloc (Obj.cells #[Value.string x] 60)).kept hg2 (by simp; omega) (by simp)
        go_frame
        go_roundw
        case rel =>
          refine ⟨_, cnt1, j + 1, hrg2, ⟨Mu.SetOf.congr2 hS2 (fun s hs => ?_)⟩, ⟨Mu.SetOf.kept (Mu.SetOf.alloc T1.out _) hg2 (by simp; omega)⟩, ⟨by have := HJ.out; omega⟩, ⟨(B1.out.alloc hsz1 _).grown hg2 (by simp; omega) (fun k hk => by cases hk; exact Nat.le_refl _)⟩⟩
          have := same_kl hs hzx
          by_cases e : s = x
          · subst e
            simp [HP1, hp, WideAt.sameKey_self (show WideAt.IsKeyLit (kl s) from trivial)]
          · rw [decide_eq_false e] at this
            simp [e, this]
        case measure =>
          rw [hrg2.left_eq, hm0]
          exact hlt
      · go_wp2_with (first
          | (at_lookup; refine wpList_lookup_set _ rfl _ _ rfl b2 n2 P2 rfl ?hS x rfl hzx ?_; (case hS => exact Mu.SetOf.alloc T1.out _); intro cc hcc; obtain rfl : cc = false := Bool.eq_false_iff.2 (fun h => hp (hcc.1 h)); clear hcc))
        have hrg2 := hrg1.alloc (Obj.cells #[Value.string x] 60)
        go_frame
        go_roundw
        case rel =>
          refine ⟨_, cnt1, j, hrg2, ⟨Mu.SetOf.congr2 (Mu.SetOf.alloc S1.out _) (fun s hs => ?_)⟩, ⟨Mu.SetOf.alloc T1.out _⟩, ⟨by have := HJ.out; omega⟩, ⟨B1.out.alloc hsz1 _⟩⟩
          have := same_kl hs hzx
          by_cases e : s = x
          · subst e
            simp [hp]
          · rw [decide_eq_false e] at this
            simp [this]
        case measure =>
          rw [hrg2.left_eq, hm0]
          exact hlt
end Go.Proofs.Ytlnkgifpiinnoaa.Mv
