/-
A set of signatures as a sorted row of strings.
-/
import Derived.Test.YtlnkgifpiinnoaaMu
import Derived.Test.YtlnkgifpiinnoaaSs
import Derived.Maps.AppendAt
import Derived.Sort.OwnSorted
namespace Go.Proofs.Ytlnkgifpiinnoaa.My
set_option linter.unusedVariables false
set_option linter.unusedSimpArgs false
open Go.RowKit Go.WideShapes Go.WideMaps Go.Maps Go.Sort Go.Proofs.YtlnkgifpiinnoaaW.PrintWords Go.Proofs.Ytlnkgifpiinnoaa.Mk Go.Proofs.Ytlnkgifpiinnoaa.Ms Go.Proofs.Ytlnkgifpiinnoaa.Mu

def mkb (l : List UInt8) : ByteArray := ⟨l.toArray⟩
theorem info9 : (Try.prog.info? 9).map (fun i => (i.zero, i.size, i.bytes)) = some (some (.string ⟨#[]⟩), 1, 16) := by kernel_rfl
theorem encStr_is (x : ByteArray) : encStr x.data.toList = .string x := rfl

set_option maxHeartbeats 8000000 in
set_option maxRecDepth 100000 in
theorem doorSigs (b1 n1 : Nat) (P1 : ByteArray → Prop) (w : World) (h1 : SetOf w b1 n1 P1) (hn : n1 ≤ 1000) (hP : ∀ s, P1 s → s.size ≤ 100000) :
    Calls Try.prog 22 #[.map (some b1)] w fun e w' => (∃ (v : Value) (ks : List (List UInt8)), e = .returned v ∧ w'.ownsRow w.heap.size 9 1 v ks.length (ks.map encStr) ∧ (∀ l, l ∈ ks ↔ P1 (mkb l)) ∧ ks.Nodup ∧ ks.Pairwise (fun x y => x ≤ y)) ∧ Below w.heap.size w w' := by
  have l1 := Mu.SetOf.lt h1
  obtain ⟨i0, hi, hz0, hz1, hz2⟩ : ∃ i, Try.prog.info? 9 = some i ∧ i.zero = some (.string ⟨#[]⟩) ∧ i.size = 1 ∧ i.bytes = 16 := by
    have h := info9
    cases hh : Try.prog.info? 9 with
    | none => rw [hh] at h; cases h
    | some i =>
      rw [hh] at h
      simp only [Option.map_some, Option.some.injEq, Prod.mk.injEq] at h
      exact ⟨i, rfl, h.1, h.2.1, h.2.2⟩
  obtain ⟨D, ho, hD⟩ := h1
  have HD := Aside0.mk hD
  have HO := Aside0.mk ho
  have HPP := Aside0.mk hP
  have hsz := ho.size_le
  clear hD ho hP
  go_enter Try.func22, Try.ntmps22
  go_wp2_with (first
    | (at_range; refine wpList_range_own _ rfl _ 40 rfl 60 4 K Try.underlying40 R b1 n1 D rfl HO.out ?_; intro w0 hrg0 hg0 hs0)
    | go_in)
  go_frame
  go_loopw [3] (fun v wr => ∃ (left : Lit → Bool) (cnt : Nat) (ks : List (List UInt8)), wr.ranges Try.prog 60 R b1 w.heap.size n1 D left cnt ∧ Aside0 (wr.ownsRow w.heap.size 9 1 v ks.length (ks.map encStr)) ∧ Aside0 ((∀ l, l ∈ ks ↔ P1 (mkb l) ∧ left (kl (mkb l)) = false) ∧ ks.Nodup) ∧ Aside0 (ks.length + cnt ≤ n1) ∧ Aside0 (Below w.heap.size w wr)) (fun _ wr => wr.rangeLeft b1 w.heap.size)
  case atStart =>
    refine ⟨_, _, [], hrg0, ⟨World.ownsRow_nil _ _ _ _⟩, ⟨⟨fun l => ⟨fun h => (by cases h), fun h => ?_⟩, List.nodup_nil⟩⟩, ⟨by simpa using hsz⟩, ⟨(Below.refl _ w).grown hg0 (Nat.le_refl _) (fun k hk => by cases hk)⟩⟩
    have hx := HPP.out _ h.1
    have h2 := h.2
    rw [((HD.out (mkb l) (by unfold maxLen; omega)).1).2 h.1] at h2
    cases h2
  case round =>
    obtain ⟨left, cnt, ks, hrg, HR, HK, HJ, HB⟩ := hrel
    have hm0 : wr.rangeLeft b1 w.heap.size = cnt := hrg.left_eq
    go_wp2_with (first
      | (at_next; refine wpList_next_set _ rfl _ rfl b1 w.heap.size n1 D left cnt rfl hrg (fun s hs => (HD.out s hs).2) ?_ ?_)
      | go_in)
    · intro hc0 hl0
      have hmem : ∀ l, l ∈ ks ↔ P1 (mkb l) := fun l => (HK.out.1 l).trans ⟨fun h => h.1, fun h => ⟨h, hl0 _⟩⟩
      have hnd := HK.out.2
      have hlen := HJ.out
      have HM := Aside0.mk (⟨hmem, hnd⟩ : _ ∧ _)
      clear hmem hnd HK hrg
      rcases HR.out.2 with ⟨hnil, hk0⟩ | ⟨g, cap, cur, hv, hbase, hb, h1, h2, h3, h4⟩
      · subst hnil
        obtain rfl : ks = [] := List.eq_nil_of_length_eq_zero hk0
        go_wp2_with (go_at_call 33; refine (Try.sort_Strings_none none 0 _).mono ?_; rintro e w' ⟨rfl, rfl⟩)
        go_ret
        exact ⟨⟨_, [], rfl, HR.out, HM.out.1, HM.out.2, List.Pairwise.nil⟩, HB.out⟩
      · subst hv
        have hH : Holds encStr wr g 0 ks.toArray := holds_of_block hb (by simpa using h4)
        have hgl : g < wr.heap.size := (Array.getElem?_eq_some_iff.1 hb).1
        have hsort := Try.sort_Strings g 0 cap ks wr hH hgl (by omega)
        have hl2 : (ks.mergeSort fun x y => decide (x ≤ y)).length = ks.length := List.length_mergeSort ks
        clear hH
        go_wp2_with (go_at_call 33; refine hsort.mono ?_; rintro e w' ⟨rfl, nn, os, rfl⟩)
        go_ret
        have hg := grownBy_sorted (w := wr) (g := g) (n := nn) (os := os) (ks.mergeSort fun x y => decide (x ≤ y)).toArray
        have hro := ownsRow_sorted (n := nn) (os := os) (ts := ks.mergeSort fun x y => decide (x ≤ y)) hl2 hbase hb h1 h2 h3
        refine ⟨⟨_, ks.mergeSort fun x y => decide (x ≤ y), rfl, by rw [hl2]; exact hro, fun l => ?_, ?_, ?_⟩, HB.out.grown hg HB.out.size (fun k hk => by cases hk; exact hbase)⟩
        · rw [(List.mergeSort_perm ks _).mem_iff]; exact HM.out.1 l
        · exact (List.mergeSort_perm ks _).nodup_iff.2 HM.out.2
        · have hp := List.pairwise_mergeSort (le := fun x y : List UInt8 => decide (x ≤ y)) (fun a b c h1 h2 => decide_eq_true (List.le_trans (of_decide_eq_true h1) (of_decide_eq_true h2))) (fun a b => by simpa using List.le_total a b) ks
          exact hp.imp (fun h => of_decide_eq_true h)
    · intro x w1 cnt1 hzx hleft hhas hrg1 hlt hg1 hs1 hen
      have HP1 : P1 x := (HD.out x hzx).1.1 hhas
      have R1 := Aside0.mk (HR.out.kept hg1 (by
        cases hob : u3.ownBlock with
        | none => exact Or.inl rfl
        | some g => exact Or.inr (fun e => row_ne_iter HR.out hrg (by rw [hob]; exact e.symm))))
      have B1 := Aside0.mk (HB.out.grown hg1 HB.out.size (fun k hk => by cases hk; exact Nat.le_refl _))
      have hsz1 : w.heap.size ≤ w1.heap.size := B1.out.size
      have hlen := HJ.out
      simp only [kv] at hen ⊢
      clear HR hrg
      go_wp2_with (first
        | (at_builtin; refine wpList_append_own_at _ rfl _ _ 25 rfl w.heap.size 9 i0 (.string ⟨#[]⟩) 1 16 Try.underlying25 hi hz0 hz1 hz2 rfl (by decide) _ _ _ rfl ((R1.out.alloc _).alloc _) ⟨wr.heap.size + 1, 0, none⟩ 1 1 [.string x] rfl rfl ?c1 ?c2 ?c3 ?c4 ?c5 ?_)
        | go_in)
      case c1 =>
        intro j u hj
        match j, hj with
        | 0, hj =>
          simp at hj
          subst hj
          have e : wr.heap.size + 1 = (w1.alloc (Obj.cells #[Value.string x] 60)).heap.size := by simp [hs1]
          rw [e]
          simp [Addr.add]
      case c2 => intro u hu; simp at hu; subst hu; rfl
      case c3 => unfold maxLen; omega
      case c4 => omega
      case c5 => simp; omega
      · intro v' w4 hown' hgrow _ hloc
        have hgr : ∀ k, u3.ownBlock = some k → w.heap.size ≤ k := by
          intro k hk
          rcases R1.out.2 with ⟨h0, _⟩ | ⟨g, cap, cur, h0, hbase, _⟩
          · rw [h0] at hk; simp [Value.ownBlock] at hk
          · rw [h0] at hk
            have : g = k := by simpa [Value.ownBlock] using hk
            omega
        have hne1 : some b1 ≠ u3.ownBlock := fun e => by have := hgr b1 e.symm; omega
        have hne2 := row_ne_iter ((R1.out.alloc (Obj.cells #[Value.string x] 60)).alloc (Obj.cells #[Value.string x] 9)) ((hrg1.alloc (Obj.cells #[Value.string x] 60)).alloc (Obj.cells #[Value.string x] 9))
        have hrg2 := ((hrg1.alloc (Obj.cells #[Value.string x] 60)).alloc (Obj.cells #[Value.string x] 9)).kept hgrow hne1 hne2
        have B2 := Aside0.mk (((B1.out.alloc hsz1 (Obj.cells #[Value.string x] 60)).alloc (by simp; omega) (Obj.cells #[Value.string x] 9)).grown hgrow (by simp; omega) hgr)
        have RW := Aside0.mk hown'
        clear hown' hgrow hne1 hne2 hgr hloc hen hrg1
        go_wp2
        go_roundw
        case rel =>
          refine ⟨_, cnt1, ks ++ [x.data.toList], hrg2, ⟨by have h := RW.out; rw [List.length_append, List.map_append]; exact h⟩, ⟨⟨fun l => ?_, ?_⟩⟩, ⟨by rw [List.length_append, List.length_singleton]; omega⟩, ⟨B2.out⟩⟩
          · rw [List.mem_append, HK.out.1 l, List.mem_singleton]
            constructor
            · rintro (⟨h1, h2⟩ | rfl)
              · exact ⟨h1, by simp [h2]⟩
              · refine ⟨HP1, ?_⟩
                show (left (kl x) && !(kl x).sameKey (kl x)) = false
                rw [WideAt.sameKey_self (show WideAt.IsKeyLit (kl x) from trivial)]; simp
            · rintro ⟨h1, h2⟩
              have hl := HPP.out _ h1
              have hs := same_kl (s := mkb l) (t := x) (by unfold maxLen; omega) hzx
              by_cases e : mkb l = x
              · exact .inr (by rw [← e]; rfl)
              · rw [decide_eq_false e] at hs
                exact .inl ⟨h1, by simpa [hs] using h2⟩
          · refine List.nodup_append.2 ⟨HK.out.2, by simp, ?_⟩
            intro a ha b hb e
            rw [List.mem_singleton] at hb
            have h3 := ((HK.out.1 a).1 ha).2
            rw [e, hb] at h3
            have h4 : left (kl x) = false := h3
            rw [hleft] at h4
            cases h4
        case measure =>
          rw [hrg2.left_eq, hm0]
          exact hlt
end Go.Proofs.Ytlnkgifpiinnoaa.My
