/-
DoorMeet: what two rows of signatures have in common, and the arrays of the first, in order.
-/
import Derived.Test.YtlnkgifpiinnoaaMv
import Derived.Lib.Hide
import Derived.Test.YtlnkgifpiinnoaaMx
import Derived.Test.YtlnkgifpiinnoaaMy
namespace Go.Proofs.Ytlnkgifpiinnoaa.Mz
set_option linter.unusedVariables false
set_option linter.unusedSimpArgs false
open Go.RowKit Go.WideShapes Go.WideMaps Go.Maps Go.Sort Go.Proofs.YtlnkgifpiinnoaaW.PrintWords Go.Proofs.Ytlnkgifpiinnoaa.Mk Go.Proofs.Ytlnkgifpiinnoaa.Ms Go.Proofs.Ytlnkgifpiinnoaa.Mu Go.Proofs.Ytlnkgifpiinnoaa.Mv Go.Proofs.Ytlnkgifpiinnoaa.Mx Go.Proofs.Ytlnkgifpiinnoaa.My

theorem row_below {w w' : World} {B : Nat} {e : TypeId} {v : Value} {n : Nat} {xs : List Value} (h : w.ownsRow B e 1 v n xs) (hb : Below w.heap.size w w') : w'.ownsRow B e 1 v n xs := by
  refine ⟨h.1, ?_⟩
  rcases h.2 with hn | ⟨g, cap, cur, hv, hbg, hg, rest⟩
  · exact .inl hn
  · have hlt : g < w.heap.size := (Array.getElem?_eq_some_iff.1 hg).1
    exact .inr ⟨g, cap, cur, hv, hbg, (hb.block g hlt).trans hg, rest⟩
theorem row_base {w : World} {B B' : Nat} {e : TypeId} {v : Value} {n : Nat} {xs : List Value} (h : w.ownsRow B e 1 v n xs) (hB : B' ≤ B) : w.ownsRow B' e 1 v n xs := by
  refine ⟨h.1, ?_⟩
  rcases h.2 with hn | ⟨g, cap, cur, hv, hbg, hg, rest⟩
  · exact .inl hn
  · exact .inr ⟨g, cap, cur, hv, Nat.le_trans hB hbg, hg, rest⟩
theorem row_lt {w : World} {B : Nat} {e : TypeId} {v : Value} {n : Nat} {xs : List Value} (h : w.ownsRow B e 1 v n xs) (k : Nat) (hk : v.ownBlock = some k) : B ≤ k ∧ k < w.heap.size := by
  rcases h.2 with ⟨h0, _⟩ | ⟨g, cap, cur, h0, hbg, hg, _⟩
  · rw [h0] at hk; simp [Value.ownBlock] at hk
  · rw [h0] at hk
    have : g = k := by simpa [Value.ownBlock] using hk
    subst this
    exact ⟨hbg, (Array.getElem?_eq_some_iff.1 hg).1⟩
/-- A row of strings, in order, none twice, that are just these. -/
def Sorted (ks : List (List UInt8)) (P : ByteArray → Prop) : Prop := (∀ l, l ∈ ks ↔ P (mkb l)) ∧ ks.Nodup ∧ ks.Pairwise (fun x y => x ≤ y)

set_option maxHeartbeats 8000000 in
set_option maxRecDepth 100000 in
theorem doorMeet (A0 A1 : Option Addr) (c0 c1 : Nat) (l0 l1 : List ByteArray) (w : World) (hr0 : Kd.C Kd.string w A0 l0.length l0) (hr1 : Kd.C Kd.string w A1 l1.length l1) (h0 : l0.length ≤ 1000) (h1 : l1.length ≤ 1000)
    (hz0 : ∀ s ∈ l0, s.size ≤ 1000) (hz1 : ∀ s ∈ l1, s.size ≤ 1000) :
    Calls Try.prog 16 #[.slice A0 l0.length c0, .slice A1 l1.length c1] w fun e w' => (∃ (v0 v1 : Value) (ks0 ks1 : List (List UInt8)), e = .returned (.tuple #[v0, v1]) ∧ w'.ownsRow w.heap.size 9 1 v0 ks0.length (ks0.map encStr) ∧ w'.ownsRow w.heap.size 9 1 v1 ks1.length (ks1.map encStr) ∧
      (∀ k, v0.ownBlock = some k → v1.ownBlock ≠ some k) ∧ Sorted ks0 (fun s => s ∈ l0 ∧ s ∈ l1) ∧ Sorted ks1 (fun s => ∃ x, x ∈ l0 ∧ s = ar ++ x)) ∧ Below w.heap.size w w' := by
  have ml : ∀ s : ByteArray, s.size ≤ 1000 → s.size ≤ maxLen := fun s h => by unfold maxLen; omega
  have C0 := Aside0.mk (fun (W : World) (hb : Below w.heap.size w W) => doorSet A0 c0 l0 W (Kd.C_below hr0 hb) h0 (fun s hs => ml s (hz0 s hs)))
  have C1 := Aside0.mk (fun (W : World) (hb : Below w.heap.size w W) => doorSet A1 c1 l1 W (Kd.C_below hr1 hb) h1 (fun s hs => ml s (hz1 s hs)))
  have Z0 := Aside0.mk hz0
  clear hr0 hr1 hz0 hz1 ml
  go_enter Try.func16, Try.ntmps16
  go_wp2_with (go_at_call 23; refine ((C0.out w (Below.refl _ _)).mono ?_); rintro e w1 ⟨⟨b1, rfl, hb1, s1⟩, B1⟩; have S1 := Aside0.mk s1; have HB1 := Aside0.mk B1; clear s1 B1; refine Hid.out ?_)
  refine Lib.hid ?_
  go_wp2_with (go_at_call 23; refine ((C1.out w1 HB1.out).mono ?_); rintro e w2 ⟨⟨b2, rfl, hb2, s2⟩, B2⟩; have S2 := Aside0.mk s2; have HB2 := Aside0.mk B2; clear s2 B2; refine Hid.out ?_)
  refine Lib.hid ?_
  go_wp2_with (go_at_call 24; refine ((intersect b1 b2 _ _ _ _ w2 (Mu.SetOf.below S1.out HB2.out) S2.out h0).mono ?_); rintro e w3 ⟨⟨b3, rfl, hb3, s3⟩, B3⟩; have S3 := Aside0.mk s3; have HB3 := Aside0.mk B3; clear s3 B3; refine Hid.out ?_)
  refine Lib.hid ?_
  have W2 := Aside0.mk (HB1.out.trans (HB2.out.mono HB1.out.size))
  have W3 := Aside0.mk (W2.out.trans (HB3.out.mono W2.out.size))
  go_wp2_with (go_at_call 22; refine ((doorSigs b3 _ _ w3 S3.out h0 (fun s hs => Nat.le_trans (Z0.out s hs.1) (by omega))).mono ?_); rintro e w4 ⟨⟨v0, ks0, rfl, r0, m0⟩, B4⟩; have R0 := Aside0.mk r0; have M0 := Aside0.mk m0; have HB4 := Aside0.mk B4; clear r0 m0 B4; refine Hid.out ?_)
  refine Lib.hid ?_
  have W4 := Aside0.mk (W3.out.trans (HB4.out.mono W3.out.size))
  go_wp2_with (go_at_call 23; refine ((C0.out w4 W4.out).mono ?_); rintro e w5 ⟨⟨b5, rfl, hb5, s5⟩, B5⟩; have S5 := Aside0.mk s5; have HB5 := Aside0.mk B5; clear s5 B5; refine Hid.out ?_)
  refine Lib.hid ?_
  go_wp2_with (go_at_call 25; refine ((toArray b5 _ _ w5 S5.out h0 (fun s hs => Z0.out s hs)).mono ?_); rintro e w6 ⟨⟨b6, rfl, hb6, s6⟩, B6⟩; have S6 := Aside0.mk s6; have HB6 := Aside0.mk B6; clear s6 B6; refine Hid.out ?_)
  refine Lib.hid ?_
  have W6 := Aside0.mk (HB5.out.trans (HB6.out.mono HB5.out.size))
  go_wp2_with (go_at_call 22; refine ((doorSigs b6 _ _ w6 S6.out h0 (fun s hs => by obtain ⟨x, hx, rfl⟩ := hs; have := Z0.out x hx; rw [ByteArray.size_append]; have : ar.size = 1 := rfl; omega)).mono ?_); rintro e w7 ⟨⟨v1, ks1, rfl, r1, m1⟩, B7⟩; have R1 := Aside0.mk r1; have M1 := Aside0.mk m1; have HB7 := Aside0.mk B7; clear r1 m1 B7; refine Hid.out ?_)
  refine Lib.hid ?_
  have W7 := Aside0.mk (W6.out.trans (HB7.out.mono W6.out.size))
  go_wp2
  go_ret2
  refine ⟨⟨v0, v1, ks0, ks1, rfl, row_below (row_base R0.out W3.out.size) W7.out, row_base R1.out (Nat.le_trans W4.out.size W6.out.size), fun k hk hk1 => ?_, M0.out, M1.out⟩, W4.out.trans (W7.out.mono W4.out.size)⟩
  have a := row_lt R0.out k hk
  have b := row_lt R1.out k hk1
  have c := W6.out.size
  omega
end Go.Proofs.Ytlnkgifpiinnoaa.Mz
