import Derived.Test.YtogikhohkbcccaaGreatDoorPu
import Derived.Test.YtogikhohkbcccaaGreatDoorP3
import Derived.BigQuiet
namespace Go.Proofs.YtogikhohkbcccaaGreatDoor.De
set_option linter.unusedVariables false
set_option linter.unusedSimpArgs false
open Go.RowKit Go.Proofs.YtogikhohkbcccaaGreatDoorW.PrintWords Go.Proofs.YtogikhohkbcccaaGreatDoorW.PrintLast Go.Proofs.YtogikhohkbcccaaGreatDoorW.PrintMore

/-- The text's and the place's blocks. -/
structure KW (w : World) (N : Nat) (s : ByteArray) (k : Nat) (W : World) : Prop where
  sb : W.heap[N]? = some (.cells #[.string s] 9 (0, 0))
  kb : W.heap[N + 1]? = some (.cells #[.int .i64 (k : Int)] 3 (0, 0))
  below : Below N w W
theorem KW.scell {w W : World} {N k : Nat} {s : ByteArray} (h : KW w N s k W) : W.cell? ⟨N, 0, none⟩ = some (.string s) := by rw [blk_cell h.sb]; rfl
theorem KW.kcell {w W : World} {N k : Nat} {s : ByteArray} (h : KW w N s k W) : W.cell? ⟨N + 1, 0, none⟩ = some (.int .i64 (k : Int)) := by rw [blk_cell h.kb]; rfl
theorem KW.kfree {w W : World} {N k : Nat} {s : ByteArray} (h : KW w N s k W) : W.frozen? ⟨N + 1, 0, none⟩ = false := blk_frozen h.kb 0
theorem KW.set {w W : World} {N k : Nat} {s : ByteArray} (h : KW w N s k W) (j : Nat) : KW w N s j (W.setCell ⟨N + 1, 0, none⟩ (.int .i64 (j : Int))) :=
  ⟨(((Below.refl (N + 1) W).setCell (Nat.le_refl _) _).block N (by omega)).trans h.sb, blk_set h.kb 0 _, h.below.setCell (Nat.le_succ N) _⟩
theorem KW.set' {w W : World} {N k : Nat} {s : ByteArray} {v : Int} (h : KW w N s k W) (j : Nat) (hv : v = (j : Int)) : KW w N s j (W.setCell ⟨N + 1, 0, none⟩ (.int .i64 v)) := by subst hv; exact h.set j
theorem KW.drewN {w W : World} {N k n : Nat} {s : ByteArray} (h : KW w N s k W) : KW w N s k (W.drewN n) := ⟨h.sb, h.kb, pw_below_drewN h.below n⟩
theorem kw_start (w : World) (s : ByteArray) : KW w w.heap.size s 0 ((w.alloc (Obj.cells #[.string s] 9)).alloc (Obj.cells #[.int .i64 0] 3)) := by
  have h1 : (w.alloc (Obj.cells #[.string s] 9)).heap.size = w.heap.size + 1 := by simp [World.alloc, -World.alloc_eq]
  refine ⟨blk_alloc (heap_alloc_new w _) _, ?_, below_alloc (below_alloc (Below.refl _ _) _) _⟩
  rw [← h1]; exact heap_alloc_new _ _
/-- Digits from a place on. -/
def DG (s : ByteArray) (most : Int) (k k' : Nat) : Prop := ∀ i : Nat, k ≤ i → i < k' → 48 ≤ bt s i ∧ bt s i ≤ most
theorem dg_sub {j k n : Nat} (h : j ≤ n) (hn : n ≤ 400) (hk : k ≤ j) : wrap64 ((j : Int) - k) = (j : Int) - k := by unfold wrap64; omega
theorem kw_meas {w W : World} {N k n : Nat} {s : ByteArray} {v : Int} (h : KW w N s k W) (hk : k < n) (hv : v = (k : Int) + 1) :
    n - (intOf (((W.setCell ⟨N + 1, 0, none⟩ (.int .i64 v)).cell? ⟨N + 1, 0, none⟩).getD undef)).toNat < n - (intOf ((W.cell? ⟨N + 1, 0, none⟩).getD undef)).toNat := by
  have h2 := (KW.set' (v := v) h (k + 1) (by rw [hv]; rfl)).kcell
  rw [h2, h.kcell]
  show n - ((k + 1 : Nat) : Int).toNat < n - (k : Int).toNat
  omega

set_option maxHeartbeats 4000000 in
set_option maxRecDepth 100000 in
theorem dg_calls (s : ByteArray) (k N : Nat) (most : Int) (w W : World) (h : KW w N s k W) (hk : k ≤ s.size) (hs : s.size ≤ 400) :
    Calls Tryz.prog 8 #[.int .u8 most, .pointer (some ⟨N + 1, 0, none⟩), .pointer (some ⟨N, 0, none⟩)] W fun e w' => ∃ k' : Nat, k ≤ k' ∧ k' ≤ s.size ∧ e = .returned (.int .i64 ((k' : Int) - k)) ∧ KW w N s k' w' ∧ DG s most k k' := by
  have hkc := h.kcell
  have H := Aside0.mk h
  clear h
  go_enter Tryz.func8, Tryz.ntmps8
  go_wp2
  go_loopw [7] (fun _ wr => ∃ j : Nat, k ≤ j ∧ j ≤ s.size ∧ Aside0 (KW w N s j wr) ∧ Aside0 (DG s most k j)) (fun _ wr => s.size - (intOf ((wr.cell? ⟨N + 1, 0, none⟩).getD undef)).toNat)
  case atStart => exact ⟨k, Nat.le_refl _, hk, H, ⟨fun i h1 h2 => by omega⟩⟩
  case round =>
    clear H hkc
    obtain ⟨j, hj0, hj1, H, HD⟩ := hrel
    have hkc := H.out.kcell
    have hsc := H.out.scell
    have hfr := H.out.kfree
    have HK := Aside0.mk (And.intro hj0 (And.intro hj1 hs))
    by_cases hjn : j < s.size
    · have c1 : ((j : Int) < (s.size : Int)) = True := eq_true (by omega)
      have c1n : (j < s.size) = True := eq_true hjn
      have p1 : ((0 : Int) ≤ (j : Int)) = True := eq_true (by omega)
      obtain ⟨c, hc⟩ : ∃ c, c = bt s j := ⟨_, rfl⟩
      have hx : ∀ h : j < s.size, ((s[j]'h).toNat : Int) = c := pu_hx hc
      have HC := Aside0.mk hc
      have HJ := Aside0.mk hjn
      have W1 : wrap64 ((j : Int) + 1) = (j : Int) + 1 := pu_succ hjn hs
      clear hj0 hj1 hk hjn hc hs
      by_cases h48 : 48 ≤ c
      · have b1 : decide (48 ≤ c) = true := decide_eq_true h48
        by_cases hm : c ≤ most
        · have b2 : decide (c ≤ most) = true := decide_eq_true hm
          have HD2 : Aside0 (DG s most k (j + 1)) := ⟨fun i h1 h2 => by
            by_cases e : i = j
            · subst e; rw [← HC.out]; exact ⟨h48, hm⟩
            · exact HD.out i h1 (by omega)⟩
          clear h48 hm
          go_wp2
          go_roundw
          case measure => exact kw_meas H.out HJ.out rfl
          case rel => exact ⟨j + 1, Nat.le_trans HK.out.1 (Nat.le_succ _), HJ.out, ⟨H.out.set' (j + 1) rfl⟩, HD2⟩
        · have b2 : decide (c ≤ most) = false := decide_eq_false hm
          have W2 : wrap64 ((j : Int) - k) = (j : Int) - k := dg_sub HK.out.2.1 HK.out.2.2 HK.out.1
          clear h48 hm
          go_wp2
          go_ret
          exact ⟨j, HK.out.1, HK.out.2.1, by first | rfl | (show Ending.returned (.int .i64 (wrap64 ((j : Int) - k))) = _; rw [W2]), H.out, HD.out⟩
      · have b1 : decide (48 ≤ c) = false := decide_eq_false h48
        have W2 : wrap64 ((j : Int) - k) = (j : Int) - k := dg_sub HK.out.2.1 HK.out.2.2 HK.out.1
        clear h48
        go_wp2
        go_ret
        exact ⟨j, HK.out.1, HK.out.2.1, by first | rfl | (show Ending.returned (.int .i64 (wrap64 ((j : Int) - k))) = _; rw [W2]), H.out, HD.out⟩
    · have c1 : ((j : Int) < (s.size : Int)) = False := eq_false (by omega)
      have c1n : (j < s.size) = False := eq_false hjn
      have W2 : wrap64 ((j : Int) - k) = (j : Int) - k := dg_sub HK.out.2.1 HK.out.2.2 HK.out.1
      clear hj0 hj1 hk hjn hs
      go_wp2
      go_ret
      exact ⟨j, HK.out.1, HK.out.2.1, by first | rfl | (show Ending.returned (.int .i64 (wrap64 ((j : Int) - k))) = _; rw [W2]), H.out, HD.out⟩
end Go.Proofs.YtogikhohkbcccaaGreatDoor.De

namespace Go.Proofs.YtogikhohkbcccaaGreatDoor.De
set_option linter.unusedVariables false
set_option linter.unusedSimpArgs false
open Go.RowKit Go.Proofs.YtogikhohkbcccaaGreatDoorW.PrintWords Go.Proofs.YtogikhohkbcccaaGreatDoorW.PrintLast Go.Proofs.YtogikhohkbcccaaGreatDoorW.PrintMore

def good (c : Int) : Prop := c ≠ 95 ∧ Go.bits .or .u8 c 32 ≠ 112
theorem good_digit {c : Int} (h0 : 48 ≤ c) (h1 : c ≤ 57) : good c := by
  have : c = 48 ∨ c = 49 ∨ c = 50 ∨ c = 51 ∨ c = 52 ∨ c = 53 ∨ c = 54 ∨ c = 55 ∨ c = 56 ∨ c = 57 := by omega
  rcases this with rfl | rfl | rfl | rfl | rfl | rfl | rfl | rfl | rfl | rfl <;> (constructor <;> decide)
theorem good_43 : good 43 := by constructor <;> decide
theorem good_45 : good 45 := by constructor <;> decide
theorem good_46 : good 46 := by constructor <;> decide
theorem good_120 : good 120 := by constructor <;> decide
theorem good_48 : good 48 := by constructor <;> decide
theorem good_e {c : Int} (h : Go.bits .or .u8 c 32 = 101) : good c :=
  ⟨fun e => by rw [e] at h; exact absurd h (by decide), by rw [h]; decide⟩
theorem hex_ok (c : Int) : ∃ v b, P.spec_hexDigit.f 1 c = some (v, b) ∧ (b = true → good c ∧ c ≠ 43 ∧ c ≠ 45) := by
  unfold P.spec_hexDigit.f
  by_cases h48 : c ≥ 48
  · rw [if_pos h48, P.spec_hexDigit.j0]
    by_cases h57 : c ≤ 57
    · rw [if_pos (decide_eq_true h57)]; exact ⟨_, _, rfl, fun _ => ⟨good_digit h48 h57, by omega, by omega⟩⟩
    · rw [if_neg (by rw [decide_eq_false h57]; simp)]
      by_cases ha : Go.bits .or .u8 c 32 ≥ 97
      · rw [if_pos ha]
        by_cases hf : Go.bits .or .u8 c 32 ≤ 102
        · rw [if_pos hf]; exact ⟨_, _, rfl, fun _ => ⟨⟨fun e => by rw [e] at hf; exact absurd hf (by decide), fun e => by rw [e] at hf; exact absurd hf (by decide)⟩, fun e => by rw [e] at ha; exact absurd ha (by decide), fun e => by rw [e] at ha; exact absurd ha (by decide)⟩⟩
        · rw [if_neg hf]; exact ⟨_, _, rfl, fun h => by cases h⟩
      · rw [if_neg ha]; exact ⟨_, _, rfl, fun h => by cases h⟩
  · rw [if_neg h48, P.spec_hexDigit.j0, if_neg (by simp)]
    by_cases ha : Go.bits .or .u8 c 32 ≥ 97
    · rw [if_pos ha]
      by_cases hf : Go.bits .or .u8 c 32 ≤ 102
      · rw [if_pos hf]; exact ⟨_, _, rfl, fun _ => ⟨⟨fun e => by rw [e] at hf; exact absurd hf (by decide), fun e => by rw [e] at hf; exact absurd hf (by decide)⟩, fun e => by rw [e] at ha; exact absurd ha (by decide), fun e => by rw [e] at ha; exact absurd ha (by decide)⟩⟩
      · rw [if_neg hf]; exact ⟨_, _, rfl, fun h => by cases h⟩
    · rw [if_neg ha]; exact ⟨_, _, rfl, fun h => by cases h⟩
theorem nu_succ {p q n : Nat} (hq : q = p + 1) (h : p < n) (hs : n ≤ 400) : wrap64 ((p : Int) + 1) = (q : Int) := by unfold wrap64; omega
/-- Good bytes between two places. -/
def GB (s : ByteArray) (a b : Nat) : Prop := ∀ i : Nat, a ≤ i → i < b → good (bt s i)
theorem GB.nil (s : ByteArray) (a : Nat) : GB s a a := fun i h1 h2 => by omega
theorem GB.one {s : ByteArray} {a b : Nat} (h : GB s a b) (hc : good (bt s (b : Int))) : GB s a (b + 1) := fun i h1 h2 => by
  by_cases e : i = b
  · subst e; exact hc
  · exact h i h1 (by omega)
theorem GB.digits {s : ByteArray} {a b c : Nat} {most : Int} (h : GB s a b) (hd : DG s most b c) (hm : most ≤ 57) : GB s a c := fun i h1 h2 => by
  by_cases e : i < b
  · exact h i h1 e
  · have := hd i (by omega) h2; exact good_digit this.1 (by omega)
/-- No signs between two places. -/
def NS (s : ByteArray) (a b : Nat) : Prop := ∀ i : Nat, a ≤ i → i < b → bt s i ≠ 43 ∧ bt s i ≠ 45
theorem NS.one {s : ByteArray} {a b : Nat} (h : NS s a b) (hc : bt s (b : Int) ≠ 43 ∧ bt s (b : Int) ≠ 45) : NS s a (b + 1) := fun i h1 h2 => by
  by_cases e : i = b
  · subst e; exact hc
  · exact h i h1 (by omega)
/-- Where the digits begin. -/
def sgP (s : ByteArray) : Nat := if bt s 0 = 43 ∨ bt s 0 = 45 then 1 else 0
def sgB (s : ByteArray) : Bool := decide (bt s 0 = 43 ∨ bt s 0 = 45)
theorem GB.front (s : ByteArray) : GB s 0 (sgP s) := fun i h1 h2 => by
  unfold sgP at h2
  split at h2
  · rename_i h
    obtain rfl : i = 0 := by omega
    rcases h with h | h
    · show good (bt s 0); rw [h]; exact good_43
    · show good (bt s 0); rw [h]; exact good_45
  · omega
/-- The texts that are let through. -/
structure NT (s : ByteArray) : Prop where
  good : GB s 0 s.size
  shape : (sgB s = false ∧ 3 ≤ s.size ∧ bt s 0 = 48 ∧ bt s 1 = 120 ∧ (s.size = 3 ∨ bt s 2 ≠ 48) ∧ bt s 2 ≠ 43 ∧ bt s 2 ≠ 45) ∨
    (sgB s = false ∧ bt s 0 = 48 ∧ (2 ≤ s.size → bt s 1 = 46 ∨ 48 ≤ bt s 1 ∧ bt s 1 ≤ 55)) ∨
    (sgB s = true ∧ 2 ≤ s.size ∧ bt s 1 = 48 ∧ (s.size = 2 ∨ 3 ≤ s.size ∧ bt s 2 = 46)) ∨
    (sgP s < s.size ∧ 49 ≤ bt s (sgP s : Nat) ∧ bt s (sgP s : Nat) ≤ 57)
/-- How NumberText ends. -/
def NQ (s : ByteArray) (w : World) (e : Ending) (w' : World) : Prop := ∃ (n : Int) (ok : Bool), e = .returned (.tuple #[.int .i64 n, .bool ok]) ∧ (ok = true → n = (s.size : Int) → NT s) ∧ Below w.heap.size w w'

theorem nt_sg {s : ByteArray} {p : Nat} {sg : Bool} (h1 : sg = sgB s) (h2 : p = sgP s) : sgB s = true ∧ p = 1 ∨ sgB s = false ∧ p = 0 := by
  rw [h2]; unfold sgB sgP
  by_cases h : bt s 0 = 43 ∨ bt s 0 = 45
  · exact .inl ⟨decide_eq_true h, if_pos h⟩
  · exact .inr ⟨decide_eq_false h, if_neg h⟩
theorem nt_zero {s : ByteArray} {p q k' : Nat} {sg : Bool} (h1 : sg = sgB s) (h2 : p = sgP s) (hp : p < s.size ∧ bt s (p : Int) = 48) (hq : q = p + 1) (hg : GB s 0 q) (hd : DG s 55 q k') (hk : q ≤ k') (he : k' = s.size) (hm : k' = q ∨ sg = false) : NT s := by
  refine ⟨by rw [← he]; exact hg.digits hd (by decide), ?_⟩
  rcases nt_sg h1 h2 with ⟨hs, rfl⟩ | ⟨hs, rfl⟩
  · rcases hm with hm | hm
    · exact .inr (.inr (.inl ⟨hs, by omega, hp.2, .inl (by omega)⟩))
    · rw [h1, hs] at hm; cases hm
  · refine .inr (.inl ⟨hs, hp.2, fun h => .inr ?_⟩)
    exact hd 1 (by omega) (by omega)
theorem nt_point {s : ByteArray} {p q r k' : Nat} {sg : Bool} (h1 : sg = sgB s) (h2 : p = sgP s) (hp : p < s.size ∧ bt s (p : Int) = 48) (hq : q = p + 1) (hr : r = q + 1) (hql : q < s.size) (h46 : bt s (q : Int) = 46) (hg : GB s 0 r) (hd : DG s 55 r k') (he : k' = s.size) : NT s := by
  refine ⟨by rw [← he]; exact hg.digits hd (by decide), ?_⟩
  rcases nt_sg h1 h2 with ⟨hs, rfl⟩ | ⟨hs, rfl⟩
  · subst hq
    exact .inr (.inr (.inl ⟨hs, by omega, hp.2, .inr ⟨by omega, h46⟩⟩))
  · subst hq
    exact .inr (.inl ⟨hs, hp.2, fun h => .inl h46⟩)
theorem nt_hex {s : ByteArray} {p q r j : Nat} {sg : Bool} (h1 : sg = sgB s) (h2 : p = sgP s) (hsg : sg = false) (hp : p < s.size ∧ bt s (p : Int) = 48) (hq : q = p + 1) (hr : r = q + 1) (h120 : bt s (q : Int) = 120) (hg : GB s 0 j) (hns : NS s r j) (hj : j = s.size) (h : j = r + 1 ∨ r < j ∧ bt s (r : Int) ≠ 48) : NT s := by
  refine ⟨by rw [← hj]; exact hg, ?_⟩
  rcases nt_sg h1 h2 with ⟨hs, rfl⟩ | ⟨hs, rfl⟩
  · rw [h1, hs] at hsg; cases hsg
  · subst hq hr
    have h2 := hns 2 (by omega) (by rcases h with h | ⟨h, _⟩ <;> omega)
    refine .inl ⟨hs, by rcases h with h | ⟨h, _⟩ <;> omega, hp.2, h120, ?_, h2.1, h2.2⟩
    rcases h with h | ⟨_, h⟩
    · exact .inl (by omega)
    · exact .inr h
theorem nt_dec {s : ByteArray} {p k1 k3 : Nat} (h2 : p = sgP s) (hn : ¬ (p < s.size ∧ bt s (p : Int) = 48)) (hd : DG s 57 p k1) (hk : p < k1) (hk1 : k1 ≤ s.size) (hg : GB s 0 k3) (he : k3 = s.size) : NT s := by
  refine ⟨by rw [← he]; exact hg, .inr (.inr (.inr ?_))⟩
  rw [← h2]
  have := hd p (Nat.le_refl _) hk
  refine ⟨by omega, ?_, this.2⟩
  have h48 : bt s (p : Int) ≠ 48 := fun e => hn ⟨by omega, e⟩
  omega
theorem ne_int {a b : Nat} (h : a ≠ b) {P : Prop} : (a : Int) = (b : Int) → P := fun e => absurd (Int.ofNat.inj e) h
theorem nu_succ2 {p q n : Nat} (hq : q = p + 1) (h : p ≤ n) (hs : n ≤ 400) : wrap64 ((p : Int) + 1) = (q : Int) := by unfold wrap64; omega
theorem nu_pl {s : ByteArray} {p : Nat} {sg : Bool} (h : (sg = true → p = 1) ∧ (sg = false → p = 0)) (h0 : 0 < s.size) : p ≤ s.size := by
  cases sg with
  | true => have := h.1 rfl; omega
  | false => have := h.2 rfl; omega
end Go.Proofs.YtogikhohkbcccaaGreatDoor.De
