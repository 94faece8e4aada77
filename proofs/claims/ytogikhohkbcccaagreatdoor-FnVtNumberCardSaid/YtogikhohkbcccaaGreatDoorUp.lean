import Derived.Test.YtogikhohkbcccaaGreatDoorLe
import Derived.Test.YtogikhohkbcccaaGreatDoorU1
import Derived.Laws.Externs
namespace Go.Proofs.YtogikhohkbcccaaGreatDoor.De
set_option linter.unusedVariables false
set_option linter.unusedSimpArgs false
open Go.RowKit Go.Proofs.YtogikhohkbcccaaGreatDoorW.PrintWords Go.Proofs.YtogikhohkbcccaaGreatDoorW.PrintLast Go.Proofs.YtogikhohkbcccaaGreatDoorW.PrintMore

theorem frombits_run (n : Int) (w : World) : (callFunc 52 #[.int .u64 n]).run Tryz.prog w = .ok (.value (.float .f64 n.toNat)) w := by
  rw [run_callFunc_extern (fn := Tryz.f52) (e := Extern.MathFloatBits.float64frombits) (by kernel_rfl) (by kernel_rfl) (by kernel_rfl) (by kernel_rfl) (by kernel_rfl)]
  rfl
def errV : Option Int → Value
  | none => .nilIface
  | some k => .iface 61 (.int .i64 k)
def pk (m e : Int) : Nat × Option Int :=
  if (bits .and .u64 m 4503599627370496 == 0) = true then (m.toNat, none)
  else if 972 ≤ e then ((bits .or .u64 (bits .and .u64 m 9223372036854775808) 9218868437227405312).toNat, some 1)
  else ((bits .or .u64 (bits .andNot .u64 m 4503599627370496) (IntKind.u64.wrap (IntKind.u64.wrap (1075 + e) * 4503599627370496))).toNat, none)

set_option maxHeartbeats 4000000 in
set_option maxRecDepth 100000 in
theorem pack_calls (m e : Int) (he0 : -1000000 ≤ e) (he1 : e ≤ 1000000) (w : World) :
    Calls Tryz.prog 76 #[.int .u64 m, .int .i64 e] w fun x w' => x = .returned (.tuple #[.float .f64 (pk m e).1, errV (pk m e).2]) ∧ w' = w := by
  have hd := frombits_run
  cases hb : (bits .and .u64 m 4503599627370496 == 0) with
  | true =>
    have HE : Aside0 (pk m e = (m.toNat, none)) := ⟨by unfold pk; rw [if_pos hb]⟩
    go_enter Tryz.func76, Tryz.ntmps76
    go_wp2
    refine bodyPost_ret (results_list (rs := [.tmp 4, .tmp 5]) rfl (by simp) (.tmp (.tmp .nil))) rfl ?_
    refine ⟨?_, rfl⟩
    rw [HE.out]; rfl
  | false =>
    by_cases h9 : 972 ≤ e
    · have HE : Aside0 (pk m e = ((bits .or .u64 (bits .and .u64 m 9223372036854775808) 9218868437227405312).toNat, some 1)) := ⟨by unfold pk; rw [if_neg (by rw [hb]; simp), if_pos h9]⟩
      have c1 : (972 ≤ e) = True := eq_true h9
      clear h9
      go_enter Tryz.func76, Tryz.ntmps76
      go_wp2
      refine bodyPost_ret (results_list (rs := [.tmp 4, .tmp 5]) rfl (by simp) (.tmp (.tmp .nil))) rfl ?_
      refine ⟨?_, rfl⟩
      rw [HE.out]; rfl
    · have HE : Aside0 (pk m e = ((bits .or .u64 (bits .andNot .u64 m 4503599627370496) (IntKind.u64.wrap (IntKind.u64.wrap (1075 + e) * 4503599627370496))).toNat, none)) := ⟨by unfold pk; rw [if_neg (by rw [hb]; simp), if_neg h9]⟩
      have c1 : (972 ≤ e) = False := eq_false h9
      have W : wrap64 (1075 + e) = 1075 + e := by unfold wrap64; omega
      clear h9
      go_enter Tryz.func76, Tryz.ntmps76
      go_wp2
      refine bodyPost_ret (results_list (rs := [.tmp 4, .tmp 5]) rfl (by simp) (.tmp (.tmp .nil))) rfl ?_
      refine ⟨?_, rfl⟩
      rw [HE.out]; rfl

/-- The table of the powers of ten. -/
def PT (w : World) : Prop := ∀ i, i < 696 → w.cell? ⟨9, i * 2, none⟩ = some (.int .u64 ((Go.Pinned.pow10Rows.getD i (0, 0)).1 : Nat)) ∧ w.cell? ⟨9, i * 2 + 1, none⟩ = some (.int .u64 ((Go.Pinned.pow10Rows.getD i (0, 0)).2 : Nat))
theorem PT.below {w w' : World} {g : Nat} (h : PT w) (hb : Below g w w') (hg : 9 < g) : PT w' := fun i hi => ⟨by rw [hb.cell (by show 9 < g; exact hg)]; exact (h i hi).1, by rw [hb.cell (by show 9 < g; exact hg)]; exact (h i hi).2⟩
def B3 (w : World) (g : Nat) (a b c : Value) : Prop := w.heap[g]? = some (.cells #[a, b, c] 160 (0, 0))
theorem B3.cell0 {w : World} {g : Nat} {a b c : Value} (h : B3 w g a b c) : w.cell? ⟨g, 0, none⟩ = some a := by rw [blk_cell h]; rfl
theorem B3.cell1 {w : World} {g : Nat} {a b c : Value} (h : B3 w g a b c) : w.cell? ⟨g, 1, none⟩ = some b := by rw [blk_cell h]; rfl
theorem B3.cell2 {w : World} {g : Nat} {a b c : Value} (h : B3 w g a b c) : w.cell? ⟨g, 2, none⟩ = some c := by rw [blk_cell h]; rfl
theorem B3.frozen {w : World} {g : Nat} {a b c : Value} (h : B3 w g a b c) (i : Nat) : w.frozen? ⟨g, i, none⟩ = false := blk_frozen h i
theorem B3.set0 {w : World} {g : Nat} {a b c : Value} (h : B3 w g a b c) (v : Value) : B3 (w.setCell ⟨g, 0, none⟩ v) g v b c := blk_set h 0 v
theorem B3.set1 {w : World} {g : Nat} {a b c : Value} (h : B3 w g a b c) (v : Value) : B3 (w.setCell ⟨g, 1, none⟩ v) g a v c := blk_set h 1 v
theorem B3.set2 {w : World} {g : Nat} {a b c : Value} (h : B3 w g a b c) (v : Value) : B3 (w.setCell ⟨g, 2, none⟩ v) g a b v := blk_set h 2 v
theorem up_s {e lp : Int} (h0 : -1000000 ≤ e) (h1 : e ≤ 1000000) (h2 : -1000000 ≤ lp) (h3 : lp ≤ 1000000) : wrap64 (e + lp) = e + lp ∧ wrap64 (e + lp + 3) = e + lp + 3 ∧ wrap64 (-(e + lp + 3)) = -(e + lp + 3) := by unfold wrap64; omega

set_option maxHeartbeats 4000000 in
set_option maxRecDepth 100000 in
theorem prescale_calls (g i : Nat) (a b c : Value) (e lp : Int) (w : World) (hb : B3 w g a b c) (hg : 9 < g) (hT : PT w) (hi : i < 696) (h0 : -1000000 ≤ e) (h1 : e ≤ 1000000) (h2 : -1000000 ≤ lp) (h3 : lp ≤ 1000000) :
    Calls Tryz.prog 68 #[.pointer (some ⟨g, 0, none⟩), .int .i64 e, .int .i64 ((i : Int) - 348), .int .i64 lp] w fun x w' => x = .returned (.tuple #[]) ∧ B3 w' g (.int .u64 ((Go.Pinned.pow10Rows.getD i (0, 0)).1 : Nat)) (.int .u64 ((Go.Pinned.pow10Rows.getD i (0, 0)).2 : Nat)) (.int .i64 (-(e + lp + 3))) ∧ Below g w w' ∧ w'.heap.size = w.heap.size := by
  obtain ⟨hi1, hi2⟩ := hT i hi
  obtain ⟨E1, E2, E3⟩ := up_s h0 h1 h2 h3
  have HT := Aside0.mk hT
  have HB := Aside0.mk hb
  have HI := Aside0.mk hi
  have HG := Aside0.mk hg
  generalize (Go.Pinned.pow10Rows.getD i (0, 0)).1 = hiV at hi1 ⊢
  generalize (Go.Pinned.pow10Rows.getD i (0, 0)).2 = loV at hi2 ⊢
  have p1 : ((i : Int) < 696) = True := eq_true (by omega)
  have p1n : (i < 696) = True := eq_true hi
  have p2 : ((0 : Int) ≤ (i : Int)) = True := eq_true (by omega)
  have W0 : wrap64 (i : Int) = (i : Int) := w_self (Nat.le_trans (Nat.le_of_lt hi) (by decide))
  have hc0 := hb.cell0
  have hf0 := hb.frozen 0
  clear hT hi h0 h1 h2 h3 hb
  go_enter Tryz.func68, Tryz.ntmps68
  go_upto_region 1 with fail
  have HB1 := Aside0.mk (HB.out.set0 (.int .u64 (hiV : Int)))
  have HL1 : Aside0 (Below g w (w.setCell ⟨g, 0, none⟩ (.int .u64 (hiV : Int))) ∧ (w.setCell ⟨g, 0, none⟩ (.int .u64 (hiV : Int))).heap.size = w.heap.size) := ⟨(Below.refl g w).setCell (Nat.le_refl _) _, size_set _ _ _⟩
  have hi2' := HL1.out.1.cell (p := ⟨9, i * 2 + 1, none⟩) HG.out
  rw [hi2] at hi2'
  clear hi1 hi2 hc0 hf0
  generalize (w.setCell ⟨g, 0, none⟩ (.int .u64 (hiV : Int))) = w1 at HB1 HL1 hi2' ⊢
  have hc1 := HB1.out.cell1
  have hf1 := HB1.out.frozen 1
  go_upto_region 2 with fail
  have HB2 := Aside0.mk (HB1.out.set1 (.int .u64 (loV : Int)))
  have HL2 : Aside0 (Below g w (w1.setCell ⟨g, 1, none⟩ (.int .u64 (loV : Int))) ∧ (w1.setCell ⟨g, 1, none⟩ (.int .u64 (loV : Int))).heap.size = w.heap.size) := ⟨HL1.out.1.setCell (Nat.le_refl _) _, by rw [size_set]; exact HL1.out.2⟩
  clear hi2' hc1 hf1
  generalize (w1.setCell ⟨g, 1, none⟩ (.int .u64 (loV : Int))) = w2 at HB2 HL2 ⊢
  have hc2 := HB2.out.cell2
  have hf2 := HB2.out.frozen 2
  go_wp2
  go_end0
  refine ⟨rfl, ?_, HL2.out.1.setCell (Nat.le_refl _) _, by rw [size_set]; exact HL2.out.2⟩

  exact HB2.out.set2 _
end Go.Proofs.YtogikhohkbcccaaGreatDoor.De
