import Derived.Test.YtlnkgifpiinnoaaExt1
import Derived.Deep.RegionHeld3
namespace Go.Proofs.Ytlnkgifpiinnoaa.Ext
set_option linter.unusedVariables false
set_option linter.unusedSimpArgs false
open Go.RowKit Go.Proofs.YtlnkgifpiinnoaaW.PrintWords Go.Proofs.YtlnkgifpiinnoaaW.PrintLast Go.Proofs.YtlnkgifpiinnoaaW.PrintMore

/-- What is told of an error: is it nil? -/
def EB (v : Value) (b : Bool) : Prop := match b with | true => v = .nilIface | false => ∃ t u, v = .iface t u
theorem EB_nil : EB .nilIface true := rfl
theorem EB_err (t : TypeId) (u : Value) : EB (.iface t u) false := ⟨t, u, rfl⟩

/-- A depth counter in memory. -/
def Dep (w : World) (g : Nat) (x y z : Int) : Prop :=
  w.cell? ⟨g, 0, none⟩ = some (.int .i64 x) ∧ w.cell? ⟨g, 1, none⟩ = some (.int .i64 y) ∧ w.cell? ⟨g, 2, none⟩ = some (.int .i64 z)

def deep (x y z : Int) : Bool := decide (x ≤ 32) && (decide (y ≤ 32) && decide (z ≤ 32))

theorem valid_call (g : Nat) (x y z : Int) (w : World) (h : Dep w g x y z) :
    Calls Try.prog 34 #[.pointer (some ⟨g, 0, none⟩)] w fun e w' => e = .returned (.bool (deep x y z)) ∧ Drawn0 w w' := by
  obtain ⟨h0, h1, h2⟩ := h
  by_cases a : x ≤ 32
  · have a1 : decide (x ≤ 32) = true := by simp [a]
    by_cases b : y ≤ 32
    · have b1 : decide (y ≤ 32) = true := by simp [b]
      by_cases c : z ≤ 32
      · have c1 : decide (z ≤ 32) = true := by simp [c]
        have hd : deep x y z = true := by simp [deep, a, b, c]
        rw [hd]; clear a b c hd
        go_enter Try.func34, Try.ntmps34
        go_wp2_with fail
        try go_quiet (fail)
        go_wp2
        go_ret
        exact ⟨rfl, by repeat (first | exact Drawn0.refl _ | apply Drawn0.step)⟩
      · have c1 : decide (z ≤ 32) = false := by simp; omega
        have hd : deep x y z = false := by simp [deep, c]
        rw [hd]; clear a b c hd
        go_enter Try.func34, Try.ntmps34
        go_wp2_with fail
        try go_quiet (fail)
        go_wp2
        go_ret
        exact ⟨rfl, by repeat (first | exact Drawn0.refl _ | apply Drawn0.step)⟩
    · have b1 : decide (y ≤ 32) = false := by simp; omega
      have hd : deep x y z = false := by simp [deep, b]
      rw [hd]; clear a b hd
      go_enter Try.func34, Try.ntmps34
      go_wp2_with fail
      try go_quiet (fail)
      go_wp2
      go_ret
      exact ⟨rfl, by repeat (first | exact Drawn0.refl _ | apply Drawn0.step)⟩
  · have a1 : decide (x ≤ 32) = false := by simp; omega
    have hd : deep x y z = false := by simp [deep, a]
    rw [hd]; clear a hd
    go_enter Try.func34, Try.ntmps34
    go_wp2_with fail
    try go_quiet (fail)
    go_wp2
    go_ret
    exact ⟨rfl, by repeat (first | exact Drawn0.refl _ | apply Drawn0.step)⟩

theorem arr_call (x y z : Int) (w : World) (h0 : -1000 ≤ x) (h1 : x ≤ 1000) :
    Calls Try.prog 36 #[.agg #[.int .i64 x, .int .i64 y, .int .i64 z]] w fun e w' => e = .returned (.pointer (some ⟨w.heap.size, 0, none⟩)) ∧ w' = w.alloc (.cells #[.int .i64 (x + 1), .int .i64 y, .int .i64 z] 53) := by
  go_enter Try.func36, Try.ntmps36
  go_wp2
  go_ret
  exact ⟨rfl, rfl⟩
theorem ent_call (x y z : Int) (w : World) (h0 : -1000 ≤ z) (h1 : z ≤ 1000) :
    Calls Try.prog 37 #[.agg #[.int .i64 x, .int .i64 y, .int .i64 z]] w fun e w' => e = .returned (.pointer (some ⟨w.heap.size, 0, none⟩)) ∧ w' = w.alloc (.cells #[.int .i64 x, .int .i64 y, .int .i64 (z + 1)] 53) := by
  go_enter Try.func37, Try.ntmps37
  go_wp2
  go_ret
  exact ⟨rfl, rfl⟩
theorem str_call (x y z : Int) (w : World) (h0 : -1000 ≤ y) (h1 : y ≤ 1000) :
    Calls Try.prog 38 #[.agg #[.int .i64 x, .int .i64 y, .int .i64 z]] w fun e w' => e = .returned (.pointer (some ⟨w.heap.size, 0, none⟩)) ∧ w' = w.alloc (.cells #[.int .i64 x, .int .i64 (y + 1), .int .i64 z] 53) := by
  go_enter Try.func38, Try.ntmps38
  go_wp2
  go_ret
  exact ⟨rfl, rfl⟩
end Go.Proofs.Ytlnkgifpiinnoaa.Ext
