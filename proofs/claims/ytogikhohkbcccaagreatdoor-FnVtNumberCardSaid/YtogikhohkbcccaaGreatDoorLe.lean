import Derived.Test.YtogikhohkbcccaaGreatDoorFx
namespace Go.Proofs.YtogikhohkbcccaaGreatDoor.De
set_option linter.unusedVariables false
set_option linter.unusedSimpArgs false
open Go.RowKit Go.Proofs.YtogikhohkbcccaaGreatDoorW.PrintWords Go.Proofs.YtogikhohkbcccaaGreatDoorW.PrintLast Go.Proofs.YtogikhohkbcccaaGreatDoorW.PrintMore

def tab8 : ByteArray := ⟨(([0, 1, 2, 2] : List UInt8) ++ List.replicate 4 3 ++ List.replicate 8 4 ++ List.replicate 16 5 ++ List.replicate 32 6 ++ List.replicate 64 7 ++ List.replicate 128 8).toArray⟩
set_option maxRecDepth 100000 in
theorem tab8_size : tab8.size = 256 := by rfl
def t8 (z : Nat) : Nat := if h : z < tab8.size then (tab8[z]'h).toNat else 0
theorem t8_le : ∀ z, t8 z ≤ 8 := by
  have H : ((List.range 256).all fun z => decide (t8 z ≤ 8)) = true := by decide +kernel
  intro z
  by_cases h : z < 256
  · have := List.all_eq_true.1 H z (List.mem_range.2 h)
    simpa using this
  · unfold t8
    rw [dif_neg (by rw [tab8_size]; exact h)]
    omega
def stepL (k : Nat) (p : Nat × Nat) : Nat × Nat := if 2 ^ k ≤ p.1 then (p.1 / 2 ^ k, p.2 + k) else p
def len64 (x : Nat) : Nat :=
  (stepL 8 (stepL 16 (stepL 32 (x, 0)))).2 + t8 ((stepL 8 (stepL 16 (stepL 32 (x, 0)))).1 % 256)
theorem stepL_le {k b c : Nat} {p : Nat × Nat} (h : p.1 < b) (hn : p.2 ≤ c) : (stepL k p).1 < b ∧ (stepL k p).2 ≤ c + k := by
  unfold stepL; split
  · exact ⟨Nat.lt_of_le_of_lt (Nat.div_le_self _ _) h, by show p.2 + k ≤ _; omega⟩
  · exact ⟨h, by omega⟩
theorem len64_le {x : Nat} (h : x < 18446744073709551616) : len64 x ≤ 64 := by
  have h1 := stepL_le (k := 32) (b := 18446744073709551616) (c := 0) (p := (x, 0)) h (Nat.le_refl _)
  have h2 := stepL_le (k := 16) h1.1 h1.2
  have h3 := stepL_le (k := 8) h2.1 h2.2
  have := t8_le ((stepL 8 (stepL 16 (stepL 32 (x, 0)))).1 % 256)
  unfold len64; omega
theorem le_add {n k : Nat} (h : n ≤ 100) (hk : k ≤ 100) : wrap64 ((n : Int) + (k : Int)) = ((n + k : Nat) : Int) := by unfold wrap64; omega
theorem bt_t8 {z : Nat} (h : z < 256) : bt tab8 (z : Int) = (t8 z : Int) := by
  unfold bt t8
  have h' : z < tab8.size := by rw [tab8_size]; exact h
  rw [dif_pos h', dif_pos (by simpa using h')]
  rfl

set_option maxHeartbeats 4000000 in
set_option maxRecDepth 100000 in
theorem len64_calls (x : Nat) (hx : x < 18446744073709551616) (w : World) :
    Calls Tryz.prog 66 #[.int .u64 x] w fun e w' => e = .returned (.int .i64 (len64 x : Nat)) ∧ w' = w := by
  have H1 := stepL_le (k := 32) (b := 18446744073709551616) (c := 0) (p := (x, 0)) hx (Nat.le_refl _)
  have H2 := stepL_le (k := 16) H1.1 H1.2
  have H3 := stepL_le (k := 8) H2.1 H2.2
  obtain ⟨p1, hp1⟩ : ∃ p1, p1 = stepL 32 (x, 0) := ⟨_, rfl⟩
  obtain ⟨p2, hp2⟩ : ∃ p2, p2 = stepL 16 p1 := ⟨_, rfl⟩
  obtain ⟨p3, hp3⟩ : ∃ p3, p3 = stepL 8 p2 := ⟨_, rfl⟩
  have HL : Aside0 (len64 x = p3.2 + t8 (p3.1 % 256)) := ⟨by rw [hp3, hp2, hp1]; rfl⟩
  rw [← hp1] at H1 H2 H3
  rw [← hp2] at H2 H3
  rw [← hp3] at H3
  obtain ⟨y1, n1⟩ := p1
  obtain ⟨y2, n2⟩ := p2
  obtain ⟨y3, n3⟩ := p3
  have H1 : Aside0 (y1 < 18446744073709551616 ∧ n1 ≤ 100) := ⟨H1.1, Nat.le_trans H1.2 (by decide)⟩
  have H2 : Aside0 (y2 < 18446744073709551616 ∧ n2 ≤ 100) := ⟨H2.1, Nat.le_trans H2.2 (by decide)⟩
  have H3 : Aside0 (y3 < 18446744073709551616 ∧ n3 ≤ 100) := ⟨H3.1, Nat.le_trans H3.2 (by decide)⟩
  have HP1 := Aside0.mk hp1
  have HP2 := Aside0.mk hp2
  have HP3 := Aside0.mk hp3
  clear hp1 hp2 hp3
  go_enter Tryz.func66, Tryz.ntmps66
  go_upto_if 4 with fail
  go_cut [0, 2] (fun v0 v2 wx => v0 = .int .u64 (y1 : Nat) ∧ v2 = .int .i64 (n1 : Nat) ∧ w = wx)
  case first =>
    by_cases h : 4294967296 ≤ x
    · have c1 : decide ((4294967296 : Int) ≤ (x : Int)) = true := decide_eq_true (by omega)
      have c2 : decide (4294967296 ≤ x) = true := decide_eq_true h
      have HE : Aside0 (y1 = x / 4294967296 ∧ n1 = 0 + 32) := ⟨by have e := HP1.out; unfold stepL at e; rw [if_pos (by exact h)] at e; exact ⟨congrArg Prod.fst e, congrArg Prod.snd e⟩⟩
      clear h
      first | rw [c1] | rw [c2] | skip
      go_wp2
      go_meet
      case rel => exact ⟨by rw [HE.out.1]; rfl, by rw [HE.out.2]; rfl, rfl⟩
    · have c1 : decide ((4294967296 : Int) ≤ (x : Int)) = false := decide_eq_false (by omega)
      have c2 : decide (4294967296 ≤ x) = false := decide_eq_false h
      have HE : Aside0 (y1 = x ∧ n1 = 0) := ⟨by have e := HP1.out; unfold stepL at e; rw [if_neg (by exact h)] at e; exact ⟨congrArg Prod.fst e, congrArg Prod.snd e⟩⟩
      clear h
      first | rw [c1] | rw [c2] | skip
      go_wp2
      go_meet
      case rel => exact ⟨by rw [HE.out.1], by rw [HE.out.2]; rfl, rfl⟩
  case rest =>
    obtain ⟨rfl, rfl, rfl⟩ := hcut
    go_upto_if 8 with fail
    go_cut [0, 2] (fun v0 v2 wx => v0 = .int .u64 (y2 : Nat) ∧ v2 = .int .i64 (n2 : Nat) ∧ w = wx)
    case first =>
      by_cases h : 65536 ≤ y1
      · have c1 : decide ((65536 : Int) ≤ (y1 : Int)) = true := decide_eq_true (by omega)
        have c2 : decide (65536 ≤ y1) = true := decide_eq_true h
        have HE : Aside0 (y2 = y1 / 65536 ∧ n2 = n1 + 16) := ⟨by have e := HP2.out; unfold stepL at e; rw [if_pos (by exact h)] at e; exact ⟨congrArg Prod.fst e, congrArg Prod.snd e⟩⟩
        have W := le_add (n := n1) (k := 16) H1.out.2 (by decide)
        clear h
        first | rw [c1] | rw [c2] | skip
        go_wp2
        go_meet
        case rel => exact ⟨by rw [HE.out.1]; rfl, by rw [HE.out.2]; rfl, rfl⟩
      · have c1 : decide ((65536 : Int) ≤ (y1 : Int)) = false := decide_eq_false (by omega)
        have c2 : decide (65536 ≤ y1) = false := decide_eq_false h
        have HE : Aside0 (y2 = y1 ∧ n2 = n1) := ⟨by have e := HP2.out; unfold stepL at e; rw [if_neg (by exact h)] at e; exact ⟨congrArg Prod.fst e, congrArg Prod.snd e⟩⟩
        clear h
        first | rw [c1] | rw [c2] | skip
        go_wp2
        go_meet
        case rel => exact ⟨by rw [HE.out.1], by rw [HE.out.2], rfl⟩
    case rest =>
      obtain ⟨rfl, rfl, rfl⟩ := hcut
      go_upto_if 14 with fail
      go_cut [0, 2] (fun v0 v2 wx => v0 = .int .u64 (y3 : Nat) ∧ v2 = .int .i64 (n3 : Nat) ∧ w = wx)
      case first =>
        by_cases h : 256 ≤ y2
        · have c1 : decide ((256 : Int) ≤ (y2 : Int)) = true := decide_eq_true (by omega)
          have c2 : decide (256 ≤ y2) = true := decide_eq_true h
          have HE : Aside0 (y3 = y2 / 256 ∧ n3 = n2 + 8) := ⟨by have e := HP3.out; unfold stepL at e; rw [if_pos (by exact h)] at e; exact ⟨congrArg Prod.fst e, congrArg Prod.snd e⟩⟩
          have W := le_add (n := n2) (k := 8) H2.out.2 (by decide)
          clear h
          first | rw [c1] | rw [c2] | skip
          go_wp2
          go_meet
          case rel => exact ⟨by rw [HE.out.1]; rfl, by rw [HE.out.2]; rfl, rfl⟩
        · have c1 : decide ((256 : Int) ≤ (y2 : Int)) = false := decide_eq_false (by omega)
          have c2 : decide (256 ≤ y2) = false := decide_eq_false h
          have HE : Aside0 (y3 = y2 ∧ n3 = n2) := ⟨by have e := HP3.out; unfold stepL at e; rw [if_neg (by exact h)] at e; exact ⟨congrArg Prod.fst e, congrArg Prod.snd e⟩⟩
          clear h
          first | rw [c1] | rw [c2] | skip
          go_wp2
          go_meet
          case rel => exact ⟨by rw [HE.out.1], by rw [HE.out.2], rfl⟩
      case rest =>
        obtain ⟨rfl, rfl, rfl⟩ := hcut
        go_upto_region 10 with fail
        generalize hS : (ByteArray.mk _) = S
        have hs : S = tab8 := by rw [← hS]; rfl
        subst hs
        clear hS
        have h3 := H3.out.1
        have q1 : IntKind.u8.wrap (y3 : Int) = ((y3 % 256 : Nat) : Int) := by simp only [IntKind.wrap_u8]; omega
        obtain ⟨z, hz⟩ : ∃ z, z = y3 % 256 := ⟨_, rfl⟩
        have hz2 : z < 256 := by omega
        rw [← hz] at q1
        have HZ := Aside0.mk hz
        clear hz
        have q2 : ((z : Int) < (tab8.size : Int)) = True := eq_true (by rw [tab8_size]; omega)
        have q2n : (z < tab8.size) = True := eq_true (by rw [tab8_size]; exact hz2)
        have q3 : ((0 : Int) ≤ (z : Int)) = True := eq_true (by omega)
        have q4 := bt_t8 hz2
        have q5 : wrap64 (t8 z : Int) = (t8 z : Int) := by have := t8_le z; unfold wrap64; omega
        have q6 : wrap64 ((n3 : Int) + (t8 z : Int)) = ((n3 + t8 z : Nat) : Int) := le_add H3.out.2 (Nat.le_trans (t8_le z) (by decide))
        have hx : ∀ h : z < tab8.size, ((tab8[z]'h).toNat : Int) = (t8 z : Int) := fun h => by rw [← q4]; exact bt_at tab8 z h
        clear h3
        generalize tab8 = S at *
        go_wp2
        go_ret
        refine ⟨?_, rfl⟩
        rw [HL.out, ← HZ.out]
        rfl
end Go.Proofs.YtogikhohkbcccaaGreatDoor.De
