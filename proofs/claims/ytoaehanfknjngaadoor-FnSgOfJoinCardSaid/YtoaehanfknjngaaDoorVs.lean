import Derived.Test.YtoaehanfknjngaaDoorSh
import Derived.Test.YtoaehanfknjngaaDoorL0
namespace Go.Proofs.YtoaehanfknjngaaDoor.Vs
set_option linter.unusedVariables false
set_option linter.unusedSimpArgs false
open Go.RowKit Go.Proofs.YtoaehanfknjngaaDoor.L Go.Proofs.YtoaehanfknjngaaDoorW.PrintWords Go.Proofs.YtoaehanfknjngaaDoorW.PrintLast Go.Proofs.YtoaehanfknjngaaDoorW.PrintMore

/-- The library's tables lie in the world as its text lays them. -/
def Tabs (w : World) : Prop := Lib.Utf8Tabs (Tryd.laysValid_ren.g 3) (Tryd.laysValid_ren.g 4) w
theorem Tabs.below {w W : World} (h : Tabs w) (hb : Below w.heap.size w W) : Tabs W := Utf8Tabs_below h hb
/-- No zero byte from a place on. -/
def nz (l : List UInt8) : Bool := l.all (· != 0)
def spec_ValidString.f (s : ByteArray) : Option Bool := if s.size ≤ 9223372036854775807 then some (nz s.data.toList && Lib.validD s.data.toList) else none

theorem nz_drop (s : ByteArray) (j : Nat) (h : j < s.size) : nz (s.data.toList.drop j) = ((s[j]'h) != 0 && nz (s.data.toList.drop (j + 1))) := by
  rw [List.drop_eq_getElem_cons (by simpa using h)]
  rfl

set_option maxHeartbeats 2000000 in
theorem spec_ValidString.calls (a0 : ByteArray) (r : Bool) (w : World) (HT0 : Tabs w) (h : spec_ValidString.f a0 = some r) :
    Calls Tryd.prog 22 #[.string a0] w fun e w' => e = .returned (.bool r) ∧ Below w.heap.size w w' := by
  unfold spec_ValidString.f at h
  split at h
  case isFalse => cases h
  case isTrue hs =>
  obtain rfl := Option.some.inj h
  have cV := Aside0.mk (Tryd.utf8_ValidString a0 w hs HT0)
  generalize Lib.validD a0.data.toList = V at cV ⊢
  obtain ⟨ANS, hA⟩ : ∃ b, b = (nz a0.data.toList && V) := ⟨_, rfl⟩
  rw [← hA]
  have HA := Aside0.mk hA
  clear h HT0 hA
  go_enter Tryd.func22, Tryd.ntmps22
  go_wp2
  go_loop [3] (fun v3 => ∃ j : Nat, v3 = .int .i64 j ∧ j ≤ a0.size ∧ Aside0 (nz a0.data.toList = nz (a0.data.toList.drop j))) (fun v3 => a0.size - (intOf v3).toNat)
  case atStart => exact ⟨0, rfl, Nat.zero_le _, ⟨rfl⟩⟩
  case round =>
    obtain ⟨j, rfl, hj, HJ⟩ := hrel
    by_cases hjl : j < a0.size
    · have HD := Aside0.mk (nz_drop a0 j hjl)
      by_cases hz : (a0[j]'hjl) = 0
      · have hx : ((a0[j]'hjl).toNat : Int) = 0 := by rw [hz]; rfl
        have HE : Aside0 (ANS = false) := ⟨by rw [HA.out, HJ.out, HD.out, hz]; rfl⟩
        clear hz
        go_wp2
        go_ret
        exact ⟨by rw [HE.out]; rfl, Below.refl _ _⟩
      · have hx : (((a0[j]'hjl).toNat : Int) == 0) = false := beq_eq_false_iff_ne.2 (fun he => hz (by
          have h1 : (a0[j]'hjl).toNat = 0 := by omega
          exact UInt8.toNat_inj.1 h1))
        have hne : ((a0[j]'hjl) != 0) = true := by simpa using hz
        have HN : Aside0 (nz a0.data.toList = nz (a0.data.toList.drop (j + 1))) := ⟨by rw [HJ.out, HD.out, hne, Bool.true_and]⟩
        clear hz hne
        go_wp2
        go_round
        case rel => exact ⟨j + 1, by go_num, by omega, HN⟩
        case measure => simp [intOf]; omega
    · obtain rfl : j = a0.size := by omega
      have HE : Aside0 (ANS = V) := ⟨by
        rw [HA.out, HJ.out, List.drop_of_length_le (by rw [Array.length_toList]; exact Nat.le_refl _)]
        rfl⟩
      go_wp2_with (go_at_call 30; ((with_reducible refine cV.out.mono ?_); rintro e w' ⟨rfl, hb⟩; have HB := Aside0.mk hb; clear hb))
      go_ret
      exact ⟨by rw [HE.out]; rfl, HB.out⟩
end Go.Proofs.YtoaehanfknjngaaDoor.Vs
