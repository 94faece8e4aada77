import Derived.Test.YtogikhohkbcccaaGreatDoorSp
import Derived.Test.YtogikhohkbcccaaGreatDoorRt
namespace Go.Proofs.YtogikhohkbcccaaGreatDoor.De
set_option linter.unusedVariables false
set_option linter.unusedSimpArgs false
open Go.RowKit Go.Proofs.YtogikhohkbcccaaGreatDoorW.PrintWords Go.Proofs.YtogikhohkbcccaaGreatDoorW.PrintLast Go.Proofs.YtogikhohkbcccaaGreatDoorW.PrintMore

/-- The texts that are read: no line below, no sign of a binary power, a digit (behind a sign) at the front. -/
structure FText (s : ByteArray) : Prop where
  pos : 0 < s.size
  len : s.size ≤ 400
  und : ∀ i : Nat, i < s.size → bt s i ≠ 95
  pow : ∀ i : Nat, i < s.size → Go.bits .or .u8 (bt s i) 32 ≠ 112
  lead : (48 ≤ bt s 0 ∧ bt s 0 ≤ 57) ∨ (1 < s.size ∧ (bt s 0 = 43 ∨ bt s 0 = 45) ∧ 48 ≤ bt s 1 ∧ bt s 1 ≤ 57)
theorem special_calls (s : ByteArray) (h : FText s) (w : World) :
    Calls Tryz.prog 42 #[.string s] w fun e w' => e = .returned (.tuple #[.float .f64 0, .int .i64 0, .bool false]) ∧ w' = w := by
  rcases h.lead with h1 | ⟨h1, h2, h3⟩
  · exact special_digit s h.pos h1 w
  · exact special_sign s h1 h2 h3 w
/-- readFloat's answer. -/
noncomputable def rfV (s : ByteArray) : F.RFR := by
  classical
  exact if h : ∃ r, Ev (fun k => F.strconv_readFloat.f k s) r ∧ F.RGood s r then Classical.choose h else (0, 0, false, false, false, 0, false)
theorem rfV_is {s : ByteArray} (h : FText s) : Ev (fun k => F.strconv_readFloat.f k s) (rfV s) ∧ F.RGood s (rfV s) := by
  have hx : ∃ r, Ev (fun k => F.strconv_readFloat.f k s) r ∧ F.RGood s r := F.readFloat_ends h.len h.und h.pow h.pos
  have e : rfV s = Classical.choose hx := by unfold rfV; rw [dif_pos hx]
  rw [e]
  exact Classical.choose_spec hx
theorem read_calls (s : ByteArray) (h : FText s) (w : World) :
    Calls Tryz.prog 43 #[.string s] w fun e w' => e = .returned (.tuple #[.int .u64 (rfV s).1, .int .i64 (rfV s).2.1, .bool (rfV s).2.2.1, .bool (rfV s).2.2.2.1, .bool (rfV s).2.2.2.2.1, .int .i64 (rfV s).2.2.2.2.2.1, .bool (rfV s).2.2.2.2.2.2]) ∧ Drawn0 w w' := by
  obtain ⟨k, hk⟩ := (rfV_is h).1.rounds
  exact F.strconv_readFloat.calls k s _ _ _ _ _ _ _ w hk
theorem cut_bt {s : ByteArray} {n i : Nat} (hn : n ≤ s.size) (hi : i < n) : bt (s.extract 0 n) i = bt s i := by
  unfold bt
  have h1 : (i : Int).toNat < (s.extract 0 n).size := by rw [ByteArray.size_extract]; show i < _; omega
  have h2 : (i : Int).toNat < s.size := by show i < _; omega
  rw [dif_pos h1, dif_pos h2]
  congr 2
  rw [ByteArray.getElem_extract]
  congr 1
  show 0 + _ = _
  omega
def sgV (ng : Bool) : Int := if ng = true then 9223372036854775808 else 0
def feq (x y : Nat) : Bool := FloatKind.f64.format.order x y == some .eq
/-- The slow road. -/
def slow (t : ByteArray) (n : Int) : Nat × Int × Option Int := match setF t with
  | none => (0, n, some 2)
  | some x => ((fbO x).1.toNat, n, if (fbO x).2 = true then some 1 else none)
/-- What atof64 answers, out of readFloat's answer. -/
def afR (s : ByteArray) (r : F.RFR) : Nat × Int × Option Int :=
  if r.2.2.2.2.2.2 = false then (0, r.2.2.2.2.2.1, some 2)
  else if r.1 = 0 then ((bits .or .u64 (sgV r.2.2.1) 0).toNat, r.2.2.2.2.2.1, none)
  else if 310 < r.2.1 then ((bits .or .u64 (sgV r.2.2.1) 9218868437227405312).toNat, r.2.2.2.2.2.1, some 1)
  else if r.2.1 < -345 then ((bits .or .u64 (sgV r.2.2.1) 0).toNat, r.2.2.2.2.2.1, none)
  else if r.2.2.2.1 = false ∧ (exO r.1.toNat r.2.1 r.2.2.1).2 = true then ((exO r.1.toNat r.2.1 r.2.2.1).1, r.2.2.2.2.2.1, none)
  else if r.2.2.2.1 = false then ((pfO r.1.toNat r.2.1 (sgV r.2.2.1)).1, r.2.2.2.2.2.1, (pfO r.1.toNat r.2.1 (sgV r.2.2.1)).2)
  else if feq (pfO r.1.toNat r.2.1 (sgV r.2.2.1)).1 (pfO (r.1.toNat + 1) r.2.1 (sgV r.2.2.1)).1 = true then ((pfO r.1.toNat r.2.1 (sgV r.2.2.1)).1, r.2.2.2.2.2.1, (pfO r.1.toNat r.2.1 (sgV r.2.2.1)).2)
  else slow (s.extract 0 r.2.2.2.2.2.1.toNat) r.2.2.2.2.2.1
noncomputable def afV (s : ByteArray) : Nat × Int × Option Int := afR s (rfV s)
/-- The tables lie in the world, below a block. -/
structure TT (B : Nat) (w : World) : Prop where
  lc : LC B w
  ft : FT B w
  et : ET B w
  pt : PT w
  opt : w.cell? ⟨4, 0, none⟩ = some (.bool true)
theorem ET.below {B g : Nat} {w w' : World} (h : ET B w) (hb : Below g w w') (hg : B ≤ g) : ET B w' := by
  obtain ⟨b, o, cap, h0, h1, h2, h3⟩ := h
  refine ⟨b, o, cap, h0, h1, ?_, fun k hk => ?_⟩
  · rw [hb.cell (by show 8 < g; omega)]; exact h2
  · rw [hb.cell (by show b < g; omega)]; exact h3 k hk
theorem TT.below {B g : Nat} {w w' : World} (h : TT B w) (hb : Below g w w') (hg : B ≤ g) : TT B w' := by
  have h10 := h.ft.hi
  refine ⟨h.lc.below hb hg, h.ft.below hb hg, h.et.below hb hg, h.pt.below hb (by omega), ?_⟩
  rw [hb.cell (by show 4 < g; omega)]; exact h.opt
theorem floatBits_calls (g : Nat) (x : Dc) (w : World) (B : Nat) (hBg : B ≤ g) (hT : TT B w) (h : Dec w g x) (hz : x.D = [] ∨ 0 < dg x.D 0) :
    Calls Tryz.prog 50 #[.pointer (some ⟨g, 0, none⟩), .pointer (some ⟨5, 0, none⟩)] w (BP (fbO x) g w) := by
  rcases hz with hz | hl
  · exact floatBits_zero g x w B hBg hT.ft h hz
  · by_cases h1 : 310 < x.dp
    · exact floatBits_over g x w B hBg hT.ft h hl h1
    · by_cases h2 : x.dp < -330
      · exact floatBits_under g x w B hBg hT.ft h hl h2
      · exact floatBits_main g x w B hBg hT.lc hT.ft h hl (by omega) (by omega)
end Go.Proofs.YtogikhohkbcccaaGreatDoor.De
