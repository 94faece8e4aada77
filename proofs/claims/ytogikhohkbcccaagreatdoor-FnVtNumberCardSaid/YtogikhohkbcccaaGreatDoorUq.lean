import Derived.Test.YtogikhohkbcccaaGreatDoorUp
namespace Go.Proofs.YtogikhohkbcccaaGreatDoor.De
set_option linter.unusedVariables false
set_option linter.unusedSimpArgs false
open Go.RowKit Go.Proofs.YtogikhohkbcccaaGreatDoorW.PrintWords Go.Proofs.YtogikhohkbcccaaGreatDoorW.PrintLast Go.Proofs.YtogikhohkbcccaaGreatDoorW.PrintMore

theorem i64_and63 (n : Int) : bits .and .i64 n 63 = n % 64 := by
  have h63 : (BitVec.ofInt 64 63).toNat = 2 ^ 6 - 1 := by decide
  have key : (BitVec.ofInt 64 n &&& BitVec.ofInt 64 63).toNat = (n % ((2 ^ 64 : Nat) : Int)).toNat % 2 ^ 6 := by
    rw [BitVec.toNat_and, BitVec.toNat_ofInt, h63, Nat.and_two_pow_sub_one_eq_mod]
  show IntKind.i64.wrap ((BitVec.ofInt 64 n &&& BitVec.ofInt 64 63).toNat : Nat) = n % 64
  rw [key, IntKind.wrap_i64]
  omega
theorem bool2_some (b : Bool) : ∃ r, U.strconv_bool2_uint64.f b = some r := by
  cases b <;> exact ⟨_, rfl⟩
theorem uscale_ex (x hi lo s : Int) : ∃ u : Int, U.strconv_uscale.f x hi lo s = some (u, hi, lo, s) := by
  unfold U.strconv_uscale.f
  obtain ⟨m1, hm1⟩ : ∃ m, U.bits_Mul64.f x hi = some m := ⟨_, rfl⟩
  obtain ⟨m2, hm2⟩ : ∃ m, U.bits_Mul64.f x lo = some m := ⟨_, rfl⟩
  rw [hm1, hm2]
  simp only [Option.bind_some]
  rw [if_pos (by rw [i64_and63]; omega)]
  split
  · obtain ⟨r1, h1⟩ := bool2_some (decide (m1.2 < m2.1))
    obtain ⟨r2, h2⟩ := bool2_some (decide ((IntKind.u64.wrap (m1.2 - m2.1)) > 1))
    rw [h1, h2]
    exact ⟨_, rfl⟩
  · exact ⟨_, rfl⟩
def usc (x hi lo s : Int) : Int := match U.strconv_uscale.f x hi lo s with
  | some r => r.1
  | none => 0
theorem usc_is (x hi lo s : Int) : U.strconv_uscale.f x hi lo s = some (usc x hi lo s, hi, lo, s) := by
  obtain ⟨u, h⟩ := uscale_ex x hi lo s
  unfold usc
  rw [h]
theorem uscale_calls (x hi lo s : Int) (g : Nat) (w : World) (hb : B3 w g (.int .u64 hi) (.int .u64 lo) (.int .i64 s)) :
    Calls Tryz.prog 69 #[.int .u64 x, .pointer (some ⟨g, 0, none⟩)] w fun e w' => e = .returned (.int .u64 (usc x hi lo s)) ∧ Below g w w' := by
  have hl : g < w.heap.size := blk_lt hb
  let w0 : World := { w with heap := w.heap.extract 0 g }
  have hsz : w0.heap.size = g := by show (w.heap.extract 0 g).size = g; simp; omega
  have hB : Below w0.heap.size w0 w := by
    rw [hsz]
    refine ⟨rfl, rfl, rfl, by show w0.heap.size ≤ _; rw [hsz]; omega, fun k hk => ?_⟩
    show w.heap[k]? = (w.heap.extract 0 g)[k]?
    rw [Array.getElem?_extract]
    simp; omega
  refine (U.strconv_uscale.calls x g hi lo s _ _ _ _ w0 w ⟨hb, by rw [hsz]; exact Nat.le_refl _⟩ hB (usc_is x hi lo s)).mono ?_
  rintro e w' ⟨h1, h2, h3, h4⟩
  refine ⟨h1, h3.os, h3.tape, h3.output, h4.1, fun k hk => ?_⟩
  rw [h3.block k (by rw [hsz]; exact hk)]
  exact (hB.block k (by rw [hsz]; exact hk)).symm
theorem t8_pos : ∀ z, 1 ≤ z → z < 256 → 1 ≤ t8 z := by
  have H : ((List.range 256).all fun z => decide (z = 0) || decide (1 ≤ t8 z)) = true := by decide +kernel
  intro z h1 h2
  have := List.all_eq_true.1 H z (List.mem_range.2 h2)
  simp at this
  omega
theorem len64_pos {d : Nat} (h : 1 ≤ d) : 1 ≤ len64 d := by
  unfold len64
  by_cases h1 : 4294967296 ≤ d
  · have e1 : stepL 32 (d, 0) = (d / 4294967296, 32) := by unfold stepL; rw [if_pos (by exact h1)]
    rw [e1]
    unfold stepL
    split <;> split <;> simp <;> omega
  · have e1 : stepL 32 (d, 0) = (d, 0) := by unfold stepL; rw [if_neg (by exact h1)]
    rw [e1]
    by_cases h2 : 65536 ≤ d
    · have e2 : stepL 16 (d, 0) = (d / 65536, 16) := by unfold stepL; rw [if_pos (by exact h2)]
      rw [e2]
      unfold stepL
      split <;> simp <;> omega
    · have e2 : stepL 16 (d, 0) = (d, 0) := by unfold stepL; rw [if_neg (by exact h2)]
      rw [e2]
      by_cases h3 : 256 ≤ d
      · have e3 : stepL 8 (d, 0) = (d / 256, 8) := by unfold stepL; rw [if_pos (by exact h3)]
        rw [e3]; show 1 ≤ 8 + _; omega
      · have e3 : stepL 8 (d, 0) = (d, 0) := by unfold stepL; rw [if_neg (by exact h3)]
        rw [e3]
        have := t8_pos d h (by omega)
        show 1 ≤ 0 + t8 (d % 256)
        rw [Nat.mod_eq_of_lt (by omega)]; omega
def lg (p : Int) : Int := (wrap64 (p * 108853)) / 32768
theorem lg_le {p : Int} (h0 : -348 ≤ p) (h1 : p ≤ 347) : -2000 ≤ lg p ∧ lg p ≤ 2000 := by
  have e : wrap64 (p * 108853) = p * 108853 := by unfold wrap64; omega
  unfold lg; rw [e]; omega
def pfE (d : Nat) (p : Int) : Int := if 53 - (len64 d : Int) - lg p < 1074 then 53 - (len64 d : Int) - lg p else 1074
def pfS (d : Nat) (p : Int) : Int := -(pfE d p - (64 - (len64 d : Int)) + lg p + 3)
def pfU (d : Nat) (p : Int) : Int := usc (IntKind.u64.wrap ((d : Int) * 2 ^ (64 - len64 d))) ((Go.Pinned.pow10Rows.getD (p + 348).toNat (0, 0)).1 : Nat) ((Go.Pinned.pow10Rows.getD (p + 348).toNat (0, 0)).2 : Nat) (pfS d p)
theorem pf_bounds {d : Nat} {p : Int} (hd : d < 18446744073709551616) (h0 : -348 ≤ p) (h1 : p ≤ 347) : (-3000 ≤ pfE d p ∧ pfE d p ≤ 1074) ∧ wrap64 (53 - (len64 d : Int)) = 53 - (len64 d : Int) ∧ wrap64 (53 - (len64 d : Int) - lg p) = 53 - (len64 d : Int) - lg p ∧ wrap64 (64 - (len64 d : Int)) = ((64 - len64 d : Nat) : Int) ∧ wrap64 (pfE d p - ((64 - len64 d : Nat) : Int)) = pfE d p - (64 - (len64 d : Int)) ∧ (-1000000 ≤ pfE d p - (64 - (len64 d : Int)) ∧ pfE d p - (64 - (len64 d : Int)) ≤ 1000000) := by
  have h := len64_le hd
  have hl := lg_le h0 h1
  have hE : -3000 ≤ pfE d p ∧ pfE d p ≤ 1074 := by unfold pfE; split <;> omega
  refine ⟨hE, ?_, ?_, ?_, ?_, ?_⟩
  · unfold wrap64; omega
  · unfold wrap64; omega
  · unfold wrap64; omega
  · unfold wrap64; omega
  · omega
theorem prescale' (g : Nat) (a b c : Value) (p e lp : Int) (w : World) (hb : B3 w g a b c) (hg : 9 < g) (hT : PT w) (hp0 : -348 ≤ p) (hp1 : p ≤ 347) (h0 : -1000000 ≤ e ∧ e ≤ 1000000) (h2 : -2000 ≤ lp ∧ lp ≤ 2000) :
    Calls Tryz.prog 68 #[.pointer (some ⟨g, 0, none⟩), .int .i64 e, .int .i64 p, .int .i64 lp] w fun x w' => x = .returned (.tuple #[]) ∧ B3 w' g (.int .u64 ((Go.Pinned.pow10Rows.getD (p + 348).toNat (0, 0)).1 : Nat)) (.int .u64 ((Go.Pinned.pow10Rows.getD (p + 348).toNat (0, 0)).2 : Nat)) (.int .i64 (-(e + lp + 3))) ∧ Below g w w' ∧ w'.heap.size = w.heap.size := by
  obtain ⟨i, rfl⟩ : ∃ i : Nat, p = (i : Int) - 348 := ⟨(p + 348).toNat, by omega⟩
  have e1 : ((i : Int) - 348 + 348).toNat = i := by omega
  rw [e1]
  exact prescale_calls g i a b c e lp w hb hg hT (by omega) h0.1 h0.2 (by omega) (by omega)

def rnd (a : Int) : Int := (IntKind.u64.wrap ((IntKind.u64.wrap (a + 1)) + (Go.bits .and .u64 (a / 4) 1))) / 4
/-- What parseFloat64 answers. -/
def pfO (d : Nat) (p sg : Int) : Nat × Option Int :=
  if 64 ≤ pfS d p then ((bits .or .u64 sg 0).toNat, none)
  else if 36028797018963966 ≤ pfU d p then pk (bits .or .u64 sg (rnd (bits .or .u64 (pfU d p / 2) (bits .and .u64 (pfU d p) 1)))) (-(pfE d p - 1))
  else pk (bits .or .u64 sg (rnd (bits .or .u64 (pfU d p) (bits .and .u64 (pfU d p) 1)))) (-pfE d p)
theorem rnd_calls (a : Int) (w : World) : Calls Tryz.prog 73 #[.int .u64 a] w fun e w' => e = .returned (.int .u64 (rnd a)) ∧ Drawn0 w w' := P.strconv_unrounded_round.calls a _ w rfl
theorem unmin_calls (w : World) : Calls Tryz.prog 71 #[.int .u64 9007199254740992] w fun e w' => e = .returned (.int .u64 36028797018963966) ∧ Drawn0 w w' := P.strconv_unmin.calls _ _ w rfl
theorem b2_calls (b : Bool) (w : World) : Calls Tryz.prog 70 #[.bool b] w fun e w' => e = .returned (.int .i64 (if b = true then 1 else 0)) ∧ Drawn0 w w' := by
  cases b
  · exact P.strconv_bool2_int.calls false _ w rfl
  · exact P.strconv_bool2_int.calls true _ w rfl

set_option maxHeartbeats 4000000 in
set_option maxRecDepth 100000 in
theorem pf_calls (d : Nat) (p sg : Int) (w : World) (hd1 : 1 ≤ d) (hd : d < 18446744073709551616) (h0 : -348 ≤ p) (h1 : p ≤ 347) (hT : PT w) (hsz : 9 < w.heap.size) :
    Calls Tryz.prog 54 #[.int .u64 d, .int .i64 p, .int .u64 sg] w fun e w' => e = .returned (.tuple #[.float .f64 (pfO d p sg).1, errV (pfO d p sg).2]) ∧ Below w.heap.size w w' := by
  have hfr := frombits_run
  have HL := Aside0.mk (fun W : World => len64_calls d hd W)
  have HG : Aside0 (∀ W : World, Calls Tryz.prog 67 #[.int .i64 p] W fun e w' => e = .returned (.int .i64 (lg p)) ∧ Drawn0 W w') := ⟨fun W => P.strconv_log2Pow10.calls p _ W rfl⟩
  go_enter Tryz.func54, Tryz.ntmps54
  go_upto_region 4 with (first | (go_at_call 66; ((with_reducible refine (HL.out _).mono ?_); rintro e w' ⟨rfl, rfl⟩)) | (go_at_call 67; ((with_reducible refine (HG.out _).mono ?_); rintro e w' ⟨rfl, ⟨nd, rfl⟩⟩)))
  go_upto_region 5 with fail
  obtain ⟨B0, B1, B2, B3', B4, B5⟩ := pf_bounds hd h0 h1
  have BL := lg_le h0 h1
  rw [B1, B2]
  obtain ⟨E, hE⟩ : ∃ E, E = pfE d p := ⟨_, rfl⟩
  have HEQ := Aside0.mk hE
  rw [← hE] at B4 B5
  unfold pfE at hE
  rw [← hE]
  have HB0 := Aside0.mk (show -3000 ≤ E ∧ E ≤ 1074 by rw [HEQ.out]; exact B0)
  clear hE B1 B2 B0
  obtain ⟨g, hg⟩ : ∃ g, g = w'.heap.size := ⟨_, rfl⟩
  have HA : Aside0 (B3 ((w'.drewN nd).alloc (Obj.cells #[Value.int IntKind.u64 0, Value.int IntKind.u64 0, Value.int IntKind.i64 0] 160)) g (.int .u64 0) (.int .u64 0) (.int .i64 0)) := ⟨by
    rw [hg]; unfold B3 World.alloc; simp⟩
  have HBA : Aside0 (Below g w' ((w'.drewN nd).alloc (Obj.cells #[Value.int IntKind.u64 0, Value.int IntKind.u64 0, Value.int IntKind.i64 0] 160))) := ⟨by
    rw [hg]; exact below_alloc (pw_below_drewN (Below.refl _ _) _) _⟩
  have HPT := Aside0.mk (hT.below HBA.out (by rw [hg]; exact hsz))
  rw [← hg] at hsz ⊢
  have HGG := Aside0.mk hg
  generalize ((w'.drewN nd).alloc (Obj.cells #[Value.int IntKind.u64 0, Value.int IntKind.u64 0, Value.int IntKind.i64 0] 160)) = w1 at HA HBA HPT ⊢
  have HPS := Aside0.mk (prescale' g _ _ _ p (E - (64 - (len64 d : Int))) (lg p) w1 HA.out hsz HPT.out h0 h1 B5 BL)
  clear hg BL
  go_upto_region 6 with (go_at_call 68; ((first | rw [B3', B4] | skip); (with_reducible refine (HPS.out).mono ?_); rintro e w2 ⟨rfl, hb2, hl2, hs2⟩; have HB2 := Aside0.mk hb2; have HL2 := Aside0.mk hl2; clear hb2 hl2 hs2))
  obtain ⟨S, hS⟩ : ∃ S, S = pfS d p := ⟨_, rfl⟩
  have hS2 : -(E - (64 - (len64 d : Int)) + lg p + 3) = S := by rw [hS, HEQ.out]; rfl
  rw [hS2] at HB2
  have HSS := Aside0.mk hS
  obtain ⟨hi, hhi⟩ : ∃ q : Int, q = ((Go.Pinned.pow10Rows.getD (p + 348).toNat (0, 0)).1 : Nat) := ⟨_, rfl⟩
  obtain ⟨lo, hlo⟩ : ∃ q : Int, q = ((Go.Pinned.pow10Rows.getD (p + 348).toNat (0, 0)).2 : Nat) := ⟨_, rfl⟩
  rw [← hhi, ← hlo] at HB2
  have HHL := Aside0.mk (And.intro hhi hlo)
  have HBW : Aside0 (Below g w' w2) := ⟨HBA.out.trans HL2.out⟩
  have hc2 := HB2.out.cell2
  clear hS hS2 hhi hlo HPS HA HBA HPT HL2 hT HL HG
  by_cases h64 : 64 ≤ S
  · have c1 : ((64 : Int) ≤ S) = True := eq_true h64
    have HO : Aside0 (pfO d p sg = ((bits .or .u64 sg 0).toNat, none)) := ⟨by unfold pfO; rw [if_pos (by rw [← HSS.out]; exact h64)]⟩
    clear h64
    go_wp2
    refine bodyPost_ret (results_list (rs := [.tmp 6, .tmp 7]) rfl (by simp) (.tmp (.tmp .nil))) rfl ?_
    refine ⟨?_, by rw [← HGG.out]; exact HBW.out⟩
    rw [HO.out]; rfl
  · have c1 : ((64 : Int) ≤ S) = False := eq_false h64
    have HN64 := Aside0.mk h64
    have hL0 : len64 d ≤ 64 := len64_le hd
    have hL1 : 1 ≤ len64 d := len64_pos hd1
    obtain ⟨X, hX⟩ : ∃ X, X = IntKind.u64.wrap ((d : Int) * 2 ^ (64 - len64 d)) := ⟨_, rfl⟩
    have HUC := Aside0.mk (uscale_calls X hi lo S g w2 HB2.out)
    obtain ⟨u, hu⟩ : ∃ u, u = usc X hi lo S := ⟨_, rfl⟩
    rw [← hu] at HUC
    have HUU : Aside0 (u = pfU d p) := ⟨by rw [hu, hX, HHL.out.1, HHL.out.2, HSS.out]; rfl⟩
    rw [hX] at HUC
    clear h64 B4 B3' B5 hX hu
    go_upto_region 9 with (go_at_call 69; ((with_reducible refine (HUC.out).mono ?_); rintro e w3 ⟨rfl, hb3⟩; have HB3 := Aside0.mk hb3; clear hb3))
    clear hL0 hL1 HUC hc2
    have hE0 := HB0.out.1
    have hE1 := HB0.out.2
    have HBZ : Aside0 (Below g w' w3) := ⟨HBW.out.trans HB3.out⟩
    by_cases hbig : 36028797018963966 ≤ u
    · have c2 : decide ((36028797018963966 : Int) ≤ u) = true := decide_eq_true hbig
      have c3 : ((36028797018963966 : Int) ≤ u) = True := eq_true hbig
      have HO : Aside0 (pfO d p sg = pk (bits .or .u64 sg (rnd (bits .or .u64 (u / 2) (bits .and .u64 u 1)))) (-(E - 1))) := ⟨by unfold pfO; rw [if_neg (by rw [← HSS.out]; exact Int.not_le.2 HN64.out), if_pos (by rw [← HUU.out]; exact hbig), ← HUU.out, ← HEQ.out]⟩
      clear hbig
      go_wp2_with (first | (go_at_call 71; ((with_reducible refine (unmin_calls _).mono ?_); rintro e w4 ⟨rfl, ⟨n4, rfl⟩⟩)) | (go_at_call 70; ((with_reducible refine (b2_calls _ _).mono ?_); rintro e w5 ⟨rfl, ⟨n5, rfl⟩⟩)) | (go_at_call 73; ((with_reducible refine (rnd_calls _ _).mono ?_); rintro e w6 ⟨rfl, ⟨n6, rfl⟩⟩)) | (go_at_call 76; ((refine (pack_calls _ _ (by omega) (by omega) _).mono ?_); rintro e w7 ⟨rfl, rfl⟩)))
      refine bodyPost_ret (results_list (rs := [.tmp 6, .tmp 7]) rfl (by simp) (.tmp (.tmp .nil))) rfl ?_
      refine ⟨?_, (by (repeat apply pw_below_drewN); rw [← HGG.out]; exact HBZ.out)⟩
      rw [HO.out]
      rfl
    · have c2 : decide ((36028797018963966 : Int) ≤ u) = false := decide_eq_false hbig
      have c3 : ((36028797018963966 : Int) ≤ u) = False := eq_false hbig
      have HO : Aside0 (pfO d p sg = pk (bits .or .u64 sg (rnd (bits .or .u64 u (bits .and .u64 u 1)))) (-E)) := ⟨by unfold pfO; rw [if_neg (by rw [← HSS.out]; exact Int.not_le.2 HN64.out), if_neg (by rw [← HUU.out]; exact hbig), ← HUU.out, ← HEQ.out]⟩
      clear hbig
      go_wp2_with (first | (go_at_call 71; ((with_reducible refine (unmin_calls _).mono ?_); rintro e w4 ⟨rfl, ⟨n4, rfl⟩⟩)) | (go_at_call 70; ((with_reducible refine (b2_calls _ _).mono ?_); rintro e w5 ⟨rfl, ⟨n5, rfl⟩⟩)) | (go_at_call 73; ((with_reducible refine (rnd_calls _ _).mono ?_); rintro e w6 ⟨rfl, ⟨n6, rfl⟩⟩)) | (go_at_call 76; ((refine (pack_calls _ _ (by omega) (by omega) _).mono ?_); rintro e w7 ⟨rfl, rfl⟩)))
      refine bodyPost_ret (results_list (rs := [.tmp 6, .tmp 7]) rfl (by simp) (.tmp (.tmp .nil))) rfl ?_
      refine ⟨?_, (by (repeat apply pw_below_drewN); rw [← HGG.out]; exact HBZ.out)⟩
      rw [HO.out]
      rfl
end Go.Proofs.YtogikhohkbcccaaGreatDoor.De
