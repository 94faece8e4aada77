-- The row of FnMtRuleOrder, and the card: the lines of a printed row, turned to these arguments and to laid tables.
import Derived.Test.YtoldgnmgjpjapaaDoorCards
import Derived.Test.YtoldgnmgjpjapaaDoorTie
import Derived.Test.YtoldgnmgjpjapaaDoorQ9
import Derived.Test.YtoldgnmgjpjapaaDoorOp
import Derived.Test.YtoldgnmgjpjapaaDoorPureFnMtRuleOrder
import Derived.WalkKit
import Derived.ProofKit
import Derived.OpenShut
import Derived.ShutString
import Derived.ChangeOld
import Derived.Below
import Derived.SizedLaws
import Derived.SliceStrings
import Derived.Carry
import Derived.LaidMore
import Derived.SevenTiedAt
namespace Go.Proofs.YtoldgnmgjpjapaaDoor.fnMtRuleOrder
open Go.ChangeShapes Go.WideShapes Go.ChangeAt Go.RowKit
open Go.ChangeMaps (open_string shut_string)
set_option linter.unusedVariables false
set_option linter.unusedSimpArgs false
open Go.Proofs.YtoldgnmgjpjapaaDoorW.PrintWords Go.Proofs.YtoldgnmgjpjapaaDoor.Q
theorem laidOut : laidOutB Tryd.prog = true := by kernel_rfl
theorem own : ownKnob Tryd.prog.godebug = none := by kernel_rfl
abbrev tabs : List (String × DataW Unit) := [("math/bits.deBruijn32tab", Rows.laid_math_bits_deBruijn32tab), ("math/bits.deBruijn64tab", Rows.laid_math_bits_deBruijn64tab), ("internal/strconv.uint64pow10", Rows.laid_internal_strconv_uint64pow10)]
set_option maxRecDepth 100000 in
theorem door_met (os : Os) (args : Array Value) : laidMetH Tryd.prog tabs ((World.doorLaid Tryd.prog 4000 os).forCall (fun _ _ => 0) ⟨#[], args, []⟩).memory :=
  laidMetH_of_parts3 (fuel := 8) (laidMet_of_run' 8 (by kernel_rfl) (by kernel_rfl)) (by kernel_rfl) (by kernel_rfl)

set_option maxRecDepth 100000 in
theorem lifted (os : Os) (started : os.Started) (H : Type) (enc : TypeId × Value → H) :
    ReturnsInHanded {} Tryd.checked os 3 .any (fun w args => (Rows.fnMtRuleOrderSpec.pre enc Tryd.prog Tryd.f3 [] false w args ∧ laidMetH Tryd.prog tabs w) ∧ sizedMet enc Tryd.prog Tryd.f3 (OpenSpec.ofChange Rows.fnMtRuleOrderSpec) false w args)
      (Rows.fnMtRuleOrderSpec.post enc Tryd.prog Tryd.f3 false true false false) := by
  refine returnsInHanded_of_change_and (C := Tryd.checked) (X := fun w _ => laidMetH Tryd.prog tabs w) (fun _ _ _ hh h => h.of_heap hh) own started (by kernel_rfl) Tryd.func3
    (ChangeSpec.witness_shaped (enc := enc) (C := Tryd.checked) (os := os) (X := fun w _ => laidMetH Tryd.prog tabs w) false (World.doorLaid Tryd.prog 4000 os) #[.slice none 0 0, .slice none 0 0, .slice none 0 0, .int .u8 0, .agg #[.int .u8 0, .int .u8 0, .int .u32 0, .slice none 0 0, .slice none 0 0]] 8 rfl (World.shaped_of_RefB (by kernel_rfl) (by kernel_rfl)) (by kernel_rfl) (by kernel_rfl) (by kernel_rfl) (door_met os _)) ?_
  intro W base args ds gs before hval0 hW _ _ hL _
  have hval : ∀ (j : Nat) t v, Tryd.f3.params[j]? = some t → args[j]? = some v → Value.okWide Tryd.prog W .any base t v := hval0
  have hW' := hW
  obtain ⟨p, q, hA0, hV, rfl, hfz, hnd⟩ := hW
  have hA : DataW.TrodAll enc Tryd.prog W 0 (fun _ => true) true Tryd.f3.params.toList args.toList ds p := hA0
  rw [Tryd.params3] at hA hval
  obtain ⟨v0, vs0, d0, ds0, p0, q0, hargs, rfl, rfl, h0, r0⟩ := trodAll_cons hA
  obtain ⟨v1, vs1, d1, ds1, p1, q1, rfl, rfl, rfl, h1, r1⟩ := trodAll_cons r0
  obtain ⟨v2, vs2, d2, ds2, p2, q2, rfl, rfl, rfl, h2, r2⟩ := trodAll_cons r1
  obtain ⟨v9, vs9, d9, ds9, p9, q9, rfl, rfl, rfl, h9, r9⟩ := trodAll_cons r2
  obtain ⟨v3, vs3, d3, ds3, p3, q3, rfl, rfl, rfl, h3, r3⟩ := trodAll_cons r9
  obtain ⟨rfl, rfl, rfl⟩ := trodAll_nil r3
  obtain rfl : args = #[v0, v1, v2, v9, v3] := by cases args; simp_all
  obtain ⟨rfl, rfl⟩ := trodVars_none hV
  obtain ⟨a0, len0, cap0, rfl⟩ := okWide_slice Tryd.underlying22 (hval 0 22 v0 rfl rfl)
  obtain ⟨a1, len1, cap1, rfl⟩ := okWide_slice Tryd.underlying22 (hval 1 22 v1 rfl rfl)
  obtain ⟨a2, len2, cap2, rfl⟩ := okWide_slice Tryd.underlying23 (hval 2 23 v2 rfl rfl)
  have ag : ∃ a, v3 = .agg a := by obtain ⟨cs, e, _⟩ := okWide_struct Tryd.underlying28 (hval 4 28 v3 rfl rfl); exact ⟨cs, e⟩
  obtain ⟨tu, rfl, rfl, rfl, w9⟩ := open_int Tryd.underlying5 (hval 3 5 v9 rfl rfl) h9
  have k0 := h0
  have k1 := h1
  have k2 := h2
  have k3 := h3
  have lt0 : ∀ x ∈ p0, x.block < W.heap.size := by obtain ⟨m, hm⟩ := k0; exact DataW.trod_lt m _ _ _ hm
  have lt1 : ∀ x ∈ p1, x.block < W.heap.size := by obtain ⟨m, hm⟩ := k1; exact DataW.trod_lt m _ _ _ hm
  have lt2 : ∀ x ∈ p2, x.block < W.heap.size := by obtain ⟨m, hm⟩ := k2; exact DataW.trod_lt m _ _ _ hm
  have lt3 : ∀ x ∈ p3, x.block < W.heap.size := by obtain ⟨m, hm⟩ := k3; exact DataW.trod_lt m _ _ _ hm
  obtain ⟨f0, g0⟩ := h0
  obtain ⟨f1, g1⟩ := h1
  obtain ⟨f2, g2⟩ := h2
  obtain ⟨f3, g3⟩ := h3
  obtain ⟨A0, c0, l0, hcs0, hc0, hr0, hw0⟩ := Op.open_bytes g0
  obtain ⟨A1, c1, l1, hcs1, hc1, hr1, hw1⟩ := Op.open_bytes g1
  obtain ⟨A2, c2, l2, hcs2, hc2, hr2, hw2⟩ := Op.open_texts g2
  obtain ⟨m0, m1, m2, A3, B3, c3, e3, L, M, hcs3, hcL, hrL, hcM, hrM, hS⟩ := Op.open_msg g3
  simp only [Value.cells] at hcs0 hcs1 hcs2
  injection (List.cons.inj hcs0).1 with x1 x2 x3
  subst x1 x2 x3
  injection (List.cons.inj hcs1).1 with x1 x2 x3
  subst x1 x2 x3
  injection (List.cons.inj hcs2).1 with x1 x2 x3
  subst x1 x2 x3
  obtain rfl : v3 = .agg #[.int .u8 m0, .int .u8 m1, .int .u32 m2, .slice A3 L.length c3, .slice B3 M.length e3] := by
    obtain ⟨a, rfl⟩ := ag
    simp only [Value.cells] at hcs3
    rw [show a = #[.int .u8 m0, .int .u8 m1, .int .u32 m2, .slice A3 L.length c3, .slice B3 M.length e3] from Array.toList_inj.1 hcs3]
  clear hA0 hval0
  have pos : ∀ z : Int, (Lit.int .u8 z).wf = true → 0 ≤ z := fun z hz => by
    simp [Lit.wf] at hz
    have hmin : IntKind.u8.min = 0 := by decide
    omega
  have tup : 0 ≤ tu ∧ tu ≤ 255 := by
    have hz := w9
    simp [Lit.wf] at hz
    have hmin : IntKind.u8.min = 0 := by decide
    have hmax : IntKind.u8.max = 255 := by decide
    omega
  obtain ⟨k, hk⟩ := PureO.FnMtRuleOrder l0 l1 l2 tu m0 m1 m2 L M (fun x hx => pos x (hw0 x hx)) (fun x hx => pos x (hw1 x hx)) tup.1 tup.2 (fun x hx => by have := hS x hx; unfold maxLen at this; omega)
  refine (laws_FnMtRuleOrder.calls k _ _ l0 _ _ l1 _ _ l2 tu m0 m1 m2 _ _ L _ _ M true W hr0 hc0 hr1 hc1 hr2 hc2 hrL hcL hrM hcM hk).mono fun e W' ⟨he, bel⟩ => ?_
  subst he
  exact ⟨_, rfl, _, _, _, [], _, [], hW', trodAll_mk1 (shut_bool Tryd.underlying4 _), (trodAll_cons_mk (Below.trod laidOut (by kernel_rfl) (of_decide_eq_true (by kernel_rfl)) k0 bel lt0) (trodAll_cons_mk (Below.trod laidOut (by kernel_rfl) (of_decide_eq_true (by kernel_rfl)) k1 bel lt1) (trodAll_cons_mk (Below.trod laidOut (by kernel_rfl) (of_decide_eq_true (by kernel_rfl)) k2 bel lt2) (trodAll_cons_mk (shut_int Tryd.underlying5 w9) (trodAll_cons_mk (Below.trod laidOut (by kernel_rfl) (of_decide_eq_true (by kernel_rfl)) k3 bel lt3) trodAll_mk0))))), rfl, bel.frame _, fun h => by cases h⟩
theorem over : Rows.fnMtRuleOrderRow.holds Tryd.pinned (OpenSpec.ofChange Rows.fnMtRuleOrderSpec) :=
  OpenClaim.holds_of_wide 3 Tryd.f3 rfl rfl rfl rfl rfl rfl rfl ⟨rfl, rfl, rfl, rfl, rfl⟩ rfl rfl rfl rfl rfl (by kernel_rfl) Tryd.func3 (by kernel_rfl)
    (of_decide_eq_true (by kernel_rfl)) (by unfold Func.isWrapper; first | (rw [if_pos (by decide +kernel)]; kernel_rfl) | (rw [if_neg (by decide +kernel)]; exact ⟨rfl, rfl⟩))
    (fun os started H enc _ => lifted os started H enc)
theorem card : Rows.FnMtRuleOrderCardSaid :=
  Claim7.holds_tied_plain_at .later [] [.data, .data, .data] true (true, "993b8ab36e5f37f584eb57fad19f86c4a320d937d02a79678a82ffa86855e0cb") false
    over (fun _ h => by cases h) (by kernel_rfl) (fun _ h => by cases h) fnMtRuleOrder_row_tie rfl ⟨rfl, rfl⟩ (by kernel_rfl) rfl
    (fun f fn hf hfn => by
      obtain rfl : f = 3 := Option.some.inj ((show Tryd.prog.funcNamed "pub-barouche/laws.FnMtRuleOrder" = some 3 by kernel_rfl).symm.trans hf) |>.symm
      obtain rfl : fn = Tryd.f3 := (Option.some.inj (Tryd.func3.symm.trans hfn)).symm
      exact ⟨by kernel_rfl, fun j t ht => by
        rw [Tryd.params3] at ht
        have hm : t ∈ [22, 22, 23, 5, 28] := by simpa using Array.mem_of_getElem? ht
        have hall : ([22, 22, 23, 5, 28].all fun u => !Tryd.prog.wantsStandIn u) = true := by kernel_rfl
        exact (show Tryd.prog.wantsStandIn t = false by simpa using List.all_eq_true.1 hall t hm)⟩)
    (by kernel_rfl)
#print axioms card
end Go.Proofs.YtoldgnmgjpjapaaDoor.fnMtRuleOrder
namespace Go.Proofs.YtoldgnmgjpjapaaDoor
/-- The card, under a short name, for the claim. -/
theorem fnMtRuleOrder_holds : Rows.FnMtRuleOrderCardSaid := fnMtRuleOrder.card
end Go.Proofs.YtoldgnmgjpjapaaDoor
