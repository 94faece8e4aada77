import Derived.Test.YtogikhohkbcccaaGreatDoorPk
import Derived.Test.YtogikhohkbcccaaGreatDoorDn
import Derived.Test.YtogikhohkbcccaaGreatDoorVka
import Derived.Test.YtogikhohkbcccaaGreatDoorNk
import Derived.Test.YtogikhohkbcccaaGreatDoorVkb
import Derived.Test.YtogikhohkbcccaaGreatDoorVkc
import Derived.Test.YtogikhohkbcccaaGreatDoorVke
namespace Go.Proofs.YtogikhohkbcccaaGreatDoor.To
set_option linter.unusedVariables false
set_option linter.unusedSimpArgs false
open Go.RowKit Go.Proofs.YtogikhohkbcccaaGreatDoorW.PrintWords Go.Proofs.YtogikhohkbcccaaGreatDoorW.PrintLast Go.Proofs.YtogikhohkbcccaaGreatDoorW.PrintMore Go.Proofs.YtogikhohkbcccaaGreatDoor.De

/-- The library's tables lie in the world. -/
def TWd (w : World) : Prop := ∃ B, TT B w ∧ B ≤ w.heap.size ∧ EV w ∧ 2 < w.heap.size
theorem TWd.step {w W : World} (h : TWd w) (hb : Below w.heap.size w W) : TWd W := by
  obtain ⟨B, h1, h2, h3, h4⟩ := h
  exact ⟨B, h1.below hb h2, Nat.le_trans h2 hb.size, h3.below hb h4, Nat.lt_of_lt_of_le h4 hb.size⟩
theorem TWd.ev {w : World} (h : TWd w) : EV w ∧ 2 < w.heap.size := ⟨h.choose_spec.2.2.1, h.choose_spec.2.2.2⟩
theorem bchain {w W W' : World} (h : Below w.heap.size w W) (h' : Below W.heap.size W W') : Below w.heap.size w W' := h.trans (h'.mono h.size)
/-- How both readers answer. -/
def R5 (K n : Int) (er : Bool) (e : Ending) : Prop := e = .returned (.tuple #[.agg (if er = true then vc 0 0 else vc K n), .bool (!er)])
def PKG (s sig : ByteArray) (K : Int) (w : World) (n : Int) (er : Bool) : Prop :=
  (∀ W, Below w.heap.size w W → Calls Tryz.prog 5 #[.string s, .int .u8 K] W fun e w' => R5 K n er e ∧ Below W.heap.size W w') ∧
  (∀ W, Below w.heap.size w W → Calls Tryz.prog 6 #[.string s, .string sig] W fun e w' => R5 K n er e ∧ Below W.heap.size W w')
theorem pk_mk (s sig : ByteArray) (K n : Int) (r : Int × Option Int) (w : World) (v : Value)
    (H5 : ∀ W, Below w.heap.size w W → Calls Tryz.prog 5 #[.string s, .int .u8 K] W fun e w' => OAns r K n e ∧ Below W.heap.size W w')
    (H20 : ∀ W, Below w.heap.size w W → Calls Tryz.prog 20 #[.string s, .agg #[.string sig]] W fun e w' => ((r.2 = none ∧ e = .returned (.tuple #[v, .nilIface])) ∨ (r.2 ≠ none ∧ ∃ N, e = .returned (.tuple #[.nilIface, .iface 62 (.pointer (some ⟨N, 0, none⟩))]))) ∧ Below W.heap.size W w')
    (H21 : r.2 = none → ∀ W, Calls Tryz.prog 21 #[v, .string sig] W fun e w' => e = .returned (.agg (vc K n)) ∧ Below W.heap.size W w') : PKG s sig K w n r.2.isSome := by
  cases he : r.2 with
  | none =>
    refine ⟨fun W hb => (H5 W hb).mono fun e w' h => ⟨?_, h.2⟩, fun W hb => (vt_ok s sig K n W fun W' hb' => dn_ok s sig v K n W' (fun W2 hb2 => (H20 W2 (bchain (bchain hb hb') hb2)).mono fun e w' h => ⟨?_, h.2⟩) (H21 he)).mono fun e w' h => ⟨h.1, h.2⟩⟩
    · rcases h.1 with ⟨_, h⟩ | ⟨h, _⟩
      · exact h
      · exact absurd he h
    · rcases h.1 with ⟨_, h⟩ | ⟨h, _⟩
      · exact h
      · exact absurd he h
  | some k =>
    refine ⟨fun W hb => (H5 W hb).mono fun e w' h => ⟨?_, h.2⟩, fun W hb => (vt_err s sig W fun W' hb' => dn_err s sig W' (fun W2 hb2 => (H20 W2 (bchain (bchain hb hb') hb2)).mono fun e w' h => ⟨?_, h.2⟩)).mono fun e w' h => ⟨h.1, h.2⟩⟩
    · rcases h.1 with ⟨h, _⟩ | ⟨_, h⟩
      · rw [he] at h; cases h
      · exact h
    · rcases h.1 with ⟨h, _⟩ | ⟨_, h⟩
      · rw [he] at h; cases h
      · exact h
theorem uw {n : Int} (h0 : 0 ≤ n) (h1 : n ≤ 18446744073709551615) : IntKind.u64.wrap n = n := by rw [IntKind.wrap_u64]; omega
theorem iw {n : Int} (h0 : -9223372036854775808 ≤ n) (h1 : n ≤ 9223372036854775807) : wrap64 n = n := by unfold wrap64; omega
theorem pk_y (s : ByteArray) (w : World) (hT : TWd w) (hp : 0 < s.size) (hl : s.size ≤ 400) (hU : UB s) : ∃ s' β, UB s ∧ PKG s ⟨#[121]⟩ 121 w (puV β 8 s').1 (puV β 8 s').2.isSome ∧ PRE s s' 0 β := by
  obtain ⟨s', s2, β, β2, h1, h2, h3, h4, h5, h6, h7, h8, h9⟩ := hU.ex
  have hok := puV_ok β 8 s'
  have hr : (puV β 8 s').2 = none → 0 ≤ (puV β 8 s').1 ∧ (puV β 8 s').1 ≤ 255 := fun h => by
    rcases hok with h' | h' | h'
    · exact ⟨h'.2.1, h'.2.2⟩
    · rw [h] at h'; cases h'.1
    · rw [h] at h'; cases h'
  refine ⟨s', β, hU, pk_mk s ⟨#[121]⟩ 121 _ _ w (.iface 5 (.int .u8 (puV β 8 s').1)) (fun W hb => no_y s _ W fun W' hb' => ?_) (fun W hb => (vn_y s s2 β2 (puV β 8 s') W (hT.step hb).ev.1 (hT.step hb).ev.2 h2 hr fun W' he hg => ?_).mono fun e w' h => h) (fun h W => do_y _ (uw (hr h).1 (by have := (hr h).2; omega)) W), h1⟩
  · have ht := hT.step (bchain hb hb')
    exact ParseUint_calls s s' 0 β 8 W' ht.ev.1 ht.ev.2 (by omega) hl h7 h8 h1 (by omega)
  · rw [h4]
    exact ParseUint_calls s2 s2 β2 β2 8 W' he hg h5 h6 h6 h9 h3 (by omega)
theorem pk_n (s : ByteArray) (w : World) (hT : TWd w) (hp : 0 < s.size) (hl : s.size ≤ 400) (hU : SB s) : ∃ n er, PKG s ⟨#[110]⟩ 110 w n er := by
  obtain ⟨s1, s', s2, s3, neg, β, β2, h1, h2, h3, h4, h5, h6, h7, h8, h9, h10, h11, h12, h13, h14⟩ := hU.ex
  have hr := fun h => pi_range (neg := neg) (m := 16) (by omega) (puV_ok β 16 s') h
  have hh : halfOf 16 = 32768 := by decide
  refine ⟨_, _, pk_mk s ⟨#[110]⟩ 110 _ _ w (.iface 75 (.int .i16 (piV neg (halfOf 16) (puV β 16 s')).1)) (fun W hb => no_n s (piV neg (halfOf 16) (puV β 16 s')) W fun W' hb' => ?_) (fun W hb => (vn_n s s2 β2 (piV neg (halfOf 16) (puV β 16 s')) W (hT.step hb).ev.1 (hT.step hb).ev.2 h4 (fun h => by have := hr h; omega) fun W' he hg => ?_).mono fun e w' h => h) (fun h W => do_n _ (iw (by have := (hr h).1; omega) (by have := (hr h).2; omega)) W)⟩
  · have ht := hT.step (bchain hb hb')
    exact ParseInt_calls s s1 s' neg 0 β 16 W' ht.ev.1 ht.ev.2 (by omega) hl h1 h2 h12 h13 h3 (by omega)
  · rw [h11]
    exact ParseInt_calls s2 s3 s3 neg β2 β2 16 W' he hg h6 h7 h5 h8 h9 h14 h10 (by omega)
theorem pk_q (s : ByteArray) (w : World) (hT : TWd w) (hp : 0 < s.size) (hl : s.size ≤ 400) (hU : UB s) : ∃ s' β, UB s ∧ PKG s ⟨#[113]⟩ 113 w (puV β 16 s').1 (puV β 16 s').2.isSome ∧ PRE s s' 0 β := by
  obtain ⟨s', s2, β, β2, h1, h2, h3, h4, h5, h6, h7, h8, h9⟩ := hU.ex
  have hok := puV_ok β 16 s'
  have hr : (puV β 16 s').2 = none → 0 ≤ (puV β 16 s').1 ∧ (puV β 16 s').1 ≤ 65535 := fun h => by
    rcases hok with h' | h' | h'
    · exact ⟨h'.2.1, h'.2.2⟩
    · rw [h] at h'; cases h'.1
    · rw [h] at h'; cases h'
  refine ⟨s', β, hU, pk_mk s ⟨#[113]⟩ 113 _ _ w (.iface 73 (.int .u16 (puV β 16 s').1)) (fun W hb => no_q s _ W fun W' hb' => ?_) (fun W hb => (vn_q s s2 β2 (puV β 16 s') W (hT.step hb).ev.1 (hT.step hb).ev.2 h2 hr fun W' he hg => ?_).mono fun e w' h => h) (fun h W => do_q _ (uw (hr h).1 (by have := (hr h).2; omega)) W), h1⟩
  · have ht := hT.step (bchain hb hb')
    exact ParseUint_calls s s' 0 β 16 W' ht.ev.1 ht.ev.2 (by omega) hl h7 h8 h1 (by omega)
  · rw [h4]
    exact ParseUint_calls s2 s2 β2 β2 16 W' he hg h5 h6 h6 h9 h3 (by omega)
theorem pk_i (s : ByteArray) (w : World) (hT : TWd w) (hp : 0 < s.size) (hl : s.size ≤ 400) (hU : SB s) : ∃ n er, PKG s ⟨#[105]⟩ 105 w n er := by
  obtain ⟨s1, s', s2, s3, neg, β, β2, h1, h2, h3, h4, h5, h6, h7, h8, h9, h10, h11, h12, h13, h14⟩ := hU.ex
  have hr := fun h => pi_range (neg := neg) (m := 32) (by omega) (puV_ok β 32 s') h
  have hh : halfOf 32 = 2147483648 := by decide
  refine ⟨_, _, pk_mk s ⟨#[105]⟩ 105 _ _ w (.iface 21 (.int .i32 (piV neg (halfOf 32) (puV β 32 s')).1)) (fun W hb => no_i s (piV neg (halfOf 32) (puV β 32 s')) W fun W' hb' => ?_) (fun W hb => (vn_i s s2 β2 (piV neg (halfOf 32) (puV β 32 s')) W (hT.step hb).ev.1 (hT.step hb).ev.2 h4 (fun h => by have := hr h; omega) fun W' he hg => ?_).mono fun e w' h => h) (fun h W => do_i _ (iw (by have := (hr h).1; omega) (by have := (hr h).2; omega)) W)⟩
  · have ht := hT.step (bchain hb hb')
    exact ParseInt_calls s s1 s' neg 0 β 32 W' ht.ev.1 ht.ev.2 (by omega) hl h1 h2 h12 h13 h3 (by omega)
  · rw [h11]
    exact ParseInt_calls s2 s3 s3 neg β2 β2 32 W' he hg h6 h7 h5 h8 h9 h14 h10 (by omega)
theorem pk_u (s : ByteArray) (w : World) (hT : TWd w) (hp : 0 < s.size) (hl : s.size ≤ 400) (hU : UB s) : ∃ s' β, UB s ∧ PKG s ⟨#[117]⟩ 117 w (puV β 32 s').1 (puV β 32 s').2.isSome ∧ PRE s s' 0 β := by
  obtain ⟨s', s2, β, β2, h1, h2, h3, h4, h5, h6, h7, h8, h9⟩ := hU.ex
  have hok := puV_ok β 32 s'
  have hr : (puV β 32 s').2 = none → 0 ≤ (puV β 32 s').1 ∧ (puV β 32 s').1 ≤ 4294967295 := fun h => by
    rcases hok with h' | h' | h'
    · exact ⟨h'.2.1, h'.2.2⟩
    · rw [h] at h'; cases h'.1
    · rw [h] at h'; cases h'
  refine ⟨s', β, hU, pk_mk s ⟨#[117]⟩ 117 _ _ w (.iface 74 (.int .u32 (puV β 32 s').1)) (fun W hb => no_u s _ W fun W' hb' => ?_) (fun W hb => (vn_u s s2 β2 (puV β 32 s') W (hT.step hb).ev.1 (hT.step hb).ev.2 h2 hr fun W' he hg => ?_).mono fun e w' h => h) (fun h W => do_u _ (uw (hr h).1 (by have := (hr h).2; omega)) W), h1⟩
  · have ht := hT.step (bchain hb hb')
    exact ParseUint_calls s s' 0 β 32 W' ht.ev.1 ht.ev.2 (by omega) hl h7 h8 h1 (by omega)
  · rw [h4]
    exact ParseUint_calls s2 s2 β2 β2 32 W' he hg h5 h6 h6 h9 h3 (by omega)
theorem pk_x (s : ByteArray) (w : World) (hT : TWd w) (hp : 0 < s.size) (hl : s.size ≤ 400) (hU : SB s) : ∃ n er, PKG s ⟨#[120]⟩ 120 w n er := by
  obtain ⟨s1, s', s2, s3, neg, β, β2, h1, h2, h3, h4, h5, h6, h7, h8, h9, h10, h11, h12, h13, h14⟩ := hU.ex
  have hr := fun h => pi_range (neg := neg) (m := 64) (by omega) (puV_ok β 64 s') h
  have hh : halfOf 64 = 9223372036854775808 := by decide
  refine ⟨_, _, pk_mk s ⟨#[120]⟩ 120 _ _ w (.iface 2 (.int .i64 (piV neg (halfOf 64) (puV β 64 s')).1)) (fun W hb => no_x s (piV neg (halfOf 64) (puV β 64 s')) W fun W' hb' => ?_) (fun W hb => (vn_x s s2 β2 (piV neg (halfOf 64) (puV β 64 s')) W (hT.step hb).ev.1 (hT.step hb).ev.2 h4 (fun h => by have := hr h; omega) fun W' he hg => ?_).mono fun e w' h => h) (fun h W => do_x _ (iw (by have := (hr h).1; omega) (by have := (hr h).2; omega)) W)⟩
  · have ht := hT.step (bchain hb hb')
    exact ParseInt_calls s s1 s' neg 0 β 64 W' ht.ev.1 ht.ev.2 (by omega) hl h1 h2 h12 h13 h3 (by omega)
  · rw [h11]
    exact ParseInt_calls s2 s3 s3 neg β2 β2 64 W' he hg h6 h7 h5 h8 h9 h14 h10 (by omega)
theorem pk_t (s : ByteArray) (w : World) (hT : TWd w) (hp : 0 < s.size) (hl : s.size ≤ 400) (hU : UB s) : ∃ s' β, UB s ∧ PKG s ⟨#[116]⟩ 116 w (puV β 64 s').1 (puV β 64 s').2.isSome ∧ PRE s s' 0 β := by
  obtain ⟨s', s2, β, β2, h1, h2, h3, h4, h5, h6, h7, h8, h9⟩ := hU.ex
  have hok := puV_ok β 64 s'
  have hr : (puV β 64 s').2 = none → 0 ≤ (puV β 64 s').1 ∧ (puV β 64 s').1 ≤ 18446744073709551615 := fun h => by
    rcases hok with h' | h' | h'
    · exact ⟨h'.2.1, h'.2.2⟩
    · rw [h] at h'; cases h'.1
    · rw [h] at h'; cases h'
  refine ⟨s', β, hU, pk_mk s ⟨#[116]⟩ 116 _ _ w (.iface 24 (.int .u64 (puV β 64 s').1)) (fun W hb => no_t s _ W fun W' hb' => ?_) (fun W hb => (vn_t s s2 β2 (puV β 64 s') W (hT.step hb).ev.1 (hT.step hb).ev.2 h2 hr fun W' he hg => ?_).mono fun e w' h => h) (fun h W => do_t _ (uw (hr h).1 (by have := (hr h).2; omega)) W), h1⟩
  · have ht := hT.step (bchain hb hb')
    exact ParseUint_calls s s' 0 β 64 W' ht.ev.1 ht.ev.2 (by omega) hl h7 h8 h1 (by omega)
  · rw [h4]
    exact ParseUint_calls s2 s2 β2 β2 64 W' he hg h5 h6 h6 h9 h3 (by omega)
theorem pk_d (s : ByteArray) (w : World) (hT : TWd w) (hF : FText s) : ∃ n er, PKG s ⟨#[100]⟩ 100 w n er := by
  have hP : ∀ W, Below w.heap.size w W → Calls Tryz.prog 10 #[.string s, .int .i64 64] W fun e w' => ∃ v, e = .returned (.tuple #[.float .f64 (pfV s).1, v]) ∧ PubErr (pfV s).2 v ∧ Below W.heap.size W w' := fun W hb => by
    obtain ⟨B, h1, h2, h3, h4⟩ := hT.step hb
    exact ParseFloat_calls s hF W B h1 h2 h3 h4
  exact ⟨_, _, pk_mk s ⟨#[100]⟩ 100 ((pfV s).1 : Nat) (((pfV s).1 : Nat), (pfV s).2) w (.iface 37 (.float .f64 (pfV s).1)) (fun W hb => no_d s (pfV s) W fun W' hb' => hP W' (bchain hb hb')) (fun W hb => (vn_d s (pfV s) W (hT.step hb).ev.2 (hT.step hb).ev.1 fun W' hb' => hP W' (bchain hb hb')).mono fun e w' h => h) (fun h W => do_d _ W)⟩
theorem NT.ft {s : ByteArray} (h : NT s) (hp : 0 < s.size) (hl : s.size ≤ 400) : FText s := by
  refine ⟨hp, hl, fun i hi => (h.good i (Nat.zero_le _) hi).1, fun i hi => (h.good i (Nat.zero_le _) hi).2, ?_⟩
  rcases h.shape with ⟨hs, h3, h0, h1, h2, _⟩ | ⟨hs, h0, h1⟩ | ⟨hs, h2, h1, h3⟩ | ⟨h1, h2, h3⟩
  · exact .inl (by omega)
  · exact .inl (by omega)
  · exact .inr ⟨by omega, sg_of hs, by omega⟩
  · cases hb : sgB s with
    | true =>
      have hpp : sgP s = 1 := if_pos (of_decide_eq_true hb)
      rw [hpp] at h1 h2 h3
      have h2 : 49 ≤ bt s 1 := h2
      have h3 : bt s 1 ≤ 57 := h3
      exact .inr ⟨h1, sg_of hb, by omega⟩
    | false =>
      have hpp : sgP s = 0 := if_neg (of_decide_eq_false hb)
      rw [hpp] at h1 h2 h3
      have h2 : 49 ≤ bt s 0 := h2
      have h3 : bt s 0 ≤ 57 := h3
      exact .inl (by omega)
/-- The text of one. -/
theorem one_ub : UB ⟨#[49]⟩ := by
  have h : bt ⟨#[49]⟩ 0 = 49 := by decide
  have hn : NL ⟨#[49]⟩ := fun i hi => by
    have : i = 0 := by have : i < 1 := hi; omega
    subst this; show bt _ 0 ≠ 95; rw [h]; decide
  exact ⟨_, _, 10, 10, .inr (.inl ⟨rfl, by rw [h]; decide, rfl, rfl⟩), cut_plain (by decide) (by rw [h]; decide), pre_self (.inr (.inl rfl)), fun _ => rfl, by decide, by decide, by decide, hn, hn⟩
theorem one_pk (w : World) (hT : TWd w) : ∀ W, Below w.heap.size w W → Calls Tryz.prog 6 #[.string ⟨#[49]⟩, .string ⟨#[121]⟩] W fun e w' => e = .returned (.tuple #[.agg (vc 121 1), .bool true]) ∧ Below W.heap.size W w' := by
  obtain ⟨s', β, _, hp, hpre⟩ := pk_y ⟨#[49]⟩ w hT (by decide) (by decide) one_ub
  have h48 : bt ⟨#[49]⟩ 0 = 49 := by decide
  have hx : puV β 8 s' = (1, none) := by
    rcases hpre with ⟨h, hb, _⟩ | ⟨_, _, hb, hs⟩ | ⟨_, h, _⟩ | ⟨_, _, h, _⟩
    · omega
    · rw [hb, hs]; decide
    · rw [h48] at h; exact absurd h (by decide)
    · rw [h48] at h; exact absurd h (by decide)
  rw [hx] at hp
  exact fun W hb => (hp.2 W hb).mono fun e w' h => ⟨h.1, h.2⟩
end Go.Proofs.YtogikhohkbcccaaGreatDoor.To
