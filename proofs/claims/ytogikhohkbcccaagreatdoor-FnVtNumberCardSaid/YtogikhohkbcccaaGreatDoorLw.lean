import Derived.Test.YtogikhohkbcccaaGreatDoorRw
import Derived.Test.YtogikhohkbcccaaGreatDoorDe
import Derived.Test.YtogikhohkbcccaaGreatDoorPl
namespace Go.Proofs.YtogikhohkbcccaaGreatDoor.De
set_option linter.unusedVariables false
set_option linter.unusedSimpArgs false
open Go.RowKit Go.Proofs.YtogikhohkbcccaaGreatDoorW.PrintWords Go.Proofs.YtogikhohkbcccaaGreatDoorW.PrintLast Go.Proofs.YtogikhohkbcccaaGreatDoorW.PrintMore

/-- The table of leftShift lies in the world, below a block. -/
def LC (B : Nat) (w : World) : Prop := ∃ (a : Addr) (cap : Nat), a.block < B ∧ 10 < B ∧ w.cell? ⟨10, 0, none⟩ = some (.slice (some a) 61 cap) ∧ ∀ k, k < 61 → w.cell? (a.add (k * 2)) = some (.int .i64 (cheat k).1) ∧ w.cell? ⟨(a.add (k * 2)).block, (a.add (k * 2)).off + 1, none⟩ = some (.string ⟨(cheat k).2.toArray⟩)
theorem LC.below {B g : Nat} {w w' : World} (h : LC B w) (hb : Below g w w') (hg : B ≤ g) : LC B w' := by
  obtain ⟨a, cap, h1, h2, h3, h4⟩ := h
  have hblk : ∀ n, (a.add n).block = a.block := fun n => by unfold Addr.add; split <;> rfl
  refine ⟨a, cap, h1, h2, by rw [hb.cell (by show 10 < g; omega)]; exact h3, fun k hk => ⟨?_, ?_⟩⟩
  · rw [hb.cell (by rw [hblk]; omega)]; exact (h4 k hk).1
  · rw [hb.cell (by show (a.add (k * 2)).block < g; rw [hblk]; omega)]; exact (h4 k hk).2

/-- What is written behind t digits. -/
structure LF (x : Dc) (c : Nat → Value) (T m t : Nat) (c' : Nat → Value) : Prop where
  new : ∀ i, m - t ≤ i → i < m → i < 800 → c' i = .int .u8 ((T / 10 ^ (m - 1 - i) % 10 : Nat) + 48)
  old : ∀ i, i < 803 → (i < m - t ∨ m ≤ i ∨ 800 ≤ i) → c' i = c i
  tr : c' 803 = .bool (x.tr || (List.range t).any (fun p => decide (800 ≤ m - 1 - p) && T / 10 ^ p % 10 != 0))
theorem LF.store {x : Dc} {c c' : Nat → Value} {T m t u : Nat} (h : LF x c T m t c') (hu : m - t = u + 1) (h8 : u < 800) (v : Int) (hv : v = (T / 10 ^ t % 10 : Nat) + 48) : LF x c T m (t + 1) (upd c' u (.int .u8 v)) := by
  refine ⟨fun i h1 h2 h3 => ?_, fun i h1 h2 => ?_, ?_⟩
  · by_cases hi : i = u
    · subst hi
      rw [upd_same, hv, show m - 1 - i = t by omega]
    · rw [upd_other _ _ hi]; exact h.new i (by omega) h2 h3
  · rw [upd_other _ _ (by omega)]; exact h.old i h1 (by omega)
  · rw [upd_other _ _ (by omega), h.tr, List.range_succ, List.any_append]
    have e : (decide (800 ≤ m - 1 - t) && T / 10 ^ t % 10 != 0) = false := by simp; intro h; omega
    simp only [List.any_cons, List.any_nil, e, Bool.or_false]
theorem LF.skip {x : Dc} {c c' : Nat → Value} {T m t u : Nat} (h : LF x c T m t c') (hu : m - t = u + 1) (h8 : 800 ≤ u) (hz : T / 10 ^ t % 10 = 0) : LF x c T m (t + 1) c' := by
  refine ⟨fun i h1 h2 h3 => h.new i (by omega) h2 h3, fun i h1 h2 => h.old i h1 (by omega), ?_⟩
  rw [h.tr, List.range_succ, List.any_append]
  have e : (decide (800 ≤ m - 1 - t) && T / 10 ^ t % 10 != 0) = false := by rw [hz]; simp
  simp only [List.any_cons, List.any_nil, e, Bool.or_false]
theorem LF.cut {x : Dc} {c c' : Nat → Value} {T m t u : Nat} (h : LF x c T m t c') (hu : m - t = u + 1) (h8 : 800 ≤ u) (hz : T / 10 ^ t % 10 ≠ 0) : LF x c T m (t + 1) (upd c' 803 (.bool true)) := by
  refine ⟨fun i h1 h2 h3 => ?_, fun i h1 h2 => ?_, ?_⟩
  · rw [upd_other _ _ (by omega)]; exact h.new i (by omega) h2 h3
  · rw [upd_other _ _ (by omega)]; exact h.old i h1 (by omega)
  · rw [upd_same, List.range_succ, List.any_append]
    have e : (decide (800 ≤ m - 1 - t) && T / 10 ^ t % 10 != 0) = true := by simp only [Bool.and_eq_true, decide_eq_true_eq, bne_iff_ne]; exact ⟨by omega, hz⟩
    simp only [List.any_cons, List.any_nil, e, Bool.or_true, Bool.or_false, Bool.true_or]
/-- One step of the shift. -/
theorem carry_step {T k t q cc : Nat} {D : List Nat} (h : T / 10 ^ t = num D (q + 1) * 2 ^ k + cc) : T / 10 ^ (t + 1) = num D q * 2 ^ k + (cc + dg D q * 2 ^ k) / 10 ∧ T / 10 ^ t % 10 = (cc + dg D q * 2 ^ k) % 10 := by
  have e : num D (q + 1) * 2 ^ k = 10 * (num D q * 2 ^ k) + dg D q * 2 ^ k := by
    rw [num, Nat.add_mul]
    have : num D q * 10 * 2 ^ k = 10 * (num D q * 2 ^ k) := by ac_rfl
    omega
  rw [Nat.pow_succ, ← Nat.div_div_eq_div_mul, h, e]
  omega
theorem w_digit {d : Nat} (hd : d ≤ 9) : IntKind.u64.wrap (IntKind.u64.wrap ((d : Int) + 48) - 48) = (d : Int) := by
  simp only [IntKind.wrap_u64]; omega
theorem w_shl {d k : Nat} (hd : d ≤ 9) (hk : k ≤ 60) : IntKind.u64.wrap ((d : Int) * 2 ^ k) = ((d * 2 ^ k : Nat) : Int) := by
  have := pow60 hk
  have h1 : d * 2 ^ k ≤ 9 * 2 ^ k := Nat.mul_le_mul_right _ hd
  rw [pow_cast, ← Int.natCast_mul]
  simp only [IntKind.wrap_u64]; omega
theorem w_nat {n : Nat} (h : n < 18446744073709551616) : IntKind.u64.wrap (n : Int) = (n : Int) := by
  simp only [IntKind.wrap_u64]; omega
theorem w_quo {n : Nat} (h : n < 18446744073709551616) : IntKind.u64.wrap ((n : Int).tdiv 10) = ((n / 10 : Nat) : Int) := by
  rw [show ((n : Int).tdiv 10) = ((n / 10 : Nat) : Int) from rfl]
  exact w_nat (by omega)
theorem w_rem {n : Nat} (h : n < 18446744073709551616) : IntKind.u64.wrap ((n : Int) - IntKind.u64.wrap (10 * ((n / 10 : Nat) : Int))) = ((n % 10 : Nat) : Int) := by
  simp only [IntKind.wrap_u64]; omega

theorem w_pred {q : Nat} (h : q ≤ 1000) : wrap64 ((q : Int) - 1) = (q : Int) - 1 := by unfold wrap64; omega
theorem w_self {q : Nat} (h : q ≤ 1000) : wrap64 (q : Int) = (q : Int) := by unfold wrap64; omega
theorem lw_pred {m t N : Nat} (h : t < N) (hm : N ≤ m) : ∃ u, m - t = u + 1 := ⟨m - t - 1, by omega⟩
theorem lw_le {N t q : Nat} (h : N - t = q + 1) (hN : N ≤ 800) : q ≤ 1000 := by omega
theorem lw_le2 {N m t u : Nat} (h : m - t = u + 1) (hm : m ≤ N + 61) (hN : N ≤ 800) : u ≤ 1000 := by omega
/-- The numbers of one round of the first loop. -/
theorem lw_num {T t k q cc d : Nat} {D : List Nat} (hcs : T / 10 ^ (t + 1) = num D q * 2 ^ k + (cc + d * 2 ^ k) / 10 ∧ T / 10 ^ t % 10 = (cc + d * 2 ^ k) % 10) (hd9 : d ≤ 9) (hcc : cc < 2 ^ k) (hp : 2 ^ k ≤ 1152921504606846976) (hk : k ≤ 60) :
    ∃ nn qq rr : Nat, IntKind.u64.wrap (IntKind.u64.wrap ((d : Int) + 48) - 48) = (d : Int) ∧ IntKind.u64.wrap ((d : Int) * 2 ^ k) = ((d * 2 ^ k : Nat) : Int) ∧ IntKind.u64.wrap ((cc : Int) + (d : Int) * 2 ^ k) = (nn : Int) ∧ IntKind.u64.wrap ((nn : Int).tdiv 10) = (qq : Int) ∧ IntKind.u64.wrap ((nn : Int) / 10) = (qq : Int) ∧ IntKind.u64.wrap ((nn : Int) - IntKind.u64.wrap (10 * (qq : Int))) = (rr : Int) ∧ IntKind.u64.wrap ((rr : Int) + 48) % 256 = (rr : Int) + 48 ∧ rr ≤ 9 ∧ (T / 10 ^ (t + 1) = num D q * 2 ^ k + qq ∧ T / 10 ^ t % 10 = rr) ∧ qq < 2 ^ k ∧ qq < 1152921504606846976 := by
  have h1 : d * 2 ^ k ≤ 9 * 2 ^ k := Nat.mul_le_mul_right _ hd9
  obtain ⟨X, hX⟩ : ∃ X, X = d * 2 ^ k := ⟨_, rfl⟩
  obtain ⟨Y, hY⟩ : ∃ Y, Y = 2 ^ k := ⟨_, rfl⟩
  refine ⟨cc + d * 2 ^ k, (cc + d * 2 ^ k) / 10, (cc + d * 2 ^ k) % 10, w_digit hd9, w_shl hd9 hk, ?_, ?_, ?_, ?_, put48' (by omega), by omega, hcs, ?_, ?_⟩
  · rw [pow_cast, ← Int.natCast_mul, ← Int.natCast_add]; exact w_nat (by omega)
  · exact w_quo (by omega)
  · exact w_quo (n := cc + d * 2 ^ k) (by omega)
  · exact w_rem (by omega)
  · rw [← hX] at h1 ⊢; rw [← hY] at h1 hcc hp ⊢; clear hcs; omega
  · rw [← hX] at h1 ⊢; rw [← hY] at h1 hcc hp; clear hcs; omega

theorem next_q {N t q : Nat} (h : N - t = q + 1) (hw : wrap64 ((q : Int) - 1) = (q : Int) - 1) : Value.int .i64 (wrap64 ((q : Int) - 1)) = Value.int .i64 (((N - (t + 1) : Nat) : Int) - 1) := by
  rw [hw, show N - (t + 1) = q by omega]
theorem next_u {m t u : Nat} (h : m - t = u + 1) (hw : wrap64 (u : Int) = (u : Int)) : Value.int .i64 (wrap64 (u : Int)) = Value.int .i64 ((m - (t + 1) : Nat) : Int) := by
  rw [hw, show m - (t + 1) = u by omega]
theorem next_T {T t N q k qq r : Nat} {D : List Nat} (hq : N - t = q + 1) (h : T / 10 ^ (t + 1) = num D q * 2 ^ k + qq ∧ T / 10 ^ t % 10 = r) : T / 10 ^ (t + 1) = num D (N - (t + 1)) * 2 ^ k + qq := by
  rw [show N - (t + 1) = q by omega]; exact h.1
theorem next_u' {m t u : Nat} (h : m - t = u + 1) : Value.int .i64 (u : Int) = Value.int .i64 ((m - (t + 1) : Nat) : Int) := by
  rw [show m - (t + 1) = u by omega]
theorem lw_end {m T t cc : Nat} (h : T < 10 ^ m) (hc : T / 10 ^ t = cc) (hz : 0 < cc) : t < m := by
  refine Nat.lt_of_not_le fun hle => ?_
  have := Nat.pow_le_pow_right (show 0 < 10 by omega) hle
  rw [Nat.div_eq_of_lt (by omega)] at hc
  omega
theorem lw_end0 {m T t : Nat} (h : 10 ^ (m - 1) ≤ T) (hc : T / 10 ^ t = 0) (ht : t ≤ m) (ht0 : 0 < t) : t = m := by
  have h1 : T < 10 ^ t := (Nat.div_eq_zero_iff.1 hc).resolve_left (fun e => by have := Nat.one_le_pow t 10 (by omega); omega)
  refine Nat.le_antisymm ht (Nat.le_of_not_lt fun hlt => ?_)
  have := Nat.pow_le_pow_right (show 0 < 10 by omega) (show t ≤ m - 1 by omega)
  omega
/-- The numbers of one round of the second loop. -/
theorem lw_num2 {T t nn : Nat} (hcs : T / 10 ^ t = nn) (hnn : nn < 1152921504606846976) :
    ∃ qq rr : Nat, IntKind.u64.wrap ((nn : Int).tdiv 10) = (qq : Int) ∧ IntKind.u64.wrap ((nn : Int) / 10) = (qq : Int) ∧ IntKind.u64.wrap ((nn : Int) - IntKind.u64.wrap (10 * (qq : Int))) = (rr : Int) ∧ IntKind.u64.wrap ((rr : Int) + 48) % 256 = (rr : Int) + 48 ∧ (T / 10 ^ (t + 1) = qq ∧ T / 10 ^ t % 10 = rr) ∧ qq < 1152921504606846976 := by
  refine ⟨nn / 10, nn % 10, w_quo (by omega), w_quo (n := nn) (by omega), w_rem (by omega), put48' (by omega), ⟨?_, by rw [hcs]⟩, by omega⟩
  rw [Nat.pow_succ, ← Nat.div_div_eq_div_mul, hcs]
theorem lw_len {T m N k v : Nat} (hT : T = v * 2 ^ k) (hv : v < 10 ^ N) (hk : k ≤ 60) (h1 : 10 ^ (m - 1) ≤ T) : m ≤ N + 20 := by
  refine Nat.le_of_not_lt fun hlt => ?_
  have h2 := Nat.pow_le_pow_right (show 0 < 10 by omega) (show N + 20 ≤ m - 1 by omega)
  have h3 : v * 2 ^ k ≤ v * 1152921504606846976 := Nat.mul_le_mul_left _ (pow60 hk)
  have h4 : 10 ^ (N + 20) = 10 ^ N * 100000000000000000000 := by rw [Nat.pow_add]
  have h5 : v * 1152921504606846976 ≤ v * 100000000000000000000 := Nat.mul_le_mul_left _ (by decide)
  have h6 : v * 100000000000000000000 < 10 ^ N * 100000000000000000000 := Nat.mul_lt_mul_of_pos_right hv (by decide)
  omega
theorem any_flip (f : Nat → Bool) (m : Nat) : (List.range m).any f = (List.range m).any fun i => f (m - 1 - i) := by
  apply Bool.eq_iff_iff.2
  simp only [List.any_eq_true, List.mem_range]
  constructor
  · rintro ⟨p, h1, h2⟩; exact ⟨m - 1 - p, by omega, by rw [show m - 1 - (m - 1 - p) = p by omega]; exact h2⟩
  · rintro ⟨p, h1, h2⟩; exact ⟨m - 1 - p, by omega, h2⟩
theorem any_eq {f g : Nat → Bool} {m : Nat} (h : ∀ i, i < m → f i = g i) : (List.range m).any f = (List.range m).any g := by
  apply Bool.eq_iff_iff.2
  simp only [List.any_eq_true, List.mem_range]
  constructor
  · rintro ⟨p, h1, h2⟩; exact ⟨p, h1, by rw [← h p h1]; exact h2⟩
  · rintro ⟨p, h1, h2⟩; exact ⟨p, h1, by rw [h p h1]; exact h2⟩
/-- The decimal behind the loops. -/
theorem ls_dec {w3 : World} {g k N T m : Nat} {x : Dc} {c c' c3 : Nat → Value} {dq : Int} (hd : DB w3 g c3) (hi : Is c x) (hF : LF x c T m m c') (ha : ∀ i, i < 800 → ∃ n : Int, c i = .int .u8 n) (hN : N = x.D.length) (hT : T = num x.D N * 2 ^ k) (h1 : T < 10 ^ m) (h2 : 10 ^ (m - 1) ≤ T) (hm : m ≤ N + 20) (hdq : dq = x.dp + ((m : Int) - N))
    (e0 : ∀ i, i < 800 → c3 i = c' i) (e800 : c3 800 = .int .i64 ((if m < 800 then m else 800 : Nat) : Int)) (e801 : c3 801 = .int .i64 dq) (e802 : c3 802 = c' 802) (e803 : c3 803 = c' 803) :
    ∃ y, lshD k x = trimD y ∧ Dec w3 g y := by
  refine ⟨⟨(lsOut T m).take 800, x.dp + ((m : Int) - x.D.length), x.neg, x.tr || ((lsOut T m).drop 800).any (· != 0)⟩, ?_, c3, hd, ?_, fun i h => ?_⟩
  · unfold lshD
    rw [← hN, ← hT]
    simp only [nds_is h1 h2 hm]
  · have hlen : (lsOut T m).length = m := by unfold lsOut; rw [List.length_map, List.length_range]
    have hl8 : ((lsOut T m).take 800).length = min 800 m := by rw [List.length_take, hlen]
    refine ⟨by rw [hl8]; omega, fun i h => ?_, ?_, ?_, ?_, ?_⟩
    · have h' : i < min 800 m := by rw [hl8] at h; exact h
      rw [e0 i (by omega), hF.new i (by omega) (by omega) (by omega)]
      have e : ((lsOut T m).take 800)[i]'h = T / 10 ^ (m - 1 - i) % 10 := by
        rw [List.getElem_take]
        unfold lsOut
        rw [List.getElem_map, List.getElem_range]
      refine ⟨by rw [e], by rw [e]; omega⟩
    · rw [e800, hl8]
      congr 2
      split <;> omega
    · rw [e801, hdq, hN]
    · rw [e802, hF.old 802 (by omega) (by omega)]; exact hi.neg
    · rw [e803, hF.tr]
      unfold lsOut
      rw [any_drop, any_flip]
      congr 2
      refine any_eq fun i hi => ?_
      rw [show m - 1 - (m - 1 - i) = i by omega]
  · rw [e0 i h]
    by_cases him : i < m
    · exact ⟨_, hF.new i (by omega) him h⟩
    · rw [hF.old i (by omega) (by omega)]; exact ha i h
theorem next_m {m t u : Nat} (h : m - t = u + 1) (hm : t ≤ m) : t + 1 ≤ m := by omega
theorem w_nd {m N : Nat} (hm1 : m ≤ N + 61) (hN8 : N ≤ 800) : wrap64 ((N : Int) + ((m : Int) - N)) = (m : Int) := by unfold wrap64; omega
theorem w_dp {m N : Nat} {p : Int} (hm0 : N ≤ m) (hm1 : m ≤ N + 61) (h0 : -1000000000 ≤ p) (h1 : p ≤ 1000000000) : wrap64 (p + ((m : Int) - N)) = p + ((m : Int) - N) := by unfold wrap64; omega
theorem meas_u {u : Nat} (hw : wrap64 (u : Int) = (u : Int)) : (intOf (.int .i64 (wrap64 (u : Int)))).toNat < (intOf (.int .i64 ((u + 1 : Nat) : Int))).toNat := by
  rw [hw]; show (u : Int).toNat < ((u + 1 : Nat) : Int).toNat; omega
theorem meas_u' {u : Nat} : (intOf (.int .i64 (u : Int))).toNat < (intOf (.int .i64 ((u + 1 : Nat) : Int))).toNat := by
  show (u : Int).toNat < ((u + 1 : Nat) : Int).toNat; omega
set_option maxHeartbeats 4000000 in
set_option maxRecDepth 100000 in
theorem leftShift_calls (g k : Nat) (x : Dc) (w : World) (B : Nat) (hBg : B ≤ g) (hLC : LC B w) (h : Dec w g x) (hk1 : 1 ≤ k) (hk : k ≤ 60) (hlead : 0 < dg x.D 0) (hp0 : -1000000000 ≤ x.dp) (hp1 : x.dp ≤ 1000000000) :
    Calls Tryz.prog 79 #[.pointer (some ⟨g, 0, none⟩), .int .u64 k] w fun e w' => e = .returned (.tuple #[]) ∧ Dec w' g (lshD k x) ∧ Below g w w' ∧ w'.heap.size = w.heap.size := by
  obtain ⟨c, hdb, his, hany⟩ := h
  obtain ⟨ad, cap, ha1, ha2, ha3, ha4⟩ := hLC
  have ht := ha4 k (by omega)
  have ht1 := ht.1
  have ht2 := ht.2
  obtain ⟨CD, hCD⟩ : ∃ q, q = (cheat k).1 := ⟨_, rfl⟩
  obtain ⟨CS, hCS⟩ : ∃ q : ByteArray, q = ⟨(cheat k).2.toArray⟩ := ⟨_, rfl⟩
  rw [← hCD] at ht1
  rw [← hCS] at ht2
  obtain ⟨N, hN⟩ : ∃ N, N = x.D.length := ⟨_, rfl⟩
  have h800 := hdb.cell 800 (by omega)
  rw [his.nd, ← hN] at h800
  have hN8 : N ≤ 800 := by have := his.len; omega
  have HD := Aside0.mk hdb
  have HI := Aside0.mk his
  have HA := Aside0.mk hany
  have HN := Aside0.mk hN
  have HCD := Aside0.mk hCD
  have HCS := Aside0.mk hCS
  have p1 : ((0 : Int) ≤ (k : Int)) = True := eq_true (by omega)
  have p2 : ((k : Int) < 61) = True := eq_true (by omega)
  have p3 : ((0 : Int) ≤ (N : Int)) = True := eq_true (by omega)
  have p4 : ((N : Int) ≤ 800) = True := eq_true (by omega)
  obtain ⟨PL, hPL⟩ : ∃ b, b = pl x.D (cutD k) := ⟨_, rfl⟩
  have HPL : Aside0 (∀ (W : World), DB W g c → Calls Tryz.prog 86 #[.slice (some ⟨g, 0, none⟩) N 800, .string CS] W fun e w' => e = .returned (.bool PL) ∧ Drawn0 W w') := ⟨fun W hW => by rw [hPL, hCS, hN]; exact prefix_calls hW his hk1 hk⟩
  obtain ⟨hch, hb48⟩ := cheat_is hk1 hk
  rw [← hCD] at hch
  have h9 : ∀ i, dg x.D i ≤ 9 := fun i => by
    unfold dg
    by_cases hi : i < x.D.length
    · rw [List.getD_eq_getElem?_getD, List.getElem?_eq_getElem hi]; exact (his.dig i hi).2
    · rw [List.getD_eq_getElem?_getD, List.getElem?_eq_none (by omega)]; exact Nat.zero_le _
  have h9m : ∀ d ∈ x.D, d ≤ 9 := fun d hd => by
    obtain ⟨i, hi, e⟩ := List.getElem_of_mem hd
    rw [← e]; exact (his.dig i hi).2
  have hne : x.D ≠ [] := fun e => by rw [e] at hlead; exact absurd hlead (by simp [dg])
  have hdo := digits_of hch h9m hlead hne
  have hCDb : CD ≤ 61 := by have := hch.cl; omega
  obtain ⟨T, hT⟩ : ∃ T, T = num x.D N * 2 ^ k := ⟨_, rfl⟩
  have hTv : T = val x.D * 2 ^ k := by rw [hT, num_val x.D N (by omega), hN, List.take_length]
  obtain ⟨m, hm⟩ : ∃ m, m = N + CD - (if PL = true then 1 else 0) := ⟨_, rfl⟩
  rw [← hTv, ← hPL, ← hN, ← hm] at hdo
  have hm0 : N ≤ m := hdo.2.2
  have hm1 : m ≤ N + 61 := by rw [hm]; omega
  have hN0 : 0 < N := by rw [hN]; exact List.length_pos_iff.2 hne
  have HDO := Aside0.mk hdo
  have HT := Aside0.mk hT
  have HTV := Aside0.mk hTv
  have HM := Aside0.mk hm
  have H9 := Aside0.mk h9
  have hd1 : 1 ≤ CD := hch.d1
  clear hdb his hany hN hCD hCS ha4 ht hch hb48 h9 h9m hne hdo hT hTv hm hPL
  have hk64 : (k : Int) < 64 := by omega
  have HP := Aside0.mk (pow60 hk)
  go_enter Tryz.func79, Tryz.ntmps79
  go_upto_region 1 with fail
  go_quiet (first | (go_at_call 86; (with_reducible refine (HPL.out _ (HD.out.drewN _)).mono ?_); rintro e w' ⟨rfl, ⟨nd, rfl⟩⟩; (try first | exact ⟨rfl, _, World.drewN_drewN _ _ _⟩ | exact ⟨rfl, _, Eq.trans (World.drewN_drewN _ _ _) (congrArg (World.drewN _) (Nat.add_comm _ _))⟩)))
  go_upto_if 30 with fail
  go_cut [4] (fun v4 wc => v4 = .int .i64 ((m : Int) - N) ∧ wc = w.drewN nq)
  case first =>
    cases PL with
    | true =>
      have HM2 : Aside0 ((CD : Int) - 1 = (m : Int) - N) := ⟨by have := HM.out; simp at this; omega⟩
      go_wp2
      go_meet
      case rel => exact ⟨by rw [HM2.out], rfl⟩
    | false =>
      have HM2 : Aside0 ((CD : Int) = (m : Int) - N) := ⟨by have := HM.out; simp at this; omega⟩
      go_wp2
      go_meet
      case rel => exact ⟨by rw [HM2.out], rfl⟩
  case rest =>
    obtain ⟨rfl, rfl⟩ := hcut
    have HD1 := Aside0.mk (HD.out.drewN nq)
    have HB1 : Aside0 (Below g w (w.drewN nq) ∧ (w.drewN nq).heap.size = w.heap.size) := ⟨pw_below_drewN (Below.refl _ _) _, rfl⟩
    have h800' := HD1.out.cell 800 (by omega)
    rw [HI.out.nd, ← HN.out] at h800'
    clear h800 ht1 ht2 ha1 ha2 ha3
    generalize (w.drewN nq) = w1 at HD1 HB1 h800' ⊢
    go_wp2
    go_loopw [5, 6, 7] (fun v5 v6 v7 wr => ∃ (t cc : Nat) (c' : Nat → Value), v5 = .int .i64 (((N - t : Nat) : Int) - 1) ∧ v6 = .int .i64 ((m - t : Nat) : Int) ∧ v7 = .int .u64 (cc : Nat) ∧ t ≤ N ∧ Aside0 (T / 10 ^ t = num x.D (N - t) * 2 ^ k + cc) ∧ cc < 1152921504606846976 ∧ Aside0 (cc < 2 ^ k) ∧ Aside0 (DB wr g c') ∧ Aside0 (LF x c T m t c') ∧ Aside0 (Below g w wr ∧ wr.heap.size = w.heap.size)) (fun v5 _ _ _ => ((intOf v5) + 1).toNat)
    case atStart => exact ⟨0, 0, c, by go_num, by go_num, rfl, Nat.zero_le _, ⟨by simp [HT.out]⟩, by omega, ⟨Nat.pos_of_ne_zero (by simp)⟩, HD1, ⟨fun i h1 h2 => by omega, fun i _ _ => rfl, by simpa using HI.out.tr⟩, HB1⟩
    case round =>
      obtain ⟨t, cc, c', rfl, rfl, rfl, ht, HTC, hcc, HCC, HDR, HF, HBR⟩ := hrel
      by_cases hlt : t < N
      · obtain ⟨q, hq⟩ : ∃ q, N - t = q + 1 := ⟨N - t - 1, by omega⟩
        rw [hq] at HTC ⊢
        have hq1 : ((0 : Int) ≤ (q : Int)) = True := eq_true (by omega)
        have hq2 : ((q : Int) < 800) = True := eq_true (by omega)
        have hdc := HDR.out.cell q (by omega)
        rw [HF.out.old q (by omega) (by omega), dg_at HI.out q (by have := HN.out; omega)] at hdc
        obtain ⟨d, hd⟩ : ∃ d, d = dg x.D q := ⟨_, rfl⟩
        have hd9 : d ≤ 9 := by rw [hd]; exact H9.out q
        have hcs := carry_step HTC.out
        rw [← hd] at hdc hcs
        obtain ⟨u, hu⟩ : ∃ u, m - t = u + 1 := lw_pred hlt hm0
        obtain ⟨nn, qq, rr, E0, E1, E2, E3, E3b, E4, E5, hr9, hcs2, hn10, hn60⟩ := lw_num hcs hd9 HCC.out HP.out hk
        have W1 := w_pred (lw_le hq hN8)
        have W2 := w_self (lw_le2 hu hm1 hN8)
        rw [hu]
        have HU := Aside0.mk hu
        have HCS2 := Aside0.mk hcs2
        have HN10 := Aside0.mk hn10
        have HN60 := Aside0.mk hn60
        have HQ := Aside0.mk hq
        have HLT := Aside0.mk hlt
        clear hcs hcs2 hd hn10 hn60 hu hq
        by_cases h8 : u < 800
        · have hfu := HDR.out.frozen u
          have hcu := HDR.out.cell u (by omega)
          have g1 : ((u : Int) < 800) = True := eq_true (by omega)
          have g2 : ((0 : Int) ≤ (u : Int)) = True := eq_true (by omega)
          go_wp2
          go_roundw
          case measure => simp only [intOf]; omega
          case rel =>
            refine ⟨t + 1, qq, upd c' u (.int .u8 ((rr : Int) + 48)), ?_, ?_, rfl, by omega, ⟨?_⟩, HN60.out, HN10, HDR.out.set u (by omega) _ |> Aside0.mk, ⟨HF.out.store HU.out h8 _ (by rw [HCS2.out.2])⟩, ⟨HBR.out.1.setCell (Nat.le_refl _) _, by rw [size_set]; exact HBR.out.2⟩⟩
            · exact next_q HQ.out W1
            · exact next_u' HU.out
            · exact next_T HQ.out HCS2.out
        · have g1 : ((u : Int) < 800) = False := eq_false (by omega)
          have h803 := HDR.out.cell 803 (by omega)
          have hf803 := HDR.out.frozen 803
          by_cases hz : rr = 0
          · have HZ : Aside0 (T / 10 ^ t % 10 = 0) := ⟨HCS2.out.2.trans hz⟩
            clear E5
            subst hz
            rw [show ((0 : Nat) : Int) = 0 from rfl] at E4
            go_wp2
            go_roundw
            case measure => simp only [intOf]; omega
            case rel =>
              refine ⟨t + 1, qq, c', ?_, ?_, rfl, by omega, ⟨?_⟩, HN60.out, HN10, HDR, ⟨HF.out.skip HU.out (by omega) HZ.out⟩, HBR⟩
              · exact next_q HQ.out W1
              · exact next_u HU.out W2
              · exact next_T HQ.out HCS2.out
          · have g3 : ((rr : Int) == 0) = false := beq_eq_false_iff_ne.2 (fun e => hz (by omega))
            have HZ : Aside0 (T / 10 ^ t % 10 ≠ 0) := ⟨by rw [HCS2.out.2]; exact hz⟩
            clear E5
            go_wp2
            go_roundw
            case measure => simp only [intOf]; omega
            case rel =>
              refine ⟨t + 1, qq, upd c' 803 (.bool true), ?_, ?_, rfl, by omega, ⟨?_⟩, HN60.out, HN10, ⟨HDR.out.set 803 (by omega) _⟩, ⟨HF.out.cut HU.out (by omega) HZ.out⟩, ⟨HBR.out.1.setCell (Nat.le_refl _) _, by rw [size_set]; exact HBR.out.2⟩⟩
              · exact next_q HQ.out W1
              · exact next_u HU.out W2
              · exact next_T HQ.out HCS2.out
      · have e : N = t := by omega
        subst e
        rw [Nat.sub_self]
        have HTC2 : Aside0 (T / 10 ^ N = cc) := ⟨by have := HTC.out; rw [Nat.sub_self] at this; simpa [num] using this⟩
        clear HTC HCC ht hlt
        go_wp2
        go_loopw [6, 7] (fun v6 v7 wr => ∃ (t cc : Nat) (c' : Nat → Value), v6 = .int .i64 ((m - t : Nat) : Int) ∧ v7 = .int .u64 (cc : Nat) ∧ N ≤ t ∧ t ≤ m ∧ Aside0 (T / 10 ^ t = cc) ∧ cc < 1152921504606846976 ∧ Aside0 (DB wr g c') ∧ Aside0 (LF x c T m t c') ∧ Aside0 (Below g w wr ∧ wr.heap.size = w.heap.size)) (fun v6 _ _ => (intOf v6).toNat)
        case atStart => exact ⟨N, cc, c', rfl, rfl, Nat.le_refl _, hm0, HTC2, hcc, HDR, HF, HBR⟩
        case round =>
          clear hcc HTC2 HDR HF HBR
          obtain ⟨t, cc, c', rfl, rfl, htN, htm, HTC, hcc, HDR, HF, HBR⟩ := hrel
          by_cases hz : cc = 0
          · have HTM : Aside0 (t = m) := ⟨lw_end0 HDO.out.2.1 (HTC.out.trans hz) htm (by omega)⟩
            have e : m = t := HTM.out.symm
            subst e
            subst hz
            rw [Nat.sub_self]
            have h800 := HDR.out.cell 800 (by omega)
            rw [HF.out.old 800 (by omega) (by omega), HI.out.nd, ← HN.out] at h800
            have h801 := HDR.out.cell 801 (by omega)
            rw [HF.out.old 801 (by omega) (by omega), HI.out.dp] at h801
            have hf800 := HDR.out.frozen 800
            have hf801 := HDR.out.frozen 801
            have W5 := w_nd (N := N) hm1 hN8
            have W6 := w_dp hm0 hm1 hp0 hp1
            have HY : Aside0 (∀ (w3 : World) (c3 : Nat → Value), DB w3 g c3 → (∀ i, i < 800 → c3 i = c' i) → c3 800 = .int .i64 ((if m < 800 then m else 800 : Nat) : Int) → c3 801 = .int .i64 (x.dp + ((m : Int) - N)) → c3 802 = c' 802 → c3 803 = c' 803 → ∃ y, lshD k x = trimD y ∧ Dec w3 g y) := ⟨fun w3 c3 hd e0 e1 e2 e3 e4 => ls_dec hd HI.out HF.out HA.out HN.out HT.out HDO.out.1 HDO.out.2.1 (lw_len (HTV.out) (by have := val_lt (D := x.D) (fun d hd => by obtain ⟨i, hi, e⟩ := List.getElem_of_mem hd; rw [← e]; exact (HI.out.dig i hi).2); rw [HN.out]; exact this) hk HDO.out.2.1) rfl e0 e1 e2 e3 e4⟩
            clear htN htm hcc HTM hm0 hm1
            by_cases h8 : m < 800
            · have g1 : ((800 : Int) ≤ (m : Int)) = False := eq_false (by omega)
              have HW := HY.out _ _ (((HDR.out.set 800 (by omega) (.int .i64 ((N : Int) + ((m : Int) - N))))).set 801 (by omega) (.int .i64 (x.dp + ((m : Int) - N)))) (fun i hi => by rw [upd_other _ _ (by omega), upd_other _ _ (by omega)]) (by rw [upd_other _ _ (by omega), upd_same, if_pos h8]; exact congrArg _ (by omega)) (upd_same _ _ _) (by rw [upd_other _ _ (by omega), upd_other _ _ (by omega)]) (by rw [upd_other _ _ (by omega), upd_other _ _ (by omega)])
              obtain ⟨y, hy1, hy2⟩ := HW
              have HY1 := Aside0.mk hy1
              have HY2 := Aside0.mk hy2
              have HBY : Aside0 (Below g w ((wr.setCell ⟨g, 800, none⟩ (.int .i64 ((N : Int) + ((m : Int) - N)))).setCell ⟨g, 801, none⟩ (.int .i64 (x.dp + ((m : Int) - N)))) ∧ ((wr.setCell ⟨g, 800, none⟩ (.int .i64 ((N : Int) + ((m : Int) - N)))).setCell ⟨g, 801, none⟩ (.int .i64 (x.dp + ((m : Int) - N)))).heap.size = w.heap.size) := ⟨(HBR.out.1.setCell (Nat.le_refl _) _).setCell (Nat.le_refl _) _, by rw [size_set, size_set]; exact HBR.out.2⟩
              clear hy1 hy2
              go_wp2_with (go_at_call 87; ((with_reducible refine (trim_calls g _ _ HY2.out).mono ?_); rintro e w3 ⟨rfl, hd3, hb3, hs3⟩; have HD3 := Aside0.mk hd3; have HB3 := Aside0.mk hb3; have HS3 := Aside0.mk hs3; clear hd3 hb3 hs3))
              go_wp2
              go_end0
              exact ⟨rfl, by rw [HY1.out]; exact HD3.out, HBY.out.1.trans HB3.out, by rw [HS3.out]; exact HBY.out.2⟩
            · have g1 : ((800 : Int) ≤ (m : Int)) = True := eq_true (by omega)
              have HW := HY.out _ _ ((((HDR.out.set 800 (by omega) (.int .i64 (m : Int)))).set 800 (by omega) (.int .i64 800)).set 801 (by omega) (.int .i64 (x.dp + ((m : Int) - N)))) (fun i hi => by rw [upd_other _ _ (by omega), upd_other _ _ (by omega), upd_other _ _ (by omega)]) (by rw [upd_other _ _ (by omega), upd_same, if_neg h8]; rfl) (upd_same _ _ _) (by rw [upd_other _ _ (by omega), upd_other _ _ (by omega), upd_other _ _ (by omega)]) (by rw [upd_other _ _ (by omega), upd_other _ _ (by omega), upd_other _ _ (by omega)])
              obtain ⟨y, hy1, hy2⟩ := HW
              have HY1 := Aside0.mk hy1
              have HY2 := Aside0.mk hy2
              have HBY : Aside0 (Below g w (((wr.setCell ⟨g, 800, none⟩ (.int .i64 (m : Int))).setCell ⟨g, 800, none⟩ (.int .i64 800)).setCell ⟨g, 801, none⟩ (.int .i64 (x.dp + ((m : Int) - N)))) ∧ (((wr.setCell ⟨g, 800, none⟩ (.int .i64 (m : Int))).setCell ⟨g, 800, none⟩ (.int .i64 800)).setCell ⟨g, 801, none⟩ (.int .i64 (x.dp + ((m : Int) - N)))).heap.size = w.heap.size) := ⟨((HBR.out.1.setCell (Nat.le_refl _) _).setCell (Nat.le_refl _) _).setCell (Nat.le_refl _) _, by rw [size_set, size_set, size_set]; exact HBR.out.2⟩
              clear hy1 hy2
              go_wp2_with (go_at_call 87; ((with_reducible refine (trim_calls g _ _ HY2.out).mono ?_); rintro e w3 ⟨rfl, hd3, hb3, hs3⟩; have HD3 := Aside0.mk hd3; have HB3 := Aside0.mk hb3; have HS3 := Aside0.mk hs3; clear hd3 hb3 hs3))
              go_wp2
              go_end0
              exact ⟨rfl, by rw [HY1.out]; exact HD3.out, HBY.out.1.trans HB3.out, by rw [HS3.out]; exact HBY.out.2⟩
          · have hpos : 0 < cc := Nat.pos_of_ne_zero hz
            have hz1 : ((0 : Int) < (cc : Int)) = True := eq_true (by omega)
            have hz2 : (0 < cc) = True := eq_true hpos
            obtain ⟨u, hu⟩ : ∃ u, m - t = u + 1 := lw_pred (lw_end HDO.out.1 HTC.out hpos) (Nat.le_refl _)
            obtain ⟨qq, rr, E3, E3b, E4, E5, hcs2, hn60⟩ := lw_num2 HTC.out hcc
            have W2 := w_self (lw_le2 hu hm1 hN8)
            rw [hu]
            have hmt := next_m hu htm
            have HU := Aside0.mk hu
            have HCS2 := Aside0.mk hcs2
            have HN60 := Aside0.mk hn60
            have HTN := Aside0.mk (Nat.le_succ_of_le htN)
            have HMT := Aside0.mk hmt
            clear hcs2 hn60 hu hz hpos hmt htN htm
            by_cases h8 : u < 800
            · have hfu := HDR.out.frozen u
              have hcu := HDR.out.cell u (by omega)
              have g1 : ((u : Int) < 800) = True := eq_true (by omega)
              have g2 : ((0 : Int) ≤ (u : Int)) = True := eq_true (by omega)
              go_wp2
              go_roundw
              case measure => exact meas_u'
              case rel =>
                exact ⟨t + 1, qq, upd c' u (.int .u8 ((rr : Int) + 48)), next_u' HU.out, rfl, HTN.out, HMT.out, ⟨HCS2.out.1⟩, HN60.out, HDR.out.set u (by omega) _ |> Aside0.mk, ⟨HF.out.store HU.out h8 _ (by rw [HCS2.out.2])⟩, ⟨HBR.out.1.setCell (Nat.le_refl _) _, by rw [size_set]; exact HBR.out.2⟩⟩
            · have g1 : ((u : Int) < 800) = False := eq_false (by omega)
              have h803 := HDR.out.cell 803 (by omega)
              have hf803 := HDR.out.frozen 803
              by_cases hr : rr = 0
              · have HZ : Aside0 (T / 10 ^ t % 10 = 0) := ⟨HCS2.out.2.trans hr⟩
                clear E5
                subst hr
                rw [show ((0 : Nat) : Int) = 0 from rfl] at E4
                go_wp2
                go_roundw
                case measure => exact meas_u W2
                case rel =>
                  exact ⟨t + 1, qq, c', next_u HU.out W2, rfl, HTN.out, HMT.out, ⟨HCS2.out.1⟩, HN60.out, HDR, ⟨HF.out.skip HU.out (Nat.le_of_not_lt h8) HZ.out⟩, HBR⟩
              · have g3 : ((rr : Int) == 0) = false := beq_eq_false_iff_ne.2 (fun e => hr (by omega))
                have HZ : Aside0 (T / 10 ^ t % 10 ≠ 0) := ⟨by rw [HCS2.out.2]; exact hr⟩
                clear E5
                go_wp2
                go_roundw
                case measure => exact meas_u W2
                case rel =>
                  exact ⟨t + 1, qq, upd c' 803 (.bool true), next_u HU.out W2, rfl, HTN.out, HMT.out, ⟨HCS2.out.1⟩, HN60.out, ⟨HDR.out.set 803 (by omega) _⟩, ⟨HF.out.cut HU.out (Nat.le_of_not_lt h8) HZ.out⟩, ⟨HBR.out.1.setCell (Nat.le_refl _) _, by rw [size_set]; exact HBR.out.2⟩⟩
end Go.Proofs.YtogikhohkbcccaaGreatDoor.De
