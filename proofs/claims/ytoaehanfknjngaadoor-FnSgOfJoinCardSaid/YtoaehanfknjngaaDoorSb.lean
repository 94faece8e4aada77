import Derived.Test.YtoaehanfknjngaaDoorDm
import Derived.Laws.OwnMore
namespace Go.Proofs.YtoaehanfknjngaaDoor.Sb
set_option linter.unusedVariables false
set_option linter.unusedSimpArgs false
open Go.RowKit Go.Proofs.YtoaehanfknjngaaDoor.L Go.Proofs.YtoaehanfknjngaaDoorW.PrintWords Go.Proofs.YtoaehanfknjngaaDoorW.PrintLast Go.Proofs.YtoaehanfknjngaaDoorW.PrintMore
open Go.Proofs.YtoaehanfknjngaaDoor.Dm

/-- The values that are still to come (the last one first), the texts' bytes and the values so far. -/
def sgb (most : Int) : Nat → List S30 → Int → Int → Option Bool
  | 0, _, _, _ => none
  | k + 1, vs, b, n => match vs.getLast? with
    | none => some true
    | some x => if 65536 < (x.f2.size : Int) ∨ most < (x.f3.length : Int) then some false
      else if 65536 < b + x.f2.size ∨ most < n + x.f3.length then some false
      else sgb most k (vs.dropLast ++ x.f3) (b + x.f2.size) (n + x.f3.length)
def laws_sgBounded.f (k : Nat) (l : List S30) (most : Int) : Option Bool :=
  if 0 ≤ most ∧ most ≤ 1000 then (if most < l.length then some false else sgb most k l 0 l.length) else none

theorem sgb_mono (most : Int) : ∀ k vs b n, LeO (sgb most k vs b n) (sgb most (k + 1) vs b n) := by
  intro k
  induction k with
  | zero => intro vs b n r h; simp [sgb] at h
  | succ k ih =>
    intro vs b n r h
    rw [sgb] at h ⊢
    cases hx : vs.getLast? with
    | none => rw [hx] at h; exact h
    | some x =>
      rw [hx] at h
      simp only at h ⊢
      split at h
      · rw [if_pos ‹_›]; exact h
      · rw [if_neg ‹_›]
        split at h
        · rw [if_pos ‹_›]; exact h
        · rw [if_neg ‹_›]; exact ih _ _ _ _ h
theorem laws_sgBounded.mono : ∀ a0 a1 k, LeO (laws_sgBounded.f k a0 a1) (laws_sgBounded.f (k + 1) a0 a1) := by
  intro a0 a1 k r h
  unfold laws_sgBounded.f at h ⊢
  split at h
  · rw [if_pos ‹_›]
    split at h
    · rw [if_pos ‹_›]; exact h
    · rw [if_neg ‹_›]; exact sgb_mono _ _ _ _ _ _ h
  · cases h

/-- A row of the call's own whose elements' rows are those that came in. -/
def BR (w wr : World) (base : Nat) (v : Value) (vs : List S30) : Prop := OwnRow (k30.K w) 30 4 wr base v vs
theorem info30 : (Tryd.prog.info? 30).map (fun i => (i.zero, i.size, i.bytes)) = some (some (.agg #[.int .u8 0, .int .u64 0, .string ⟨#[]⟩, .slice none 0 0]), 4, 56) := by kernel_rfl
theorem reps_append {α : Type} {R : α → List Value → Prop} {size : Nat} {ps qs : List α} {cs ds : List Value} (h : Reps R size ps cs) (k : Reps R size qs ds) : Reps R size (ps ++ qs) (cs ++ ds) := by
  refine ⟨by rw [List.length_append, List.length_append, h.1, k.1, Nat.add_mul], fun j p hj => ?_⟩
  by_cases hl : j < ps.length
  · rw [List.getElem?_append_left hl] at hj
    have h1 := h.2 j p hj
    have h2 : j * size + size ≤ cs.length := by rw [h.1, ← Nat.succ_mul]; exact Nat.mul_le_mul_right _ hl
    rw [List.drop_append_of_le_length (by omega), List.take_append_of_le_length (by rw [List.length_drop]; omega)]
    exact h1
  · rw [List.getElem?_append_right (by omega)] at hj
    have h1 := k.2 (j - ps.length) p hj
    have e : j * size = cs.length + (j - ps.length) * size := by rw [h.1, ← Nat.add_mul]; congr 1; omega
    rw [e, List.drop_append]
    have e2 : cs.length + (j - ps.length) * size - cs.length = (j - ps.length) * size := by omega
    have e3 : List.drop (cs.length + (j - ps.length) * size) cs = [] := List.drop_of_length_le (by omega)
    rw [e3, List.nil_append, e2]
    exact h1
theorem none_append (w : World) (c base : Nat) (v : Value) (n : Nat) (xs : List Value) (hown : w.ownsRow base 30 4 v n xs) : (Builtin.append_ #[22, 22] 22 #[v, .slice none 0 c]).run Tryd.prog w = .ok v w := by
  obtain ⟨i, hi, _⟩ := Option.map_eq_some_iff.1 info30
  rcases hown.2 with ⟨rfl, rfl⟩ | ⟨g, cap, cur, rfl, _, _, hnc, _⟩
  · simp [Builtin.append_, run_underlying Tryd.underlying22, sizeOf, typeInfo, hi, Builtin.lenOf, Builtin.firstCells]
  · simp [Builtin.append_, run_underlying Tryd.underlying22, sizeOf, typeInfo, hi, Builtin.lenOf, Builtin.firstCells, hnc, storeCells]
theorem some_none {A : Option Addr} {w : World} {xs : List S30} (h : k30.C w A xs.length xs) (hA : A = none) : xs = [] := by
  by_cases h0 : 0 < xs.length
  · obtain ⟨ad, e, _⟩ := h.2.2 h0
    rw [hA] at e
    cases e
  · exact List.eq_nil_of_length_eq_zero (by omega)
/-- append of a row that came in. -/
theorem br_append {ops : Array Oper} {rest : List Oper} {o : Oper} {a : Act} {Q : Exit → Act → World → Prop} {w w0 W : World} (base : Nat) (hgd : o.guard = none) (s x : Operand) (ht : o.type = 22)
    (ho : o.op = .call { callee := .builtin .append, args := #[s, x], argTypes := #[22, 22] }) (v : Value) (vs ks : List S30) (A : Option Addr) (c : Nat) (hs : a.eval s = v) (hx : a.eval x = .slice A ks.length c)
    (HO : BR w W base v vs) (HC : k30.C w A ks.length ks) (hwW : Below w.heap.size w W) (HB : Below base w0 W) (hbase : base ≤ W.heap.size) (hl : vs.length + ks.length ≤ 2000)
    (h : ∀ v1 w1, BR w w1 base v1 (vs ++ ks) → Below base w0 w1 → W.grownBy w1 v.ownBlock → wpList Tryd.prog ops Q rest (a.put o.dst v1) w1) : wpList Tryd.prog ops Q (o :: rest) a W := by
  obtain ⟨inner, hown, hr⟩ := HO
  obtain ⟨i0, hi, hzz⟩ := Option.map_eq_some_iff.1 info30
  simp only [Prod.mk.injEq] at hzz
  obtain ⟨hz0, hz1, hz2⟩ := hzz
  cases A with
  | some ad =>
    obtain ⟨news, hrn, hcell⟩ := HC.inner_
    refine wpList_append_own_at W hgd s x 22 ho base 30 i0 _ 4 56 Tryd.underlying22 hi hz0 hz1 hz2 rfl (by decide) v vs.length inner hs hown ad ks.length c news hx hrn.1 (fun j u hu => cell_of (hcell j u hu) hwW) ?_ (by unfold maxLen; omega) (by omega) hbase ?_
    · intro u hu
      obtain ⟨j, hj, rfl⟩ := List.getElem_of_mem hu
      have hjl : j / 4 < ks.length := by have := hrn.1; show j / 4 < _; have h4 : news.length = ks.length * 4 := this; omega
      have hk := hrn.2 (j / 4) _ (List.getElem?_eq_getElem hjl)
      refine k30.K_one hk _ ?_
      have e : j = j / 4 * 4 + j % 4 := by omega
      rw [List.mem_iff_getElem?]
      refine ⟨j % 4, ?_⟩
      show ((news.drop (j / 4 * 4)).take 4)[j % 4]? = some news[j]
      rw [List.getElem?_take, if_pos (by omega), List.getElem?_drop, ← e, List.getElem?_eq_getElem hj]
    · intro v' w' ho' hg _ _
      exact h v' w' ⟨inner ++ news, by rw [List.length_append]; exact ho', reps_append hr hrn⟩ (HB.grown hg hbase (own_base hown)) hg
  | none =>
    have e := some_none HC rfl
    subst e
    refine wpList_plain hgd fun K hK => ?_
    have hrun := none_append W c base v vs.length inner hown
    unfold Oper.wp execOp
    simp only [ho, ht, resolve, invoke, builtin, Sem.run_bind, Sem.run_pure, Result.andThen_ok, List.map_toArray, List.map_cons, List.map_nil, hs, hx, List.length_nil, hrun]
    exact hK _ _ (h v W (by rw [List.append_nil]; exact ⟨inner, hown, hr⟩) HB ⟨rfl, rfl, rfl, Nat.le_refl _, fun _ _ _ => rfl⟩)

theorem br_slice {w wr : World} {base : Nat} {v : Value} {vs : List S30} (h : BR w wr base v vs) : ∃ A c, v = .slice A vs.length c := by
  obtain ⟨inner, ho, _⟩ := h
  exact own_slice ho
theorem br_form {w wr : World} {base : Nat} {v : Value} {vs : List S30} (h : BR w wr base v vs) (hp : 0 < vs.length) : ∃ g cap, v = .slice (some ⟨g, 0, none⟩) vs.length cap ∧ vs.length ≤ cap := by
  obtain ⟨inner, ho, _⟩ := h
  rcases ho.2 with ⟨_, h0⟩ | ⟨g, cap, cur, e, _, _, hn, _⟩
  · omega
  · exact ⟨g, cap, e, hn⟩
theorem BR.below {w wr W : World} {base : Nat} {v : Value} {vs : List S30} (h : BR w wr base v vs) (hb : Below wr.heap.size wr W) : BR w W base v vs := OwnRow.below h hb
/-- The last element of such a row, and the row without it. -/
theorem br_last {w wr : World} {base g cap m : Nat} {vs : List S30} {x : S30} (h : BR w wr base (.slice (some ⟨g, 0, none⟩) (m + 1) cap) vs) (hm : vs.length = m + 1) (hx : vs.getLast? = some x) :
    (∃ A3 c3, wr.cell? ⟨g, m * 4, none⟩ = some (.int .u8 x.f0) ∧ wr.cell? ⟨g, m * 4 + 1, none⟩ = some (.int .u64 x.f1) ∧ wr.cell? ⟨g, m * 4 + 2, none⟩ = some (.string x.f2) ∧ wr.cell? ⟨g, m * 4 + 3, none⟩ = some (.slice A3 x.f3.length c3) ∧ x.f3.length ≤ c3 ∧ k30.C w A3 x.f3.length x.f3) ∧
    BR w wr base (.slice (some ⟨g, 0, none⟩) m cap) vs.dropLast ∧ vs.dropLast.length = m := by
  obtain ⟨inner, hown, hr⟩ := h
  rw [hm] at hown
  have hx' : vs[m]? = some x := by rw [List.getLast?_eq_getElem?, hm] at hx; simpa using hx
  have hk := hr.2 m x hx'
  obtain ⟨A3, c3, hcs, hl, hC⟩ := k30_open hk
  have hil : inner.length = (m + 1) * 4 := by have := hr.1; rw [hm] at this; exact this
  have hc : ∀ i, i < 4 → wr.cell? ⟨g, m * 4 + i, none⟩ = ((inner.drop (m * 4)).take 4)[i]? := fun i hi => by
    rw [hown.cellAt (m * 4 + i) (by omega), List.getElem?_take, if_pos hi, List.getElem?_drop]
  have hd : vs.dropLast.length = m := by rw [List.length_dropLast, hm]; rfl
  refine ⟨⟨A3, c3, ?_, ?_, ?_, ?_, hl, hC⟩, ⟨inner.take (m * 4), by rw [hd]; exact own_take hown (Nat.le_succ m), ?_⟩, hd⟩
  · have := hc 0 (by omega); rw [hcs] at this; exact this
  · have := hc 1 (by omega); rw [hcs] at this; exact this
  · have := hc 2 (by omega); rw [hcs] at this; exact this
  · have := hc 3 (by omega); rw [hcs] at this; exact this
  · have e : vs.dropLast = vs.take m := by rw [List.dropLast_eq_take, hm]; rfl
    rw [e]
    exact Kd.reps_take hr (by omega)

set_option maxHeartbeats 8000000 in
set_option maxRecDepth 100000 in
theorem laws_sgBounded.calls (k : Nat) (A0 : Option Addr) (c0 : Nat) (l0 : List S30) (a1 : Int) (r : Bool) (w : World) (hr0 : Kd.C k30 w A0 l0.length l0) (hc0 : l0.length ≤ c0) (h : laws_sgBounded.f k l0 a1 = some r) :
    Calls Tryd.prog 6 #[.slice A0 l0.length c0, .int .i64 a1] w fun e w' => e = .returned (.bool r) ∧ Below w.heap.size w w' := by
  unfold laws_sgBounded.f at h
  split at h
  case isFalse => cases h
  case isTrue ha =>
  obtain ⟨ha1, ha2⟩ := ha
  have HR := Aside0.mk hr0
  split at h
  case isTrue hlt =>
    obtain rfl := Option.some.inj h
    have q1 : decide (a1 < (l0.length : Int)) = true := decide_eq_true hlt
    clear h hr0
    go_enter Tryd.func6, Tryd.ntmps6
    go_wp2
    go_ret
    exact ⟨rfl, Below.refl _ _⟩
  case isFalse hge =>
    have q1 : decide (a1 < (l0.length : Int)) = false := decide_eq_false hge
    have hle : (l0.length : Int) ≤ a1 := by omega
    have H := Aside0.mk h
    have hbl : Below w.heap.size w (w.alloc (.cells #[] 30)) := below_alloc (Below.refl _ _) _
    have hown0 : BR w (w.alloc (.cells #[] 30)) w.heap.size (.slice (some ⟨w.heap.size, 0, none⟩) 0 0) [] := ⟨[], ⟨rfl, .inr ⟨w.heap.size, 0, #[], rfl, Nat.le_refl _, blk_new _ _, Nat.le_refl _, Nat.zero_le _, rfl, rfl⟩⟩, Reps.none _ _⟩
    have HO := Aside0.mk hown0
    have HBL := Aside0.mk hbl
    clear h hr0 hge hbl hown0
    go_enter Tryd.func6, Tryd.ntmps6
    go_wp2_with (first
      | (at_builtin; refine br_append (w := w) (w0 := w) w.heap.size rfl (.tmp 13) (.tmp 14) rfl rfl _ [] l0 A0 c0 rfl rfl HO.out HR.out HBL.out HBL.out HBL.out.size (by simp; omega) ?_; intro v1 w1 ho hb hg; have HO1 := Aside0.mk ho; have HB1 := Aside0.mk hb; clear ho hb hg; obtain ⟨A1, c1, e1⟩ := br_slice HO1.out; subst e1; simp only [List.nil_append] at HO1 ⊢)
      | go_in)
    go_loopg [5, 6, 7, 8] k (fun kq v5 v6 v7 _ wr => ∃ (vs : List S30) (b n : Int), v6 = .int .i64 b ∧ v7 = .int .i64 n ∧ Aside0 (sgb a1 kq vs b n = some r) ∧ 0 ≤ b ∧ b ≤ 65536 ∧ 0 ≤ n ∧ n ≤ a1 ∧ (vs.length : Int) ≤ n ∧ Aside0 (BR w wr w.heap.size v5 vs) ∧ Aside0 (Below w.heap.size w wr))
    case atStart => exact ⟨l0, 0, l0.length, rfl, rfl, H, by omega, by omega, by omega, hle, by omega, HO1, HB1⟩
    case round =>
      obtain ⟨vs, b, n, rfl, rfl, HS, hb0, hb1, hn0, hn1, hvl, HV, HB⟩ := hrel
      cases gk with
      | zero => exact absurd HS.out (by simp [sgb])
      | succ k1 =>
        have hs := HS.out
        rw [sgb] at hs
        cases hx : vs.getLast? with
        | none =>
          rw [hx] at hs
          obtain rfl := Option.some.inj hs
          obtain rfl : vs = [] := by simpa using hx
          obtain ⟨A5, c5, e5⟩ := br_slice HV.out
          subst e5
          clear hs hx HS
          go_wp2
          go_ret
          exact ⟨rfl, HB.out⟩
        | some x =>
          rw [hx] at hs
          simp only at hs
          obtain ⟨m, hm⟩ : ∃ m, vs.length = m + 1 := ⟨vs.length - 1, by
            cases vs with
            | nil => simp at hx
            | cons a l => simp⟩
          obtain ⟨g, cap, e5, hcap⟩ := br_form HV.out (by omega)
          rw [hm] at e5 hcap
          subst e5
          obtain ⟨⟨A3, c3, x0, x1, x2, x3, hl3, hC3⟩, hdr, hdl⟩ := br_last HV.out hm hx
          have HDR := Aside0.mk hdr
          have HC3 := Aside0.mk hC3
          obtain ⟨i30, hi30, _⟩ := Option.map_eq_some_iff.1 info30
          have hsl := cut_to (P := Tryd.prog) 22 30 .i64 Tryd.underlying22 hi30 (some ⟨g, 0, none⟩) (m + 1) cap (m : Int) (by omega) (by omega) hcap
          rw [Int.toNat_natCast] at hsl
          have HDL := Aside0.mk hdl
          have hsz0 : (0 : Int) ≤ (x.f2.size : Int) := by omega
          have p0 : ((0 : Int) ≤ (m : Int)) = True := eq_true (by omega)
          have p1 : ((m : Int) < (m : Int) + 1) = True := eq_true (by omega)
          have p2 : ((0 : Int) < (m : Int) + 1) = True := eq_true (by omega)
          have HM : Aside0 (((m + 1 : Nat) : Int) ≤ n) := ⟨by rw [← hm]; exact hvl⟩
          have hm2 : m ≤ 1000 := by omega
          clear hdr hC3 hdl hx hm hvl hcap HS
          by_cases ha : 65536 < (x.f2.size : Int)
          · rw [if_pos (.inl ha)] at hs
            obtain rfl := Option.some.inj hs
            clear hs
            go_wp2
            go_ret
            exact ⟨rfl, below_alloc HB.out _⟩
          · by_cases hb : a1 < (x.f3.length : Int)
            · rw [if_pos (.inr hb)] at hs
              obtain rfl := Option.some.inj hs
              clear hs
              go_wp2
              go_ret
              exact ⟨rfl, below_alloc HB.out _⟩
            · rw [if_neg (by omega)] at hs
              by_cases hc : 65536 < b + (x.f2.size : Int)
              · rw [if_pos (.inl hc)] at hs
                obtain rfl := Option.some.inj hs
                clear hs
                go_wp2
                go_ret
                exact ⟨rfl, below_alloc HB.out _⟩
              · by_cases hd : a1 < n + (x.f3.length : Int)
                · rw [if_pos (.inr hd)] at hs
                  obtain rfl := Option.some.inj hs
                  clear hs
                  go_wp2
                  go_ret
                  exact ⟨rfl, below_alloc HB.out _⟩
                · rw [if_neg (by omega)] at hs
                  have HS := Aside0.mk hs
                  have HBX := Aside0.mk (below_alloc HB.out (.cells #[.int .u8 x.f0, .int .u64 x.f1, .string x.f2, .slice A3 x.f3.length c3] 30))
                  have HDX := Aside0.mk (BR.below HDR.out (below_alloc (Below.refl _ _) (.cells #[.int .u8 x.f0, .int .u64 x.f1, .string x.f2, .slice A3 x.f3.length c3] 30)))
                  clear hs
                  go_wp2_with (first
                    | (at_builtin; refine br_append (w := w) (w0 := w) w.heap.size rfl (.tmp 60) (.tmp 62) rfl rfl (.slice (some ⟨g, 0, none⟩) m cap) vs.dropLast x.f3 A3 c3 rfl rfl HDX.out HC3.out HBX.out HBX.out HBX.out.size (by rw [HDL.out]; omega) ?_; intro v1 w1 ho hb_ hg; have HO1 := Aside0.mk ho; have HB1 := Aside0.mk hb_; clear ho hb_ hg)
                    | go_in)
                  go_roundg k1
                  case measure => omega
                  case rel => exact ⟨vs.dropLast ++ x.f3, b + x.f2.size, n + x.f3.length, rfl, rfl, HS, by omega, by omega, by omega, by omega, by rw [List.length_append, HDL.out]; have := HM.out; omega, HO1, HB1⟩
end Go.Proofs.YtoaehanfknjngaaDoor.Sb
