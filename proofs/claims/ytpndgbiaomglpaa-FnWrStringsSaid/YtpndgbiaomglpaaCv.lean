/-
The string converter: what its functions do, told by walks.
-/
import Derived.Test.YtpndgbiaomglpaaW1
import Derived.Test.YtpndgbiaomglpaaCom
import Derived.Outline
namespace Go.Proofs.Ytpndgbiaomglpaa.Cv
set_option linter.unusedVariables false
set_option linter.unusedSimpArgs false
open Go.RowKit Go.Proofs.Ytpndgbiaomglpaa.W Go.Proofs.YtpndgbiaomglpaaW.PrintWords Go.Proofs.YtpndgbiaomglpaaW.PrintLast Go.Proofs.YtpndgbiaomglpaaW.PrintMore
open Go.Proofs.Ytpndgbiaomglpaa.Com

theorem info5_ : (Try.prog.info? 5).map (fun i => (i.zero, i.size, i.bytes)) = some (some (.int .u8 0), 1, 1) := by kernel_rfl

theorem mk41 (n : Nat) (hn : n ≤ 281474976710656) (W : World) : (Instr.makeSlice 41 (.int .i64 0) (.int .i64 (n : Int))).run Try.prog W = .ok (.slice (some ⟨W.heap.size, 0, none⟩) 0 n) (W.alloc (.cells (madeCells #[.int .u8 0] n) 5)) := by
  obtain ⟨i, hi, hz0, hz1, hz2⟩ := info_parts info5_
  have hr := run_make (P := Try.prog) W 41 5 i (.int .u8 0) Try.underlying41 hi hz0 .i64 .i64 0 (n : Int) (Int.le_refl _) (by omega) (by rw [hz2]; omega) (by omega)
  simp only [hz1, Int.toNat_natCast, Int.toNat_zero, Nat.mul_one] at hr
  exact hr

theorem newConv (n : Nat) (hn : n ≤ 65535) (w : World) : Calls Try.prog 29 #[.int .i64 (n : Int)] w fun e w' => e = .returned (.pointer (some ⟨w.heap.size + 1, 0, none⟩)) ∧ w' = (w.alloc (.cells (madeCells #[.int .u8 0] n) 5)).alloc (.cells #[.slice (some ⟨w.heap.size, 0, none⟩) 0 n, .int .i64 0] 66) := by
  have hmk := mk41 n (by omega)
  go_enter Try.func29, Try.ntmps29
  go_wp2
  go_ret
  exact ⟨rfl, rfl⟩

/-- The cells of a converter. -/
theorem conv_cells {w : World} {g : Nat} {v : Value} {n : Int} (h : w.heap[g]? = some (.cells #[v, .int .i64 n] 66 (0, 0))) : w.cell? ⟨g, 0, none⟩ = some v ∧ w.cell? ⟨g, 1, none⟩ = some (.int .i64 n) ∧ w.frozen? ⟨g, 0, none⟩ = false ∧ w.frozen? ⟨g, 1, none⟩ = false :=
  ⟨by rw [blk_cell h 0]; rfl, by rw [blk_cell h 1]; rfl, blk_frozen h 0, blk_frozen h 1⟩

set_option maxHeartbeats 4000000 in
theorem conv_empty (g c m0 : Nat) (A : Option Addr) (w : World) : Calls Try.prog 30 #[.pointer (some ⟨g, 0, none⟩), .slice A 0 c] w fun e w' => e = .returned (.string ⟨#[]⟩) ∧ w' = w := by
  go_enter Try.func30, Try.ntmps30
  go_wp2
  go_ret
  exact ⟨rfl, rfl⟩

set_option maxHeartbeats 4000000 in
theorem conv_big (g n c cap cm m : Nat) (A Ab : Option Addr) (ys : List Int) (w : World) (h : w.heap[g]? = some (.cells #[.slice A n cap, .int .i64 n] 66 (0, 0))) (hm : cap < m) (h0 : 0 < m) (hx : m ≤ 9223372036854775807) (hr : ReadsInt w .u8 Ab m ys) :
    Calls Try.prog 30 #[.pointer (some ⟨g, 0, none⟩), .slice Ab m cm] w fun e w' => e = .returned (.string (strOfNums ys)) ∧ w' = w := by
  obtain ⟨hc0, hc1, hf0, hf1⟩ := conv_cells h
  have hcv := string_of_reads (P := Try.prog) (c := cm) Try.underlying41 Try.underlying5 Try.underlying9 hr
  go_enter Try.func30, Try.ntmps30
  go_wp2
  go_ret
  exact ⟨rfl, rfl⟩

/-- A converter: its cells, and its row. -/
def Cv (w : World) (g b0 cap : Nat) (v : Value) (xs : List Int) : Prop :=
  ∃ gr : Nat, v = .slice (some ⟨gr, 0, none⟩) xs.length cap ∧ w.heap[g]? = some (.cells #[v, .int .i64 (xs.length : Int)] 66 (0, 0)) ∧ w.ownsRow b0 5 1 v xs.length (nums .u8 xs)

def Done (w : World) (g b0 cap : Nat) (v : Value) (n : Nat) (r : ByteArray) (e : Ending) (w' : World) : Prop :=
  e = .returned (.string r) ∧ ∃ (v' : Value) (xs' : List Int), Cv w' g b0 cap v' xs' ∧ xs'.length ≤ n ∧ KeepBut w w' g v.ownBlock ∧ Below b0 w w' ∧ (v'.ownBlock = v.ownBlock ∨ ∃ b, v'.ownBlock = some b ∧ w.heap.size ≤ b)

/-- append in a row that has room: the row stays. -/
theorem append_room {ops : Array Oper} {rest : List Oper} {o : Oper} {a : Act} {Q : Exit → Act → World → Prop} {W : World} (base : Nat) (hgd : o.guard = none) (s x : Operand)
    (ho : o.op = .call { callee := .builtin .append, args := #[s, x], argTypes := #[41, 41] }) (gr cap : Nat) (xs ys : List Int) (A : Option Addr) (c : Nat)
    (hs : a.eval s = .slice (some ⟨gr, 0, none⟩) xs.length cap) (hx : a.eval x = .slice A ys.length c)
    (HO : W.ownsRow base 5 1 (.slice (some ⟨gr, 0, none⟩) xs.length cap) xs.length (nums .u8 xs)) (HR : ReadsInt W .u8 A ys.length ys) (h0 : 0 < ys.length) (hroom : xs.length + ys.length ≤ cap)
    (h : ∀ w1, w1.ownsRow base 5 1 (.slice (some ⟨gr, 0, none⟩) (xs.length + ys.length) cap) (xs.length + ys.length) (nums .u8 (xs ++ ys)) → W.grownBy w1 (some gr) → wpList Try.prog ops Q rest (a.put o.dst (.slice (some ⟨gr, 0, none⟩) (xs.length + ys.length) cap)) w1) :
    wpList Try.prog ops Q (o :: rest) a W := by
  obtain ⟨i5, hi5, hz, hz5, _⟩ := info_parts info5_
  obtain ⟨ad, rfl, hc⟩ := HR.2.2 h0
  obtain ⟨h1, ⟨h2, _⟩ | ⟨g', cap', cur, he, hb, hg, hnc, hcm, hcs, htake⟩⟩ := HO
  · cases h2
  · injection he with he1 he2 he3
    injection he1 with he1
    injection he1 with he1
    subst he1
    subst he3
    have hcells : ∀ j u, (nums .u8 ys)[j]? = some u → W.cell? (ad.add j) = some u := by
      intro j u hu
      have hj : j < ys.length := by
        rcases Nat.lt_or_ge j ys.length with h | h
        · exact h
        · simp [nums, List.getElem?_eq_none h] at hu
      have := hc j (by omega)
      simp [nums, List.getElem?_eq_getElem hj] at hu
      subst hu
      rw [this]
      simp [List.getD_eq_getElem?_getD, List.getElem?_eq_getElem hj]
    have hl : (nums .u8 ys).length = ys.length * i5.size := by rw [hz5, Nat.mul_one, nums_length]
    have hr := Go.run_append_room (P := Try.prog) W 41 o.type 5 i5 Try.underlying41 hi5 gr xs.length cap cur hg ad ys.length c (nums .u8 ys) hl hcells
      (by intro u hu; simp only [nums, List.mem_map] at hu; obtain ⟨q, _, rfl⟩ := hu; rfl) hroom (by rw [hz5, nums_length]; omega)
    refine wpList_plain hgd fun K hK => ?_
    unfold Oper.wp execOp
    simp only [ho, resolve, invoke, builtin, Sem.run_bind, Sem.run_pure, Result.andThen_ok, List.map_toArray, List.map_cons, List.map_nil, hs, hx, hr]
    refine hK _ _ (h _ ⟨?_, .inr ⟨gr, cap, _, rfl, hb, setRow_heap W gr cur _ 5 _ hg, hroom, hcm, ?_, ?_⟩⟩ ⟨rfl, rfl, rfl, by simp, fun k _ hk => setRow_other W gr k _ (fun e => hk (by rw [e]))⟩)
    · rw [nums_length, List.length_append, Nat.mul_one]
    · simp only [List.size_toArray, List.length_append, List.length_take, List.length_drop, Array.length_toList, nums_length, hz5]
      omega
    · simp only [hz5, Nat.mul_one] at htake ⊢
      rw [htake, nums_append]
      have : (nums .u8 xs ++ nums .u8 ys).length = xs.length + ys.length := by rw [List.length_append, nums_length, nums_length]
      rw [← this]
      exact List.take_left

theorem toStr (A0 : Option Addr) (c0 : Nat) (l0 : List Int) (w : World) (hr0 : ReadsInt w .u8 A0 l0.length l0) :
    Calls Try.prog 37 #[.slice A0 l0.length c0] w fun e w' => e = .returned (.string (strOfNums l0)) ∧ w = w' := by
  have hcv2 := string_of_reads (P := Try.prog) (c := c0) Try.underlying41 Try.underlying5 Try.underlying9 hr0
  go_enter Try.func37, Try.ntmps37
  go_wp2
  go_ret
  exact ⟨rfl, rfl⟩

theorem reads_set {w : World} {k : IntKind} {A : Option Addr} {n : Nat} {xs : List Int} (h : ReadsInt w k A n xs) {a : Addr} {u : Value} (hu : w.cell? a = some u) (hx : ∀ x, u ≠ .int k x) (v : Value) : ReadsInt (w.setCell a v) k A n xs :=
  ⟨h.1, h.2.1, fun hp => by
    obtain ⟨ad, e, hc⟩ := h.2.2 hp
    refine ⟨ad, e, fun j hj => ?_⟩
    have h9 := hc j hj
    rw [World.cell?_setCell_other]
    · exact h9
    · intro he
      rw [← he, hu] at h9
      exact hx _ (Option.some.inj h9)⟩

set_option maxHeartbeats 4000000 in
theorem conv_room (g b0 cap cm : Nat) (gr : Nat) (Ab : Option Addr) (xs ys : List Int) (w : World) (h : w.heap[g]? = some (.cells #[.slice (some ⟨gr, 0, none⟩) xs.length cap, .int .i64 (xs.length : Int)] 66 (0, 0)))
    (HO : w.ownsRow b0 5 1 (.slice (some ⟨gr, 0, none⟩) xs.length cap) xs.length (nums .u8 xs)) (hb0 : b0 ≤ w.heap.size) (hbg : b0 ≤ g)
    (hm : ys.length ≤ cap) (hroom : xs.length + ys.length ≤ cap) (h0 : 0 < ys.length) (hx : xs.length + ys.length ≤ 140737488355328) (hr : ReadsInt w .u8 Ab ys.length ys) (hcm : ys.length ≤ cm) :
    Calls Try.prog 30 #[.pointer (some ⟨g, 0, none⟩), .slice Ab ys.length cm] w (Done w g b0 cap (.slice (some ⟨gr, 0, none⟩) xs.length cap) (xs.length + ys.length) (strOfNums ys)) := by
  obtain ⟨hc0, hc1, hf0, hf1⟩ := conv_cells h
  obtain ⟨i5, hi5, _, hz5, _⟩ := info_parts info5_
  have HO' := Aside0.mk HO
  have HH := Aside0.mk h
  have HR := Aside0.mk hr
  clear h HO hr
  have hsum : IntKind.i64.wrap ((xs.length : Int) + (ys.length : Int)) = (xs.length : Int) + (ys.length : Int) := by rw [i64_w]; exact wrap_of (by omega) (by omega)
  have htest : decide ((cap : Int) < (xs.length : Int) + (ys.length : Int)) = false := decide_eq_false (by omega)
  go_enter Try.func30, Try.ntmps30
  go_wp2
  go_quiet (fail)
  have L1 := Aside0.mk (pw_below_drewN (Below.refl b0 w) nq)
  have hD := pw_below_drewN (Below.refl w.heap.size w) nq
  have HO1 := Aside0.mk (pw_own_below HO'.out hD)
  have HH1 := Aside0.mk (blk_below HH.out hD)
  have HR1 := Aside0.mk (ReadsInt.below HR.out hD)
  have hne1 := Aside0.mk (own_ne HO1.out HH1.out (by decide))
  have K1 := Aside0.mk (KeepBut.of_below hD g (Value.slice (some ⟨gr, 0, none⟩) xs.length cap).ownBlock)
  have hb1 : b0 ≤ (w.drewN nq).heap.size := Nat.le_trans hb0 hD.size
  have hsz1 := hD.size
  clear hD hc0 hc1 hf0 hf1 HO' HH HR
  generalize w.drewN nq = w1 at HO1 HH1 HR1 hne1 K1 L1 hb1 hsz1 ⊢
  obtain ⟨hc0, hc1, hf0, hf1⟩ := conv_cells HH1.out
  have hlen : Aside0 ((xs ++ ys).length = xs.length + ys.length) := ⟨by rw [List.length_append]⟩
  go_wp2_with (first | (at_builtin; refine append_room b0 rfl (.tmp 49) (.tmp 50) rfl gr cap xs ys Ab cm rfl rfl HO1.out HR1.out h0 hroom ?_; intro w2 ho2 hg2; have HO2 := Aside0.mk ho2; have HG2 := Aside0.mk hg2; clear ho2 hg2; have HH2 := Aside0.mk (blk_grown HH1.out HG2.out hne1.out); clear hc0 hc1 hf0 hf1; obtain ⟨hc0, hc1, hf0, hf1⟩ := conv_cells HH2.out))
  have hne2 := own_ne HO2.out HH2.out (by decide)
  have HO3 := Aside0.mk (own_setCell (p := ⟨g, 0, none⟩) HO2.out hne2 (.slice (some ⟨gr, 0, none⟩) (xs.length + ys.length) cap))
  have HH3 : Aside0 ((w2.setCell ⟨g, 0, none⟩ (.slice (some ⟨gr, 0, none⟩) (xs.length + ys.length) cap)).heap[g]? = some (.cells #[.slice (some ⟨gr, 0, none⟩) (xs.length + ys.length) cap, .int .i64 (xs.length : Int)] 66 (0, 0))) := ⟨blk_set HH2.out 0 _⟩
  have K3 := Aside0.mk ((K1.out.trans (KeepBut.of_grown HG2.out g) (.inl rfl)).set_ 0 (.slice (some ⟨gr, 0, none⟩) (xs.length + ys.length) cap))
  have L3 := Aside0.mk ((L1.out.grown HG2.out hb1 (own_base HO1.out)).setCell (p := ⟨g, 0, none⟩) hbg (.slice (some ⟨gr, 0, none⟩) (xs.length + ys.length) cap))
  have T3 : Aside0 ((Value.slice (some ⟨gr, 0, none⟩) (xs.length + ys.length) cap).ownBlock = (Value.slice (some ⟨gr, 0, none⟩) xs.length cap).ownBlock ∨ ∃ b, (Value.slice (some ⟨gr, 0, none⟩) (xs.length + ys.length) cap).ownBlock = some b ∧ w.heap.size ≤ b) := ⟨.inl rfl⟩
  clear hne2 HO2 HH2 HG2 hc0 hc1 hf0 hf1
  generalize w2.setCell ⟨g, 0, none⟩ (.slice (some ⟨gr, 0, none⟩) (xs.length + ys.length) cap) = w3 at HO3 HH3 K3 L3 T3 ⊢
  obtain ⟨hc0, hc1, hf0, hf1⟩ := conv_cells HH3.out
  obtain ⟨A4, hcut, hA4⟩ := print_cut (P := Try.prog) 41 5 .i64 Try.underlying41 hi5 hz5 (some ⟨gr, 0, none⟩) (xs.length + ys.length) cap xs.length (by omega)
  rw [show xs.length + ys.length - xs.length = ys.length from by omega] at hcut hA4
  have HA4 := Aside0.mk hA4
  clear hA4
  go_wp2
  go_quiet (fail)
  have L4 := Aside0.mk (pw_below_drewN L3.out nq)
  have hD := pw_below_drewN (Below.refl w3.heap.size w3) nq
  have HO4 := Aside0.mk (pw_own_below HO3.out hD)
  have HH4 := Aside0.mk (blk_below HH3.out hD)
  have K4 := Aside0.mk (K3.out.trans (KeepBut.of_below hD g (Value.slice (some ⟨gr, 0, none⟩) xs.length cap).ownBlock) (.inl rfl))
  clear hD hc0 hc1 hf0 hf1 HO3 HH3 K3 L3
  generalize w3.drewN nq = w4 at HO4 HH4 K4 L4 ⊢
  obtain ⟨hc0, hc1, hf0, hf1⟩ := conv_cells HH4.out
  have HR4 : Aside0 (ReadsInt w4 .u8 A4 ys.length ys) := ⟨by
    have := HA4.out w4 .u8 (xs ++ ys) (own_le HO4.out) (own_reads' HO4.out)
    rw [List.drop_left] at this
    exact this⟩
  go_wp2_with (go_at_call 37; refine (toStr A4 (cap - xs.length) ys _ HR4.out).mono ?_; rintro e w5 ⟨rfl, rfl⟩)
  go_ret
  refine ⟨rfl, .slice (some ⟨gr, 0, none⟩) (xs.length + ys.length) cap, xs ++ ys, ⟨gr, by rw [hlen.out], ?_, ?_⟩, by rw [hlen.out]; exact Nat.le_refl _, K4.out.set_ 1 _, L4.out.setCell hbg _, T3.out⟩
  · rw [hlen.out, Int.natCast_add]
    exact blk_set HH4.out 1 _
  · rw [hlen.out]
    exact own_setCell HO4.out (own_ne HO4.out HH4.out (by decide)) _

set_option maxHeartbeats 4000000 in
theorem conv_fill (g b0 cap cm : Nat) (gr : Nat) (Ab : Option Addr) (xs ys : List Int) (w : World) (h : w.heap[g]? = some (.cells #[.slice (some ⟨gr, 0, none⟩) xs.length cap, .int .i64 (xs.length : Int)] 66 (0, 0)))
    (HO : w.ownsRow b0 5 1 (.slice (some ⟨gr, 0, none⟩) xs.length cap) xs.length (nums .u8 xs)) (hb0 : b0 ≤ w.heap.size) (hbg : b0 ≤ g)
    (hm : ys.length ≤ cap) (hroom : cap < xs.length + ys.length) (h0 : 0 < ys.length) (hx : xs.length + ys.length ≤ 140737488355328) (hr : ReadsInt w .u8 Ab ys.length ys) (hcm : ys.length ≤ cm) (hcap : cap ≤ 281474976710656) :
    Calls Try.prog 30 #[.pointer (some ⟨g, 0, none⟩), .slice Ab ys.length cm] w (Done w g b0 cap (.slice (some ⟨gr, 0, none⟩) xs.length cap) (xs.length + ys.length) (strOfNums ys)) := by
  obtain ⟨hc0, hc1, hf0, hf1⟩ := conv_cells h
  obtain ⟨i5, hi5, _, hz5, _⟩ := info_parts info5_
  have HO' := Aside0.mk HO
  have HH := Aside0.mk h
  have HR := Aside0.mk hr
  clear h HO hr
  have hsum : IntKind.i64.wrap ((xs.length : Int) + (ys.length : Int)) = (xs.length : Int) + (ys.length : Int) := by rw [i64_w]; exact wrap_of (by omega) (by omega)
  have htest : decide ((cap : Int) < (xs.length : Int) + (ys.length : Int)) = true := decide_eq_true (by omega)
  have hmk := mk41 cap hcap
  go_enter Try.func30, Try.ntmps30
  go_wp2
  go_quiet (fail)
  have L1 := Aside0.mk (pw_below_drewN (Below.refl b0 w) nq)
  have hD := pw_below_drewN (Below.refl w.heap.size w) nq
  have HO1 := Aside0.mk (pw_own_below HO'.out hD)
  have HH1 := Aside0.mk (blk_below HH.out hD)
  have HR1 := Aside0.mk (ReadsInt.below HR.out hD)
  have hne1 := Aside0.mk (own_ne HO1.out HH1.out (by decide))
  have K1 := Aside0.mk (KeepBut.of_below hD g (Value.slice (some ⟨gr, 0, none⟩) xs.length cap).ownBlock)
  have hb1 : b0 ≤ (w.drewN nq).heap.size := Nat.le_trans hb0 hD.size
  have hsz1 := hD.size
  clear hD hc0 hc1 hf0 hf1 HO' HH HR
  generalize w.drewN nq = w1 at HO1 HH1 HR1 hne1 K1 L1 hb1 hsz1 ⊢
  obtain ⟨o, ho⟩ : ∃ o : Obj, o = .cells (madeCells #[.int .u8 0] cap) 5 := ⟨_, rfl⟩
  obtain ⟨v0, hv0⟩ : ∃ v : Value, v = .slice (some ⟨w1.heap.size, 0, none⟩) 0 cap := ⟨_, rfl⟩
  have HHa := Aside0.mk (blk_alloc HH1.out o)
  have HOa : Aside0 ((w1.alloc o).ownsRow b0 5 1 v0 ([] : List Int).length (nums .u8 [])) := ⟨by
    rw [ho, hv0]
    exact World.ownsRow_made w1 (madeCells #[.int .u8 0] cap) cap hb1 (by unfold maxLen; omega) (by rw [size_madeCells]; omega)⟩
  have hba := Below.refl w1.heap.size w1 |>.alloc (Nat.le_refl _) o
  have HRa := Aside0.mk (HR1.out.below hba)
  have Ka := Aside0.mk (K1.out.trans (KeepBut.of_below hba g (Value.slice (some ⟨gr, 0, none⟩) xs.length cap).ownBlock) (.inl rfl))
  obtain ⟨hc0, hc1, hf0, hf1⟩ := conv_cells HH1.out
  obtain ⟨hd0, hd1, he0, he1⟩ := conv_cells HHa.out
  have hnea := own_ne HOa.out HHa.out (by decide)
  have HRb := Aside0.mk (reads_set (reads_set HRa.out hd0 (by simp) v0) (u := .int .i64 xs.length) (a := ⟨g, 1, none⟩) (by rw [World.cell?_setCell_other _ _ _ _ (show (⟨g, 0, none⟩ : Addr) ≠ ⟨g, 1, none⟩ by simp)]; exact hd1) (by simp) (.int .i64 0))
  have HOb := Aside0.mk (own_setCell (p := ⟨g, 1, none⟩) (own_setCell (p := ⟨g, 0, none⟩) HOa.out hnea v0) hnea (.int .i64 0))
  have HHb : Aside0 ((((w1.alloc o).setCell ⟨g, 0, none⟩ v0).setCell ⟨g, 1, none⟩ (.int .i64 0)).heap[g]? = some (.cells #[v0, .int .i64 0] 66 (0, 0))) := ⟨blk_set (blk_set HHa.out 0 v0) 1 _⟩
  have Kb := Aside0.mk ((Ka.out.set_ 0 v0).set_ 1 (.int .i64 0))
  have Lb := Aside0.mk (((L1.out.alloc hb1 o).setCell (p := ⟨g, 0, none⟩) hbg v0).setCell (p := ⟨g, 1, none⟩) hbg (.int .i64 0))
  have hbb : Aside0 (b0 ≤ (((w1.alloc o).setCell ⟨g, 0, none⟩ v0).setCell ⟨g, 1, none⟩ (.int .i64 0)).heap.size) := ⟨by simp [World.setCell]; omega⟩
  have hbs : Aside0 (w.heap.size ≤ (((w1.alloc o).setCell ⟨g, 0, none⟩ v0).setCell ⟨g, 1, none⟩ (.int .i64 0)).heap.size) := ⟨by simp [World.setCell]; omega⟩
  have hnb : Aside0 (some g ≠ v0.ownBlock) := ⟨hnea⟩
  clear hnea hba
  subst ho hv0
  go_wp2_with (first | (at_builtin; refine append_room b0 rfl (.tmp 49) (.tmp 50) rfl w1.heap.size cap [] ys Ab cm rfl rfl HOb.out HRb.out h0 (by simpa using hm) ?_; intro w2 ho2 hg2; simp only [List.nil_append, List.length_nil, Nat.zero_add] at ho2 ⊢; have HO2 := Aside0.mk ho2; have HG2 := Aside0.mk hg2; clear ho2 hg2; have HH2 := Aside0.mk (blk_grown HHb.out HG2.out hnb.out); clear hc0 hc1 hf0 hf1 hd0 hd1 he0 he1; obtain ⟨hc0, hc1, hf0, hf1⟩ := conv_cells HH2.out))
  have hne2 := own_ne HO2.out HH2.out (by decide)
  have HO3 := Aside0.mk (own_setCell (p := ⟨g, 0, none⟩) HO2.out hne2 (.slice (some ⟨w1.heap.size, 0, none⟩) ys.length cap))
  have HH3 : Aside0 ((w2.setCell ⟨g, 0, none⟩ (.slice (some ⟨w1.heap.size, 0, none⟩) ys.length cap)).heap[g]? = some (.cells #[.slice (some ⟨w1.heap.size, 0, none⟩) ys.length cap, .int .i64 0] 66 (0, 0))) := ⟨blk_set HH2.out 0 _⟩
  have K3 := Aside0.mk ((Kb.out.trans (KeepBut.of_grown HG2.out g) (.inr ⟨w1.heap.size, rfl, hsz1⟩)).set_ 0 (.slice (some ⟨w1.heap.size, 0, none⟩) ys.length cap))
  have L3 := Aside0.mk ((Lb.out.grown HG2.out hbb.out (own_base HOb.out)).setCell (p := ⟨g, 0, none⟩) hbg (.slice (some ⟨w1.heap.size, 0, none⟩) ys.length cap))
  have T3 : Aside0 ((Value.slice (some ⟨w1.heap.size, 0, none⟩) ys.length cap).ownBlock = (Value.slice (some ⟨gr, 0, none⟩) xs.length cap).ownBlock ∨ ∃ b, (Value.slice (some ⟨w1.heap.size, 0, none⟩) ys.length cap).ownBlock = some b ∧ w.heap.size ≤ b) := ⟨.inr ⟨w1.heap.size, rfl, hsz1⟩⟩
  clear hne2 HO2 HH2 HG2 hc0 hc1 hf0 hf1
  generalize w2.setCell ⟨g, 0, none⟩ (.slice (some ⟨w1.heap.size, 0, none⟩) ys.length cap) = w3 at HO3 HH3 K3 L3 T3 ⊢
  obtain ⟨hc0, hc1, hf0, hf1⟩ := conv_cells HH3.out
  obtain ⟨A4, hcut, hA4⟩ := print_cut (P := Try.prog) 41 5 .i64 Try.underlying41 hi5 hz5 (some ⟨w1.heap.size, 0, none⟩) ys.length cap 0 (by omega)
  rw [Nat.sub_zero, Nat.sub_zero] at hcut
  rw [Nat.sub_zero] at hA4
  replace hcut : ∀ W : World, (Instr.slice 41 (.slice (some ⟨w1.heap.size, 0, none⟩) ys.length cap) (some (.int .i64 0)) none none).run Try.prog W = .ok (.slice A4 ys.length cap) W := hcut
  have HA4 := Aside0.mk hA4
  clear hA4
  go_wp2
  go_quiet (fail)
  have L4 := Aside0.mk (pw_below_drewN L3.out nq)
  have hD := pw_below_drewN (Below.refl w3.heap.size w3) nq
  have HO4 := Aside0.mk (pw_own_below HO3.out hD)
  have HH4 := Aside0.mk (blk_below HH3.out hD)
  have K4 := Aside0.mk (K3.out.trans (KeepBut.of_below hD g (Value.slice (some ⟨gr, 0, none⟩) xs.length cap).ownBlock) (.inl rfl))
  clear hD hc0 hc1 hf0 hf1 HO3 HH3 K3 L3
  generalize w3.drewN nq = w4 at HO4 HH4 K4 L4 ⊢
  obtain ⟨hc0, hc1, hf0, hf1⟩ := conv_cells HH4.out
  have HR4 : Aside0 (ReadsInt w4 .u8 A4 ys.length ys) := ⟨HA4.out w4 .u8 ys (own_le HO4.out) (own_reads' HO4.out)⟩
  go_wp2_with (go_at_call 37; refine (toStr A4 cap ys _ HR4.out).mono ?_; rintro e w5 ⟨rfl, rfl⟩)
  go_ret
  refine ⟨rfl, .slice (some ⟨w1.heap.size, 0, none⟩) ys.length cap, ys, ⟨w1.heap.size, rfl, ?_, ?_⟩, by omega, K4.out.set_ 1 _, L4.out.setCell hbg _, T3.out⟩
  · exact blk_set HH4.out 1 _
  · exact own_setCell HO4.out (own_ne HO4.out HH4.out (by decide)) _

theorem str_bytes (s : ByteArray) : strOfNums (bytesOf s) = s := by
  apply B_inj
  show (List.map (fun n : Int => UInt8.ofNat n.toNat) (bytesOf s)).toArray.toList = _
  rw [bytesOf, List.map_map]
  show List.map _ (B s) = B s
  conv => rhs; rw [← List.map_id (B s)]
  apply List.map_congr_left
  intro c _
  show UInt8.ofNat (c.toNat : Int).toNat = c
  rw [Int.toNat_natCast, UInt8.ofNat_toNat]

theorem conv_any (g b0 cap cm m : Nat) (v : Value) (Ab : Option Addr) (xs ys : List Int) (w : World) (h : Cv w g b0 cap v xs) (hb0 : b0 ≤ w.heap.size) (hbg : b0 ≤ g) (hm : ys.length = m)
    (hx : xs.length + ys.length ≤ 140737488355328) (hr : ReadsInt w .u8 Ab m ys) (hcm : m ≤ cm) (hcap : cap ≤ 281474976710656) :
    Calls Try.prog 30 #[.pointer (some ⟨g, 0, none⟩), .slice Ab m cm] w (Done w g b0 cap v (xs.length + m) (strOfNums ys)) := by
  subst hm
  obtain ⟨gr, rfl, hh, ho⟩ := h
  rcases Nat.eq_zero_or_pos ys.length with h0 | h0
  · obtain rfl : ys = [] := List.eq_nil_of_length_eq_zero h0
    refine (conv_empty g cm 0 Ab w).mono ?_
    rintro e w' ⟨rfl, rfl⟩
    exact ⟨rfl, _, xs, ⟨gr, rfl, hh, ho⟩, by omega, KeepBut.refl _ _ _, Below.refl _ _, .inl rfl⟩
  by_cases hbig : cap < ys.length
  · refine (conv_big g xs.length 0 cap cm ys.length _ Ab ys w hh hbig h0 (by omega) hr).mono ?_
    rintro e w' ⟨rfl, rfl⟩
    exact ⟨rfl, _, xs, ⟨gr, rfl, hh, ho⟩, by omega, KeepBut.refl _ _ _, Below.refl _ _, .inl rfl⟩
  by_cases hroom : xs.length + ys.length ≤ cap
  · exact conv_room g b0 cap cm gr Ab xs ys w hh ho hb0 hbg (by omega) hroom h0 hx hr hcm
  · exact conv_fill g b0 cap cm gr Ab xs ys w hh ho hb0 hbg (by omega) (by omega) h0 hx hr hcm hcap

theorem info9_ : (Try.prog.info? 9).map (fun i => (i.zero, i.size, i.bytes)) = some (some (.string ⟨#[]⟩), 1, 16) := by kernel_rfl

theorem Cv.below {w w1 : World} {g b0 cap : Nat} {v : Value} {xs : List Int} (h : Cv w g b0 cap v xs) (hb : Below w.heap.size w w1) : Cv w1 g b0 cap v xs := by
  obtain ⟨gr, h1, h2, h3⟩ := h
  exact ⟨gr, h1, blk_below h2 hb, pw_own_below h3 hb⟩

theorem out_keep {W w' : World} {g b0 cap B n : Nat} {v vo : Value} {xs : List Int} {ys : List Value} (hc : Cv W g b0 cap v xs) (ho : W.ownsRow B 9 1 vo n ys) (hk : KeepBut W w' g v.ownBlock) : w'.ownsRow B 9 1 vo n ys := by
  obtain ⟨gr, h1, h2, h3⟩ := hc
  exact hk.own ho (fun e => own_ne ho h2 (by decide) e.symm) (own_type_ne ho h3 (by decide))
theorem cv_keep {w' w3 : World} {g b0 cap B n : Nat} {v vo : Value} {xs : List Int} {ys : List Value} (hc : Cv w' g b0 cap v xs) (ho : w'.ownsRow B 9 1 vo n ys) (hg : w'.grownBy w3 vo.ownBlock) : Cv w3 g b0 cap v xs := by
  obtain ⟨gr, h1, h2, h3⟩ := hc
  exact ⟨gr, h1, blk_grown h2 hg (own_ne ho h2 (by decide)), own_other h3 hg (own_type_ne h3 ho (by decide))⟩

def dbus_DoorConvert.f (l0 : List ByteArray) (a1 : Int) : Option (List ByteArray) := if (0 ≤ a1 ∧ a1 ≤ 65535) ∧ l0.length ≤ 100 ∧ ∀ p ∈ l0, p.size ≤ 1024 then some l0 else none

set_option maxHeartbeats 4000000 in
theorem dbus_DoorConvert.calls (A0 : Option Addr) (c0 : Nat) (l0 : List ByteArray) (a1 : Int) (r : List ByteArray) (w : World) (hr0 : Kd.C Kd.string w A0 l0.length l0) (hc0 : l0.length ≤ c0) (h : dbus_DoorConvert.f l0 a1 = some r) :
    Calls Try.prog 21 #[.slice A0 l0.length c0, .int .i64 a1] w fun e w' => ∃ v0_ : Value, e = .returned (v0_) ∧ Kd.R Kd.string 9 w' w.heap.size (fun _ => True) v0_ r ∧ Below w.heap.size w w' := by
  unfold dbus_DoorConvert.f at h
  split at h
  case isFalse => cases h
  case isTrue hg =>
  obtain rfl := Option.some.inj h
  obtain ⟨⟨ha0, ha1⟩, hlen, hsz⟩ := hg
  obtain ⟨n, rfl⟩ := Int.eq_ofNat_of_zero_le ha0
  have hsz_ := Aside0.mk hsz
  clear hsz
  have HR0 := Aside0.mk hr0
  clear h hr0
  go_enter Try.func21, Try.ntmps21
  go_wp2_with (first | (go_at_call 29; refine (newConv n (by omega) _).mono ?_; rintro e w' ⟨rfl, rfl⟩))
  have HB := Aside0.mk (below_alloc (below_alloc (Below.refl w.heap.size w) (.cells (madeCells #[.int .u8 0] n) 5)) (.cells #[.slice (some ⟨w.heap.size, 0, none⟩) 0 n, .int .i64 0] 66))
  have HC : Aside0 (Cv ((w.alloc (.cells (madeCells #[.int .u8 0] n) 5)).alloc (.cells #[.slice (some ⟨w.heap.size, 0, none⟩) 0 n, .int .i64 0] 66)) (w.heap.size + 1) w.heap.size n (.slice (some ⟨w.heap.size, 0, none⟩) 0 n) []) := ⟨⟨w.heap.size, rfl, by
    have := blk_new (w.alloc (.cells (madeCells #[.int .u8 0] n) 5)) (.cells #[.slice (some ⟨w.heap.size, 0, none⟩) 0 n, .int .i64 0] 66)
    rw [show (w.alloc (Obj.cells (madeCells #[Value.int .u8 0] n) 5)).heap.size = w.heap.size + 1 from by simp] at this
    exact this, (World.ownsRow_made w (madeCells #[.int .u8 0] n) n (Nat.le_refl _) (by unfold maxLen; omega) (by rw [size_madeCells]; omega)).alloc _⟩⟩
  generalize (w.alloc (.cells (madeCells #[.int .u8 0] n) 5)).alloc (.cells #[.slice (some ⟨w.heap.size, 0, none⟩) 0 n, .int .i64 0] 66) = w0 at HB HC ⊢
  go_loopw [6, 13] (fun vo i wr => ∃ (k : Nat) (v : Value) (xs : List Int), k ≤ l0.length ∧ i = .int .i64 k ∧ Aside0 (Cv wr (w.heap.size + 1) w.heap.size n v xs) ∧ xs.length ≤ 1024 * k ∧ Aside0 (wr.ownsRow w.heap.size 9 1 vo (l0.take k).length (encs Value.string (l0.take k))) ∧ Aside0 (Below w.heap.size w wr)) (fun _ i _ => l0.length - (intOf i).toNat)
  case atStart => exact ⟨0, _, [], Nat.zero_le _, rfl, HC, Nat.zero_le _, ⟨own_nil _ _ _ _⟩, HB⟩
  case round =>
    clear HC HB
    obtain ⟨k, v, xs, hk, rfl, HC, hx, HO, HB⟩ := hrel
    have hb0 := HB.out.size
    by_cases hlt : k < l0.length
    · obtain ⟨ad, e1, hcell⟩ := Kd.at_string (Kd.C_below HR0.out HB.out) (k : Int) (by omega) (by omega)
      cases e1
      have hs9 : rdOf ByteArray.empty l0 (k : Int) = l0[k] := by
        unfold rdOf
        rw [Int.toNat_natCast, List.getD_eq_getElem?_getD, List.getElem?_eq_getElem hlt]; rfl
      rw [hs9, Int.toNat_natCast] at hcell
      have hsk := hsz_.out _ (List.getElem_mem hlt)
      have htk := Aside0.mk (List.take_succ_eq_append_getElem hlt)
      generalize l0[k] = s at hcell hsk htk
      clear hs9
      have kb := fun W => print_bytes (P := Try.prog) 9 41 5 Try.underlying9 Try.underlying41 Try.underlying5 s W
      have hgc := grownCap_ge wr s.size 0 5
      go_wp2_with (first | (go_at_call 30; refine (conv_any (w.heap.size + 1) w.heap.size n _ s.size v _ xs (bytesOf s) _ (HC.out.below (bytes_below (Below.refl wr.heap.size wr) (Nat.le_refl _) 5 s)) (by rw [Lib.bytesWorld_size]; omega) (by omega) (bytesOf_length s) (by rw [bytesOf_length]; omega) (bytes_reads wr 5 s (by omega)) hgc (by omega)).mono ?_; rintro e w' ⟨rfl, v2, xs2, hcv2, hxs2, hK2, hL2, hT2⟩; have hx2 : xs2.length ≤ 1024 * (k + 1) := (by omega); have HO2 := Aside0.mk (out_keep (HC.out.below (bytes_below (Below.refl wr.heap.size wr) (Nat.le_refl _) 5 s)) (pw_own_below HO.out (bytes_below (Below.refl wr.heap.size wr) (Nat.le_refl _) 5 s)) hK2); have HC2 := Aside0.mk hcv2; have HB2 := Aside0.mk ((bytes_below HB.out hb0 5 s).trans hL2); clear hcv2 hxs2 hK2 hL2 hT2 HC HO HB hx; rw [str_bytes]) | (at_builtin; refine print_append_of (w0 := w) Value.string w.heap.size rfl (.tmp 17) (.tmp 22) 29 9 (.string ⟨#[]⟩) 16 rfl Try.underlying29 info9_ rfl (by decide) u6 (l0.take k) s rfl rfl rfl HO2.out HB2.out HB2.out.size (by rw [List.length_take]; omega) ?_; intro v3 w3 ho3 hB3 hg3 hat3; have HC3 := Aside0.mk (cv_keep HC2.out HO2.out hg3); have HO3 := Aside0.mk ho3; have HB3 := Aside0.mk hB3; clear ho3 hB3 hg3 hat3 HC2 HO2 HB2))
      go_roundw
      case rel => exact ⟨k + 1, v2, xs2, by omega, by go_num, HC3, hx2, ⟨by rw [htk.out]; exact HO3.out⟩, HB3⟩
      case measure => simp [intOf]; omega
    · obtain rfl : k = l0.length := by omega
      go_wp2
      go_ret
      refine ⟨_, rfl, Kd.R_of_own ?_ (fun _ _ => trivial), HB.out⟩
      have := HO.out
      rw [List.take_length] at this
      exact this

end Go.Proofs.Ytpndgbiaomglpaa.Cv
