import Derived.Test.YtoaehanfknjngaaDoorSo
import Derived.Lib.IfaceEq
import Derived.Stop.Asserts
import Derived.Maps.AppendAt
import Derived.Deep.QuietTactic
import Derived.BigQuiet
namespace Go.Proofs.YtoaehanfknjngaaDoor.Dm
set_option linter.unusedVariables false
set_option linter.unusedSimpArgs false
open Go.RowKit Go.Proofs.YtoaehanfknjngaaDoor.Ext Go.Proofs.YtoaehanfknjngaaDoor.L Go.Proofs.YtoaehanfknjngaaDoorW.PrintWords Go.Proofs.YtoaehanfknjngaaDoorW.PrintLast Go.Proofs.YtoaehanfknjngaaDoorW.PrintMore
open Go.Proofs.YtoaehanfknjngaaDoor.Com Go.Proofs.YtoaehanfknjngaaDoor.Tree Go.Proofs.YtoaehanfknjngaaDoor.Sg Go.Proofs.YtoaehanfknjngaaDoor.Dt Go.Proofs.YtoaehanfknjngaaDoor.Bx Go.Proofs.YtoaehanfknjngaaDoor.Zt Go.Proofs.YtoaehanfknjngaaDoor.Gs Go.Proofs.YtoaehanfknjngaaDoor.Gt

theorem eql_of (tx : TypeId) (vx vy : Value) (b : Bool) (hc : (Tryd.prog.info? tx).map (·.comparable) = some true) (h : ∀ (d : Nat) (W : World), (Op.equalIn (d + 1) tx vx vy).run Tryd.prog W = .ok b W) (W : World) :
  (binOp .eql 20 (.iface tx vx) (.iface tx vy)).run Tryd.prog W = .ok (.bool b) W := by
 cases hi : Tryd.prog.info? tx with
 | none => simp [hi] at hc
 | some i =>
  have hcc : i.comparable = true := by simpa [hi] using hc
  have h1 : ∀ d : Nat, (Op.equalIn (d + 2) 20 (.iface tx vx) (.iface tx vy)).run Tryd.prog W = .ok b W := fun d => by
   rw [Op.equalIn]
   simp [run_underlying Tryd.underlying20, typeInfo, hi, hcc, h]
  simp only [binOp]
  simp [Op.equal, Op.maxDepth, h1 9998]

theorem eq_key {t1 t2 : TypeId} {v1 v2 : Value} {c1 c2 : UInt8} (h1 : Leaf t1 v1 c1) (h2 : Leaf t2 v2 c2) (n1 : c1 ≠ 103 ∧ c1 ≠ 118) : ∃ b, ∀ W, (binOp .eql 20 (.iface t1 v1) (.iface t2 v2)).run Tryd.prog W = .ok (.bool b) W := by
 by_cases e : t1 = t2
 ·cases h1 <;> cases h2 <;> first | exact absurd e (by decide) | exact absurd rfl n1.1 | exact absurd rfl n1.2 | skip
  case y.y a b => exact ⟨a == b, eql_of 5 _ _ _ (by kernel_rfl) (fun d W => by simp [Op.equalIn, run_underlying Tryd.underlying5])⟩
  case b.b a b => exact ⟨a == b, eql_of 4 _ _ _ (by kernel_rfl) (fun d W => by simp [Op.equalIn, run_underlying Tryd.underlying4])⟩
  case n.n a b => exact ⟨a == b, eql_of 65 _ _ _ (by kernel_rfl) (fun d W => by simp [Op.equalIn, run_underlying Tryd.underlying65])⟩
  case q.q a b => exact ⟨a == b, eql_of 83 _ _ _ (by kernel_rfl) (fun d W => by simp [Op.equalIn, run_underlying Tryd.underlying83])⟩
  case i.i a b => exact ⟨a == b, eql_of 21 _ _ _ (by kernel_rfl) (fun d W => by simp [Op.equalIn, run_underlying Tryd.underlying21])⟩
  case u.u a b => exact ⟨a == b, eql_of 84 _ _ _ (by kernel_rfl) (fun d W => by simp [Op.equalIn, run_underlying Tryd.underlying84])⟩
  case x.x a b => exact ⟨a == b, eql_of 2 _ _ _ (by kernel_rfl) (fun d W => by simp [Op.equalIn, run_underlying Tryd.underlying2])⟩
  case t.t a b => exact ⟨a == b, eql_of 28 _ _ _ (by kernel_rfl) (fun d W => by simp [Op.equalIn, run_underlying Tryd.underlying28])⟩
  case d.d a b => exact ⟨Op.floatEq .f64 a b, eql_of 85 _ _ _ (by kernel_rfl) (fun d W => by simp [Op.equalIn, run_underlying Tryd.underlying85])⟩
  case s.s a b => exact ⟨a == b, eql_of 9 _ _ _ (by kernel_rfl) (fun d W => by simp [Op.equalIn, run_underlying Tryd.underlying9])⟩
  case o.o a b => exact ⟨a == b, eql_of 86 _ _ _ (by kernel_rfl) (fun d W => by simp [Op.equalIn, run_underlying Tryd.underlying86])⟩
  case h.h a b => exact ⟨a == b, eql_of 90 _ _ _ (by kernel_rfl) (fun d W => by simp [Op.equalIn, run_underlying Tryd.underlying90])⟩
 ·exact ⟨false, fun W => run_eql_iface_types t1 t2 v1 v2 Tryd.underlying20 e W⟩

theorem R_append_at {ops : Array Oper} {o : Oper} {a : Act} {Q : Exit → Act → World → Prop} {Kc : Act → World → Prop} {α : Type} (d : Kd α) {w0 W : World} (base : Nat) (hw : Region.wanted o (yielded ops a.tmps) = true) (s x : Operand) (t e : TypeId) (z : Value) (bytes : Nat)
  (ho : o.op = .call { callee := .builtin .append, args := #[s, x], argTypes := #[t, t] })
  (ht : Tryd.prog.underlying t = some (.slice e)) (hinfo : (Tryd.prog.info? e).map (fun i => (i.zero, i.size, i.bytes)) = some (some z, d.sz, bytes)) (hz : z.cells.size = d.sz) (hs0 : 0 < d.sz) (hb0 : 0 < bytes)
  (v : Value) (xs : List α) (p : α) (ad : Addr) (cs : List Value) (ok okp : Nat → Prop) (hs : a.eval s = v) (hx : a.eval x = .slice (some ad) 1 1) (hcell : ∀ j u, cs[j]? = some u → W.cell? (ad.add j) = some u) (hp : d.M W base okp p cs) (hokp : ∀ k, okp k → ok k ∧ some k ≠ v.ownBlock) (hfresh : ∀ k, W.heap.size ≤ k → ok k)
  (HO : d.R e W base ok v xs) (HB : Below base w0 W) (hbase : base ≤ W.heap.size) (hl : (xs.length + 1) * bytes ≤ 140737488355328)
  (h : ∀ v1 w1, d.R e w1 base ok v1 (xs ++ [p]) → Below base w0 w1 → W.grownBy w1 v.ownBlock → (v1.ownBlock = v.ownBlock ∨ ∃ b, v1.ownBlock = some b ∧ W.heap.size ≤ b) → Kc (a.put o.dst v1) w1) :
  if Region.wanted o (yielded ops a.tmps) = true then Oper.wp Tryd.prog o a W Kc Q else Kc (a.put o.dst undef) W := by
 obtain ⟨i0, hi, hzz⟩ := Option.map_eq_some_iff.1 hinfo
 simp only [Prod.mk.injEq] at hzz
 obtain ⟨hz0, hz1, hz2⟩ := hzz
 obtain ⟨h0, inner, hown, hr⟩ := HO
 have hcl := d.K_len (d.K_of_M hp)
 have hlen : xs.length + 1 ≤ 140737488355328 := Nat.le_trans (Nat.le_mul_of_pos_right _ hb0) hl
 rw [if_pos hw]
 obtain ⟨v1, w1, hrun, hown1, hg, _, hat⟩ := run_append_own_at (P := Tryd.prog) W base t o.type e i0 z d.sz bytes ht hi hz0 hz1 hz2 hz hs0 v xs.length inner hown ad 1 1 cs (by rw [hcl]; simp) hcell (d.K_one (d.K_of_M hp)) (by simp only [maxLen]; omega) hl hbase
 unfold Oper.wp execOp
 simp only [ho, resolve, invoke, builtin, Sem.run_bind, Sem.run_pure, Result.andThen_ok, List.map_toArray, List.map_cons, List.map_nil, hs, hx, hrun]
 have hat' : v1.ownBlock = v.ownBlock ∨ ∃ b, v1.ownBlock = some b ∧ W.heap.size ≤ b := by
  rcases hat with hat | hat
  ·exact .inl hat
  ·exact .inr ⟨_, hat, by simp⟩
 exact h v1 w1 (Kd.R_appended h0 hr hp hokp hfresh hown1 hg hat') (HB.grown hg hbase (own_base hown)) hg hat'
theorem info20 : (Tryd.prog.info? 20).map (fun i => (i.zero, i.size, i.bytes)) = some (some .nilIface, 1, 16) := by kernel_rfl

/-- A dict that is being made. -/
def Dct (W : World) (base b : Nat) (k e : ByteArray) (n : Nat) : Prop := base ≤ b ∧ ∃ (vk vv : Value) (us xs : List Value), us.length = n ∧ xs.length = n ∧ (∀ u ∈ us, ∃ t v c, u = .iface t v ∧ Leaf t v c ∧ (c ≠ 103 ∧ c ≠ 118)) ∧
 W.heap[b]? = some (.cells #[.string k, .string e, vk, vv] 98 (0, 0)) ∧ kU.R 20 W base (fun j => j ≠ b) vk us ∧ kU.R 20 W base (fun j => j ≠ b ∧ some j ≠ vk.ownBlock) vv xs
theorem Dct.below {W W1 : World} {base b : Nat} {k e : ByteArray} {n : Nat} (h : Dct W base b k e n) (hb : Below W.heap.size W W1) : Dct W1 base b k e n := by
 obtain ⟨h0, vk, vv, us, xs, h1, h2, h3, h4, h5, h6⟩ := h
 exact ⟨h0, vk, vv, us, xs, h1, h2, h3, blk_below h4 hb, Kd.R_below h5 hb, Kd.R_below h6 hb⟩
theorem at_raw {w : World} {A : Option Addr} {us : List Value} (h : kU.C w A us.length us) (j : Nat) (hj : j < us.length) : ∃ ad, A = some ad ∧ w.cell? (ad.add j) = some (us[j]'hj) ∧ (us[j]'hj).oneCell' = true := by
 obtain ⟨ad, c, e, hl, ⟨hc, h1⟩, hcell⟩ := Kd.C_get h .nilIface (j : Int) (by omega) (by omega)
 have e2 : us.getD (j : Int).toNat .nilIface = us[j]'hj := by simp [hj]
 rw [e2] at hc h1
 refine ⟨ad, e, ?_, h1⟩
 have := hcell 0 _ (by rw [hc]; rfl)
 simpa [kU] using this

theorem assert95 (W : World) (v : Value) : (Instr.typeAssert (.iface 95 v) 20 95 false).run Tryd.prog W = .ok v W := by kernel_rfl

set_option maxHeartbeats 2000000 in
theorem makeMap (s : ByteArray) (k : UInt8) (l : List UInt8) (hB : B s = 123 :: k :: l) (w : World) :
  Calls Tryd.prog 48 #[.string s] w fun e w' => (∃ (b : Nat) (kk ee : ByteArray), e = .returned (.agg #[.iface 95 (.pointer (some ⟨b, 0, none⟩)), .string s]) ∧ B kk = [k] ∧ B ee = l ∧ Dct w' w.heap.size b kk ee 0) ∧ Below w.heap.size w w' := by
 have HK := Aside0.mk ((kind_is s 123 _ hB).trans (show some (kd 123) = some 14 by decide))
 have HY := Aside0.mk (key_map s k l hB)
 have HE := Aside0.mk (elem_map s k l hB)
 have hb1 : Aside0 (B (s.extract 1 2) = [k]) := ⟨by rw [B_extract, hB]; rfl⟩
 have hb2 : Aside0 (B (s.extract 2 s.size) = l) := ⟨by rw [B_from, hB]; rfl⟩
 clear hB
 go_enter Tryd.func48, Tryd.ntmps48
 go_wp2_with (first
  | (go_at_call 34; ((with_reducible refine (dbus_zzType_Kind.calls 9 _ _ _ HK.out).mono ?_); rintro e w2 ⟨rfl, ⟨nd2, rfl⟩⟩))
  | (go_at_call 42; ((with_reducible refine (dbus_zzType_Key.calls _ _ _ HY.out).mono ?_); rintro e w2 ⟨rfl, ⟨nd3, rfl⟩⟩))
  | (go_at_call 35; ((with_reducible refine (dbus_zzType_Elem.calls 9 _ _ _ HE.out).mono ?_); rintro e w2 ⟨rfl, ⟨nd4, rfl⟩⟩)))
 have BKa := blk_alloc (blk_set (blk_set (blk_drewN (blk_new w (.cells #[.nilIface, .string ⟨#[]⟩] 104)) (nd2 + nd3 + nd4)) 0 (.iface 95 (.pointer (some ⟨w.heap.size + 1, 0, none⟩)))) 1 (.string s)) (.cells #[.string (s.extract 1 2), .string (s.extract 2 s.size), .slice none 0 0, .slice none 0 0] 98)
 have f0 := (blk_cell BKa 0).trans rfl
 have f1 := (blk_cell BKa 1).trans rfl
 have hsz : ((((w.alloc (.cells #[.nilIface, .string ⟨#[]⟩] 104)).drewN (nd2 + nd3 + nd4)).setCell ⟨w.heap.size, 0, none⟩ (.iface 95 (.pointer (some ⟨w.heap.size + 1, 0, none⟩)))).setCell ⟨w.heap.size, 1, none⟩ (.string s)).heap.size = w.heap.size + 1 := by
  simp only [World.size_setCell]
  exact Array.size_push _
 have BKb := blk_new ((((w.alloc (.cells #[.nilIface, .string ⟨#[]⟩] 104)).drewN (nd2 + nd3 + nd4)).setCell ⟨w.heap.size, 0, none⟩ (.iface 95 (.pointer (some ⟨w.heap.size + 1, 0, none⟩)))).setCell ⟨w.heap.size, 1, none⟩ (.string s)) (.cells #[.string (s.extract 1 2), .string (s.extract 2 s.size), .slice none 0 0, .slice none 0 0] 98)
 rw [hsz] at BKb
 have hbel : Below w.heap.size w (((((w.alloc (.cells #[.nilIface, .string ⟨#[]⟩] 104)).drewN (nd2 + nd3 + nd4)).setCell ⟨w.heap.size, 0, none⟩ (.iface 95 (.pointer (some ⟨w.heap.size + 1, 0, none⟩)))).setCell ⟨w.heap.size, 1, none⟩ (.string s)).alloc (.cells #[.string (s.extract 1 2), .string (s.extract 2 s.size), .slice none 0 0, .slice none 0 0] 98)) :=
  below_alloc (below_set (below_set (pw_below_drewN (below_alloc (Below.refl _ _) _) _) (Nat.le_refl _)) (Nat.le_refl _)) _
 generalize (((((w.alloc (.cells #[.nilIface, .string ⟨#[]⟩] 104)).drewN (nd2 + nd3 + nd4)).setCell ⟨w.heap.size, 0, none⟩ (.iface 95 (.pointer (some ⟨w.heap.size + 1, 0, none⟩)))).setCell ⟨w.heap.size, 1, none⟩ (.string s)).alloc (.cells #[.string (s.extract 1 2), .string (s.extract 2 s.size), .slice none 0 0, .slice none 0 0] 98)) = wf at f0 f1 BKa BKb hbel ⊢
 exact bodyPost_ret (v := .agg #[.iface 95 (.pointer (some ⟨w.heap.size + 1, 0, none⟩)), .string s]) (by simp [results, Tryd.results48, go_sem, f0, f1]) rfl
  ⟨⟨_, _, _, rfl, hb1.out, hb2.out, Nat.le_succ _, _, _, [], [], rfl, rfl, fun _ h => (by cases h), BKb, Kd.R_nil _ _ _ _ _, Kd.R_nil _ _ _ _ _⟩, hbel⟩

theorem iface_of (u : Value) (t : ByteArray) (hu : u.oneCell' = true) (w : World) : Calls Tryd.prog 52 #[.agg #[u, .string t]] w fun e w' => e = .returned u ∧ Below w.heap.size w w' := by
 go_enter Tryd.func52, Tryd.ntmps52
 go_wp2
 exact bodyPost_ret (v := u) (by simp [results, Tryd.results52, go_sem]) rfl ⟨rfl, below_alloc (Below.refl _ _) _⟩

def VPost (u : Value) (g : List UInt8) (w : World) (e : Ending) (w' : World) : Prop := ∃ r : ByteArray, e = .returned (.agg #[u, .string r]) ∧ B r = g ∧ Below w.heap.size w w'
theorem valueOf {W : World} {base : Nat} {ok : Nat → Prop} {t : TypeId} {u : Value} {g : List UInt8} (h : Bx W base ok (.iface t u) g) (hg : g.length ≤ 300) (w : World) (hb : Below W.heap.size W w) : Calls Tryd.prog 51 #[.iface t u] w (VPost (.iface t u) g w) := by
 have HT := Aside0.mk (typeOf h hg)
 have HB := Aside0.mk hb
 clear h hb
 go_enter Tryd.func51, Tryd.ntmps51
 go_wp2_with (first
  | (go_at_call 27; ((with_reducible refine (HT.out _ (below_alloc HB.out _)).mono ?_); rintro e w2 ⟨r2, rfl, hr2, hb2⟩; have HR2 := Aside0.mk hr2; have HB2 := Aside0.mk (below_step (w := w) (by repeat (first | exact Below.refl _ _ | apply below_alloc)) hb2); have BK2 := Aside0.mk (blk_below (blk_new w _) hb2); have hs0 := (blk_cell BK2.out 0).trans rfl; have hs1 := (blk_cell BK2.out 1).trans rfl; have hf0 := blk_frozen BK2.out 0; have hf1 := blk_frozen BK2.out 1; clear hr2 hb2)))
 have BK4 := blk_set (blk_set BK2.out 0 (.iface t u)) 1 (.string r2)
 have f0 := (blk_cell BK4 0).trans rfl
 have f1 := (blk_cell BK4 1).trans rfl
 have hbel := below_set (j := 1) (v := .string r2) (below_set (j := 0) (v := .iface t u) HB2.out (Nat.le_refl _)) (Nat.le_refl _)
 generalize ((w2.setCell ⟨w.heap.size, 0, none⟩ (.iface t u)).setCell ⟨w.heap.size, 1, none⟩ (.string r2)) = wf at f0 f1 hbel ⊢
 exact bodyPost_ret (v := .agg #[.iface t u, .string r2]) (by simp [results, Tryd.results51, go_sem, f0, f1]) rfl ⟨r2, rfl, HR2.out, hbel⟩

theorem kU_own {W : World} {base : Nat} {ok : Nat → Prop} {v : Value} {xs : List Value} (h : kU.R 20 W base ok v xs) : W.ownsRow base 20 1 v xs.length xs ∧ ∀ x ∈ xs, x.oneCell' = true := by
 obtain ⟨h0, inner, ho, hr⟩ := h
 have hl : inner.length = xs.length := by have := hr.1; simpa [kU] using this
 have key : ∀ (j : Nat) (p : Value), xs[j]? = some p → inner[j]? = some p ∧ p.oneCell' = true := fun j p hj => by
  obtain ⟨h1, h2⟩ := hr.2 j p hj
  have h1' : (inner.drop j).take 1 = [p] := by simpa [kU] using h1
  refine ⟨?_, h2⟩
  have h3 : ((inner.drop j).take 1)[0]? = some p := by rw [h1']; rfl
  rw [List.getElem?_take] at h3
  simpa using h3
 have e : inner = xs := by
  apply List.ext_getElem?
  intro j
  by_cases hj : j < xs.length
  ·have := (key j _ (List.getElem?_eq_getElem hj)).1
   rw [this, List.getElem?_eq_getElem hj]
  ·rw [List.getElem?_eq_none (by omega), List.getElem?_eq_none (by omega)]
 subst e
 exact ⟨ho, fun x hx => by
  obtain ⟨j, hj, he⟩ := List.getElem_of_mem hx
  exact (key j x (by rw [List.getElem?_eq_getElem hj, he])).2⟩
theorem kU_of {W : World} {base : Nat} {ok : Nat → Prop} {v : Value} {xs : List Value} (h0 : ∀ k, v.ownBlock = some k → ok k) (ho : W.ownsRow base 20 1 v xs.length xs) (h1 : ∀ x ∈ xs, x.oneCell' = true) : kU.R 20 W base ok v xs := by
 refine ⟨h0, xs, ho, by show xs.length = xs.length * 1; omega, fun j p hj => ⟨?_, h1 p (List.mem_of_getElem? hj)⟩⟩
 show (xs.drop (j * 1)).take 1 = [p]
 have hlt := (List.getElem?_eq_some_iff.1 hj).1
 rw [Nat.mul_one, List.drop_eq_getElem_cons hlt, (List.getElem?_eq_some_iff.1 hj).2]
 rfl
theorem kU_put {W : World} {base g cap : Nat} {ok : Nat → Prop} {xs : List Value} (h : kU.R 20 W base ok (.slice (some ⟨g, 0, none⟩) xs.length cap) xs) (j : Nat) (x : Value) (hx : x.oneCell' = true) :
  kU.R 20 (W.setCell ⟨g, j, none⟩ x) base ok (.slice (some ⟨g, 0, none⟩) (xs.set j x).length cap) (xs.set j x) ∧ W.grownBy (W.setCell ⟨g, j, none⟩ x) (some g) := by
 obtain ⟨ho, h1⟩ := kU_own h
 have e : encs (id : Value → Value) xs = xs := by simp [encs]
 obtain ⟨ho1, hg⟩ := own_store_of (enc := (id : Value → Value)) (xs := xs) (by rw [e]; exact ho) (j : Int) x
 have e2 : encs (id : Value → Value) (xs.set (j : Int).toNat x) = xs.set j x := by simp [encs]
 rw [e2] at ho1
 refine ⟨kU_of (fun k hk => h.1 k hk) (by rw [List.length_set]; exact ho1) (fun y hy => ?_), hg⟩
 rcases List.mem_or_eq_of_mem_set hy with hy | rfl
 ·exact h1 y hy
 ·exact hx

theorem Dct.put {W : World} {base b : Nat} {k e : ByteArray} {us xs : List Value} {vk : Value} {g cap : Nat} (h0 : base ≤ b) (hl : us.length = xs.length) (h3 : ∀ u ∈ us, ∃ t v c, u = .iface t v ∧ Leaf t v c ∧ (c ≠ 103 ∧ c ≠ 118))
  (h4 : W.heap[b]? = some (.cells #[.string k, .string e, vk, .slice (some ⟨g, 0, none⟩) xs.length cap] 98 (0, 0))) (h5 : kU.R 20 W base (fun j => j ≠ b) vk us) (h6 : kU.R 20 W base (fun j => j ≠ b ∧ some j ≠ vk.ownBlock) (.slice (some ⟨g, 0, none⟩) xs.length cap) xs) (j : Nat) (x : Value) (hx : x.oneCell' = true) :
  Dct (W.setCell ⟨g, j, none⟩ x) base b k e us.length ∧ base ≤ g := by
 have hg := h6.1 g rfl
 obtain ⟨q1, q2⟩ := kU_put h6 j x hx
 have h5' : kU.R 20 W base (fun j => j ≠ b ∧ j ≠ g) vk us := by
  obtain ⟨p0, p1⟩ := h5
  refine ⟨fun i hi => ⟨p0 i hi, fun e => hg.2 (by rw [← e, hi])⟩, ?_⟩
  obtain ⟨inner, ho, hr⟩ := p1
  exact ⟨inner, ho, hr⟩
 refine ⟨⟨h0, vk, _, us, xs.set j x, rfl, by rw [List.length_set, hl], h3, ?_, Kd.R_mono (Kd.R_far (p := ⟨g, j, none⟩) h5' (fun i hi => hi.2) x) (fun i hi => hi.1), q1⟩, Kd.R_base h6 g rfl⟩
 have e1 : (xs.set j x).length = xs.length := List.length_set
 rw [e1]
 exact blk_far h4 (p := ⟨g, j, none⟩) (fun e => hg.1 e.symm) x
def T50_5 : Bool × List (List Nat × List Nat) := (true, [([], []), ([0], [0]), ([1], [1]), ([2], [2]), ([], []), ([3, 4], [3, 4]), ([5], [5]), ([], []), ([7], [7]), ([6, 8], [6, 8])])
def B50_5 : List Nat := [0, 1, 3, 7, 0, 31, 63, 0, 128, 511]
theorem tab50_5 : rtab .any (opsOf Tryd.f50 5) = T50_5 := by kernel_rfl
theorem bits50_5 : waitsOk T50_5.2 B50_5 = true := by kernel_rfl
def T50_6 : Bool × List (List Nat × List Nat) := (true, [([], []), ([0], [0]), ([1], [1]), ([2], [2]), ([], []), ([], []), ([5], [5]), ([3, 4, 0, 1, 2, 3, 4, 5, 6], [3, 4]), ([7, 6, 0, 1, 2, 3, 4, 5, 6], [6, 7])])
def B50_6 : List Nat := [0, 1, 3, 7, 0, 0, 32, 127, 255]
theorem tab50_6 : rtab .any (opsOf Tryd.f50 6) = T50_6 := by kernel_rfl
theorem bits50_6 : waitsOk T50_6.2 B50_6 = true := by kernel_rfl
def T50_8 : Bool × List (List Nat × List Nat) := (true, [([], []), ([], []), ([], []), ([2], [2]), ([3], [3]), ([4], [4]), ([], []), ([6], [6]), ([7], [7]), ([5, 8], [5, 8]), ([], []), ([10], [10]), ([11], [11]), ([12], [12]), ([], []), ([14], [14]), ([15], [15]), ([13, 16, 9], [13, 16]), ([0, 0, 2, 3, 4, 5, 6, 7, 8, 9, 13, 17], [0]), ([18, 0, 2, 3, 4, 5, 6, 7, 8, 9, 13, 17], [18]), ([19, 9, 17, 0, 2, 3, 4, 5, 6, 7, 8, 9, 13, 17], [9, 19]), ([1, 0, 1, 2, 3, 4, 5, 6, 7, 8, 9, 10, 11, 12, 13, 14, 15, 16, 17, 18, 19, 20], [1]), ([21, 0, 1, 2, 3, 4, 5, 6, 7, 8, 9, 10, 11, 12, 13, 14, 15, 16, 17, 18, 19, 20], [21]), ([22, 17, 20, 0, 1, 2, 3, 4, 5, 6, 7, 8, 9, 10, 11, 12, 13, 14, 15, 16, 17, 18, 19, 20], [17, 22])])
def B50_8 : List Nat := [0, 0, 0, 4, 12, 28, 0, 64, 192, 508, 0, 1024, 3072, 7168, 0, 16384, 49152, 131068, 262141, 524285, 1048573, 2097151, 4194303, 8388607]
theorem tab50_8 : rtab .any (opsOf Tryd.f50 8) = T50_8 := by kernel_rfl
theorem bits50_8 : waitsOk T50_8.2 B50_8 = true := by kernel_rfl

theorem cell_of {w W : World} {a : Addr} {u : Value} (h : w.cell? a = some u) (hb : Below w.heap.size w W) : W.cell? a = some u := (hb.cell (World.block_lt_of_cell? w _ h)).trans h
theorem bset {base g j : Nat} {w W : World} {v : Value} (h : Below base w W) (hg : base ≤ g) : Below base w (W.setCell ⟨g, j, none⟩ v) := h.setCell hg _
theorem kU_grown {W w1 : World} {base : Nat} {ok : Nat → Prop} {v : Value} {xs : List Value} {row : Option Nat} (h : kU.R 20 W base ok v xs) (hg : W.grownBy w1 row) (hne : ∀ k, v.ownBlock = some k → some k ≠ row) : kU.R 20 w1 base ok v xs := by
 obtain ⟨h1, h2⟩ := kU_own h
 exact kU_of h.1 (own_move h1 (fun k hk => hg.block k (own_lt h1 k hk) (hne k hk))) h2
theorem Dct.add {W : World} {base b m : Nat} {k e : ByteArray} {us xs : List Value} {v1 v2 o1 o2 : Value} (h0 : base ≤ b) (h1 : us.length = m) (h2 : xs.length = m) (h3 : ∀ u ∈ us, ∃ t v c, u = .iface t v ∧ Leaf t v c ∧ (c ≠ 103 ∧ c ≠ 118))
  (h4 : W.heap[b]? = some (.cells #[.string k, .string e, o1, o2] 98 (0, 0))) (h5 : kU.R 20 W base (fun j => j ≠ b) v1 us) (h6 : kU.R 20 W base (fun j => j ≠ b ∧ some j ≠ v1.ownBlock) v2 xs) :
  Dct ((W.setCell ⟨b, 2, none⟩ v1).setCell ⟨b, 3, none⟩ v2) base b k e m :=
 ⟨h0, v1, v2, us, xs, h1, h2, h3, blk_set (blk_set h4 2 v1) 3 v2, Kd.R_far (p := ⟨b, 3, none⟩) (Kd.R_far (p := ⟨b, 2, none⟩) h5 (fun _ hk => hk) v1) (fun _ hk => hk) v2, Kd.R_far (p := ⟨b, 3, none⟩) (Kd.R_far (p := ⟨b, 2, none⟩) h6 (fun _ hk => hk.1) v1) (fun _ hk => hk.1) v2⟩
theorem three_cells (w : World) (a b c : Obj) : ((w.alloc a).alloc b).heap.size = w.heap.size + 2 ∧ (w.alloc a).heap.size = w.heap.size + 1 := by
 have h1 : (w.alloc a).heap.size = w.heap.size + 1 := Array.size_push _
 have h2 : ((w.alloc a).alloc b).heap.size = (w.alloc a).heap.size + 1 := Array.size_push _
 omega

set_option maxHeartbeats 8000000 in
set_option maxRecDepth 100000 in
theorem setIndex (base b : Nat) (k e : ByteArray) (n : Nat) (t kt xt : ByteArray) (tk : TypeId) (vk : Value) (c0 : UInt8) (hk : Leaf tk vk c0) (hkc : c0 ≠ 103 ∧ c0 ≠ 118) (tx : TypeId) (vx : Value) (w : World) (hD : Dct w base b k e n) (hn : n ≤ 400) :
  Calls Tryd.prog 50 #[.agg #[.iface 95 (.pointer (some ⟨b, 0, none⟩)), .string t], .agg #[.iface tk vk, .string kt], .agg #[.iface tx vx, .string xt]] w fun e_ w' => e_ = .returned (.tuple #[]) ∧ (∃ m, m ≤ n + 1 ∧ Dct w' base b k e m) ∧ Below base w w' ∧ (∀ (i : Nat) (cells : Array Value), w.heap[i]? = some (.cells cells 104 (0, 0)) → w'.heap[i]? = some (.cells cells 104 (0, 0))) := by
 obtain ⟨h0, uk, uv, us, xs, h1, h2, h3, h4, h5, h6⟩ := hD
 obtain ⟨A, c, rfl, hc, hC⟩ := Kd.R_reads h5
 obtain ⟨A', c', rfl, hc', hC'⟩ := Kd.R_reads h6
 have hblt := blk_lt h4
 obtain ⟨hz2, hz1⟩ := three_cells w (.cells #[.iface 95 (.pointer (some ⟨b, 0, none⟩)), .string t] 104) (.cells #[.iface tk vk, .string kt] 104) (.cells #[.iface tx vx, .string xt] 104)
 have hbel : Below w.heap.size w (((w.alloc (.cells #[.iface 95 (.pointer (some ⟨b, 0, none⟩)), .string t] 104)).alloc (.cells #[.iface tk vk, .string kt] 104)).alloc (.cells #[.iface tx vx, .string xt] 104)) := below_alloc (below_alloc (below_alloc (Below.refl _ _) _) _) _
 have BK := Aside0.mk (blk_below h4 hbel)
 have K1 : Aside0 ((((w.alloc (.cells #[.iface 95 (.pointer (some ⟨b, 0, none⟩)), .string t] 104)).alloc (.cells #[.iface tk vk, .string kt] 104)).alloc (.cells #[.iface tx vx, .string xt] 104)).heap[w.heap.size + 1]? = some (.cells #[.iface tk vk, .string kt] 104 (0, 0))) := ⟨by rw [← hz1]; exact blk_alloc (blk_new _ _) _⟩
 have K2 : Aside0 ((((w.alloc (.cells #[.iface 95 (.pointer (some ⟨b, 0, none⟩)), .string t] 104)).alloc (.cells #[.iface tk vk, .string kt] 104)).alloc (.cells #[.iface tx vx, .string xt] 104)).heap[w.heap.size + 1 + 1]? = some (.cells #[.iface tx vx, .string xt] 104 (0, 0))) := ⟨by rw [show w.heap.size + 1 + 1 = w.heap.size + 2 from rfl, ← hz2]; exact blk_new _ _⟩
 have KT : Aside0 (∀ (i : Nat) (cells : Array Value), w.heap[i]? = some (.cells cells 104 (0, 0)) → (((w.alloc (.cells #[.iface 95 (.pointer (some ⟨b, 0, none⟩)), .string t] 104)).alloc (.cells #[.iface tk vk, .string kt] 104)).alloc (.cells #[.iface tx vx, .string xt] 104)).heap[i]? = some (.cells cells 104 (0, 0))) := ⟨fun i cells h => blk_below h hbel⟩
 have HRK := Aside0.mk (Kd.R_below h5 hbel)
 have HRV := Aside0.mk (Kd.R_below h6 hbel)
 have HCC := Aside0.mk (Kd.C_below hC hbel)
 have HBL := Aside0.mk (hbel.mono (Nat.le_trans h0 (Nat.le_of_lt hblt)))
 have hszx : w.heap.size + 1 + 1 < (((w.alloc (.cells #[.iface 95 (.pointer (some ⟨b, 0, none⟩)), .string t] 104)).alloc (.cells #[.iface tk vk, .string kt] 104)).alloc (.cells #[.iface tx vx, .string xt] 104)).heap.size := by rw [show w.heap.size + 1 + 1 = w.heap.size + 2 from rfl, ← hz2]; exact Nat.lt_of_lt_of_eq (Nat.lt_succ_self _) (Array.size_push _).symm
 have H1 := Aside0.mk h1
 have H2 := Aside0.mk h2
 have H3 := Aside0.mk h3
 have H0 := Aside0.mk h0
 have ta := fun W => assert95 W (.pointer (some ⟨b, 0, none⟩))
 have hc2 : (((w.alloc (.cells #[.iface 95 (.pointer (some ⟨b, 0, none⟩)), .string t] 104)).alloc (.cells #[.iface tk vk, .string kt] 104)).alloc (.cells #[.iface tx vx, .string xt] 104)).cell? ⟨b, 2, none⟩ = some (.slice A us.length c) := (blk_cell BK.out 2).trans rfl
 have HK := Aside0.mk hk
 clear h1 h2 h3 h4 h5 h6 hC hC' hbel h0 hk hz1 hz2
 rw [H1.out] at hc2 hc
 go_enter Tryd.func50, Tryd.ntmps50
 go_wp2
 generalize (((w.alloc (.cells #[.iface 95 (.pointer (some ⟨b, 0, none⟩)), .string t] 104)).alloc (.cells #[.iface tk vk, .string kt] 104)).alloc (.cells #[.iface tx vx, .string xt] 104)) = wx at BK K1 K2 KT HRK HRV HCC HBL hc2 hszx ⊢
 have HSX := Aside0.mk hszx
 clear hszx
 go_loopw [16, 7] (fun v16 _ wr => ∃ j m : Nat, v16 = .int .i64 j ∧ j ≤ n ∧ wr = wx.drewN m) (fun v16 _ _ => n - (intOf v16).toNat)
 case atStart => exact ⟨0, 0, rfl, Nat.zero_le _, rfl⟩
 case round =>
  obtain ⟨j, m, rfl, hj, rfl⟩ := hrel
  by_cases hjl : j < n
  ·have hju : j < us.length := by have := H1.out; omega
   have hjx : j < xs.length := by have := H2.out; omega
   obtain ⟨ad, rfl, hcj, hoj⟩ := at_raw HCC.out j hju
   obtain ⟨uj, huj⟩ : ∃ u, u = us[j]'hju := ⟨_, rfl⟩
   rw [← huj] at hcj hoj
   obtain ⟨t1, v1, c1, rfl, hl1, hn1⟩ := H3.out uj (by rw [huj]; exact List.getElem_mem hju)
   obtain ⟨bb, hbb⟩ := eq_key hl1 HK.out hn1
   have hck : wx.cell? ⟨w.heap.size + 1, 0, none⟩ = some (.iface tk vk) := (blk_cell K1.out 0).trans rfl
   have hcx : wx.cell? ⟨w.heap.size + 1 + 1, 0, none⟩ = some (.iface tx vx) := (blk_cell K2.out 0).trans rfl
   have hc3 : wx.cell? ⟨b, 3, none⟩ = some (.slice A' xs.length c') := (blk_cell BK.out 3).trans rfl
   obtain ⟨ad', rfl, hcv, hov⟩ := at_raw (Kd.R_reads' HRV.out).2.2 j hjx
   obtain ⟨g', cap', hge, hgb, hgl, cells', hgc⟩ := Kd.R_form HRV.out (by omega)
   injection hge with hge1 hge2 hge3
   injection hge1 with hge1
   subst hge1
   have hfv : wx.frozen? (Addr.add ⟨g', 0, none⟩ j) = false := by rw [add_at]; exact blk_frozen hgc _
   rw [add_at, Nat.zero_add] at hcv hfv
   have HGC := Aside0.mk hgc
   clear hge2 hge3 hgc hgb hgl
   rw [H2.out] at hc3
   generalize hxx : xs[j]'hjx = xj at hcv hov
   clear hxx
   have p1 : ((0 : Int) ≤ (j : Int)) = True := eq_true (by omega)
   have q1 : ((j : Int) < (n : Int)) = True := eq_true (by omega)
   have q2 : (j < n) = True := eq_true hjl
   have HJL := Aside0.mk hjl
   clear hju hjx huj hl1 hn1 hjl
   cases bb with
   | true =>
    go_wp2
    refine start_ (n := 10) (S := fun w' => w'.cell? ⟨b, 2, none⟩ = some (.slice (some ad) n c) ∧ w'.cell? (ad.add j) = some (.iface t1 v1) ∧ w'.cell? ⟨w.heap.size + 1, 0, none⟩ = some (.iface tk vk)) (ds := []) #[false, false, false, false, false, false, false, false, false, false] (by kernel_rfl) rfl rfl ⟨hc2, hcj, hck⟩ (fun hHeld => ?_); refine with_tabW tab50_5 bits50_5 (fun HT_ HW_ => ?_)
    refine pure_ (i := 0) (N := some 19) (v := ?_) (a' := ?_) #[true, false, false, false, false, false, false, false, false, false] rfl rfl (any_of HT_.out (by kernel_rfl)) (fun _ _ _ h => h) (Or.inl ⟨by rfl, ?_⟩) ?_ ?_
    rotate_left
    ·intro w_
     go_simp
     with_reducible rfl
    rotate_left
    ·simp only [Act.put, List.setIfInBounds_toArray, List.set_cons_zero, List.set_cons_succ, i64_w, i32_w]
     rfl
    refine pure_ (i := 1) (N := some 20) (v := ?_) (a' := ?_) #[true, true, false, false, false, false, false, false, false, false] rfl rfl (any_of HT_.out (by kernel_rfl)) (fun _ _ _ h => h) (Or.inl ⟨by rfl, ?_⟩) ?_ ?_
    rotate_left
    ·intro w_
     go_simp
     with_reducible rfl
    rotate_left
    ·simp only [Act.put, List.setIfInBounds_toArray, List.set_cons_zero, List.set_cons_succ, i64_w, i32_w]
     rfl
    refine pure_ (i := 2) (N := some 21) (v := ?_) (a' := ?_) #[true, true, true, false, false, false, false, false, false, false] rfl rfl (any_of HT_.out (by kernel_rfl)) (fun _ _ _ h => h) (Or.inl ⟨by rfl, ?_⟩) ?_ ?_
    rotate_left
    ·intro w_
     go_simp
     with_reducible rfl
    rotate_left
    ·simp only [Act.put, List.setIfInBounds_toArray, List.set_cons_zero, List.set_cons_succ, i64_w, i32_w]
     rfl
    refine take_ (i := 3) (N := some 22) (v := ?_) (a' := ?_) #[true, true, true, true, false, false, false, false, false, false] rfl rfl (take_ofW HT_.out HW_.out (by kernel_rfl)) (fun _ _ _ h => h) (Or.inl ⟨by rfl, ?_⟩) hHeld ?_ ?_
    rotate_left
    ·rintro w_ ⟨s0, s1, s2⟩
     go_simp
     with_reducible rfl
    rotate_left
    ·simp only [Act.put, List.setIfInBounds_toArray, List.set_cons_zero, List.set_cons_succ, i64_w, i32_w]
     rfl
    refine pure_ (i := 4) (N := some 23) (v := ?_) (a' := ?_) #[true, true, true, true, true, false, false, false, false, false] rfl rfl (any_of HT_.out (by kernel_rfl)) (fun _ _ _ h => h) (Or.inl ⟨by rfl, ?_⟩) ?_ ?_
    rotate_left
    ·intro w_
     go_simp
     with_reducible rfl
    rotate_left
    ·simp only [Act.put, List.setIfInBounds_toArray, List.set_cons_zero, List.set_cons_succ, i64_w, i32_w]
     rfl
    refine pure_ (i := 5) (N := some 24) (v := ?_) (a' := ?_) #[true, true, true, true, true, true, false, false, false, false] rfl rfl (any_of HT_.out (by kernel_rfl)) (fun _ _ _ h => h) (Or.inl ⟨by rfl, ?_⟩) ?_ ?_
    rotate_left
    ·intro w_
     go_simp
     with_reducible rfl
    rotate_left
    ·simp only [Act.put, List.setIfInBounds_toArray, List.set_cons_zero, List.set_cons_succ, i64_w, i32_w]
     rfl
    refine take_ (i := 6) (N := some 25) (v := ?_) (a' := ?_) #[true, true, true, true, true, true, true, false, false, false] rfl rfl (take_ofW HT_.out HW_.out (by kernel_rfl)) (fun _ _ _ h => h) (Or.inl ⟨by rfl, ?_⟩) hHeld ?_ ?_
    rotate_left
    ·rintro w_ ⟨s0, s1, s2⟩
     go_simp
     with_reducible rfl
    rotate_left
    ·simp only [Act.put, List.setIfInBounds_toArray, List.set_cons_zero, List.set_cons_succ, i64_w, i32_w]
     rfl
    refine pure_ (i := 7) (N := some 26) (v := ?_) (a' := ?_) #[true, true, true, true, true, true, true, true, false, false] rfl rfl (any_of HT_.out (by kernel_rfl)) (fun _ _ _ h => h) (Or.inl ⟨by rfl, ?_⟩) ?_ ?_
    rotate_left
    ·intro w_
     go_simp
     with_reducible rfl
    rotate_left
    ·simp only [Act.put, List.setIfInBounds_toArray, List.set_cons_zero, List.set_cons_succ, i64_w, i32_w]
     rfl
    refine take_ (i := 8) (N := some 27) (v := ?_) (a' := ?_) #[true, true, true, true, true, true, true, true, true, false] rfl rfl (take_ofW HT_.out HW_.out (by kernel_rfl)) (fun _ _ _ h => h) (Or.inl ⟨by rfl, ?_⟩) hHeld ?_ ?_
    rotate_left
    ·rintro w_ ⟨s0, s1, s2⟩
     go_simp
     with_reducible rfl
    rotate_left
    ·simp only [Act.put, List.setIfInBounds_toArray, List.set_cons_zero, List.set_cons_succ, i64_w, i32_w]
     rfl
    refine pure_ (i := 9) (N := some 28) (v := ?_) (a' := ?_) #[true, true, true, true, true, true, true, true, true, true] rfl rfl (any_of HT_.out (by kernel_rfl)) (fun _ _ _ h => h) (Or.inl ⟨by rfl, ?_⟩) ?_ ?_
    rotate_left
    ·intro w_
     go_simp
     with_reducible rfl
    rotate_left
    ·simp only [Act.put, List.setIfInBounds_toArray, List.set_cons_zero, List.set_cons_succ, i64_w, i32_w]
     rfl
    refine done_ (done_of HT_.out (by kernel_rfl)) ?_
    go_wp2
    refine start_ (n := 9) (S := fun w' => w'.cell? ⟨b, 3, none⟩ = some (.slice (some ⟨g', 0, none⟩) n c') ∧ w'.cell? ⟨w.heap.size + 1 + 1, 0, none⟩ = some (.iface tx vx)) (ds := [8]) #[false, false, false, false, false, false, false, false, false] (by kernel_rfl) rfl rfl ⟨hc3, hcx⟩ (fun hHeld => ?_); refine with_tabW tab50_6 bits50_6 (fun HT_ HW_ => ?_)
    refine pure_ (i := 0) (N := some 29) (v := ?_) (a' := ?_) #[true, false, false, false, false, false, false, false, false] rfl rfl (any_of HT_.out (by kernel_rfl)) (fun _ _ _ h => h) (Or.inl ⟨by rfl, ?_⟩) ?_ ?_
    rotate_left
    ·intro w_
     go_simp
     with_reducible rfl
    rotate_left
    ·simp only [Act.put, List.setIfInBounds_toArray, List.set_cons_zero, List.set_cons_succ, i64_w, i32_w]
     rfl
    refine pure_ (i := 1) (N := some 30) (v := ?_) (a' := ?_) #[true, true, false, false, false, false, false, false, false] rfl rfl (any_of HT_.out (by kernel_rfl)) (fun _ _ _ h => h) (Or.inl ⟨by rfl, ?_⟩) ?_ ?_
    rotate_left
    ·intro w_
     go_simp
     with_reducible rfl
    rotate_left
    ·simp only [Act.put, List.setIfInBounds_toArray, List.set_cons_zero, List.set_cons_succ, i64_w, i32_w]
     rfl
    refine pure_ (i := 2) (N := some 31) (v := ?_) (a' := ?_) #[true, true, true, false, false, false, false, false, false] rfl rfl (any_of HT_.out (by kernel_rfl)) (fun _ _ _ h => h) (Or.inl ⟨by rfl, ?_⟩) ?_ ?_
    rotate_left
    ·intro w_
     go_simp
     with_reducible rfl
    rotate_left
    ·simp only [Act.put, List.setIfInBounds_toArray, List.set_cons_zero, List.set_cons_succ, i64_w, i32_w]
     rfl
    refine take_ (i := 3) (N := some 32) (v := ?_) (a' := ?_) #[true, true, true, true, false, false, false, false, false] rfl rfl (take_ofW HT_.out HW_.out (by kernel_rfl)) (fun _ _ _ h => h) (Or.inl ⟨by rfl, ?_⟩) hHeld ?_ ?_
    rotate_left
    ·rintro w_ ⟨s0, s1⟩
     go_simp
     with_reducible rfl
    rotate_left
    ·simp only [Act.put, List.setIfInBounds_toArray, List.set_cons_zero, List.set_cons_succ, i64_w, i32_w]
     rfl
    refine pure_ (i := 4) (N := some 33) (v := ?_) (a' := ?_) #[true, true, true, true, true, false, false, false, false] rfl rfl (any_of HT_.out (by kernel_rfl)) (fun _ _ _ h => h) (Or.inl ⟨by rfl, ?_⟩) ?_ ?_
    rotate_left
    ·intro w_
     go_simp
     with_reducible rfl
    rotate_left
    ·simp only [Act.put, List.setIfInBounds_toArray, List.set_cons_zero, List.set_cons_succ, i64_w, i32_w]
     rfl
    refine pure_ (i := 5) (N := some 34) (v := ?_) (a' := ?_) #[true, true, true, true, true, true, false, false, false] rfl rfl (any_of HT_.out (by kernel_rfl)) (fun _ _ _ h => h) (Or.inl ⟨by rfl, ?_⟩) ?_ ?_
    rotate_left
    ·intro w_
     go_simp
     with_reducible rfl
    rotate_left
    ·simp only [Act.put, List.setIfInBounds_toArray, List.set_cons_zero, List.set_cons_succ, i64_w, i32_w]
     rfl
    refine take_ (i := 6) (N := some 35) (v := ?_) (a' := ?_) #[true, true, true, true, true, true, true, false, false] rfl rfl (take_ofW HT_.out HW_.out (by kernel_rfl)) (fun _ _ _ h => h) (Or.inl ⟨by rfl, ?_⟩) hHeld ?_ ?_
    rotate_left
    ·rintro w_ ⟨s0, s1⟩
     go_simp
     with_reducible rfl
    rotate_left
    ·simp only [Act.put, List.setIfInBounds_toArray, List.set_cons_zero, List.set_cons_succ, i64_w, i32_w]
     rfl
    refine pure_ (i := 7) (N := some 36) (v := ?_) (a' := ?_) #[true, true, true, true, true, true, true, true, false] rfl rfl (any_of HT_.out (by kernel_rfl)) (fun _ _ _ h => h) (Or.inl ⟨by rfl, ?_⟩) ?_ ?_
    rotate_left
    ·intro w_
     go_simp
     with_reducible rfl
    rotate_left
    ·simp only [Act.put, List.setIfInBounds_toArray, List.set_cons_zero, List.set_cons_succ, i64_w, i32_w]
     rfl
    refine last_ (i := 8) (N := none) #[true, true, true, true, true, true, true, true, true] rfl rfl (one_of HT_.out (by kernel_rfl)) (by decide) (fun K hK => ?_)
    refine skip_ (w1 := ?_) (by rfl) rfl ?_ ?_
    rotate_left
    ·go_simp
     rfl
    refine hK.out _ _ ?_
    clear hK K
    refine done_ (done_of HT_.out (by kernel_rfl)) ?_
    go_wp2
    obtain ⟨q1, q2⟩ := Dct.put H0.out (H1.out.trans H2.out.symm) H3.out (blk_drewN BK.out (m + 1 + 1)) (Kd.R_drewN HRK.out (m + 1 + 1)) (Kd.R_drewN HRV.out (m + 1 + 1)) j (.iface tx vx) rfl
    rw [H1.out] at q1
    exact bodyPost_ret (v := .tuple #[]) (by simp [results, Tryd.results50, go_sem]) rfl ⟨rfl, ⟨n, by omega, q1⟩, (pw_below_drewN HBL.out _).setCell q2 _, fun i cells h => blk_far (p := ⟨g', j, none⟩) (blk_drewN (KT.out i cells h) (m + 1 + 1)) (blk_ne (KT.out i cells h) HGC.out (by decide)) _⟩
   | false =>
    go_wp2
    refine start_ (n := 10) (S := fun w' => w'.cell? ⟨b, 2, none⟩ = some (.slice (some ad) n c) ∧ w'.cell? (ad.add j) = some (.iface t1 v1) ∧ w'.cell? ⟨w.heap.size + 1, 0, none⟩ = some (.iface tk vk)) (ds := []) #[false, false, false, false, false, false, false, false, false, false] (by kernel_rfl) rfl rfl ⟨hc2, hcj, hck⟩ (fun hHeld => ?_); refine with_tabW tab50_5 bits50_5 (fun HT_ HW_ => ?_)
    refine pure_ (i := 0) (N := some 19) (v := ?_) (a' := ?_) #[true, false, false, false, false, false, false, false, false, false] rfl rfl (any_of HT_.out (by kernel_rfl)) (fun _ _ _ h => h) (Or.inl ⟨by rfl, ?_⟩) ?_ ?_
    rotate_left
    ·intro w_
     go_simp
     with_reducible rfl
    rotate_left
    ·simp only [Act.put, List.setIfInBounds_toArray, List.set_cons_zero, List.set_cons_succ, i64_w, i32_w]
     rfl
    refine pure_ (i := 1) (N := some 20) (v := ?_) (a' := ?_) #[true, true, false, false, false, false, false, false, false, false] rfl rfl (any_of HT_.out (by kernel_rfl)) (fun _ _ _ h => h) (Or.inl ⟨by rfl, ?_⟩) ?_ ?_
    rotate_left
    ·intro w_
     go_simp
     with_reducible rfl
    rotate_left
    ·simp only [Act.put, List.setIfInBounds_toArray, List.set_cons_zero, List.set_cons_succ, i64_w, i32_w]
     rfl
    refine pure_ (i := 2) (N := some 21) (v := ?_) (a' := ?_) #[true, true, true, false, false, false, false, false, false, false] rfl rfl (any_of HT_.out (by kernel_rfl)) (fun _ _ _ h => h) (Or.inl ⟨by rfl, ?_⟩) ?_ ?_
    rotate_left
    ·intro w_
     go_simp
     with_reducible rfl
    rotate_left
    ·simp only [Act.put, List.setIfInBounds_toArray, List.set_cons_zero, List.set_cons_succ, i64_w, i32_w]
     rfl
    refine take_ (i := 3) (N := some 22) (v := ?_) (a' := ?_) #[true, true, true, true, false, false, false, false, false, false] rfl rfl (take_ofW HT_.out HW_.out (by kernel_rfl)) (fun _ _ _ h => h) (Or.inl ⟨by rfl, ?_⟩) hHeld ?_ ?_
    rotate_left
    ·rintro w_ ⟨s0, s1, s2⟩
     go_simp
     with_reducible rfl
    rotate_left
    ·simp only [Act.put, List.setIfInBounds_toArray, List.set_cons_zero, List.set_cons_succ, i64_w, i32_w]
     rfl
    refine pure_ (i := 4) (N := some 23) (v := ?_) (a' := ?_) #[true, true, true, true, true, false, false, false, false, false] rfl rfl (any_of HT_.out (by kernel_rfl)) (fun _ _ _ h => h) (Or.inl ⟨by rfl, ?_⟩) ?_ ?_
    rotate_left
    ·intro w_
     go_simp
     with_reducible rfl
    rotate_left
    ·simp only [Act.put, List.setIfInBounds_toArray, List.set_cons_zero, List.set_cons_succ, i64_w, i32_w]
     rfl
    refine pure_ (i := 5) (N := some 24) (v := ?_) (a' := ?_) #[true, true, true, true, true, true, false, false, false, false] rfl rfl (any_of HT_.out (by kernel_rfl)) (fun _ _ _ h => h) (Or.inl ⟨by rfl, ?_⟩) ?_ ?_
    rotate_left
    ·intro w_
     go_simp
     with_reducible rfl
    rotate_left
    ·simp only [Act.put, List.setIfInBounds_toArray, List.set_cons_zero, List.set_cons_succ, i64_w, i32_w]
     rfl
    refine take_ (i := 6) (N := some 25) (v := ?_) (a' := ?_) #[true, true, true, true, true, true, true, false, false, false] rfl rfl (take_ofW HT_.out HW_.out (by kernel_rfl)) (fun _ _ _ h => h) (Or.inl ⟨by rfl, ?_⟩) hHeld ?_ ?_
    rotate_left
    ·rintro w_ ⟨s0, s1, s2⟩
     go_simp
     with_reducible rfl
    rotate_left
    ·simp only [Act.put, List.setIfInBounds_toArray, List.set_cons_zero, List.set_cons_succ, i64_w, i32_w]
     rfl
    refine pure_ (i := 7) (N := some 26) (v := ?_) (a' := ?_) #[true, true, true, true, true, true, true, true, false, false] rfl rfl (any_of HT_.out (by kernel_rfl)) (fun _ _ _ h => h) (Or.inl ⟨by rfl, ?_⟩) ?_ ?_
    rotate_left
    ·intro w_
     go_simp
     with_reducible rfl
    rotate_left
    ·simp only [Act.put, List.setIfInBounds_toArray, List.set_cons_zero, List.set_cons_succ, i64_w, i32_w]
     rfl
    refine take_ (i := 8) (N := some 27) (v := ?_) (a' := ?_) #[true, true, true, true, true, true, true, true, true, false] rfl rfl (take_ofW HT_.out HW_.out (by kernel_rfl)) (fun _ _ _ h => h) (Or.inl ⟨by rfl, ?_⟩) hHeld ?_ ?_
    rotate_left
    ·rintro w_ ⟨s0, s1, s2⟩
     go_simp
     with_reducible rfl
    rotate_left
    ·simp only [Act.put, List.setIfInBounds_toArray, List.set_cons_zero, List.set_cons_succ, i64_w, i32_w]
     rfl
    refine pure_ (i := 9) (N := some 28) (v := ?_) (a' := ?_) #[true, true, true, true, true, true, true, true, true, true] rfl rfl (any_of HT_.out (by kernel_rfl)) (fun _ _ _ h => h) (Or.inl ⟨by rfl, ?_⟩) ?_ ?_
    rotate_left
    ·intro w_
     go_simp
     with_reducible rfl
    rotate_left
    ·simp only [Act.put, List.setIfInBounds_toArray, List.set_cons_zero, List.set_cons_succ, i64_w, i32_w]
     rfl
    refine done_ (done_of HT_.out (by kernel_rfl)) ?_
    go_wp2
    go_roundw
    case rel => exact ⟨j + 1, m + 1, by go_num, by have := HJL.out; omega, rfl⟩
    case measure => have := HJL.out; simp [intOf]; omega
  ·obtain rfl : n = j := by omega
   have hck : wx.cell? ⟨w.heap.size + 1, 0, none⟩ = some (.iface tk vk) := (blk_cell K1.out 0).trans rfl
   have hcx : wx.cell? ⟨w.heap.size + 1 + 1, 0, none⟩ = some (.iface tx vx) := (blk_cell K2.out 0).trans rfl
   have hc3 : wx.cell? ⟨b, 3, none⟩ = some (.slice A' xs.length c') := (blk_cell BK.out 3).trans rfl
   rw [H2.out] at hc3
   go_wp2
   refine start_ (n := 24) (S := fun w' => w'.cell? ⟨b, 2, none⟩ = some (.slice A n c) ∧ w'.cell? ⟨b, 3, none⟩ = some (.slice A' n c') ∧ w'.cell? ⟨w.heap.size + 1, 0, none⟩ = some (.iface tk vk) ∧ w'.cell? ⟨w.heap.size + 1 + 1, 0, none⟩ = some (.iface tx vx)) (ds := [20, 23]) #[false, false, false, false, false, false, false, false, false, false, false, false, false, false, false, false, false, false, false, false, false, false, false, false] (by kernel_rfl) rfl rfl ⟨hc2, hc3, hck, hcx⟩ (fun hHeld => ?_); refine with_tabW tab50_8 bits50_8 (fun HT_ HW_ => ?_)
   have BK0 := Aside0.mk (blk_drew (blk_drewN BK.out m))
   have K10 := Aside0.mk (blk_drew (blk_drewN K1.out m))
   have K20 := Aside0.mk (blk_drew (blk_drewN K2.out m))
   have KT0 : Aside0 (∀ (i : Nat) (cells : Array Value), w.heap[i]? = some (.cells cells 104 (0, 0)) → (wx.drewN m).drew.heap[i]? = some (.cells cells 104 (0, 0))) := ⟨fun i cells h => blk_drew (blk_drewN (KT.out i cells h) m)⟩
   have HRK0 := Aside0.mk (Kd.R_drew (Kd.R_drewN HRK.out m))
   have HRV0 := Aside0.mk (Kd.R_drew (Kd.R_drewN HRV.out m))
   have HBL0 := Aside0.mk (Below.drew (pw_below_drewN HBL.out m))
   rw [H1.out] at BK0 HRK0 HRV0
   rw [H2.out] at BK0 HRV0
   generalize (wx.drewN m).drew = wy at BK0 K10 K20 KT0 HRK0 HRV0 HBL0 hHeld ⊢
   refine pure_ (i := 0) (N := some 38) (v := ?_) (a' := ?_) #[true, false, false, false, false, false, false, false, false, false, false, false, false, false, false, false, false, false, false, false, false, false, false, false] rfl rfl (any_of HT_.out (by kernel_rfl)) (fun _ _ _ h => h) (Or.inl ⟨by rfl, ?_⟩) ?_ ?_
   rotate_left
   ·intro w_
    go_simp
    with_reducible rfl
   rotate_left
   ·simp only [Act.put, List.setIfInBounds_toArray, List.set_cons_zero, List.set_cons_succ, i64_w, i32_w]
    rfl
   refine pure_ (i := 1) (N := some 39) (v := ?_) (a' := ?_) #[true, true, false, false, false, false, false, false, false, false, false, false, false, false, false, false, false, false, false, false, false, false, false, false] rfl rfl (any_of HT_.out (by kernel_rfl)) (fun _ _ _ h => h) (Or.inl ⟨by rfl, ?_⟩) ?_ ?_
   rotate_left
   ·intro w_
    go_simp
    with_reducible rfl
   rotate_left
   ·simp only [Act.put, List.setIfInBounds_toArray, List.set_cons_zero, List.set_cons_succ, i64_w, i32_w]
    rfl
   refine pure_ (i := 2) (N := some 40) (v := ?_) (a' := ?_) #[true, true, true, false, false, false, false, false, false, false, false, false, false, false, false, false, false, false, false, false, false, false, false, false] rfl rfl (any_of HT_.out (by kernel_rfl)) (fun _ _ _ h => h) (Or.inl ⟨by rfl, ?_⟩) ?_ ?_
   rotate_left
   ·intro w_
    go_simp
    with_reducible rfl
   rotate_left
   ·simp only [Act.put, List.setIfInBounds_toArray, List.set_cons_zero, List.set_cons_succ, i64_w, i32_w]
    rfl
   refine pure_ (i := 3) (N := some 41) (v := ?_) (a' := ?_) #[true, true, true, true, false, false, false, false, false, false, false, false, false, false, false, false, false, false, false, false, false, false, false, false] rfl rfl (any_of HT_.out (by kernel_rfl)) (fun _ _ _ h => h) (Or.inl ⟨by rfl, ?_⟩) ?_ ?_
   rotate_left
   ·intro w_
    go_simp
    with_reducible rfl
   rotate_left
   ·simp only [Act.put, List.setIfInBounds_toArray, List.set_cons_zero, List.set_cons_succ, i64_w, i32_w]
    rfl
   refine pure_ (i := 4) (N := some 42) (v := ?_) (a' := ?_) #[true, true, true, true, true, false, false, false, false, false, false, false, false, false, false, false, false, false, false, false, false, false, false, false] rfl rfl (any_of HT_.out (by kernel_rfl)) (fun _ _ _ h => h) (Or.inl ⟨by rfl, ?_⟩) ?_ ?_
   rotate_left
   ·intro w_
    go_simp
    with_reducible rfl
   rotate_left
   ·simp only [Act.put, List.setIfInBounds_toArray, List.set_cons_zero, List.set_cons_succ, i64_w, i32_w]
    rfl
   refine pure_ (i := 6) (N := some 44) (v := ?_) (a' := ?_) #[true, true, true, true, true, false, true, false, false, false, false, false, false, false, false, false, false, false, false, false, false, false, false, false] rfl rfl (any_of HT_.out (by kernel_rfl)) (fun _ _ _ h => h) (Or.inl ⟨by rfl, ?_⟩) ?_ ?_
   rotate_left
   ·intro w_
    go_simp
    with_reducible rfl
   rotate_left
   ·simp only [Act.put, List.setIfInBounds_toArray, List.set_cons_zero, List.set_cons_succ, i64_w, i32_w]
    rfl
   refine pure_ (i := 10) (N := some 48) (v := ?_) (a' := ?_) #[true, true, true, true, true, false, true, false, false, false, true, false, false, false, false, false, false, false, false, false, false, false, false, false] rfl rfl (any_of HT_.out (by kernel_rfl)) (fun _ _ _ h => h) (Or.inl ⟨by rfl, ?_⟩) ?_ ?_
   rotate_left
   ·intro w_
    go_simp
    with_reducible rfl
   rotate_left
   ·simp only [Act.put, List.setIfInBounds_toArray, List.set_cons_zero, List.set_cons_succ, i64_w, i32_w]
    rfl
   refine pure_ (i := 11) (N := some 49) (v := ?_) (a' := ?_) #[true, true, true, true, true, false, true, false, false, false, true, true, false, false, false, false, false, false, false, false, false, false, false, false] rfl rfl (any_of HT_.out (by kernel_rfl)) (fun _ _ _ h => h) (Or.inl ⟨by rfl, ?_⟩) ?_ ?_
   rotate_left
   ·intro w_
    go_simp
    with_reducible rfl
   rotate_left
   ·simp only [Act.put, List.setIfInBounds_toArray, List.set_cons_zero, List.set_cons_succ, i64_w, i32_w]
    rfl
   refine pure_ (i := 12) (N := some 50) (v := ?_) (a' := ?_) #[true, true, true, true, true, false, true, false, false, false, true, true, true, false, false, false, false, false, false, false, false, false, false, false] rfl rfl (any_of HT_.out (by kernel_rfl)) (fun _ _ _ h => h) (Or.inl ⟨by rfl, ?_⟩) ?_ ?_
   rotate_left
   ·intro w_
    go_simp
    with_reducible rfl
   rotate_left
   ·simp only [Act.put, List.setIfInBounds_toArray, List.set_cons_zero, List.set_cons_succ, i64_w, i32_w]
    rfl
   refine pure_ (i := 14) (N := some 52) (v := ?_) (a' := ?_) #[true, true, true, true, true, false, true, false, false, false, true, true, true, false, true, false, false, false, false, false, false, false, false, false] rfl rfl (any_of HT_.out (by kernel_rfl)) (fun _ _ _ h => h) (Or.inl ⟨by rfl, ?_⟩) ?_ ?_
   rotate_left
   ·intro w_
    go_simp
    with_reducible rfl
   rotate_left
   ·simp only [Act.put, List.setIfInBounds_toArray, List.set_cons_zero, List.set_cons_succ, i64_w, i32_w]
    rfl
   refine take_ (i := 5) (N := some 43) (v := ?_) (a' := ?_) #[true, true, true, true, true, true, true, false, false, false, true, true, true, false, true, false, false, false, false, false, false, false, false, false] rfl rfl (take_ofW HT_.out HW_.out (by kernel_rfl)) (fun _ _ _ h => h) (Or.inl ⟨by rfl, ?_⟩) hHeld ?_ ?_
   rotate_left
   ·rintro w_ ⟨s0, s1, s2, s3⟩
    go_simp
    with_reducible rfl
   rotate_left
   ·simp only [Act.put, List.setIfInBounds_toArray, List.set_cons_zero, List.set_cons_succ, i64_w, i32_w]
    rfl
   refine take_ (i := 7) (N := some 45) (v := ?_) (a' := ?_) #[true, true, true, true, true, true, true, true, false, false, true, true, true, false, true, false, false, false, false, false, false, false, false, false] rfl rfl (take_ofW HT_.out HW_.out (by kernel_rfl)) (fun _ _ _ h => h) (Or.inl ⟨by rfl, ?_⟩) hHeld ?_ ?_
   rotate_left
   ·rintro w_ ⟨s0, s1, s2, s3⟩
    go_simp
    with_reducible rfl
   rotate_left
   ·simp only [Act.put, List.setIfInBounds_toArray, List.set_cons_zero, List.set_cons_succ, i64_w, i32_w]
    rfl
   refine take_ (i := 13) (N := some 51) (v := ?_) (a' := ?_) #[true, true, true, true, true, true, true, true, false, false, true, true, true, true, true, false, false, false, false, false, false, false, false, false] rfl rfl (take_ofW HT_.out HW_.out (by kernel_rfl)) (fun _ _ _ h => h) (Or.inl ⟨by rfl, ?_⟩) hHeld ?_ ?_
   rotate_left
   ·rintro w_ ⟨s0, s1, s2, s3⟩
    go_simp
    with_reducible rfl
   rotate_left
   ·simp only [Act.put, List.setIfInBounds_toArray, List.set_cons_zero, List.set_cons_succ, i64_w, i32_w]
    rfl
   refine take_ (i := 15) (N := some 53) (v := ?_) (a' := ?_) #[true, true, true, true, true, true, true, true, false, false, true, true, true, true, true, true, false, false, false, false, false, false, false, false] rfl rfl (take_ofW HT_.out HW_.out (by kernel_rfl)) (fun _ _ _ h => h) (Or.inl ⟨by rfl, ?_⟩) hHeld ?_ ?_
   rotate_left
   ·rintro w_ ⟨s0, s1, s2, s3⟩
    go_simp
    with_reducible rfl
   rotate_left
   ·simp only [Act.put, List.setIfInBounds_toArray, List.set_cons_zero, List.set_cons_succ, i64_w, i32_w]
    rfl
   refine two_ (i := 8) (j := 16) (Ni := some 46) (Nj := some 54) #[true, true, true, true, true, true, true, true, true, false, true, true, true, true, true, true, false, false, false, false, false, false, false, false] #[true, true, true, true, true, true, true, true, false, false, true, true, true, true, true, true, true, false, false, false, false, false, false, false] rfl rfl rfl rfl (two_of HT_.out (by kernel_rfl)) (by decide) (by decide) (fun K hK => ?_) (fun K hK => ?_)
   ·refine value_ (w1 := ?_) (v := ?_) (by rfl) rfl ?_ ?_
    rotate_left 2
    ·go_simp
     constructor
     ·rfl
     ·rfl
    have BKa := Aside0.mk (blk_alloc BK0.out (.cells #[.iface tk vk] 20))
    have K1a := Aside0.mk (blk_alloc K10.out (.cells #[.iface tk vk] 20))
    have K2a := Aside0.mk (blk_alloc K20.out (.cells #[.iface tk vk] 20))
    have KTa := Aside0.mk (fun (i : Nat) (cells : Array Value) h => blk_alloc (KT0.out i cells h) (.cells #[.iface tk vk] 20))
    have HRKa := Aside0.mk (Kd.R_alloc HRK0.out (.cells #[.iface tk vk] 20))
    have HRVa := Aside0.mk (Kd.R_alloc HRV0.out (.cells #[.iface tk vk] 20))
    have HBLa := Aside0.mk (Below.alloc HBL0.out (Nat.le_trans H0.out (Nat.le_of_lt (blk_lt BK0.out))) (.cells #[.iface tk vk] 20))
    have HX1a := Aside0.mk (blk_new wy (.cells #[.iface tk vk] 20))
    refine hK.out _ _ ⟨(blk_cell BKa.out 2).trans rfl, (blk_cell BKa.out 3).trans rfl, (blk_cell K1a.out 0).trans rfl, (blk_cell K2a.out 0).trans rfl⟩ (fun hHeld => ?_)
    clear hK K
    refine norm_ (a' := ?_) ?_ ?_
    rotate_left
    ·show Act.put _ (some 46) _ = _
     simp only [Act.put, List.setIfInBounds_toArray, List.set_cons_zero, List.set_cons_succ, i64_w, i32_w]
     rfl
    refine two_ (i := 9) (j := 16) (Ni := some 47) (Nj := some 54) #[true, true, true, true, true, true, true, true, true, true, true, true, true, true, true, true, false, false, false, false, false, false, false, false] #[true, true, true, true, true, true, true, true, true, false, true, true, true, true, true, true, true, false, false, false, false, false, false, false] rfl rfl rfl rfl (two_of HT_.out (by kernel_rfl)) (by decide) (by decide) (fun K hK => ?_) (fun K hK => ?_)
    ·refine R_append_at kU (w0 := w) base (by rfl) (.tmp 43) (.tmp 46) 44 20 .nilIface 16 rfl Tryd.underlying44 info20 rfl (by decide) (by decide) (.slice A n c) us (.iface tk vk) ⟨wy.heap.size, 0, none⟩ [.iface tk vk] (fun j => j ≠ b) (fun _ => False) rfl rfl ?a1C ⟨rfl, rfl⟩ (fun _ hk => hk.elim) ?a1F ?a1O ?a1B ?a1S ?a1L ?_
     (case a1C => intro j_ u_ hu_; cases j_ with
      | zero => simp at hu_; subst hu_; exact (blk_cell HX1a.out 0).trans rfl
      | succ j_ => simp at hu_)
     (case a1F => exact (fun k_ hk => by have := blk_lt BKa.out; omega))
     (case a1O => exact HRKa.out)
     (case a1B => exact HBLa.out)
     (case a1S => exact Nat.le_trans H0.out (Nat.le_of_lt (blk_lt BKa.out)))
     (case a1L => have := H1.out; have := H2.out; omega)
     intro v1 w1 ho hb hg hat
     have HRK1 := Aside0.mk ho
     have HBL1 := Aside0.mk hb
     have BK1 := Aside0.mk (blk_grown BKa.out hg (Kd.R_away HRKa.out (fun _ hk => hk)))
     have K11 := Aside0.mk (blk_grown K1a.out hg (Kd.R_ne HRKa.out K1a.out (by decide)))
     have K21 := Aside0.mk (blk_grown K2a.out hg (Kd.R_ne HRKa.out K2a.out (by decide)))
     have KT1 := Aside0.mk (fun (i : Nat) (cells : Array Value) h => blk_grown (KTa.out i cells h) hg (Kd.R_ne HRKa.out (KTa.out i cells h) (by decide)))
     have HRV1 := Aside0.mk (Kd.R_after HRVa.out hg hat)
     clear ho hb hg hat
     obtain ⟨A1, c1, e1⟩ := Kd.R_slice HRK1.out
     subst e1
     refine hK.out _ _ ⟨(blk_cell BK1.out 2).trans rfl, (blk_cell BK1.out 3).trans rfl, (blk_cell K11.out 0).trans rfl, (blk_cell K21.out 0).trans rfl⟩ (fun hHeld => ?_)
     clear hK K
     refine norm_ (a' := ?_) ?_ ?_
     rotate_left
     ·show Act.put _ (some 47) _ = _
      simp only [Act.put, List.setIfInBounds_toArray, List.set_cons_zero, List.set_cons_succ, i64_w, i32_w]
      rfl
     refine one_ (i := 16) (N := some 54) #[true, true, true, true, true, true, true, true, true, true, true, true, true, true, true, true, true, false, false, false, false, false, false, false] rfl rfl (one_of HT_.out (by kernel_rfl)) (by decide) (fun K hK => ?_)
     refine value_ (w1 := ?_) (v := ?_) (by rfl) rfl ?_ ?_
     rotate_left 2
     ·go_simp
      constructor
      ·rfl
      ·rfl
     have BKc := Aside0.mk (blk_alloc BK1.out (.cells #[.iface tx vx] 20))
     have K1c := Aside0.mk (blk_alloc K11.out (.cells #[.iface tx vx] 20))
     have K2c := Aside0.mk (blk_alloc K21.out (.cells #[.iface tx vx] 20))
     have KTc := Aside0.mk (fun (i : Nat) (cells : Array Value) h => blk_alloc (KT1.out i cells h) (.cells #[.iface tx vx] 20))
     have HRKc := Aside0.mk (Kd.R_alloc HRK1.out (.cells #[.iface tx vx] 20))
     have HRVc := Aside0.mk (Kd.R_alloc HRV1.out (.cells #[.iface tx vx] 20))
     have HBLc := Aside0.mk (Below.alloc HBL1.out (Nat.le_trans H0.out (Nat.le_of_lt (blk_lt BK1.out))) (.cells #[.iface tx vx] 20))
     have HX2c := Aside0.mk (blk_new w1 (.cells #[.iface tx vx] 20))
     refine hK.out _ _ ⟨(blk_cell BKc.out 2).trans rfl, (blk_cell BKc.out 3).trans rfl, (blk_cell K1c.out 0).trans rfl, (blk_cell K2c.out 0).trans rfl⟩ (fun hHeld => ?_)
     clear hK K
     refine norm_ (a' := ?_) ?_ ?_
     rotate_left
     ·show Act.put _ (some 54) _ = _
      simp only [Act.put, List.setIfInBounds_toArray, List.set_cons_zero, List.set_cons_succ, i64_w, i32_w]
      rfl
     refine one_ (i := 17) (N := some 55) #[true, true, true, true, true, true, true, true, true, true, true, true, true, true, true, true, true, true, false, false, false, false, false, false] rfl rfl (one_of HT_.out (by kernel_rfl)) (by decide) (fun K hK => ?_)
     refine R_append_at kU (w0 := w) base (by rfl) (.tmp 51) (.tmp 54) 44 20 .nilIface 16 rfl Tryd.underlying44 info20 rfl (by decide) (by decide) (.slice A' n c') xs (.iface tx vx) ⟨w1.heap.size, 0, none⟩ [.iface tx vx] (fun j => j ≠ b ∧ some j ≠ (Value.slice A1 (us ++ [Value.iface tk vk]).length c1).ownBlock) (fun _ => False) rfl rfl ?a2C ⟨rfl, rfl⟩ (fun _ hk => hk.elim) ?a2F ?a2O ?a2B ?a2S ?a2L ?_
     (case a2C => intro j_ u_ hu_; cases j_ with
      | zero => simp at hu_; subst hu_; exact (blk_cell HX2c.out 0).trans rfl
      | succ j_ => simp at hu_)
     (case a2F => exact (fun k_ hk => ⟨by have := blk_lt BKc.out; omega, Kd.fresh_ok HRKc.out k_ hk⟩))
     (case a2O => exact HRVc.out)
     (case a2B => exact HBLc.out)
     (case a2S => exact Nat.le_trans H0.out (Nat.le_of_lt (blk_lt BKc.out)))
     (case a2L => have := H1.out; have := H2.out; omega)
     intro v2 w2 ho hb hg hat
     have HRV2 := Aside0.mk ho
     have HBL2 := Aside0.mk hb
     have BK2 := Aside0.mk (blk_grown BKc.out hg (Kd.R_away HRVc.out (fun _ hk => hk.1)))
     have K12 := Aside0.mk (blk_grown K1c.out hg (Kd.R_ne HRVc.out K1c.out (by decide)))
     have K22 := Aside0.mk (blk_grown K2c.out hg (Kd.R_ne HRVc.out K2c.out (by decide)))
     have KT2 := Aside0.mk (fun (i : Nat) (cells : Array Value) h => blk_grown (KTc.out i cells h) hg (Kd.R_ne HRVc.out (KTc.out i cells h) (by decide)))
     have HRK2 := Aside0.mk (kU_grown HRKc.out hg (fun k_ hk e_ => (HRVc.out.1 k_ e_.symm).2 hk.symm))
     clear ho hb hg hat
     obtain ⟨A2, c2, e2⟩ := Kd.R_slice HRV2.out
     subst e2
     refine hK.out _ _ ⟨(blk_cell BK2.out 2).trans rfl, (blk_cell BK2.out 3).trans rfl, (blk_cell K12.out 0).trans rfl, (blk_cell K22.out 0).trans rfl⟩ (fun hHeld => ?_)
     clear hK K
     refine norm_ (a' := ?_) ?_ ?_
     rotate_left
     ·show Act.put _ (some 55) _ = _
      simp only [Act.put, List.setIfInBounds_toArray, List.set_cons_zero, List.set_cons_succ, i64_w, i32_w]
      rfl
     refine pure_ (i := 18) (N := some 56) (v := ?_) (a' := ?_) #[true, true, true, true, true, true, true, true, true, true, true, true, true, true, true, true, true, true, true, false, false, false, false, false] rfl rfl (any_of HT_.out (by kernel_rfl)) (fun _ _ _ h => h) (Or.inl ⟨by rfl, ?_⟩) ?_ ?_
     rotate_left
     ·intro w_
      go_simp
      with_reducible rfl
     rotate_left
     ·simp only [Act.put, List.setIfInBounds_toArray, List.set_cons_zero, List.set_cons_succ, i64_w, i32_w]
      rfl
     refine pure_ (i := 19) (N := some 57) (v := ?_) (a' := ?_) #[true, true, true, true, true, true, true, true, true, true, true, true, true, true, true, true, true, true, true, true, false, false, false, false] rfl rfl (any_of HT_.out (by kernel_rfl)) (fun _ _ _ h => h) (Or.inl ⟨by rfl, ?_⟩) ?_ ?_
     rotate_left
     ·intro w_
      go_simp
      with_reducible rfl
     rotate_left
     ·simp only [Act.put, List.setIfInBounds_toArray, List.set_cons_zero, List.set_cons_succ, i64_w, i32_w]
      rfl
     have hs27 := (blk_cell BK2.out 2).trans rfl
     have hfs27 := blk_frozen BK2.out 2
     have hs28 := (blk_cell BK2.out 3).trans rfl
     have hfs28 := blk_frozen BK2.out 3
     refine last_ (i := 20) (N := none) #[true, true, true, true, true, true, true, true, true, true, true, true, true, true, true, true, true, true, true, true, true, false, false, false] rfl rfl (one_of HT_.out (by kernel_rfl)) (by decide) (fun K hK => ?_)
     refine skip_ (w1 := ?_) (by rfl) rfl ?_ ?_
     rotate_left
     ·go_simp
      rfl
     refine hK.out _ _ ?_
     clear hK K
     refine pure_ (i := 21) (N := some 58) (v := ?_) (a' := ?_) #[true, true, true, true, true, true, true, true, true, true, true, true, true, true, true, true, true, true, true, true, true, true, false, false] rfl rfl (any_of HT_.out (by kernel_rfl)) (fun _ _ _ h => h) (Or.inl ⟨by rfl, ?_⟩) ?_ ?_
     rotate_left
     ·intro w_
      go_simp
      with_reducible rfl
     rotate_left
     ·simp only [Act.put, List.setIfInBounds_toArray, List.set_cons_zero, List.set_cons_succ, i64_w, i32_w]
      rfl
     refine pure_ (i := 22) (N := some 59) (v := ?_) (a' := ?_) #[true, true, true, true, true, true, true, true, true, true, true, true, true, true, true, true, true, true, true, true, true, true, true, false] rfl rfl (any_of HT_.out (by kernel_rfl)) (fun _ _ _ h => h) (Or.inl ⟨by rfl, ?_⟩) ?_ ?_
     rotate_left
     ·intro w_
      go_simp
      with_reducible rfl
     rotate_left
     ·simp only [Act.put, List.setIfInBounds_toArray, List.set_cons_zero, List.set_cons_succ, i64_w, i32_w]
      rfl
     refine last_ (i := 23) (N := none) #[true, true, true, true, true, true, true, true, true, true, true, true, true, true, true, true, true, true, true, true, true, true, true, true] rfl rfl (one_of HT_.out (by kernel_rfl)) (by decide) (fun K hK => ?_)
     refine skip_ (w1 := ?_) (by rfl) rfl ?_ ?_
     rotate_left
     ·go_simp
      rfl
     refine hK.out _ _ ?_
     clear hK K
     refine done_ (done_of HT_.out (by kernel_rfl)) ?_
     go_wp2
     have hq := Dct.add (us := us ++ [Value.iface tk vk]) (xs := xs ++ [Value.iface tx vx]) H0.out (m := n + 1) (by rw [List.length_append, H1.out]; rfl) (by rw [List.length_append, H2.out]; rfl) (fun u hu => (List.mem_append.1 hu).elim (H3.out u) (fun h => ⟨tk, vk, c0, List.mem_singleton.1 h, HK.out, hkc⟩)) BK2.out HRK2.out HRV2.out
     have hkt := (fun (i : Nat) (cells : Array Value) h => blk_far (p := ⟨b, 3, none⟩) (blk_far (p := ⟨b, 2, none⟩) (KT2.out i cells h) (blk_ne (KT2.out i cells h) BK2.out (by decide)) (.slice A1 (us ++ [Value.iface tk vk]).length c1)) (blk_ne (KT2.out i cells h) BK2.out (by decide)) (.slice A2 (xs ++ [Value.iface tx vx]).length c2))
     have hbb := bset (j := 3) (v := .slice A2 (xs ++ [Value.iface tx vx]).length c2) (bset (j := 2) (v := .slice A1 (us ++ [Value.iface tk vk]).length c1) HBL2.out H0.out) H0.out
     rw [show (us ++ [Value.iface tk vk]).length = us.length + 1 from by simp, show (xs ++ [Value.iface tx vx]).length = xs.length + 1 from by simp] at hq hbb hkt
     go_end0
     exact ⟨rfl, ⟨n + 1, Nat.le_refl _, hq⟩, hbb, hkt⟩
    ·refine value_ (w1 := ?_) (v := ?_) (by rfl) rfl ?_ ?_
     rotate_left 2
     ·go_simp
      constructor
      ·rfl
      ·rfl
     have BKd := Aside0.mk (blk_alloc BKa.out (.cells #[.iface tx vx] 20))
     have K1d := Aside0.mk (blk_alloc K1a.out (.cells #[.iface tx vx] 20))
     have K2d := Aside0.mk (blk_alloc K2a.out (.cells #[.iface tx vx] 20))
     have KTd := Aside0.mk (fun (i : Nat) (cells : Array Value) h => blk_alloc (KTa.out i cells h) (.cells #[.iface tx vx] 20))
     have HRKd := Aside0.mk (Kd.R_alloc HRKa.out (.cells #[.iface tx vx] 20))
     have HRVd := Aside0.mk (Kd.R_alloc HRVa.out (.cells #[.iface tx vx] 20))
     have HBLd := Aside0.mk (Below.alloc HBLa.out (Nat.le_trans H0.out (Nat.le_of_lt (blk_lt BKa.out))) (.cells #[.iface tx vx] 20))
     have HX2d : Aside0 (((wy.alloc (.cells #[.iface tk vk] 20)).alloc (.cells #[.iface tx vx] 20)).heap[wy.heap.size + 1]? = some (.cells #[.iface tx vx] 20 (0, 0))) := ⟨by have h := blk_new (wy.alloc (.cells #[.iface tk vk] 20)) (.cells #[.iface tx vx] 20); rw [show (wy.alloc (.cells #[.iface tk vk] 20)).heap.size = wy.heap.size + 1 from Array.size_push _] at h; exact h⟩
     have HX1d := Aside0.mk (blk_alloc HX1a.out (.cells #[.iface tx vx] 20))
     refine hK.out _ _ ⟨(blk_cell BKd.out 2).trans rfl, (blk_cell BKd.out 3).trans rfl, (blk_cell K1d.out 0).trans rfl, (blk_cell K2d.out 0).trans rfl⟩ (fun hHeld => ?_)
     clear hK K
     refine norm_ (a' := ?_) ?_ ?_
     rotate_left
     ·show Act.put _ (some 54) _ = _
      simp only [Act.put, List.setIfInBounds_toArray, List.set_cons_zero, List.set_cons_succ, i64_w, i32_w]
      rfl
     refine one_ (i := 9) (N := some 47) #[true, true, true, true, true, true, true, true, true, true, true, true, true, true, true, true, true, false, false, false, false, false, false, false] rfl rfl (one_of HT_.out (by kernel_rfl)) (by decide) (fun K hK => ?_)
     refine R_append_at kU (w0 := w) base (by rfl) (.tmp 43) (.tmp 46) 44 20 .nilIface 16 rfl Tryd.underlying44 info20 rfl (by decide) (by decide) (.slice A n c) us (.iface tk vk) ⟨wy.heap.size, 0, none⟩ [.iface tk vk] (fun j => j ≠ b) (fun _ => False) rfl rfl ?a3C ⟨rfl, rfl⟩ (fun _ hk => hk.elim) ?a3F ?a3O ?a3B ?a3S ?a3L ?_
     (case a3C => intro j_ u_ hu_; cases j_ with
      | zero => simp at hu_; subst hu_; exact (blk_cell HX1d.out 0).trans rfl
      | succ j_ => simp at hu_)
     (case a3F => exact (fun k_ hk => by have := blk_lt BKd.out; omega))
     (case a3O => exact HRKd.out)
     (case a3B => exact HBLd.out)
     (case a3S => exact Nat.le_trans H0.out (Nat.le_of_lt (blk_lt BKd.out)))
     (case a3L => have := H1.out; have := H2.out; omega)
     intro v1 w1 ho hb hg hat
     have HRK1 := Aside0.mk ho
     have HBL1 := Aside0.mk hb
     have BK1 := Aside0.mk (blk_grown BKd.out hg (Kd.R_away HRKd.out (fun _ hk => hk)))
     have K11 := Aside0.mk (blk_grown K1d.out hg (Kd.R_ne HRKd.out K1d.out (by decide)))
     have K21 := Aside0.mk (blk_grown K2d.out hg (Kd.R_ne HRKd.out K2d.out (by decide)))
     have KT1 := Aside0.mk (fun (i : Nat) (cells : Array Value) h => blk_grown (KTd.out i cells h) hg (Kd.R_ne HRKd.out (KTd.out i cells h) (by decide)))
     have HRV1 := Aside0.mk (Kd.R_after HRVd.out hg hat)
     have HX21 := Aside0.mk (blk_grown HX2d.out hg (Kd.fresh_ok HRK0.out _ (Nat.le_succ _)))
     clear ho hb hg hat
     obtain ⟨A1, c1, e1⟩ := Kd.R_slice HRK1.out
     subst e1
     refine hK.out _ _ ⟨(blk_cell BK1.out 2).trans rfl, (blk_cell BK1.out 3).trans rfl, (blk_cell K11.out 0).trans rfl, (blk_cell K21.out 0).trans rfl⟩ (fun hHeld => ?_)
     clear hK K
     refine norm_ (a' := ?_) ?_ ?_
     rotate_left
     ·show Act.put _ (some 47) _ = _
      simp only [Act.put, List.setIfInBounds_toArray, List.set_cons_zero, List.set_cons_succ, i64_w, i32_w]
      rfl
     refine one_ (i := 17) (N := some 55) #[true, true, true, true, true, true, true, true, true, true, true, true, true, true, true, true, true, true, false, false, false, false, false, false] rfl rfl (one_of HT_.out (by kernel_rfl)) (by decide) (fun K hK => ?_)
     refine R_append_at kU (w0 := w) base (by rfl) (.tmp 51) (.tmp 54) 44 20 .nilIface 16 rfl Tryd.underlying44 info20 rfl (by decide) (by decide) (.slice A' n c') xs (.iface tx vx) ⟨wy.heap.size + 1, 0, none⟩ [.iface tx vx] (fun j => j ≠ b ∧ some j ≠ (Value.slice A1 (us ++ [Value.iface tk vk]).length c1).ownBlock) (fun _ => False) rfl rfl ?a4C ⟨rfl, rfl⟩ (fun _ hk => hk.elim) ?a4F ?a4O ?a4B ?a4S ?a4L ?_
     (case a4C => intro j_ u_ hu_; cases j_ with
      | zero => simp at hu_; subst hu_; exact (blk_cell HX21.out 0).trans rfl
      | succ j_ => simp at hu_)
     (case a4F => exact (fun k_ hk => ⟨by have := blk_lt BK1.out; omega, Kd.fresh_ok HRK1.out k_ hk⟩))
     (case a4O => exact HRV1.out)
     (case a4B => exact HBL1.out)
     (case a4S => exact Nat.le_trans H0.out (Nat.le_of_lt (blk_lt BK1.out)))
     (case a4L => have := H1.out; have := H2.out; omega)
     intro v2 w2 ho hb hg hat
     have HRV2 := Aside0.mk ho
     have HBL2 := Aside0.mk hb
     have BK2 := Aside0.mk (blk_grown BK1.out hg (Kd.R_away HRV1.out (fun _ hk => hk.1)))
     have K12 := Aside0.mk (blk_grown K11.out hg (Kd.R_ne HRV1.out K11.out (by decide)))
     have K22 := Aside0.mk (blk_grown K21.out hg (Kd.R_ne HRV1.out K21.out (by decide)))
     have KT2 := Aside0.mk (fun (i : Nat) (cells : Array Value) h => blk_grown (KT1.out i cells h) hg (Kd.R_ne HRV1.out (KT1.out i cells h) (by decide)))
     have HRK2 := Aside0.mk (kU_grown HRK1.out hg (fun k_ hk e_ => (HRV1.out.1 k_ e_.symm).2 hk.symm))
     clear ho hb hg hat
     obtain ⟨A2, c2, e2⟩ := Kd.R_slice HRV2.out
     subst e2
     refine hK.out _ _ ⟨(blk_cell BK2.out 2).trans rfl, (blk_cell BK2.out 3).trans rfl, (blk_cell K12.out 0).trans rfl, (blk_cell K22.out 0).trans rfl⟩ (fun hHeld => ?_)
     clear hK K
     refine norm_ (a' := ?_) ?_ ?_
     rotate_left
     ·show Act.put _ (some 55) _ = _
      simp only [Act.put, List.setIfInBounds_toArray, List.set_cons_zero, List.set_cons_succ, i64_w, i32_w]
      rfl
     refine pure_ (i := 18) (N := some 56) (v := ?_) (a' := ?_) #[true, true, true, true, true, true, true, true, true, true, true, true, true, true, true, true, true, true, true, false, false, false, false, false] rfl rfl (any_of HT_.out (by kernel_rfl)) (fun _ _ _ h => h) (Or.inl ⟨by rfl, ?_⟩) ?_ ?_
     rotate_left
     ·intro w_
      go_simp
      with_reducible rfl
     rotate_left
     ·simp only [Act.put, List.setIfInBounds_toArray, List.set_cons_zero, List.set_cons_succ, i64_w, i32_w]
      rfl
     refine pure_ (i := 19) (N := some 57) (v := ?_) (a' := ?_) #[true, true, true, true, true, true, true, true, true, true, true, true, true, true, true, true, true, true, true, true, false, false, false, false] rfl rfl (any_of HT_.out (by kernel_rfl)) (fun _ _ _ h => h) (Or.inl ⟨by rfl, ?_⟩) ?_ ?_
     rotate_left
     ·intro w_
      go_simp
      with_reducible rfl
     rotate_left
     ·simp only [Act.put, List.setIfInBounds_toArray, List.set_cons_zero, List.set_cons_succ, i64_w, i32_w]
      rfl
     have hs27 := (blk_cell BK2.out 2).trans rfl
     have hfs27 := blk_frozen BK2.out 2
     have hs28 := (blk_cell BK2.out 3).trans rfl
     have hfs28 := blk_frozen BK2.out 3
     refine last_ (i := 20) (N := none) #[true, true, true, true, true, true, true, true, true, true, true, true, true, true, true, true, true, true, true, true, true, false, false, false] rfl rfl (one_of HT_.out (by kernel_rfl)) (by decide) (fun K hK => ?_)
     refine skip_ (w1 := ?_) (by rfl) rfl ?_ ?_
     rotate_left
     ·go_simp
      rfl
     refine hK.out _ _ ?_
     clear hK K
     refine pure_ (i := 21) (N := some 58) (v := ?_) (a' := ?_) #[true, true, true, true, true, true, true, true, true, true, true, true, true, true, true, true, true, true, true, true, true, true, false, false] rfl rfl (any_of HT_.out (by kernel_rfl)) (fun _ _ _ h => h) (Or.inl ⟨by rfl, ?_⟩) ?_ ?_
     rotate_left
     ·intro w_
      go_simp
      with_reducible rfl
     rotate_left
     ·simp only [Act.put, List.setIfInBounds_toArray, List.set_cons_zero, List.set_cons_succ, i64_w, i32_w]
      rfl
     refine pure_ (i := 22) (N := some 59) (v := ?_) (a' := ?_) #[true, true, true, true, true, true, true, true, true, true, true, true, true, true, true, true, true, true, true, true, true, true, true, false] rfl rfl (any_of HT_.out (by kernel_rfl)) (fun _ _ _ h => h) (Or.inl ⟨by rfl, ?_⟩) ?_ ?_
     rotate_left
     ·intro w_
      go_simp
      with_reducible rfl
     rotate_left
     ·simp only [Act.put, List.setIfInBounds_toArray, List.set_cons_zero, List.set_cons_succ, i64_w, i32_w]
      rfl
     refine last_ (i := 23) (N := none) #[true, true, true, true, true, true, true, true, true, true, true, true, true, true, true, true, true, true, true, true, true, true, true, true] rfl rfl (one_of HT_.out (by kernel_rfl)) (by decide) (fun K hK => ?_)
     refine skip_ (w1 := ?_) (by rfl) rfl ?_ ?_
     rotate_left
     ·go_simp
      rfl
     refine hK.out _ _ ?_
     clear hK K
     refine done_ (done_of HT_.out (by kernel_rfl)) ?_
     go_wp2
     have hq := Dct.add (us := us ++ [Value.iface tk vk]) (xs := xs ++ [Value.iface tx vx]) H0.out (m := n + 1) (by rw [List.length_append, H1.out]; rfl) (by rw [List.length_append, H2.out]; rfl) (fun u hu => (List.mem_append.1 hu).elim (H3.out u) (fun h => ⟨tk, vk, c0, List.mem_singleton.1 h, HK.out, hkc⟩)) BK2.out HRK2.out HRV2.out
     have hkt := (fun (i : Nat) (cells : Array Value) h => blk_far (p := ⟨b, 3, none⟩) (blk_far (p := ⟨b, 2, none⟩) (KT2.out i cells h) (blk_ne (KT2.out i cells h) BK2.out (by decide)) (.slice A1 (us ++ [Value.iface tk vk]).length c1)) (blk_ne (KT2.out i cells h) BK2.out (by decide)) (.slice A2 (xs ++ [Value.iface tx vx]).length c2))
     have hbb := bset (j := 3) (v := .slice A2 (xs ++ [Value.iface tx vx]).length c2) (bset (j := 2) (v := .slice A1 (us ++ [Value.iface tk vk]).length c1) HBL2.out H0.out) H0.out
     rw [show (us ++ [Value.iface tk vk]).length = us.length + 1 from by simp, show (xs ++ [Value.iface tx vx]).length = xs.length + 1 from by simp] at hq hbb hkt
     go_end0
     exact ⟨rfl, ⟨n + 1, Nat.le_refl _, hq⟩, hbb, hkt⟩
   ·refine value_ (w1 := ?_) (v := ?_) (by rfl) rfl ?_ ?_
    rotate_left 2
    ·go_simp
     constructor
     ·rfl
     ·rfl
    have BKa := Aside0.mk (blk_alloc BK0.out (.cells #[.iface tx vx] 20))
    have K1a := Aside0.mk (blk_alloc K10.out (.cells #[.iface tx vx] 20))
    have K2a := Aside0.mk (blk_alloc K20.out (.cells #[.iface tx vx] 20))
    have KTa := Aside0.mk (fun (i : Nat) (cells : Array Value) h => blk_alloc (KT0.out i cells h) (.cells #[.iface tx vx] 20))
    have HRKa := Aside0.mk (Kd.R_alloc HRK0.out (.cells #[.iface tx vx] 20))
    have HRVa := Aside0.mk (Kd.R_alloc HRV0.out (.cells #[.iface tx vx] 20))
    have HBLa := Aside0.mk (Below.alloc HBL0.out (Nat.le_trans H0.out (Nat.le_of_lt (blk_lt BK0.out))) (.cells #[.iface tx vx] 20))
    have HX2a := Aside0.mk (blk_new wy (.cells #[.iface tx vx] 20))
    refine hK.out _ _ ⟨(blk_cell BKa.out 2).trans rfl, (blk_cell BKa.out 3).trans rfl, (blk_cell K1a.out 0).trans rfl, (blk_cell K2a.out 0).trans rfl⟩ (fun hHeld => ?_)
    clear hK K
    refine norm_ (a' := ?_) ?_ ?_
    rotate_left
    ·show Act.put _ (some 54) _ = _
     simp only [Act.put, List.setIfInBounds_toArray, List.set_cons_zero, List.set_cons_succ, i64_w, i32_w]
     rfl
    refine one_ (i := 8) (N := some 46) #[true, true, true, true, true, true, true, true, true, false, true, true, true, true, true, true, true, false, false, false, false, false, false, false] rfl rfl (one_of HT_.out (by kernel_rfl)) (by decide) (fun K hK => ?_)
    refine value_ (w1 := ?_) (v := ?_) (by rfl) rfl ?_ ?_
    rotate_left 2
    ·go_simp
     constructor
     ·rfl
     ·rfl
    have BKd := Aside0.mk (blk_alloc BKa.out (.cells #[.iface tk vk] 20))
    have K1d := Aside0.mk (blk_alloc K1a.out (.cells #[.iface tk vk] 20))
    have K2d := Aside0.mk (blk_alloc K2a.out (.cells #[.iface tk vk] 20))
    have KTd := Aside0.mk (fun (i : Nat) (cells : Array Value) h => blk_alloc (KTa.out i cells h) (.cells #[.iface tk vk] 20))
    have HRKd := Aside0.mk (Kd.R_alloc HRKa.out (.cells #[.iface tk vk] 20))
    have HRVd := Aside0.mk (Kd.R_alloc HRVa.out (.cells #[.iface tk vk] 20))
    have HBLd := Aside0.mk (Below.alloc HBLa.out (Nat.le_trans H0.out (Nat.le_of_lt (blk_lt BKa.out))) (.cells #[.iface tk vk] 20))
    have HX1d : Aside0 (((wy.alloc (.cells #[.iface tx vx] 20)).alloc (.cells #[.iface tk vk] 20)).heap[wy.heap.size + 1]? = some (.cells #[.iface tk vk] 20 (0, 0))) := ⟨by have h := blk_new (wy.alloc (.cells #[.iface tx vx] 20)) (.cells #[.iface tk vk] 20); rw [show (wy.alloc (.cells #[.iface tx vx] 20)).heap.size = wy.heap.size + 1 from Array.size_push _] at h; exact h⟩
    have HX2d := Aside0.mk (blk_alloc HX2a.out (.cells #[.iface tk vk] 20))
    refine hK.out _ _ ⟨(blk_cell BKd.out 2).trans rfl, (blk_cell BKd.out 3).trans rfl, (blk_cell K1d.out 0).trans rfl, (blk_cell K2d.out 0).trans rfl⟩ (fun hHeld => ?_)
    clear hK K
    refine norm_ (a' := ?_) ?_ ?_
    rotate_left
    ·show Act.put _ (some 46) _ = _
     simp only [Act.put, List.setIfInBounds_toArray, List.set_cons_zero, List.set_cons_succ, i64_w, i32_w]
     rfl
    refine one_ (i := 9) (N := some 47) #[true, true, true, true, true, true, true, true, true, true, true, true, true, true, true, true, true, false, false, false, false, false, false, false] rfl rfl (one_of HT_.out (by kernel_rfl)) (by decide) (fun K hK => ?_)
    refine R_append_at kU (w0 := w) base (by rfl) (.tmp 43) (.tmp 46) 44 20 .nilIface 16 rfl Tryd.underlying44 info20 rfl (by decide) (by decide) (.slice A n c) us (.iface tk vk) ⟨wy.heap.size + 1, 0, none⟩ [.iface tk vk] (fun j => j ≠ b) (fun _ => False) rfl rfl ?a5C ⟨rfl, rfl⟩ (fun _ hk => hk.elim) ?a5F ?a5O ?a5B ?a5S ?a5L ?_
    (case a5C => intro j_ u_ hu_; cases j_ with
     | zero => simp at hu_; subst hu_; exact (blk_cell HX1d.out 0).trans rfl
     | succ j_ => simp at hu_)
    (case a5F => exact (fun k_ hk => by have := blk_lt BKd.out; omega))
    (case a5O => exact HRKd.out)
    (case a5B => exact HBLd.out)
    (case a5S => exact Nat.le_trans H0.out (Nat.le_of_lt (blk_lt BKd.out)))
    (case a5L => have := H1.out; have := H2.out; omega)
    intro v1 w1 ho hb hg hat
    have HRK1 := Aside0.mk ho
    have HBL1 := Aside0.mk hb
    have BK1 := Aside0.mk (blk_grown BKd.out hg (Kd.R_away HRKd.out (fun _ hk => hk)))
    have K11 := Aside0.mk (blk_grown K1d.out hg (Kd.R_ne HRKd.out K1d.out (by decide)))
    have K21 := Aside0.mk (blk_grown K2d.out hg (Kd.R_ne HRKd.out K2d.out (by decide)))
    have KT1 := Aside0.mk (fun (i : Nat) (cells : Array Value) h => blk_grown (KTd.out i cells h) hg (Kd.R_ne HRKd.out (KTd.out i cells h) (by decide)))
    have HRV1 := Aside0.mk (Kd.R_after HRVd.out hg hat)
    have HX21 := Aside0.mk (blk_grown HX2d.out hg (Kd.fresh_ok HRK0.out _ (Nat.le_refl _)))
    clear ho hb hg hat
    obtain ⟨A1, c1, e1⟩ := Kd.R_slice HRK1.out
    subst e1
    refine hK.out _ _ ⟨(blk_cell BK1.out 2).trans rfl, (blk_cell BK1.out 3).trans rfl, (blk_cell K11.out 0).trans rfl, (blk_cell K21.out 0).trans rfl⟩ (fun hHeld => ?_)
    clear hK K
    refine norm_ (a' := ?_) ?_ ?_
    rotate_left
    ·show Act.put _ (some 47) _ = _
     simp only [Act.put, List.setIfInBounds_toArray, List.set_cons_zero, List.set_cons_succ, i64_w, i32_w]
     rfl
    refine one_ (i := 17) (N := some 55) #[true, true, true, true, true, true, true, true, true, true, true, true, true, true, true, true, true, true, false, false, false, false, false, false] rfl rfl (one_of HT_.out (by kernel_rfl)) (by decide) (fun K hK => ?_)
    refine R_append_at kU (w0 := w) base (by rfl) (.tmp 51) (.tmp 54) 44 20 .nilIface 16 rfl Tryd.underlying44 info20 rfl (by decide) (by decide) (.slice A' n c') xs (.iface tx vx) ⟨wy.heap.size, 0, none⟩ [.iface tx vx] (fun j => j ≠ b ∧ some j ≠ (Value.slice A1 (us ++ [Value.iface tk vk]).length c1).ownBlock) (fun _ => False) rfl rfl ?a6C ⟨rfl, rfl⟩ (fun _ hk => hk.elim) ?a6F ?a6O ?a6B ?a6S ?a6L ?_
    (case a6C => intro j_ u_ hu_; cases j_ with
     | zero => simp at hu_; subst hu_; exact (blk_cell HX21.out 0).trans rfl
     | succ j_ => simp at hu_)
    (case a6F => exact (fun k_ hk => ⟨by have := blk_lt BK1.out; omega, Kd.fresh_ok HRK1.out k_ hk⟩))
    (case a6O => exact HRV1.out)
    (case a6B => exact HBL1.out)
    (case a6S => exact Nat.le_trans H0.out (Nat.le_of_lt (blk_lt BK1.out)))
    (case a6L => have := H1.out; have := H2.out; omega)
    intro v2 w2 ho hb hg hat
    have HRV2 := Aside0.mk ho
    have HBL2 := Aside0.mk hb
    have BK2 := Aside0.mk (blk_grown BK1.out hg (Kd.R_away HRV1.out (fun _ hk => hk.1)))
    have K12 := Aside0.mk (blk_grown K11.out hg (Kd.R_ne HRV1.out K11.out (by decide)))
    have K22 := Aside0.mk (blk_grown K21.out hg (Kd.R_ne HRV1.out K21.out (by decide)))
    have KT2 := Aside0.mk (fun (i : Nat) (cells : Array Value) h => blk_grown (KT1.out i cells h) hg (Kd.R_ne HRV1.out (KT1.out i cells h) (by decide)))
    have HRK2 := Aside0.mk (kU_grown HRK1.out hg (fun k_ hk e_ => (HRV1.out.1 k_ e_.symm).2 hk.symm))
    clear ho hb hg hat
    obtain ⟨A2, c2, e2⟩ := Kd.R_slice HRV2.out
    subst e2
    refine hK.out _ _ ⟨(blk_cell BK2.out 2).trans rfl, (blk_cell BK2.out 3).trans rfl, (blk_cell K12.out 0).trans rfl, (blk_cell K22.out 0).trans rfl⟩ (fun hHeld => ?_)
    clear hK K
    refine norm_ (a' := ?_) ?_ ?_
    rotate_left
    ·show Act.put _ (some 55) _ = _
     simp only [Act.put, List.setIfInBounds_toArray, List.set_cons_zero, List.set_cons_succ, i64_w, i32_w]
     rfl
    refine pure_ (i := 18) (N := some 56) (v := ?_) (a' := ?_) #[true, true, true, true, true, true, true, true, true, true, true, true, true, true, true, true, true, true, true, false, false, false, false, false] rfl rfl (any_of HT_.out (by kernel_rfl)) (fun _ _ _ h => h) (Or.inl ⟨by rfl, ?_⟩) ?_ ?_
    rotate_left
    ·intro w_
     go_simp
     with_reducible rfl
    rotate_left
    ·simp only [Act.put, List.setIfInBounds_toArray, List.set_cons_zero, List.set_cons_succ, i64_w, i32_w]
     rfl
    refine pure_ (i := 19) (N := some 57) (v := ?_) (a' := ?_) #[true, true, true, true, true, true, true, true, true, true, true, true, true, true, true, true, true, true, true, true, false, false, false, false] rfl rfl (any_of HT_.out (by kernel_rfl)) (fun _ _ _ h => h) (Or.inl ⟨by rfl, ?_⟩) ?_ ?_
    rotate_left
    ·intro w_
     go_simp
     with_reducible rfl
    rotate_left
    ·simp only [Act.put, List.setIfInBounds_toArray, List.set_cons_zero, List.set_cons_succ, i64_w, i32_w]
     rfl
    have hs27 := (blk_cell BK2.out 2).trans rfl
    have hfs27 := blk_frozen BK2.out 2
    have hs28 := (blk_cell BK2.out 3).trans rfl
    have hfs28 := blk_frozen BK2.out 3
    refine last_ (i := 20) (N := none) #[true, true, true, true, true, true, true, true, true, true, true, true, true, true, true, true, true, true, true, true, true, false, false, false] rfl rfl (one_of HT_.out (by kernel_rfl)) (by decide) (fun K hK => ?_)
    refine skip_ (w1 := ?_) (by rfl) rfl ?_ ?_
    rotate_left
    ·go_simp
     rfl
    refine hK.out _ _ ?_
    clear hK K
    refine pure_ (i := 21) (N := some 58) (v := ?_) (a' := ?_) #[true, true, true, true, true, true, true, true, true, true, true, true, true, true, true, true, true, true, true, true, true, true, false, false] rfl rfl (any_of HT_.out (by kernel_rfl)) (fun _ _ _ h => h) (Or.inl ⟨by rfl, ?_⟩) ?_ ?_
    rotate_left
    ·intro w_
     go_simp
     with_reducible rfl
    rotate_left
    ·simp only [Act.put, List.setIfInBounds_toArray, List.set_cons_zero, List.set_cons_succ, i64_w, i32_w]
     rfl
    refine pure_ (i := 22) (N := some 59) (v := ?_) (a' := ?_) #[true, true, true, true, true, true, true, true, true, true, true, true, true, true, true, true, true, true, true, true, true, true, true, false] rfl rfl (any_of HT_.out (by kernel_rfl)) (fun _ _ _ h => h) (Or.inl ⟨by rfl, ?_⟩) ?_ ?_
    rotate_left
    ·intro w_
     go_simp
     with_reducible rfl
    rotate_left
    ·simp only [Act.put, List.setIfInBounds_toArray, List.set_cons_zero, List.set_cons_succ, i64_w, i32_w]
     rfl
    refine last_ (i := 23) (N := none) #[true, true, true, true, true, true, true, true, true, true, true, true, true, true, true, true, true, true, true, true, true, true, true, true] rfl rfl (one_of HT_.out (by kernel_rfl)) (by decide) (fun K hK => ?_)
    refine skip_ (w1 := ?_) (by rfl) rfl ?_ ?_
    rotate_left
    ·go_simp
     rfl
    refine hK.out _ _ ?_
    clear hK K
    refine done_ (done_of HT_.out (by kernel_rfl)) ?_
    go_wp2
    have hq := Dct.add (us := us ++ [Value.iface tk vk]) (xs := xs ++ [Value.iface tx vx]) H0.out (m := n + 1) (by rw [List.length_append, H1.out]; rfl) (by rw [List.length_append, H2.out]; rfl) (fun u hu => (List.mem_append.1 hu).elim (H3.out u) (fun h => ⟨tk, vk, c0, List.mem_singleton.1 h, HK.out, hkc⟩)) BK2.out HRK2.out HRV2.out
    have hkt := (fun (i : Nat) (cells : Array Value) h => blk_far (p := ⟨b, 3, none⟩) (blk_far (p := ⟨b, 2, none⟩) (KT2.out i cells h) (blk_ne (KT2.out i cells h) BK2.out (by decide)) (.slice A1 (us ++ [Value.iface tk vk]).length c1)) (blk_ne (KT2.out i cells h) BK2.out (by decide)) (.slice A2 (xs ++ [Value.iface tx vx]).length c2))
    have hbb := bset (j := 3) (v := .slice A2 (xs ++ [Value.iface tx vx]).length c2) (bset (j := 2) (v := .slice A1 (us ++ [Value.iface tk vk]).length c1) HBL2.out H0.out) H0.out
    rw [show (us ++ [Value.iface tk vk]).length = us.length + 1 from by simp, show (xs ++ [Value.iface tx vx]).length = xs.length + 1 from by simp] at hq hbb hkt
    go_end0
    exact ⟨rfl, ⟨n + 1, Nat.le_refl _, hq⟩, hbb, hkt⟩
end Go.Proofs.YtoaehanfknjngaaDoor.Dm
