import Derived.Test.YtoaehanfknjngaaDoorDm
namespace Go.Proofs.YtoaehanfknjngaaDoor.Di
set_option linter.unusedVariables false
set_option linter.unusedSimpArgs false
open Go.RowKit Go.Proofs.YtoaehanfknjngaaDoor.Ext Go.Proofs.YtoaehanfknjngaaDoor.L Go.Proofs.YtoaehanfknjngaaDoorW.PrintWords Go.Proofs.YtoaehanfknjngaaDoorW.PrintLast Go.Proofs.YtoaehanfknjngaaDoorW.PrintMore
open Go.Proofs.YtoaehanfknjngaaDoor.Com Go.Proofs.YtoaehanfknjngaaDoor.Tree Go.Proofs.YtoaehanfknjngaaDoor.Sg Go.Proofs.YtoaehanfknjngaaDoor.Dt Go.Proofs.YtoaehanfknjngaaDoor.Bx Go.Proofs.YtoaehanfknjngaaDoor.Zt Go.Proofs.YtoaehanfknjngaaDoor.Gs Go.Proofs.YtoaehanfknjngaaDoor.Gt Go.Proofs.YtoaehanfknjngaaDoor.So Go.Proofs.YtoaehanfknjngaaDoor.Dm

/-- What a call of doorIn comes to. -/
def IPost (g : List UInt8) (w : World) (e : Ending) (w' : World) : Prop := ∃ (t : TypeId) (u : Value), e = .returned (.iface t u) ∧ Bx w' w.heap.size (fun _ => True) (.iface t u) g ∧ Below w.heap.size w w'

theorem frombits (n : Int) (W : World) : (callFunc 46 #[.int .u64 n]).run Tryd.prog W = .ok (.value (.float .f64 n.toNat)) W := by kernel_rfl

set_option maxHeartbeats 1000000 in
set_option maxRecDepth 100000 in
theorem di_y (n : Int) (s : ByteArray) (A : Option Addr) (m c : Nat) (w : World) : Calls Tryd.prog 28 #[.agg #[.int .u8 121, .int .u64 n, .string s, .slice A m c]] w (IPost [121] w) := by
 go_enter Tryd.func28, Tryd.ntmps28
 go_wp2
 go_ret
 exact ⟨_, _, rfl, .leaf 5 _ _ (Leaf.y _), below_alloc (Below.refl _ _) _⟩
set_option maxHeartbeats 1000000 in
set_option maxRecDepth 100000 in
theorem di_b (n : Int) (s : ByteArray) (A : Option Addr) (m c : Nat) (w : World) : Calls Tryd.prog 28 #[.agg #[.int .u8 98, .int .u64 n, .string s, .slice A m c]] w (IPost [98] w) := by
 go_enter Tryd.func28, Tryd.ntmps28
 go_wp2
 go_ret
 exact ⟨_, _, rfl, .leaf 4 _ _ (Leaf.b _), below_alloc (Below.refl _ _) _⟩
set_option maxHeartbeats 1000000 in
set_option maxRecDepth 100000 in
theorem di_n (n : Int) (s : ByteArray) (A : Option Addr) (m c : Nat) (w : World) : Calls Tryd.prog 28 #[.agg #[.int .u8 110, .int .u64 n, .string s, .slice A m c]] w (IPost [110] w) := by
 go_enter Tryd.func28, Tryd.ntmps28
 go_wp2
 go_ret
 exact ⟨_, _, rfl, .leaf 65 _ _ (Leaf.n _), below_alloc (Below.refl _ _) _⟩
set_option maxHeartbeats 1000000 in
set_option maxRecDepth 100000 in
theorem di_q (n : Int) (s : ByteArray) (A : Option Addr) (m c : Nat) (w : World) : Calls Tryd.prog 28 #[.agg #[.int .u8 113, .int .u64 n, .string s, .slice A m c]] w (IPost [113] w) := by
 go_enter Tryd.func28, Tryd.ntmps28
 go_wp2
 go_ret
 exact ⟨_, _, rfl, .leaf 83 _ _ (Leaf.q _), below_alloc (Below.refl _ _) _⟩
set_option maxHeartbeats 1000000 in
set_option maxRecDepth 100000 in
theorem di_i (n : Int) (s : ByteArray) (A : Option Addr) (m c : Nat) (w : World) : Calls Tryd.prog 28 #[.agg #[.int .u8 105, .int .u64 n, .string s, .slice A m c]] w (IPost [105] w) := by
 go_enter Tryd.func28, Tryd.ntmps28
 go_wp2
 go_ret
 exact ⟨_, _, rfl, .leaf 21 _ _ (Leaf.i _), below_alloc (Below.refl _ _) _⟩
set_option maxHeartbeats 1000000 in
set_option maxRecDepth 100000 in
theorem di_u (n : Int) (s : ByteArray) (A : Option Addr) (m c : Nat) (w : World) : Calls Tryd.prog 28 #[.agg #[.int .u8 117, .int .u64 n, .string s, .slice A m c]] w (IPost [117] w) := by
 go_enter Tryd.func28, Tryd.ntmps28
 go_wp2
 go_ret
 exact ⟨_, _, rfl, .leaf 84 _ _ (Leaf.u _), below_alloc (Below.refl _ _) _⟩
set_option maxHeartbeats 1000000 in
set_option maxRecDepth 100000 in
theorem di_x (n : Int) (s : ByteArray) (A : Option Addr) (m c : Nat) (w : World) : Calls Tryd.prog 28 #[.agg #[.int .u8 120, .int .u64 n, .string s, .slice A m c]] w (IPost [120] w) := by
 go_enter Tryd.func28, Tryd.ntmps28
 go_wp2
 go_ret
 exact ⟨_, _, rfl, .leaf 2 _ _ (Leaf.x _), below_alloc (Below.refl _ _) _⟩
set_option maxHeartbeats 1000000 in
set_option maxRecDepth 100000 in
theorem di_t (n : Int) (s : ByteArray) (A : Option Addr) (m c : Nat) (w : World) : Calls Tryd.prog 28 #[.agg #[.int .u8 116, .int .u64 n, .string s, .slice A m c]] w (IPost [116] w) := by
 go_enter Tryd.func28, Tryd.ntmps28
 go_wp2
 go_ret
 exact ⟨_, _, rfl, .leaf 28 _ _ (Leaf.t _), below_alloc (Below.refl _ _) _⟩
set_option maxHeartbeats 1000000 in
set_option maxRecDepth 100000 in
theorem di_d (n : Int) (s : ByteArray) (A : Option Addr) (m c : Nat) (w : World) : Calls Tryd.prog 28 #[.agg #[.int .u8 100, .int .u64 n, .string s, .slice A m c]] w (IPost [100] w) := by
 have hd := frombits n
 go_enter Tryd.func28, Tryd.ntmps28
 go_wp2
 go_ret
 exact ⟨_, _, rfl, .leaf 85 _ _ (Leaf.d _), below_alloc (Below.refl _ _) _⟩
set_option maxHeartbeats 1000000 in
set_option maxRecDepth 100000 in
theorem di_s (n : Int) (s : ByteArray) (A : Option Addr) (m c : Nat) (w : World) : Calls Tryd.prog 28 #[.agg #[.int .u8 115, .int .u64 n, .string s, .slice A m c]] w (IPost [115] w) := by
 go_enter Tryd.func28, Tryd.ntmps28
 go_wp2
 go_ret
 exact ⟨_, _, rfl, .leaf 9 _ _ (Leaf.s _), below_alloc (Below.refl _ _) _⟩
set_option maxHeartbeats 1000000 in
set_option maxRecDepth 100000 in
theorem di_o (n : Int) (s : ByteArray) (A : Option Addr) (m c : Nat) (w : World) : Calls Tryd.prog 28 #[.agg #[.int .u8 111, .int .u64 n, .string s, .slice A m c]] w (IPost [111] w) := by
 go_enter Tryd.func28, Tryd.ntmps28
 go_wp2
 go_ret
 exact ⟨_, _, rfl, .leaf 86 _ _ (Leaf.o _), below_alloc (Below.refl _ _) _⟩
set_option maxHeartbeats 1000000 in
set_option maxRecDepth 100000 in
theorem di_g (n : Int) (s : ByteArray) (A : Option Addr) (m c : Nat) (w : World) : Calls Tryd.prog 28 #[.agg #[.int .u8 103, .int .u64 n, .string s, .slice A m c]] w (IPost [103] w) := by
 go_enter Tryd.func28, Tryd.ntmps28
 go_wp2
 go_ret
 exact ⟨_, _, rfl, .leaf 42 _ _ (Leaf.g _), below_alloc (Below.refl _ _) _⟩
set_option maxHeartbeats 1000000 in
set_option maxRecDepth 100000 in
theorem di_h (n : Int) (s : ByteArray) (A : Option Addr) (m c : Nat) (w : World) : Calls Tryd.prog 28 #[.agg #[.int .u8 104, .int .u64 n, .string s, .slice A m c]] w (IPost [104] w) := by
 go_enter Tryd.func28, Tryd.ntmps28
 go_wp2
 go_ret
 exact ⟨_, _, rfl, .leaf 90 _ _ (Leaf.h _), below_alloc (Below.refl _ _) _⟩

/-- doorIn's contract at a value of a type. -/
def DI (v : S47) (t : T) : Prop := ∀ (A : Option Addr) (c : Nat) (w : World), k47.C w A v.f3.length v.f3 → Calls Tryd.prog 28 #[.agg #[.int .u8 v.f0, .int .u64 v.f1, .string v.f2, .slice A v.f3.length c]] w (IPost (gt t) w)
theorem DI.go {v : S47} {t : T} (h : DI v t) (A : Option Addr) (c : Nat) (w : World) (hC : k47.C w A v.f3.length v.f3) : Calls Tryd.prog 28 #[.agg #[.int .u8 v.f0, .int .u64 v.f1, .string v.f2, .slice A v.f3.length c]] w (IPost (gt t) w) := h A c w hC
theorem di_leaf (v : S47) (c : UInt8) (h0 : v.f0 = (c.toNat : Int)) (ho : basic c = true) : DI v (.b c) := by
 intro A m w _
 rw [h0]
 simp only [basic, Bool.or_eq_true, beq_iff_eq] at ho
 rcases ho with (((((((((((h | h) | h) | h) | h) | h) | h) | h) | h) | h) | h) | h) | h
 ·subst h; exact di_y v.f1 v.f2 A v.f3.length m w
 ·subst h; exact di_b v.f1 v.f2 A v.f3.length m w
 ·subst h; exact di_n v.f1 v.f2 A v.f3.length m w
 ·subst h; exact di_q v.f1 v.f2 A v.f3.length m w
 ·subst h; exact di_i v.f1 v.f2 A v.f3.length m w
 ·subst h; exact di_u v.f1 v.f2 A v.f3.length m w
 ·subst h; exact di_x v.f1 v.f2 A v.f3.length m w
 ·subst h; exact di_t v.f1 v.f2 A v.f3.length m w
 ·subst h; exact di_d v.f1 v.f2 A v.f3.length m w
 ·subst h; exact di_s v.f1 v.f2 A v.f3.length m w
 ·subst h; exact di_o v.f1 v.f2 A v.f3.length m w
 ·subst h; exact di_g v.f1 v.f2 A v.f3.length m w
 ·subst h; exact di_h v.f1 v.f2 A v.f3.length m w

theorem addr_zero (a : Addr) : a.add 0 = a := by simp [Addr.add]
theorem at_kid {w : World} {A : Option Addr} {xs : List S47} (h : k47.C w A xs.length xs) (j : Nat) (hj : j < xs.length) : ∃ ad A3 c3, A = some ad ∧ w.cell? (ad.add (j * 4)) = some (.int .u8 (xs[j]'hj).f0) ∧ w.cell? ⟨(ad.add (j * 4)).block, (ad.add (j * 4)).off + 1, none⟩ = some (.int .u64 (xs[j]'hj).f1) ∧
  w.cell? ⟨(ad.add (j * 4)).block, (ad.add (j * 4)).off + 2, none⟩ = some (.string (xs[j]'hj).f2) ∧ w.cell? ⟨(ad.add (j * 4)).block, (ad.add (j * 4)).off + 3, none⟩ = some (.slice A3 (xs[j]'hj).f3.length c3) ∧ (xs[j]'hj).f3.length ≤ c3 ∧ k47.C w A3 (xs[j]'hj).f3.length (xs[j]'hj).f3 := by
 obtain ⟨ad, A3, c3, e, h0, h1, h2, h3, h4, h5⟩ := at_T47 h (j : Int) (by omega) (by omega)
 have e2 : rd_T47 xs (j : Int) = xs[j]'hj := by simp [rd_T47, hj]
 rw [e2] at h0 h1 h2 h3 h4 h5
 exact ⟨ad, A3, c3, e, h0, h1, h2, h3, h4, h5⟩

set_option maxHeartbeats 2000000 in
set_option maxRecDepth 100000 in
theorem di_var (v k : S47) (tk : T) (h0 : v.f0 = 118) (h3 : v.f3 = [k]) (hk : DI k tk) (hf : Fine tk) : DI v (.b 118) := by
 intro A m w hC
 rw [h0]
 have hj : 0 < v.f3.length := by rw [h3]; simp
 have hkk : v.f3[0]'hj = k := by simp [h3]
 obtain ⟨ad, A3, c3, rfl, hx0, hx1, hx2, hx3, hl, hi⟩ := at_kid hC 0 hj
 rw [hkk] at hx0 hx1 hx2 hx3 hl hi
 rw [Nat.zero_mul, addr_zero] at hx0 hx1 hx2 hx3
 have hbl : Below w.heap.size w (w.alloc (.cells #[.int .u8 118, .int .u64 v.f1, .string v.f2, .slice (some ad) 1 m] 47)) := below_alloc (Below.refl _ _) _
 replace hx0 := cell_of hx0 hbl
 replace hx1 := cell_of hx1 hbl
 replace hx2 := cell_of hx2 hbl
 replace hx3 := cell_of hx3 hbl
 have HI := Aside0.mk hi
 have HK := Aside0.mk hk
 have HF := Aside0.mk hf
 have hn : v.f3.length = 1 := by rw [h3]; rfl
 rw [hn]
 clear hC h0 h3 hkk hj hl hi hk hf hn hbl
 go_enter Tryd.func28, Tryd.ntmps28
 go_wp2_with (first
  | (go_at_call 28; ((with_reducible refine (DI.go HK.out _ _ _ (Kd.C_alloc HI.out _)).mono ?_); rintro e w2 ⟨t2, u2, rfl, hb2, hbe2⟩; have HB2 := Aside0.mk hb2; have HE2 := Aside0.mk (below_step (w := w) (below_alloc (Below.refl _ _) _) hbe2); clear hb2 hbe2))
  | (go_at_call 47; ((with_reducible refine (makeVariant _ HF.out _ _ HB2.out _ (Below.refl _ _)).mono ?_); rintro e w3 ⟨⟨s3, rfl⟩, hb3⟩; have HE3 := Aside0.mk (below_step HE2.out hb3); clear hb3)))
 go_ret
 exact ⟨_, _, rfl, .leaf 88 _ _ (.v _ _ _), HE3.out⟩
def T28_35 : Bool × List (List Nat × List Nat) := (true, [([], []), ([0], [0]), ([], []), ([2], [2]), ([3], [3]), ([1, 4, 3], [1, 4]), ([0, 1, 2, 3, 4, 5], []), ([6, 5, 5, 0, 1, 2, 3, 4, 5], [5, 6])])
def B28_35 : List Nat := [0, 1, 0, 4, 12, 31, 63, 127]
theorem tab28_35 : rtab .any (opsOf Tryd.f28 35) = T28_35 := by kernel_rfl
theorem bits28_35 : waitsOk T28_35.2 B28_35 = true := by kernel_rfl

theorem gts_ls : ∀ ts : Ts, gts ts = ((ls ts).map gt).flatten
 | .nil => rfl
 | .more t ts => by simp only [gts, ls, List.map_cons, List.flatten_cons, gts_ls ts]

set_option maxHeartbeats 8000000 in
set_option maxRecDepth 100000 in
theorem di_rcd (v : S47) (ts : Ts) (h0 : v.f0 = 40) (hl : v.f3.length = (ls ts).length) (hn : v.f3.length ≤ 400) (ih : ∀ (j : Nat) (h1 : j < v.f3.length) (h2 : j < (ls ts).length), DI (v.f3[j]'h1) ((ls ts)[j]'h2)) : DI v (.s ts) := by
 intro A m w hC
 rw [h0]
 have HC := Aside0.mk hC
 have IH := Aside0.mk ih
 have HL := Aside0.mk hl
 obtain ⟨n, hn1⟩ : ∃ n, n = v.f3.length := ⟨_, rfl⟩
 have HNL : Aside0 (n = v.f3.length ∧ n ≤ 400) := ⟨hn1, by omega⟩
 rw [← hn1]
 have hn2 : n ≤ 400 := by omega
 clear hC h0 ih hl hn hn1
 go_enter Tryd.func28, Tryd.ntmps28
 go_wp2
 go_loopw [104, 5] (fun v104 _ wr => ∃ (j : Nat) (vv : Value), v104 = .int .i64 j ∧ j ≤ n ∧ Aside0 (kA.R 20 wr w.heap.size (fun k_ => k_ ≠ w.heap.size + 1) vv (((ls ts).take j).map gt)) ∧ Aside0 (wr.heap[w.heap.size + 1]? = some (.cells #[vv] 100 (0, 0))) ∧ Aside0 (Below w.heap.size w wr)) (fun v104 _ _ => n - (intOf v104).toNat)
 case atStart =>
  have hz : (w.alloc (.cells #[.int .u8 40, .int .u64 v.f1, .string v.f2, .slice A n m] 47)).heap.size = w.heap.size + 1 := Array.size_push _
  exact ⟨0, _, rfl, Nat.zero_le _, ⟨Kd.R_nil _ _ _ _ _⟩, ⟨by rw [← hz]; exact blk_new _ _⟩, ⟨by repeat (first | exact Below.refl _ _ | apply below_alloc)⟩⟩
 case round =>
  obtain ⟨j, vv, rfl, hj, HR, BG, HB⟩ := hrel
  obtain ⟨A0, c0, hvv⟩ := Kd.R_slice HR.out
  obtain ⟨n0, hn0⟩ : ∃ n0, n0 = (((ls ts).take j).map gt).length := ⟨_, rfl⟩
  rw [← hn0] at hvv
  subst hvv
  have hcg := (blk_cell BG.out 0).trans rfl
  by_cases hjl : j < n
  ·have hju : j < v.f3.length := by have := HNL.out.1; omega
   have hjt : j < (ls ts).length := by have := HL.out; omega
   obtain ⟨ad, A3, c3, rfl, hx0, hx1, hx2, hx3, hl3, hi3⟩ := at_kid HC.out j hju
   obtain ⟨kj, hkj⟩ : ∃ k, k = v.f3[j]'hju := ⟨_, rfl⟩
   obtain ⟨tj, htj⟩ : ∃ t, t = (ls ts)[j]'hjt := ⟨_, rfl⟩
   have IHJ : Aside0 (DI kj tj) := ⟨by rw [hkj, htj]; exact IH.out j hju hjt⟩
   rw [← hkj] at hx0 hx1 hx2 hx3 hl3 hi3
   replace hx0 := cell_of hx0 HB.out
   replace hx1 := cell_of hx1 HB.out
   replace hx2 := cell_of hx2 HB.out
   replace hx3 := cell_of hx3 HB.out
   have HCW := Aside0.mk (Kd.C_below hi3 HB.out)
   have HTK : Aside0 (((ls ts).take (j + 1)).map gt = ((ls ts).take j).map gt ++ [gt tj]) := ⟨by rw [List.take_succ_eq_append_getElem hjt, ← htj, List.map_append]; rfl⟩
   have HJL := Aside0.mk hjl
   have p1 : ((0 : Int) ≤ (j : Int)) = True := eq_true (by omega)
   have q1 : ((j : Int) < (n : Int)) = True := eq_true (by omega)
   have q2 : (j < n) = True := eq_true hjl
   clear hju hjt hkj htj hi3 hl3 hjl hn0 hcg
   go_wp2
   have BG0 := Aside0.mk (blk_drew (blk_alloc BG.out (.cells #[.int .u8 kj.f0, .int .u64 kj.f1, .string kj.f2, .slice A3 kj.f3.length c3] 47)))
   have BK0 := Aside0.mk (blk_drew (blk_new wr (.cells #[.int .u8 kj.f0, .int .u64 kj.f1, .string kj.f2, .slice A3 kj.f3.length c3] 47)))
   have HR0 := Aside0.mk (Kd.R_drew (Kd.R_alloc HR.out (.cells #[.int .u8 kj.f0, .int .u64 kj.f1, .string kj.f2, .slice A3 kj.f3.length c3] 47)))
   have HB0 := Aside0.mk (below_drew1 (below_alloc HB.out (.cells #[.int .u8 kj.f0, .int .u64 kj.f1, .string kj.f2, .slice A3 kj.f3.length c3] 47)))
   have HC0 := Aside0.mk (Kd.C_drew (Kd.C_alloc HCW.out (.cells #[.int .u8 kj.f0, .int .u64 kj.f1, .string kj.f2, .slice A3 kj.f3.length c3] 47)))
   refine start_ (n := 8) (S := fun w' => w'.cell? ⟨w.heap.size + 1, 0, none⟩ = some (.slice A0 n0 c0) ∧ w'.cell? ⟨wr.heap.size, 0, none⟩ = some (.int .u8 kj.f0) ∧ w'.cell? ⟨wr.heap.size, 1, none⟩ = some (.int .u64 kj.f1) ∧ w'.cell? ⟨wr.heap.size, 2, none⟩ = some (.string kj.f2) ∧ w'.cell? ⟨wr.heap.size, 3, none⟩ = some (.slice A3 kj.f3.length c3)) (ds := [7]) #[false, false, false, false, false, false, false, false] (by kernel_rfl) rfl rfl ⟨(blk_cell BG0.out 0).trans rfl, (blk_cell BK0.out 0).trans rfl, (blk_cell BK0.out 1).trans rfl, (blk_cell BK0.out 2).trans rfl, (blk_cell BK0.out 3).trans rfl⟩ (fun hHeld => ?_); refine with_tabW tab28_35 bits28_35 (fun HT_ HW_ => ?_)
   generalize (wr.alloc (.cells #[.int .u8 kj.f0, .int .u64 kj.f1, .string kj.f2, .slice A3 kj.f3.length c3] 47)).drew = wy at BG0 BK0 HR0 HB0 HC0 hHeld ⊢
   refine pure_ (i := 0) (N := some 108) (v := ?_) (a' := ?_) #[true, false, false, false, false, false, false, false] rfl rfl (any_of HT_.out (by kernel_rfl)) (fun _ _ _ h => h) (Or.inl ⟨by rfl, ?_⟩) ?_ ?_
   rotate_left
   ·intro w_
    go_simp
    with_reducible rfl
   rotate_left
   ·simp only [Act.put, List.setIfInBounds_toArray, List.set_cons_zero, List.set_cons_succ, i64_w, i32_w]
    rfl
   refine take_ (i := 1) (N := some 109) (v := ?_) (a' := ?_) #[true, true, false, false, false, false, false, false] rfl rfl (take_ofW HT_.out HW_.out (by kernel_rfl)) (fun _ _ _ h => h) (Or.inl ⟨by rfl, ?_⟩) hHeld ?_ ?_
   rotate_left
   ·rintro w_ ⟨s0, s1, s2, s3, s4⟩
    go_simp
    with_reducible rfl
   rotate_left
   ·simp only [Act.put, List.setIfInBounds_toArray, List.set_cons_zero, List.set_cons_succ, i64_w, i32_w]
    rfl
   refine take_ (i := 2) (N := some 110) (v := ?_) (a' := ?_) #[true, true, true, false, false, false, false, false] rfl rfl (take_ofW HT_.out HW_.out (by kernel_rfl)) (fun _ _ _ h => h) (Or.inl ⟨by rfl, ?_⟩) hHeld ?_ ?_
   rotate_left
   ·rintro w_ ⟨s0, s1, s2, s3, s4⟩
    go_simp
    with_reducible rfl
   rotate_left
   ·simp only [Act.put, List.setIfInBounds_toArray, List.set_cons_zero, List.set_cons_succ, i64_w, i32_w]
    rfl
   refine one_ (i := 3) (N := some 111) #[true, true, true, true, false, false, false, false] rfl rfl (one_of HT_.out (by kernel_rfl)) (by decide) (fun K hK => ?_)
   refine goes_ Tryd.func28 (by kernel_rfl) rfl #[.agg #[.int .u8 kj.f0, .int .u64 kj.f1, .string kj.f2, .slice A3 kj.f3.length c3]] (by rfl) rfl rfl (by (try simp only [List.map_toArray, List.map_cons, List.map_nil]); first | done | rfl) ?_
   with_reducible refine (DI.go IHJ.out A3 c3 _ HC0.out).mono ?_
   rintro e w3 ⟨t2, u2, rfl, hb2, hbe2⟩
   have HX := Aside0.mk ((Bx.bound hb2).lower (show w.heap.size ≤ wy.heap.size from HB0.out.size))
   have BG1 := Aside0.mk (blk_below BG0.out hbe2)
   have BK1 := Aside0.mk (blk_below BK0.out hbe2)
   have HR1 := Aside0.mk (Kd.R_below HR0.out hbe2)
   have HB1 := Aside0.mk (below_step HB0.out hbe2)
   clear hb2 hbe2
   refine ⟨_, rfl, ?_⟩
   refine hK.out _ _ ⟨(blk_cell BG1.out 0).trans rfl, (blk_cell BK1.out 0).trans rfl, (blk_cell BK1.out 1).trans rfl, (blk_cell BK1.out 2).trans rfl, (blk_cell BK1.out 3).trans rfl⟩ (fun hHeld => ?_)
   clear hK K
   refine norm_ (a' := ?_) ?_ ?_
   rotate_left
   ·show Act.put _ (some 111) _ = _
    simp only [Act.put, List.setIfInBounds_toArray, List.set_cons_zero, List.set_cons_succ, i64_w, i32_w]
    rfl
   refine one_ (i := 4) (N := some 112) #[true, true, true, true, true, false, false, false] rfl rfl (one_of HT_.out (by kernel_rfl)) (by decide) (fun K hK => ?_)
   refine value_ (w1 := ?_) (v := ?_) (by rfl) rfl ?_ ?_
   rotate_left 2
   ·go_simp
    constructor
    ·rfl
    ·rfl
   have BG2 := Aside0.mk (blk_alloc BG1.out (.cells #[.iface t2 u2] 20))
   have BK2 := Aside0.mk (blk_alloc BK1.out (.cells #[.iface t2 u2] 20))
   have HR2 := Aside0.mk (Kd.R_alloc HR1.out (.cells #[.iface t2 u2] 20))
   have HB2 := Aside0.mk (below_alloc HB1.out (.cells #[.iface t2 u2] 20))
   have HX2 := Aside0.mk (HX.out.keep (below_alloc (Below.refl _ _) (.cells #[.iface t2 u2] 20)))
   have BX2 := Aside0.mk (blk_new w3 (.cells #[.iface t2 u2] 20))
   refine hK.out _ _ ⟨(blk_cell BG2.out 0).trans rfl, (blk_cell BK2.out 0).trans rfl, (blk_cell BK2.out 1).trans rfl, (blk_cell BK2.out 2).trans rfl, (blk_cell BK2.out 3).trans rfl⟩ (fun hHeld => ?_)
   clear hK K
   refine norm_ (a' := ?_) ?_ ?_
   rotate_left
   ·show Act.put _ (some 112) _ = _
    simp only [Act.put, List.setIfInBounds_toArray, List.set_cons_zero, List.set_cons_succ, i64_w, i32_w]
    rfl
   refine one_ (i := 5) (N := some 113) #[true, true, true, true, true, true, false, false] rfl rfl (one_of HT_.out (by kernel_rfl)) (by decide) (fun K hK => ?_)
   refine R_append_at kA (w0 := w) w.heap.size (by rfl) (.tmp 109) (.tmp 112) 44 20 .nilIface 16 rfl Tryd.underlying44 info20 rfl (by decide) (by decide) (.slice A0 n0 c0) (((ls ts).take j).map gt) (gt tj) ⟨w3.heap.size, 0, none⟩ [.iface t2 u2] (fun k_ => k_ ≠ w.heap.size + 1) _ rfl rfl ?aC ⟨_, rfl, HX2.out⟩ ?aG ?aF HR2.out HB2.out HB2.out.size ?aL ?_
   (case aC => intro j_ u_ hu_; cases j_ with
    | zero => simp at hu_; subst hu_; exact (blk_cell BX2.out 0).trans rfl
    | succ j_ => simp at hu_)
   (case aG => exact (fun k_ hk => ⟨by have := blk_lt BG0.out; have := hk.2.1; omega, Kd.fresh_ok HR0.out k_ hk.2.1⟩))
   (case aF => exact (fun k_ hk => by have := blk_lt BG2.out; omega))
   (case aL => have := HNL.out; rw [List.length_map, List.length_take]; omega)
   intro v1 w4 ho hb hg hat
   have HR3 := Aside0.mk ho
   have HB3 := Aside0.mk hb
   have BG3 := Aside0.mk (blk_grown BG2.out hg (Kd.R_away HR2.out (fun _ hk => hk)))
   have BK3 := Aside0.mk (blk_grown BK2.out hg (Kd.R_ne HR2.out BK2.out (by decide)))
   clear ho hb hg hat
   obtain ⟨A1, c1, e1⟩ := Kd.R_slice HR3.out
   subst e1
   refine hK.out _ _ ⟨(blk_cell BG3.out 0).trans rfl, (blk_cell BK3.out 0).trans rfl, (blk_cell BK3.out 1).trans rfl, (blk_cell BK3.out 2).trans rfl, (blk_cell BK3.out 3).trans rfl⟩ (fun hHeld => ?_)
   clear hK K
   refine norm_ (a' := ?_) ?_ ?_
   rotate_left
   ·show Act.put _ (some 113) _ = _
    simp only [Act.put, List.setIfInBounds_toArray, List.set_cons_zero, List.set_cons_succ, i64_w, i32_w]
    rfl
   refine pure_ (i := 6) (N := some 114) (v := ?_) (a' := ?_) #[true, true, true, true, true, true, true, false] rfl rfl (any_of HT_.out (by kernel_rfl)) (fun _ _ _ h => h) (Or.inl ⟨by rfl, ?_⟩) ?_ ?_
   rotate_left
   ·intro w_
    go_simp
    with_reducible rfl
   rotate_left
   ·simp only [Act.put, List.setIfInBounds_toArray, List.set_cons_zero, List.set_cons_succ, i64_w, i32_w]
    rfl
   have hs27 := (blk_cell BG3.out 0).trans rfl
   have hfs27 := blk_frozen BG3.out 0
   refine last_ (i := 7) (N := none) #[true, true, true, true, true, true, true, true] rfl rfl (one_of HT_.out (by kernel_rfl)) (by decide) (fun K hK => ?_)
   refine skip_ (w1 := ?_) (by rfl) rfl ?_ ?_
   rotate_left
   ·go_simp
    rfl
   refine hK.out _ _ ?_
   clear hK K
   refine done_ (done_of HT_.out (by kernel_rfl)) ?_
   go_wp2
   have el : (((ls ts).take j).map gt ++ [gt tj]).length = min j (ls ts).length + 1 := by simp
   have HR4 := HR3.out
   have BG4 := blk_set BG3.out 0 (.slice A1 (min j (ls ts).length + 1) c1)
   rw [el] at HR4
   refine ⟨⟨j + 1, .slice A1 (min j (ls ts).length + 1) c1, by go_num, by have := HJL.out; omega, ⟨?_⟩, ⟨BG4⟩, ⟨below_set HB3.out (Nat.le_succ _)⟩⟩, by have := HJL.out; simp [intOf]; omega⟩
   rw [HTK.out]
   exact Kd.R_far (p := ⟨w.heap.size + 1, 0, none⟩) HR4 (fun _ hk => hk) _
  ·obtain rfl : n = j := by omega
   have hgg : (((ls ts).take n).map gt) = (ls ts).map gt := by rw [List.take_of_length_le (by have := HL.out; have := HNL.out.1; omega)]
   have HRF := Aside0.mk HR.out
   rw [hgg] at HRF
   have hb0 : wr.cell? ⟨w.heap.size + 1, 0, none⟩ = some (.slice A0 n0 c0) := hcg
   clear hgg hcg hn0
   go_wp2
   go_ret
   refine ⟨100, _, rfl, ?_, HB.out⟩
   show Bx wr w.heap.size (fun _ => True) _ (40 :: (gts ts ++ [41]))
   rw [gts_ls]
   exact rcd_of (Kd.R_mono HRF.out (fun _ _ => trivial))
def T28_51 : Bool × List (List Nat × List Nat) := (true, [([], []), ([], []), ([1], [1]), ([2], [2]), ([3], [3]), ([], []), ([5], [5]), ([6], [6]), ([4, 7, 6], [4, 7]), ([0, 0, 1, 2, 3, 4, 5, 6, 7, 8], [0]), ([9, 0, 1, 2, 3, 4, 5, 6, 7, 8], [9]), ([10, 8, 8, 0, 1, 2, 3, 4, 5, 6, 7, 8], [8, 10])])
def B28_51 : List Nat := [0, 0, 2, 6, 14, 0, 32, 96, 254, 511, 1023, 2047]
theorem tab28_51 : rtab .any (opsOf Tryd.f28 51) = T28_51 := by kernel_rfl
theorem bits28_51 : waitsOk T28_51.2 B28_51 = true := by kernel_rfl

set_option maxHeartbeats 8000000 in
set_option maxRecDepth 100000 in
theorem di_arr (v : S47) (t : T) (h0 : v.f0 = 97) (hB : B v.f2 = txt t) (ho : ok t = true) (hf : fits t 32 32 32 = true) (hs : v.f2.size ≤ 254) (hn : v.f3.length ≤ 400) (ih : ∀ (j : Nat) (h1 : j < v.f3.length), DI (v.f3[j]'h1) t) : DI v (.a t) := by
 intro A m w hC
 rw [h0]
 have HC := Aside0.mk hC
 have IH := Aside0.mk ih
 obtain ⟨c1_, l1, hh, hc1⟩ := txt_head t ho
 have hne := head_ne c1_ hc1
 have hB' : B v.f2 = c1_ :: l1 := hB.trans hh
 have hb0 := first_of hB'
 have hpos : 0 < v.f2.size := by have := size_pos hB'; omega
 have hx0 := first_byte v.f2 _ hb0
 have h123 : ((c1_.toNat : Int) == 123) = false := beq_eq_false_iff_ne.2 (by intro e; exact hne.1 ((byte_eq c1_ 123 (by omega)).1 e))
 have n1 := ne_str (a := v.f2) (by omega)
 have n2 := ne_str2 (a := v.f2) (by omega)
 have HT := Aside0.mk (doorType t ho hf)
 have HBT := Aside0.mk hB
 have HSZ : Aside0 (v.f2.size ≤ 255) := ⟨by omega⟩
 obtain ⟨n, hn1⟩ : ∃ n, n = v.f3.length := ⟨_, rfl⟩
 have HNL : Aside0 (n = v.f3.length ∧ n ≤ 400) := ⟨hn1, by omega⟩
 rw [← hn1]
 have hn2 : n ≤ 400 := by omega
 clear hC h0 ih hn hn1 hB hB' hb0 ho hf hh hc1 hne
 go_enter Tryd.func28, Tryd.ntmps28
 go_wp2_with (first
  | (go_at_call 49; ((with_reducible refine (DT.go HT.out _ _ HBT.out HSZ.out).mono ?_); rintro e_ w2 ⟨r2, rfl, hr2, hb2⟩; have HR2 := Aside0.mk hr2; have HB2 := Aside0.mk (below_step (w := w) (below_alloc (Below.refl _ _) _) hb2); have HK2 := Aside0.mk (blk_below (blk_new w _) hb2); have hk3 := (blk_cell (blk_alloc HK2.out (.cells #[.string r2, .slice none 0 0] 94)) 3).trans rfl; clear hr2 hb2)))
 obtain ⟨gb, hgb⟩ : ∃ g, g = w2.heap.size := ⟨_, rfl⟩
 have HGB : Aside0 (gb = w2.heap.size ∧ w.heap.size ≤ gb) := ⟨hgb, by have := HB2.out.size; omega⟩
 rw [← hgb]
 clear hgb
 go_loopw [166, 11] (fun v166 _ wr => ∃ (j : Nat) (vv : Value) (xs : List Value), v166 = .int .i64 j ∧ j ≤ n ∧ Aside0 (xs.length = j) ∧ Aside0 (kU.R 20 wr w.heap.size (fun k_ => k_ ≠ gb) vv xs) ∧ Aside0 (wr.heap[gb]? = some (.cells #[.string r2, vv] 94 (0, 0))) ∧ Aside0 (Below w.heap.size w wr)) (fun v166 _ _ => n - (intOf v166).toNat)
 case atStart =>
  exact ⟨0, _, [], rfl, Nat.zero_le _, ⟨rfl⟩, ⟨Kd.R_nil _ _ _ _ _⟩, ⟨by rw [HGB.out.1]; exact blk_new _ _⟩, ⟨below_alloc HB2.out _⟩⟩
 case round =>
  obtain ⟨j, vv, xs, rfl, hj, HXL, HR, BG, HB⟩ := hrel
  obtain ⟨A0, c0, hvv⟩ := Kd.R_slice HR.out
  obtain ⟨n0, hn0⟩ : ∃ n0, n0 = xs.length := ⟨_, rfl⟩
  rw [← hn0] at hvv
  subst hvv
  have HBW := Aside0.mk (below_step HB.out (Below.refl _ _))
  by_cases hjl : j < n
  ·have hju : j < v.f3.length := by have := HNL.out.1; omega
   obtain ⟨ad, A3, c3, rfl, hx0', hx1, hx2, hx3, hl3, hi3⟩ := at_kid HC.out j hju
   obtain ⟨kj, hkj⟩ : ∃ k, k = v.f3[j]'hju := ⟨_, rfl⟩
   have IHJ : Aside0 (DI kj t) := ⟨by rw [hkj]; exact IH.out j hju⟩
   rw [← hkj] at hx0' hx1 hx2 hx3 hl3 hi3
   replace hx0' := cell_of hx0' HB.out
   replace hx1 := cell_of hx1 HB.out
   replace hx2 := cell_of hx2 HB.out
   replace hx3 := cell_of hx3 HB.out
   have HCW := Aside0.mk (Kd.C_below hi3 HB.out)
   have HJL := Aside0.mk hjl
   have p1 : ((0 : Int) ≤ (j : Int)) = True := eq_true (by omega)
   have q1 : ((j : Int) < (n : Int)) = True := eq_true (by omega)
   have q2 : (j < n) = True := eq_true hjl
   clear hju hkj hi3 hl3 hjl hn0
   go_wp2
   have BG0 := Aside0.mk (blk_drew (blk_alloc BG.out (.cells #[.int .u8 kj.f0, .int .u64 kj.f1, .string kj.f2, .slice A3 kj.f3.length c3] 47)))
   have BK0 := Aside0.mk (blk_drew (blk_new wr (.cells #[.int .u8 kj.f0, .int .u64 kj.f1, .string kj.f2, .slice A3 kj.f3.length c3] 47)))
   have HR0 := Aside0.mk (Kd.R_drew (Kd.R_alloc HR.out (.cells #[.int .u8 kj.f0, .int .u64 kj.f1, .string kj.f2, .slice A3 kj.f3.length c3] 47)))
   have HB0 := Aside0.mk (below_drew1 (below_alloc HB.out (.cells #[.int .u8 kj.f0, .int .u64 kj.f1, .string kj.f2, .slice A3 kj.f3.length c3] 47)))
   have HC0 := Aside0.mk (Kd.C_drew (Kd.C_alloc HCW.out (.cells #[.int .u8 kj.f0, .int .u64 kj.f1, .string kj.f2, .slice A3 kj.f3.length c3] 47)))
   refine start_ (n := 12) (S := fun w' => w'.cell? ⟨gb, 1, none⟩ = some (.slice A0 n0 c0) ∧ w'.cell? ⟨wr.heap.size, 0, none⟩ = some (.int .u8 kj.f0) ∧ w'.cell? ⟨wr.heap.size, 1, none⟩ = some (.int .u64 kj.f1) ∧ w'.cell? ⟨wr.heap.size, 2, none⟩ = some (.string kj.f2) ∧ w'.cell? ⟨wr.heap.size, 3, none⟩ = some (.slice A3 kj.f3.length c3)) (ds := [11]) #[false, false, false, false, false, false, false, false, false, false, false, false] (by kernel_rfl) rfl rfl ⟨(blk_cell BG0.out 1).trans rfl, (blk_cell BK0.out 0).trans rfl, (blk_cell BK0.out 1).trans rfl, (blk_cell BK0.out 2).trans rfl, (blk_cell BK0.out 3).trans rfl⟩ (fun hHeld => ?_); refine with_tabW tab28_51 bits28_51 (fun HT_ HW_ => ?_)
   generalize (wr.alloc (.cells #[.int .u8 kj.f0, .int .u64 kj.f1, .string kj.f2, .slice A3 kj.f3.length c3] 47)).drew = wy at BG0 BK0 HR0 HB0 HC0 hHeld ⊢
   refine pure_ (i := 0) (N := some 170) (v := ?_) (a' := ?_) #[true, false, false, false, false, false, false, false, false, false, false, false] rfl rfl (any_of HT_.out (by kernel_rfl)) (fun _ _ _ h => h) (Or.inl ⟨by rfl, ?_⟩) ?_ ?_
   rotate_left
   ·intro w_
    go_simp
    with_reducible rfl
   rotate_left
   ·simp only [Act.put, List.setIfInBounds_toArray, List.set_cons_zero, List.set_cons_succ, i64_w, i32_w]
    rfl
   refine pure_ (i := 1) (N := some 171) (v := ?_) (a' := ?_) #[true, true, false, false, false, false, false, false, false, false, false, false] rfl rfl (any_of HT_.out (by kernel_rfl)) (fun _ _ _ h => h) (Or.inl ⟨by rfl, ?_⟩) ?_ ?_
   rotate_left
   ·intro w_
    go_simp
    with_reducible rfl
   rotate_left
   ·simp only [Act.put, List.setIfInBounds_toArray, List.set_cons_zero, List.set_cons_succ, i64_w, i32_w]
    rfl
   refine pure_ (i := 2) (N := some 172) (v := ?_) (a' := ?_) #[true, true, true, false, false, false, false, false, false, false, false, false] rfl rfl (any_of HT_.out (by kernel_rfl)) (fun _ _ _ h => h) (Or.inl ⟨by rfl, ?_⟩) ?_ ?_
   rotate_left
   ·intro w_
    go_simp
    with_reducible rfl
   rotate_left
   ·simp only [Act.put, List.setIfInBounds_toArray, List.set_cons_zero, List.set_cons_succ, i64_w, i32_w]
    rfl
   refine pure_ (i := 3) (N := some 173) (v := ?_) (a' := ?_) #[true, true, true, true, false, false, false, false, false, false, false, false] rfl rfl (any_of HT_.out (by kernel_rfl)) (fun _ _ _ h => h) (Or.inl ⟨by rfl, ?_⟩) ?_ ?_
   rotate_left
   ·intro w_
    go_simp
    with_reducible rfl
   rotate_left
   ·simp only [Act.put, List.setIfInBounds_toArray, List.set_cons_zero, List.set_cons_succ, i64_w, i32_w]
    rfl
   refine take_ (i := 4) (N := some 174) (v := ?_) (a' := ?_) #[true, true, true, true, true, false, false, false, false, false, false, false] rfl rfl (take_ofW HT_.out HW_.out (by kernel_rfl)) (fun _ _ _ h => h) (Or.inl ⟨by rfl, ?_⟩) hHeld ?_ ?_
   rotate_left
   ·rintro w_ ⟨s0, s1, s2, s3, s4⟩
    go_simp
    with_reducible rfl
   rotate_left
   ·simp only [Act.put, List.setIfInBounds_toArray, List.set_cons_zero, List.set_cons_succ, i64_w, i32_w]
    rfl
   refine take_ (i := 5) (N := some 175) (v := ?_) (a' := ?_) #[true, true, true, true, true, true, false, false, false, false, false, false] rfl rfl (take_ofW HT_.out HW_.out (by kernel_rfl)) (fun _ _ _ h => h) (Or.inl ⟨by rfl, ?_⟩) hHeld ?_ ?_
   rotate_left
   ·rintro w_ ⟨s0, s1, s2, s3, s4⟩
    go_simp
    with_reducible rfl
   rotate_left
   ·simp only [Act.put, List.setIfInBounds_toArray, List.set_cons_zero, List.set_cons_succ, i64_w, i32_w]
    rfl
   refine one_ (i := 6) (N := some 176) #[true, true, true, true, true, true, true, false, false, false, false, false] rfl rfl (one_of HT_.out (by kernel_rfl)) (by decide) (fun K hK => ?_)
   refine goes_ Tryd.func28 (by kernel_rfl) rfl #[.agg #[.int .u8 kj.f0, .int .u64 kj.f1, .string kj.f2, .slice A3 kj.f3.length c3]] (by rfl) rfl rfl (by (try simp only [List.map_toArray, List.map_cons, List.map_nil]); first | done | rfl) ?_
   with_reducible refine (DI.go IHJ.out A3 c3 _ HC0.out).mono ?_
   rintro e_ w3 ⟨t2, u2, rfl, hb2, hbe2⟩
   have BG1 := Aside0.mk (blk_below BG0.out hbe2)
   have BK1 := Aside0.mk (blk_below BK0.out hbe2)
   have HR1 := Aside0.mk (Kd.R_below HR0.out hbe2)
   have HB1 := Aside0.mk (below_step HB0.out hbe2)
   clear hb2 hbe2
   refine ⟨_, rfl, ?_⟩
   refine hK.out _ _ ⟨(blk_cell BG1.out 1).trans rfl, (blk_cell BK1.out 0).trans rfl, (blk_cell BK1.out 1).trans rfl, (blk_cell BK1.out 2).trans rfl, (blk_cell BK1.out 3).trans rfl⟩ (fun hHeld => ?_)
   clear hK K
   refine norm_ (a' := ?_) ?_ ?_
   rotate_left
   ·show Act.put _ (some 176) _ = _
    simp only [Act.put, List.setIfInBounds_toArray, List.set_cons_zero, List.set_cons_succ, i64_w, i32_w]
    rfl
   refine one_ (i := 7) (N := some 177) #[true, true, true, true, true, true, true, true, false, false, false, false] rfl rfl (one_of HT_.out (by kernel_rfl)) (by decide) (fun K hK => ?_)
   refine value_ (w1 := ?_) (v := ?_) (by rfl) rfl ?_ ?_
   rotate_left 2
   ·go_simp
    constructor
    ·rfl
    ·rfl
   have BG2 := Aside0.mk (blk_alloc BG1.out (.cells #[.iface t2 u2] 20))
   have BK2 := Aside0.mk (blk_alloc BK1.out (.cells #[.iface t2 u2] 20))
   have HR2 := Aside0.mk (Kd.R_alloc HR1.out (.cells #[.iface t2 u2] 20))
   have HB2 := Aside0.mk (below_alloc HB1.out (.cells #[.iface t2 u2] 20))
   have BX2 := Aside0.mk (blk_new w3 (.cells #[.iface t2 u2] 20))
   refine hK.out _ _ ⟨(blk_cell BG2.out 1).trans rfl, (blk_cell BK2.out 0).trans rfl, (blk_cell BK2.out 1).trans rfl, (blk_cell BK2.out 2).trans rfl, (blk_cell BK2.out 3).trans rfl⟩ (fun hHeld => ?_)
   clear hK K
   refine norm_ (a' := ?_) ?_ ?_
   rotate_left
   ·show Act.put _ (some 177) _ = _
    simp only [Act.put, List.setIfInBounds_toArray, List.set_cons_zero, List.set_cons_succ, i64_w, i32_w]
    rfl
   refine one_ (i := 8) (N := some 178) #[true, true, true, true, true, true, true, true, true, false, false, false] rfl rfl (one_of HT_.out (by kernel_rfl)) (by decide) (fun K hK => ?_)
   refine R_append_at kU (w0 := w) w.heap.size (by rfl) (.tmp 174) (.tmp 177) 44 20 .nilIface 16 rfl Tryd.underlying44 info20 rfl (by decide) (by decide) (.slice A0 n0 c0) xs (.iface t2 u2) ⟨w3.heap.size, 0, none⟩ [.iface t2 u2] (fun k_ => k_ ≠ gb) (fun _ => False) rfl rfl ?aC ⟨rfl, rfl⟩ (fun _ hk => hk.elim) ?aF HR2.out HB2.out HB2.out.size ?aL ?_
   (case aC => intro j_ u_ hu_; cases j_ with
    | zero => simp at hu_; subst hu_; exact (blk_cell BX2.out 0).trans rfl
    | succ j_ => simp at hu_)
   (case aF => exact (fun k_ hk => by have := blk_lt BG2.out; omega))
   (case aL => have := HNL.out; have := HXL.out; omega)
   intro v1 w4 ho hb hg hat
   have HR3 := Aside0.mk ho
   have HB3 := Aside0.mk hb
   have BG3 := Aside0.mk (blk_grown BG2.out hg (Kd.R_away HR2.out (fun _ hk => hk)))
   have BK3 := Aside0.mk (blk_grown BK2.out hg (Kd.R_ne HR2.out BK2.out (by decide)))
   clear ho hb hg hat
   obtain ⟨A1, c1, e1⟩ := Kd.R_slice HR3.out
   subst e1
   refine hK.out _ _ ⟨(blk_cell BG3.out 1).trans rfl, (blk_cell BK3.out 0).trans rfl, (blk_cell BK3.out 1).trans rfl, (blk_cell BK3.out 2).trans rfl, (blk_cell BK3.out 3).trans rfl⟩ (fun hHeld => ?_)
   clear hK K
   refine norm_ (a' := ?_) ?_ ?_
   rotate_left
   ·show Act.put _ (some 178) _ = _
    simp only [Act.put, List.setIfInBounds_toArray, List.set_cons_zero, List.set_cons_succ, i64_w, i32_w]
    rfl
   refine pure_ (i := 9) (N := some 179) (v := ?_) (a' := ?_) #[true, true, true, true, true, true, true, true, true, true, false, false] rfl rfl (any_of HT_.out (by kernel_rfl)) (fun _ _ _ h => h) (Or.inl ⟨by rfl, ?_⟩) ?_ ?_
   rotate_left
   ·intro w_
    go_simp
    with_reducible rfl
   rotate_left
   ·simp only [Act.put, List.setIfInBounds_toArray, List.set_cons_zero, List.set_cons_succ, i64_w, i32_w]
    rfl
   refine pure_ (i := 10) (N := some 180) (v := ?_) (a' := ?_) #[true, true, true, true, true, true, true, true, true, true, true, false] rfl rfl (any_of HT_.out (by kernel_rfl)) (fun _ _ _ h => h) (Or.inl ⟨by rfl, ?_⟩) ?_ ?_
   rotate_left
   ·intro w_
    go_simp
    with_reducible rfl
   rotate_left
   ·simp only [Act.put, List.setIfInBounds_toArray, List.set_cons_zero, List.set_cons_succ, i64_w, i32_w]
    rfl
   have hs27 := (blk_cell BG3.out 1).trans rfl
   have hfs27 := blk_frozen BG3.out 1
   refine last_ (i := 11) (N := none) #[true, true, true, true, true, true, true, true, true, true, true, true] rfl rfl (one_of HT_.out (by kernel_rfl)) (by decide) (fun K hK => ?_)
   refine skip_ (w1 := ?_) (by rfl) rfl ?_ ?_
   rotate_left
   ·go_simp
    rfl
   refine hK.out _ _ ?_
   clear hK K
   refine done_ (done_of HT_.out (by kernel_rfl)) ?_
   go_wp2
   have el : (xs ++ [Value.iface t2 u2]).length = xs.length + 1 := by simp
   have HR4 := HR3.out
   have BG4 := blk_set BG3.out 1 (.slice A1 (xs.length + 1) c1)
   rw [el] at HR4
   refine ⟨⟨j + 1, .slice A1 (xs.length + 1) c1, xs ++ [.iface t2 u2], by go_num, by have := HJL.out; omega, ⟨by rw [el, HXL.out]⟩, ⟨?_⟩, ⟨BG4⟩, ⟨below_set HB3.out HGB.out.2⟩⟩, by have := HJL.out; simp [intOf]; omega⟩
   exact Kd.R_far (p := ⟨gb, 1, none⟩) HR4 (fun _ hk => hk) _
  ·obtain rfl : n = j := by omega
   clear hn0
   go_wp2
   go_ret
   refine ⟨91, _, rfl, ?_, HB.out⟩
   show Bx wr w.heap.size (fun _ => True) _ (91 :: gt t)
   rw [← HR2.out]
   exact .list gb r2 _ trivial HGB.out.2 BG.out
def T28_44 : Bool × List (List Nat × List Nat) := (true, [([], []), ([], []), ([1], [1]), ([2], [2]), ([3], [3]), ([4], [4]), ([5, 5], [5]), ([], []), ([7], [7]), ([8], [8]), ([9], [9]), ([10, 6], [10]), ([11, 11], [11]), ([0, 6, 12, 12], [0, 6, 12])])
def B28_44 : List Nat := [0, 0, 2, 6, 14, 30, 62, 0, 128, 384, 896, 2046, 4094, 8191]
theorem tab28_44 : rtab .any (opsOf Tryd.f28 44) = T28_44 := by kernel_rfl
theorem bits28_44 : waitsOk T28_44.2 B28_44 = true := by kernel_rfl

theorem leaf_of {W : World} {base : Nat} {ok : Nat → Prop} {t : TypeId} {u : Value} {k : UInt8} (h : Bx W base ok (.iface t u) [k]) (hk : basic k = true) : Leaf t u k := by
 generalize hg : [k] = g at h
 cases h with
 | leaf t v c h => injection hg with hg _; subst hg; exact h
 | list b e k' h1 h2 h3 => injection hg with hg _; subst hg; exact absurd hk (by decide)
 | dict b k' e ks vs h1 h2 h3 => injection hg with hg _; subst hg; exact absurd hk (by decide)
 | rcd v us gs h1 h2 h3 h4 => injection hg with hg _; subst hg; exact absurd hk (by decide)
/-- A value's cells. -/
def Kid (w : World) (a : Addr) (k : S47) (A : Option Addr) (c : Nat) : Prop := w.cell? a = some (.int .u8 k.f0) ∧ w.cell? ⟨a.block, a.off + 1, none⟩ = some (.int .u64 k.f1) ∧ w.cell? ⟨a.block, a.off + 2, none⟩ = some (.string k.f2) ∧ w.cell? ⟨a.block, a.off + 3, none⟩ = some (.slice A k.f3.length c)
theorem Kid.below {w W : World} {a : Addr} {k : S47} {A : Option Addr} {c : Nat} (h : Kid w a k A c) (hb : Below w.heap.size w W) : Kid W a k A c := ⟨cell_of h.1 hb, cell_of h.2.1 hb, cell_of h.2.2.1 hb, cell_of h.2.2.2 hb⟩
def KidB (w : World) (b o : Nat) (k : S47) (A : Option Addr) (c : Nat) : Prop := w.cell? ⟨b, o, none⟩ = some (.int .u8 k.f0) ∧ w.cell? ⟨b, o + 1, none⟩ = some (.int .u64 k.f1) ∧ w.cell? ⟨b, o + 2, none⟩ = some (.string k.f2) ∧ w.cell? ⟨b, o + 3, none⟩ = some (.slice A k.f3.length c)
theorem KidB.below {w W : World} {b o : Nat} {k : S47} {A : Option Addr} {c : Nat} (h : KidB w b o k A c) (hb : Below w.heap.size w W) : KidB W b o k A c := ⟨cell_of h.1 hb, cell_of h.2.1 hb, cell_of h.2.2.1 hb, cell_of h.2.2.2 hb⟩
theorem Dct.lower {W : World} {base base' b : Nat} {k e : ByteArray} {n : Nat} (h : Dct W base b k e n) (hb : base' ≤ base) : Dct W base' b k e n := by
 obtain ⟨h0, vk, vv, us, xs, h1, h2, h3, h4, h5, h6⟩ := h
 exact ⟨by omega, vk, vv, us, xs, h1, h2, h3, h4, Kd.R_lower h5 hb, Kd.R_lower h6 hb⟩

set_option maxHeartbeats 8000000 in
set_option maxRecDepth 100000 in
theorem di_dict (v : S47) (k : UInt8) (t : T) (h0 : v.f0 = 97) (hB : B v.f2 = 123 :: k :: (txt t ++ [125])) (ho : ok (.d k t) = true) (hkg : k ≠ 103) (hf : fits (.d k t) 32 32 32 = true) (hs : v.f2.size ≤ 254) (hn : v.f3.length ≤ 400)
  (ih : ∀ (j : Nat) (h1 : j < v.f3.length), ∃ ka va, (v.f3[j]'h1).f3 = [ka, va] ∧ DI ka (.b k) ∧ DI va t) : DI v (.d k t) := by
 intro A m w hC
 rw [h0]
 have HC := Aside0.mk hC
 have IH := Aside0.mk ih
 have hb0 := first_of hB
 have hpos : 0 < v.f2.size := by have := size_pos hB; omega
 have hx0 := first_byte v.f2 _ hb0
 have n1 := ne_str (a := v.f2) (by omega)
 have n2 := ne_str2 (a := v.f2) (by omega)
 have hkb : basic k = true := by simp [ok] at ho; exact ho.1
 have HKB := Aside0.mk hkb
 have HK1L : Aside0 ((gt (.b k)).length ≤ 300) := ⟨by simp [gt]⟩
 have HKG : Aside0 (k ≠ 103 ∧ k ≠ 118) := ⟨hkg, (basic_ne k hkb).1⟩
 have HT := Aside0.mk (doorType (.d k t) ho hf)
 have HBT : Aside0 (B ((⟨#[97]⟩ : ByteArray) ++ v.f2) = txt (.d k t)) := ⟨by rw [B_append, hB]; rfl⟩
 have HSZ : Aside0 (((⟨#[97]⟩ : ByteArray) ++ v.f2).size ≤ 255) := ⟨by rw [ByteArray.size_append]; show 1 + v.f2.size ≤ 255; omega⟩
 have HGL : Aside0 ((gt t).length ≤ 300) := ⟨by have h1 := gt_len t; have h2 := congrArg List.length hB; rw [B_length] at h2; simp only [List.length_cons, List.length_append, List.length_nil] at h2; omega⟩
 obtain ⟨n, hn1⟩ : ∃ n, n = v.f3.length := ⟨_, rfl⟩
 have HNL : Aside0 (n = v.f3.length ∧ n ≤ 400) := ⟨hn1, by omega⟩
 rw [← hn1]
 have hn2 : n ≤ 400 := by omega
 clear hC h0 ih hn hn1 hB hb0 ho hf hkb hkg
 go_enter Tryd.func28, Tryd.ntmps28
 go_wp2_with (first
  | (go_at_call 49; ((with_reducible refine (DT.go HT.out _ _ HBT.out HSZ.out).mono ?_); rintro e_ w2 ⟨s, rfl, hr2, hb2⟩; have HS2 := Aside0.mk (show B s = 123 :: k :: gt t from hr2); have HB2 := Aside0.mk (below_step (w := w) (below_alloc (Below.refl _ _) _) hb2); have HK2 := Aside0.mk (blk_below (blk_new w _) hb2); clear hr2 hb2))
  | (go_at_call 48; ((with_reducible refine (makeMap s k (gt t) HS2.out _).mono ?_); rintro e_ w3 ⟨⟨b, kk, ee, rfl, hkk, hee, hd⟩, hb3⟩; have HKK := Aside0.mk hkk; have HEE := Aside0.mk hee; have HD3 := Aside0.mk (Dct.lower hd HB2.out.size); have HB3 := Aside0.mk (below_step HB2.out hb3); have HK3 := Aside0.mk (blk_below HK2.out hb3); have hk3 := (blk_cell (blk_alloc HK3.out (.cells #[.iface 95 (.pointer (some ⟨b, 0, none⟩)), .string s] 104)) 3).trans rfl; clear hkk hee hd hb3)))
 obtain ⟨gm, hgm⟩ : ∃ g, g = w3.heap.size := ⟨_, rfl⟩
 have HGM := Aside0.mk hgm
 rw [← hgm]
 clear hgm hk3
 go_loopw [137, 8] (fun v137 _ wr => ∃ (j m' : Nat), v137 = .int .i64 j ∧ j ≤ n ∧ Aside0 (m' ≤ j) ∧ Aside0 (Dct wr w.heap.size b kk ee m') ∧ Aside0 (wr.heap[gm]? = some (.cells #[.iface 95 (.pointer (some ⟨b, 0, none⟩)), .string s] 104 (0, 0))) ∧ Aside0 (Below w.heap.size w wr)) (fun v137 _ _ => n - (intOf v137).toNat)
 case atStart =>
  exact ⟨0, 0, rfl, Nat.zero_le _, ⟨Nat.le_refl _⟩, ⟨Dct.below HD3.out (below_alloc (Below.refl _ _) _)⟩, ⟨by rw [HGM.out]; exact blk_new _ _⟩, ⟨below_alloc HB3.out _⟩⟩
 case round =>
  obtain ⟨j, m', rfl, hj, HML, HD, BG, HB⟩ := hrel
  by_cases hjl : j < n
  ·have hju : j < v.f3.length := by have := HNL.out.1; omega
   obtain ⟨ad, A3, c3, rfl, hx0', hx1, hx2, hx3, hl3, hi3⟩ := at_kid HC.out j hju
   obtain ⟨ej, hej⟩ : ∃ k, k = v.f3[j]'hju := ⟨_, rfl⟩
   obtain ⟨ka, va, hkv, hik, hiv⟩ := IH.out j hju
   rw [← hej] at hx0' hx1 hx2 hx3 hl3 hi3 hkv
   have h2 : ej.f3.length = 2 := by rw [hkv]; rfl
   obtain ⟨ae, Ak, ck, rfl, k0, k1, k2, k3, hlk, hck⟩ := at_kid hi3 0 (by omega)
   obtain ⟨ae', Av, cv, hae, q0, q1, q2, q3, hlv, hcv⟩ := at_kid hi3 1 (by omega)
   injection hae with hae
   subst hae
   have e0 : ej.f3[0]'(by omega) = ka := by simp [hkv]
   have e1 : ej.f3[1]'(by omega) = va := by simp [hkv]
   rw [e0, Nat.zero_mul, addr_zero] at k0 k1 k2 k3
   rw [e0] at hlk hck
   rw [e1, Nat.one_mul, show ae.add 4 = ⟨ae.block, ae.off + 4, none⟩ from by simp [Addr.add]] at q0 q1 q2 q3
   rw [e1] at hlv hcv
   have KA := Aside0.mk (Kid.below ⟨k0, k1, k2, k3⟩ HB.out)
   have KV := Aside0.mk (KidB.below ⟨q0, q1, q2, q3⟩ HB.out)
   have HCK := Aside0.mk (Kd.C_below hck HB.out)
   have HCV := Aside0.mk (Kd.C_below hcv HB.out)
   have IHK := Aside0.mk hik
   have IHV := Aside0.mk hiv
   obtain ⟨ce, hce⟩ : ∃ ce, ce = c3 := ⟨_, rfl⟩
   rw [h2, ← hce] at hx3
   rw [h2] at hl3
   replace hx0' := cell_of hx0' HB.out
   replace hx1 := cell_of hx1 HB.out
   replace hx2 := cell_of hx2 HB.out
   replace hx3 := cell_of hx3 HB.out
   have HJL := Aside0.mk hjl
   have p1 : ((0 : Int) ≤ (j : Int)) = True := eq_true (by omega)
   have q1_ : ((j : Int) < (n : Int)) = True := eq_true (by omega)
   have q2_ : (j < n) = True := eq_true hjl
   clear hju hej hi3 hl3 hjl hkv h2 k0 k1 k2 k3 q0 q1 q2 q3 hlk hck hlv hcv e0 e1 hik hiv hce
   go_wp2
   have hbe0 : Below wr.heap.size wr (wr.alloc (.cells #[.int .u8 ej.f0, .int .u64 ej.f1, .string ej.f2, .slice (some ae) 2 ce] 47)).drew := below_drew1 (below_alloc (Below.refl _ _) _)
   have BE0 := Aside0.mk (blk_drew (blk_new wr (.cells #[.int .u8 ej.f0, .int .u64 ej.f1, .string ej.f2, .slice (some ae) 2 ce] 47)))
   have BG0 := Aside0.mk (blk_below BG.out hbe0)
   have KA0 := Aside0.mk (Kid.below KA.out hbe0)
   have KV0 := Aside0.mk (KidB.below KV.out hbe0)
   have HD0 := Aside0.mk (Dct.below HD.out hbe0)
   have HB0 := Aside0.mk (below_step HB.out hbe0)
   have HCK0 := Aside0.mk (Kd.C_below HCK.out hbe0)
   have HCV0 := Aside0.mk (Kd.C_below HCV.out hbe0)
   clear hbe0
   refine start_ (n := 14) (S := fun w' => w'.cell? ⟨gm, 0, none⟩ = some (.iface 95 (.pointer (some ⟨b, 0, none⟩))) ∧ w'.cell? ⟨gm, 1, none⟩ = some (.string s) ∧ w'.cell? ⟨wr.heap.size, 3, none⟩ = some (.slice (some ae) 2 ce) ∧ Kid w' ae ka Ak ck ∧ KidB w' ae.block (ae.off + 4) va Av cv) (ds := [13]) #[false, false, false, false, false, false, false, false, false, false, false, false, false, false] (by kernel_rfl) rfl rfl ⟨(blk_cell BG0.out 0).trans rfl, (blk_cell BG0.out 1).trans rfl, (blk_cell BE0.out 3).trans rfl, KA0.out, KV0.out⟩ (fun hHeld => ?_); refine with_tabW tab28_44 bits28_44 (fun HT_ HW_ => ?_)
   generalize (wr.alloc (.cells #[.int .u8 ej.f0, .int .u64 ej.f1, .string ej.f2, .slice (some ae) 2 ce] 47)).drew = wy at BG0 BE0 KA0 KV0 HD0 HB0 HCK0 HCV0 hHeld ⊢
   refine pure_ (i := 1) (N := some 142) (v := ?_) (a' := ?_) #[false, true, false, false, false, false, false, false, false, false, false, false, false, false] rfl rfl (any_of HT_.out (by kernel_rfl)) (fun _ _ _ h => h) (Or.inl ⟨by rfl, ?_⟩) ?_ ?_
   rotate_left
   ·intro w_
    go_simp
    with_reducible rfl
   rotate_left
   ·simp only [Act.put, List.setIfInBounds_toArray, List.set_cons_zero, List.set_cons_succ, i64_w, i32_w]
    rfl
   refine pure_ (i := 7) (N := some 148) (v := ?_) (a' := ?_) #[false, true, false, false, false, false, false, true, false, false, false, false, false, false] rfl rfl (any_of HT_.out (by kernel_rfl)) (fun _ _ _ h => h) (Or.inl ⟨by rfl, ?_⟩) ?_ ?_
   rotate_left
   ·intro w_
    go_simp
    with_reducible rfl
   rotate_left
   ·simp only [Act.put, List.setIfInBounds_toArray, List.set_cons_zero, List.set_cons_succ, i64_w, i32_w]
    rfl
   refine take_ (i := 0) (N := some 141) (v := ?_) (a' := ?_) #[true, true, false, false, false, false, false, true, false, false, false, false, false, false] rfl rfl (take_ofW HT_.out HW_.out (by kernel_rfl)) (fun _ _ _ h => h) (Or.inl ⟨by rfl, ?_⟩) hHeld ?_ ?_
   rotate_left
   ·rintro w_ ⟨s0, s1, s2, ⟨s3, s4, s5, s6⟩, ⟨s7, s8, s9, s10⟩⟩
    go_simp
    with_reducible rfl
   rotate_left
   ·simp only [Act.put, List.setIfInBounds_toArray, List.set_cons_zero, List.set_cons_succ, i64_w, i32_w]
    rfl
   refine take_ (i := 2) (N := some 143) (v := ?_) (a' := ?_) #[true, true, true, false, false, false, false, true, false, false, false, false, false, false] rfl rfl (take_ofW HT_.out HW_.out (by kernel_rfl)) (fun _ _ _ h => h) (Or.inl ⟨by rfl, ?_⟩) hHeld ?_ ?_
   rotate_left
   ·rintro w_ ⟨s0, s1, s2, ⟨s3, s4, s5, s6⟩, ⟨s7, s8, s9, s10⟩⟩
    go_simp
    with_reducible rfl
   rotate_left
   ·simp only [Act.put, List.setIfInBounds_toArray, List.set_cons_zero, List.set_cons_succ, i64_w, i32_w]
    rfl
   refine take_ (i := 8) (N := some 149) (v := ?_) (a' := ?_) #[true, true, true, false, false, false, false, true, true, false, false, false, false, false] rfl rfl (take_ofW HT_.out HW_.out (by kernel_rfl)) (fun _ _ _ h => h) (Or.inl ⟨by rfl, ?_⟩) hHeld ?_ ?_
   rotate_left
   ·rintro w_ ⟨s0, s1, s2, ⟨s3, s4, s5, s6⟩, ⟨s7, s8, s9, s10⟩⟩
    go_simp
    with_reducible rfl
   rotate_left
   ·simp only [Act.put, List.setIfInBounds_toArray, List.set_cons_zero, List.set_cons_succ, i64_w, i32_w]
    rfl
   refine pure_ (i := 3) (N := some 144) (v := ?_) (a' := ?_) #[true, true, true, true, false, false, false, true, true, false, false, false, false, false] rfl rfl (any_of HT_.out (by kernel_rfl)) (fun _ _ _ h => h) (Or.inl ⟨by rfl, ?_⟩) ?_ ?_
   rotate_left
   ·intro w_
    go_simp
    with_reducible rfl
   rotate_left
   ·simp only [Act.put, List.setIfInBounds_toArray, List.set_cons_zero, List.set_cons_succ, i64_w, i32_w]
    rfl
   refine pure_ (i := 9) (N := some 150) (v := ?_) (a' := ?_) #[true, true, true, true, false, false, false, true, true, true, false, false, false, false] rfl rfl (any_of HT_.out (by kernel_rfl)) (fun _ _ _ h => h) (Or.inl ⟨by rfl, ?_⟩) ?_ ?_
   rotate_left
   ·intro w_
    go_simp
    with_reducible rfl
   rotate_left
   ·simp only [Act.put, List.setIfInBounds_toArray, List.set_cons_zero, List.set_cons_succ, i64_w, i32_w]
    rfl
   refine take_ (i := 4) (N := some 145) (v := ?_) (a' := ?_) #[true, true, true, true, true, false, false, true, true, true, false, false, false, false] rfl rfl (take_ofW HT_.out HW_.out (by kernel_rfl)) (fun _ _ _ h => h) (Or.inl ⟨by rfl, ?_⟩) hHeld ?_ ?_
   rotate_left
   ·rintro w_ ⟨s0, s1, s2, ⟨s3, s4, s5, s6⟩, ⟨s7, s8, s9, s10⟩⟩
    go_simp
    with_reducible rfl
   rotate_left
   ·simp only [Act.put, List.setIfInBounds_toArray, List.set_cons_zero, List.set_cons_succ, i64_w, i32_w]
    rfl
   refine take_ (i := 10) (N := some 151) (v := ?_) (a' := ?_) #[true, true, true, true, true, false, false, true, true, true, true, false, false, false] rfl rfl (take_ofW HT_.out HW_.out (by kernel_rfl)) (fun _ _ _ h => h) (Or.inl ⟨by rfl, ?_⟩) hHeld ?_ ?_
   rotate_left
   ·rintro w_ ⟨s0, s1, s2, ⟨s3, s4, s5, s6⟩, ⟨s7, s8, s9, s10⟩⟩
    go_simp
    with_reducible rfl
   rotate_left
   ·simp only [Act.put, List.setIfInBounds_toArray, List.set_cons_zero, List.set_cons_succ, i64_w, i32_w]
    rfl
   refine one_ (i := 5) (N := some 146) #[true, true, true, true, true, true, false, true, true, true, true, false, false, false] rfl rfl (one_of HT_.out (by kernel_rfl)) (by decide) (fun K hK => ?_)
   refine goes_ Tryd.func28 (by kernel_rfl) rfl #[.agg #[.int .u8 ka.f0, .int .u64 ka.f1, .string ka.f2, .slice Ak ka.f3.length ck]] (by rfl) rfl rfl (by (try simp only [List.map_toArray, List.map_cons, List.map_nil]); first | done | rfl) ?_
   with_reducible refine (DI.go IHK.out Ak ck _ HCK0.out).mono ?_
   rintro e_ w3 ⟨t1, u1, rfl, hx1, hb1⟩
   have BG1 := Aside0.mk (blk_below BG0.out hb1)
   have BE1 := Aside0.mk (blk_below BE0.out hb1)
   have KA1 := Aside0.mk (Kid.below KA0.out hb1)
   have KV1 := Aside0.mk (KidB.below KV0.out hb1)
   have HD1 := Aside0.mk (Dct.below HD0.out hb1)
   have HB1 := Aside0.mk (below_step HB0.out hb1)
   have HCK1 := Aside0.mk (Kd.C_below HCK0.out hb1)
   have HCV1 := Aside0.mk (Kd.C_below HCV0.out hb1)
   have HX1 := Aside0.mk hx1
   have HLF := Aside0.mk (leaf_of hx1 HKB.out)
   clear hx1 hb1
   refine ⟨_, rfl, ?_⟩
   refine hK.out _ _ ⟨(blk_cell BG1.out 0).trans rfl, (blk_cell BG1.out 1).trans rfl, (blk_cell BE1.out 3).trans rfl, KA1.out, KV1.out⟩ (fun hHeld => ?_)
   clear hK K
   refine norm_ (a' := ?_) ?_ ?_
   rotate_left
   ·show Act.put _ (some 146) _ = _
    simp only [Act.put, List.setIfInBounds_toArray, List.set_cons_zero, List.set_cons_succ, i64_w, i32_w]
    rfl
   refine one_ (i := 6) (N := some 147) #[true, true, true, true, true, true, true, true, true, true, true, false, false, false] rfl rfl (one_of HT_.out (by kernel_rfl)) (by decide) (fun K hK => ?_)
   refine goes_ Tryd.func51 (by kernel_rfl) rfl #[.iface t1 u1] (by rfl) rfl rfl (by (try simp only [List.map_toArray, List.map_cons, List.map_nil]); first | done | rfl) ?_
   with_reducible refine (valueOf HX1.out HK1L.out _ (Below.refl _ _)).mono ?_
   rintro e_ w4 ⟨r1, rfl, hr1, hb1⟩
   have BG2 := Aside0.mk (blk_below BG1.out hb1)
   have BE2 := Aside0.mk (blk_below BE1.out hb1)
   have KA2 := Aside0.mk (Kid.below KA1.out hb1)
   have KV2 := Aside0.mk (KidB.below KV1.out hb1)
   have HD2 := Aside0.mk (Dct.below HD1.out hb1)
   have HB2 := Aside0.mk (below_step HB1.out hb1)
   have HCK2 := Aside0.mk (Kd.C_below HCK1.out hb1)
   have HCV2 := Aside0.mk (Kd.C_below HCV1.out hb1)
   clear hr1 hb1
   refine ⟨_, rfl, ?_⟩
   refine hK.out _ _ ⟨(blk_cell BG2.out 0).trans rfl, (blk_cell BG2.out 1).trans rfl, (blk_cell BE2.out 3).trans rfl, KA2.out, KV2.out⟩ (fun hHeld => ?_)
   clear hK K
   refine norm_ (a' := ?_) ?_ ?_
   rotate_left
   ·show Act.put _ (some 147) _ = _
    simp only [Act.put, List.setIfInBounds_toArray, List.set_cons_zero, List.set_cons_succ, i64_w, i32_w]
    rfl
   refine one_ (i := 11) (N := some 152) #[true, true, true, true, true, true, true, true, true, true, true, true, false, false] rfl rfl (one_of HT_.out (by kernel_rfl)) (by decide) (fun K hK => ?_)
   refine goes_ Tryd.func28 (by kernel_rfl) rfl #[.agg #[.int .u8 va.f0, .int .u64 va.f1, .string va.f2, .slice Av va.f3.length cv]] (by rfl) rfl rfl (by (try simp only [List.map_toArray, List.map_cons, List.map_nil]); first | done | rfl) ?_
   with_reducible refine (DI.go IHV.out Av cv _ HCV2.out).mono ?_
   rintro e_ w5 ⟨t2, u2, rfl, hx1, hb1⟩
   have BG3 := Aside0.mk (blk_below BG2.out hb1)
   have BE3 := Aside0.mk (blk_below BE2.out hb1)
   have KA3 := Aside0.mk (Kid.below KA2.out hb1)
   have KV3 := Aside0.mk (KidB.below KV2.out hb1)
   have HD3 := Aside0.mk (Dct.below HD2.out hb1)
   have HB3 := Aside0.mk (below_step HB2.out hb1)
   have HCK3 := Aside0.mk (Kd.C_below HCK2.out hb1)
   have HCV3 := Aside0.mk (Kd.C_below HCV2.out hb1)
   have HX3 := Aside0.mk hx1
   clear hx1 hb1
   refine ⟨_, rfl, ?_⟩
   refine hK.out _ _ ⟨(blk_cell BG3.out 0).trans rfl, (blk_cell BG3.out 1).trans rfl, (blk_cell BE3.out 3).trans rfl, KA3.out, KV3.out⟩ (fun hHeld => ?_)
   clear hK K
   refine norm_ (a' := ?_) ?_ ?_
   rotate_left
   ·show Act.put _ (some 152) _ = _
    simp only [Act.put, List.setIfInBounds_toArray, List.set_cons_zero, List.set_cons_succ, i64_w, i32_w]
    rfl
   refine one_ (i := 12) (N := some 153) #[true, true, true, true, true, true, true, true, true, true, true, true, true, false] rfl rfl (one_of HT_.out (by kernel_rfl)) (by decide) (fun K hK => ?_)
   refine goes_ Tryd.func51 (by kernel_rfl) rfl #[.iface t2 u2] (by rfl) rfl rfl (by (try simp only [List.map_toArray, List.map_cons, List.map_nil]); first | done | rfl) ?_
   with_reducible refine (valueOf HX3.out HGL.out _ (Below.refl _ _)).mono ?_
   rintro e_ w6 ⟨r2, rfl, hr1, hb1⟩
   have BG4 := Aside0.mk (blk_below BG3.out hb1)
   have BE4 := Aside0.mk (blk_below BE3.out hb1)
   have KA4 := Aside0.mk (Kid.below KA3.out hb1)
   have KV4 := Aside0.mk (KidB.below KV3.out hb1)
   have HD4 := Aside0.mk (Dct.below HD3.out hb1)
   have HB4 := Aside0.mk (below_step HB3.out hb1)
   have HCK4 := Aside0.mk (Kd.C_below HCK3.out hb1)
   have HCV4 := Aside0.mk (Kd.C_below HCV3.out hb1)
   clear hr1 hb1
   refine ⟨_, rfl, ?_⟩
   refine hK.out _ _ ⟨(blk_cell BG4.out 0).trans rfl, (blk_cell BG4.out 1).trans rfl, (blk_cell BE4.out 3).trans rfl, KA4.out, KV4.out⟩ (fun hHeld => ?_)
   clear hK K
   refine norm_ (a' := ?_) ?_ ?_
   rotate_left
   ·show Act.put _ (some 153) _ = _
    simp only [Act.put, List.setIfInBounds_toArray, List.set_cons_zero, List.set_cons_succ, i64_w, i32_w]
    rfl
   refine last_ (i := 13) (N := some 154) #[true, true, true, true, true, true, true, true, true, true, true, true, true, true] rfl rfl (one_of HT_.out (by kernel_rfl)) (by decide) (fun K hK => ?_)
   refine goes_ Tryd.func50 (by kernel_rfl) rfl #[.agg #[.iface 95 (.pointer (some ⟨b, 0, none⟩)), .string s], .agg #[.iface t1 u1, .string r1], .agg #[.iface t2 u2, .string r2]] (by rfl) rfl rfl (by (try simp only [List.map_toArray, List.map_cons, List.map_nil]); first | done | rfl) ?_
   with_reducible refine (setIndex w.heap.size b kk ee m' s r1 r2 t1 u1 k HLF.out ⟨HKG.out.1, HKG.out.2⟩ t2 u2 _ HD4.out (by have := HML.out; have := HJL.out; omega)).mono ?_
   rintro e_ w7 ⟨rfl, ⟨m2, hm2, hd2⟩, hb2, hkt⟩
   have HD5 := Aside0.mk hd2
   have HM5 := Aside0.mk hm2
   have HB5 := Aside0.mk (Below.trans HB4.out hb2)
   have BG5 := Aside0.mk (hkt _ _ BG4.out)
   clear hd2 hm2 hb2 hkt
   refine ⟨_, rfl, ?_⟩
   refine hK.out _ _ ?_
   clear hK K
   refine norm_ (a' := ?_) ?_ ?_
   rotate_left
   ·show Act.put _ (some 154) _ = _
    simp only [Act.put, List.setIfInBounds_toArray, List.set_cons_zero, List.set_cons_succ, i64_w, i32_w]
    rfl
   refine done_ (done_of HT_.out (by kernel_rfl)) ?_
   go_wp2
   exact ⟨⟨j + 1, m2, by go_num, by have := HJL.out; omega, ⟨by have := HM5.out; have := HML.out; omega⟩, ⟨HD5.out⟩, ⟨BG5.out⟩, ⟨HB5.out⟩⟩, by have := HJL.out; simp [intOf]; omega⟩
  ·obtain rfl : n = j := by omega
   have hg0 := (blk_cell BG.out 0).trans rfl
   have hg1 := (blk_cell BG.out 1).trans rfl
   go_wp2_with (first
    | (go_at_call 52; ((with_reducible refine (iface_of (.iface 95 (.pointer (some ⟨b, 0, none⟩))) s rfl _).mono ?_); rintro e_ w4 ⟨rfl, hb4⟩; have HB4 := Aside0.mk (below_step HB.out hb4); have HD4 := Aside0.mk (Dct.below HD.out hb4); clear hb4)))
   go_ret
   obtain ⟨d0, vk, vv, us, xs, d1, d2, d3, d4, d5, d6⟩ := HD4.out
   refine ⟨95, _, rfl, ?_, HB4.out⟩
   show Bx w4 w.heap.size (fun _ => True) _ (123 :: ([k] ++ gt t))
   rw [← HKK.out, ← HEE.out]
   exact .dict b kk ee _ _ trivial d0 d4
end Go.Proofs.YtoaehanfknjngaaDoor.Di
