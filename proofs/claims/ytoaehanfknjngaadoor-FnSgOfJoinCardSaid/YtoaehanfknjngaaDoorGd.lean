import Derived.Test.YtoaehanfknjngaaDoorDi
namespace Go.Proofs.YtoaehanfknjngaaDoor.Gd
set_option linter.unusedVariables false
set_option linter.unusedSimpArgs false
open Go.RowKit Go.Proofs.YtoaehanfknjngaaDoor.Ext Go.Proofs.YtoaehanfknjngaaDoor.L Go.Proofs.YtoaehanfknjngaaDoorW.PrintWords Go.Proofs.YtoaehanfknjngaaDoorW.PrintLast Go.Proofs.YtoaehanfknjngaaDoorW.PrintMore
open Go.Proofs.YtoaehanfknjngaaDoor.Com Go.Proofs.YtoaehanfknjngaaDoor.Tree Go.Proofs.YtoaehanfknjngaaDoor.Sg Go.Proofs.YtoaehanfknjngaaDoor.Dt Go.Proofs.YtoaehanfknjngaaDoor.Bx Go.Proofs.YtoaehanfknjngaaDoor.Zt Go.Proofs.YtoaehanfknjngaaDoor.Gs Go.Proofs.YtoaehanfknjngaaDoor.Gt Go.Proofs.YtoaehanfknjngaaDoor.So Go.Proofs.YtoaehanfknjngaaDoor.Dm Go.Proofs.YtoaehanfknjngaaDoor.Di

/-- A value that has a type. -/
inductive Gd : S47 → T → Prop
  | leaf (v : S47) (c : UInt8) : v.f0 = (c.toNat : Int) → basic c = true → Gd v (.b c)
  | var (v k : S47) (t : T) : v.f0 = 118 → v.f3 = [k] → Gd k t → Fine t → Gd v (.b 118)
  | rcd (v : S47) (ts : Ts) : v.f0 = 40 → v.f3.length = (ls ts).length → v.f3.length ≤ 400 → (∀ (j : Nat) (h1 : j < v.f3.length) (h2 : j < (ls ts).length), Gd (v.f3[j]'h1) ((ls ts)[j]'h2)) → Gd v (.s ts)
  | arr (v : S47) (t : T) : v.f0 = 97 → B v.f2 = txt t → ok t = true → fits t 32 32 32 = true → v.f2.size ≤ 254 → v.f3.length ≤ 400 → (∀ (j : Nat) (h1 : j < v.f3.length), Gd (v.f3[j]'h1) t) → Gd v (.a t)
  | dict (v : S47) (k : UInt8) (t : T) (ka va : Nat → S47) : v.f0 = 97 → B v.f2 = 123 :: k :: (txt t ++ [125]) → ok (.d k t) = true → k ≠ 103 → fits (.d k t) 32 32 32 = true → v.f2.size ≤ 254 → v.f3.length ≤ 400 →
      (∀ (j : Nat) (h1 : j < v.f3.length), (v.f3[j]'h1).f3 = [ka j, va j]) → (∀ (j : Nat) (h1 : j < v.f3.length), Gd (ka j) (.b k)) → (∀ (j : Nat) (h1 : j < v.f3.length), Gd (va j) t) → Gd v (.d k t)

theorem doorIn {v : S47} {t : T} (h : Gd v t) : DI v t := by
  induction h with
  | leaf v c h0 ho => exact di_leaf v c h0 ho
  | var v k t h0 h3 hk hf ih => exact di_var v k t h0 h3 ih hf
  | rcd v ts h0 hl hn hk ih => exact di_rcd v ts h0 hl hn ih
  | arr v t h0 hB ho hf hs hn hk ih => exact di_arr v t h0 hB ho hf hs hn ih
  | dict v k t ka va h0 hB ho hkg hf hs hn hkv hk hv ihk ihv => exact di_dict v k t h0 hB ho hkg hf hs hn (fun j h1 => ⟨ka j, va j, hkv j h1, ihk j h1, ihv j h1⟩)

/-- Values that have types. -/
structure GdL (l : List S47) (ts : List T) : Prop where
  len : l.length = ts.length
  le : l.length ≤ 400
  all : ∀ (j : Nat) (h1 : j < l.length) (h2 : j < ts.length), Gd (l[j]'h1) (ts[j]'h2)

set_option maxHeartbeats 8000000 in
set_option maxRecDepth 100000 in
theorem doorsIn (A : Option Addr) (c : Nat) (l : List S47) (ts : List T) (w : World) (hC : k47.C w A l.length l) (hg : GdL l ts) :
    Calls Tryd.prog 18 #[.slice A l.length c] w fun e w' => (∃ v, e = .returned v ∧ kA.R 20 w' w.heap.size (fun _ => True) v (ts.map gt)) ∧ Below w.heap.size w w' := by
  have HC := Aside0.mk hC
  have HG := Aside0.mk hg
  obtain ⟨n, hn1⟩ : ∃ n, n = l.length := ⟨_, rfl⟩
  have HNL : Aside0 (n = l.length ∧ n = ts.length ∧ n ≤ 400) := ⟨hn1, by have := hg.len; omega, by have := hg.le; omega⟩
  have hn2 : n ≤ 400 := HNL.out.2.2
  rw [← hn1]
  clear hC hg hn1
  go_enter Tryd.func18, Tryd.ntmps18
  go_wp2
  go_loopw [3, 5, 8] (fun v3 _ v8 wr => ∃ (j : Nat), v8 = .int .i64 j ∧ j ≤ n ∧ Aside0 (kA.R 20 wr w.heap.size (fun _ => True) v3 ((ts.take j).map gt)) ∧ Aside0 (Below w.heap.size w wr)) (fun _ _ v8 _ => n - (intOf v8).toNat)
  case atStart => exact ⟨0, rfl, Nat.zero_le _, ⟨Kd.R_nil _ _ _ _ _⟩, ⟨Below.refl _ _⟩⟩
  case round =>
    obtain ⟨j, rfl, hj, HR, HB⟩ := hrel
    obtain ⟨A0, c0, hvv⟩ := Kd.R_slice HR.out
    obtain ⟨n0, hn0⟩ : ∃ n0, n0 = ((ts.take j).map gt).length := ⟨_, rfl⟩
    rw [← hn0] at hvv
    subst hvv
    by_cases hjl : j < n
    · have hju : j < l.length := by have := HNL.out.1; omega
      have hjt : j < ts.length := by have := HNL.out.2.1; omega
      obtain ⟨ad, A3, c3, rfl, hx0, hx1, hx2, hx3, hl3, hi3⟩ := at_kid HC.out j hju
      obtain ⟨kj, hkj⟩ : ∃ k, k = l[j]'hju := ⟨_, rfl⟩
      obtain ⟨tj, htj⟩ : ∃ t, t = ts[j]'hjt := ⟨_, rfl⟩
      have IHJ : Aside0 (DI kj tj) := ⟨by rw [hkj, htj]; exact doorIn (HG.out.all j hju hjt)⟩
      rw [← hkj] at hx0 hx1 hx2 hx3 hl3 hi3
      replace hx0 := cell_of hx0 HB.out
      replace hx1 := cell_of hx1 HB.out
      replace hx2 := cell_of hx2 HB.out
      replace hx3 := cell_of hx3 HB.out
      have HCW := Aside0.mk (Kd.C_alloc (Kd.C_below hi3 HB.out) (.cells #[.int .u8 kj.f0, .int .u64 kj.f1, .string kj.f2, .slice A3 kj.f3.length c3] 47))
      have HRW := Aside0.mk (Kd.R_alloc HR.out (.cells #[.int .u8 kj.f0, .int .u64 kj.f1, .string kj.f2, .slice A3 kj.f3.length c3] 47))
      have HBW := Aside0.mk (below_alloc HB.out (.cells #[.int .u8 kj.f0, .int .u64 kj.f1, .string kj.f2, .slice A3 kj.f3.length c3] 47))
      have HTK : Aside0 ((ts.take (j + 1)).map gt = (ts.take j).map gt ++ [gt tj]) := ⟨by rw [List.take_succ_eq_append_getElem hjt, ← htj, List.map_append]; rfl⟩
      have HLE : Aside0 (((ts.take j).map gt).length ≤ 400) := ⟨by rw [List.length_map, List.length_take]; omega⟩
      have HJL := Aside0.mk hjl
      have p1 : ((0 : Int) ≤ (j : Int)) = True := eq_true (by omega)
      have q1 : ((j : Int) < (n : Int)) = True := eq_true (by omega)
      have q2 : (j < n) = True := eq_true hjl
      clear hju hjt hkj htj hi3 hl3 hjl hn0
      go_wp2_with (first
        | (go_at_call 28; ((with_reducible refine (DI.go IHJ.out A3 c3 _ HCW.out).mono ?_); rintro e w3 ⟨t2, u2, rfl, hb2, hbe2⟩; have HX2 := Aside0.mk ((Bx.bound hb2).lower HBW.out.size); have HR2 := Aside0.mk (Kd.R_below HRW.out hbe2); have HB2 := Aside0.mk (below_step HBW.out hbe2); clear hb2 hbe2))
        | (at_builtin; refine Kd.R_append kA (w0 := w) w.heap.size rfl (.tmp 12) (.tmp 15) 44 20 .nilIface 16 rfl Tryd.underlying44 info20 rfl (by decide) (by decide) (.slice A0 n0 c0) ((ts.take j).map gt) (gt tj) [.iface t2 u2] (fun _ => True) _ rfl rfl ⟨_, rfl, HX2.out⟩ (fun k_ hk => ⟨trivial, Kd.fresh_ok HRW.out k_ hk.2.1⟩) (fun _ _ => trivial) HR2.out HB2.out HB2.out.size (by have := HLE.out; omega) ?_; intro v1 w4 ho hb hg hat; have HR3 := Aside0.mk ho; have HB3 := Aside0.mk hb; clear ho hb hg hat)
        | go_in)
      go_roundw
      case rel => exact ⟨j + 1, by go_num, by have := HJL.out; omega, ⟨by rw [HTK.out]; exact HR3.out⟩, ⟨HB3.out⟩⟩
      case measure => have := HJL.out; simp [intOf]; omega
    · obtain rfl : n = j := by omega
      have hgg : Aside0 (((ts.take n).map gt) = ts.map gt) := ⟨by rw [List.take_of_length_le (by have := HNL.out.2.1; omega)]⟩
      clear hn0
      go_wp2
      go_ret
      exact ⟨⟨_, rfl, by rw [← hgg.out]; exact HR.out⟩, HB.out⟩

/-- No panic: nothing is caught. -/
theorem catch_idle (p q : Addr) (w : World) :
    CallsD Tryd.prog 16 #[.pointer (some p), .pointer (some q)] .returning w fun e u' w' => e = .returned (.tuple #[]) ∧ u' = .returning ∧ w' = w := by
  refine callsD_of_wpS Tryd.func16 rfl fun c₀ cs hu => ?_
  apply wpS_seq
  apply wpS_region
  simp [wpOpsS, go_sem, recoverD, hu, Tryd.ntmps16, Exit.thenS]
  refine wpS_cond (t := false) (by simp [Act.eval, Array.replicate]) ?_
  simp only [Bool.false_eq_true, if_false]
  refine wpS_of_wp (wp_skip ?_)
  cases c₀
  simp_all [bodyPostS, results, Tryd.results16]

theorem fld42 (a : ByteArray) (W : World) : (Instr.field 42 (.agg #[.string a]) 0).run Tryd.prog W = .ok (.string a) W := by kernel_rfl

def QPost (l : List UInt8) (w : World) (e : Ending) (w' : World) : Prop := ∃ r : ByteArray, e = .returned (.tuple #[.string r, .nilIface]) ∧ B r = l ∧ Below w.heap.size w w'
set_option maxHeartbeats 2000000 in
set_option maxRecDepth 100000 in
theorem doorSigOf (A : Option Addr) (c : Nat) (l : List S47) (ts : List T) (w : World) (hC : k47.C w A l.length l) (hg : GdL l ts) (hf : ∀ t ∈ ts, Fine t) :
    Calls Tryd.prog 10 #[.slice A l.length c] w (QPost (ts.map txt).flatten w) := by
  have hb0 : Below w.heap.size w ((w.alloc (.cells #[.string ⟨#[]⟩] 9)).alloc (.cells #[.nilIface] 33)) := below_alloc (below_alloc (Below.refl _ _) _) _
  have HD := Aside0.mk (doorsIn A c l ts _ (Kd.C_below hC hb0) hg)
  have HS := Aside0.mk (fun A' c' W hC' => sigOf A' c' ts W hC' hf (by have := hg.len; have := hg.le; omega))
  have hz1 : (w.alloc (.cells #[.string ⟨#[]⟩] 9)).heap.size = w.heap.size + 1 := Array.size_push _
  have K0 : Aside0 (((w.alloc (.cells #[.string ⟨#[]⟩] 9)).alloc (.cells #[.nilIface] 33)).heap[w.heap.size]? = some (.cells #[.string ⟨#[]⟩] 9 (0, 0))) := ⟨blk_alloc (blk_new _ _) _⟩
  have K1 : Aside0 (((w.alloc (.cells #[.string ⟨#[]⟩] 9)).alloc (.cells #[.nilIface] 33)).heap[w.heap.size + 1]? = some (.cells #[.nilIface] 33 (0, 0))) := ⟨by rw [← hz1]; exact blk_new _ _⟩
  have HB0 := Aside0.mk hb0
  have hmf : ∀ (fn : Fn) (first cap : Array Value) (w : World), (Instr.makeFunc fn first cap).run Tryd.prog w = .ok (.func fn first cap) w := fun _ _ _ _ => rfl
  have hfl := fun r => fld42 r
  clear hC hg hf hb0 hz1
  go_enter_defers Tryd.func10, Tryd.ntmps10
  go_wp2_with (first
    | (go_at_call 18; ((with_reducible refine HD.out.mono ?_); rintro e w1 ⟨⟨v1, rfl, hr1⟩, hb1⟩; have HR1 := Aside0.mk hr1; have HB1 := Aside0.mk (below_step HB0.out hb1); have K01 := Aside0.mk (blk_below K0.out hb1); have K11 := Aside0.mk (blk_below K1.out hb1); clear hr1 hb1; obtain ⟨A1, c1, e1⟩ := Kd.R_slice HR1.out; subst e1; have el : (ts.map gt).length = ts.length := List.length_map _; have HS1 := Aside0.mk (HS.out A1 c1 w1 (Kd.R_reads' HR1.out).2.2); rw [el]; clear el))
    | (go_at_call 17; ((with_reducible refine HS1.out.mono ?_); rintro e w2 ⟨r2, rfl, hr2, hb2⟩; have HR2 := Aside0.mk hr2; have HB2 := Aside0.mk (below_step HB1.out hb2); have K02 := Aside0.mk (blk_below K01.out hb2); have K12 := Aside0.mk (blk_below K11.out hb2); have hs0 := (blk_cell K02.out 0).trans rfl; have hs1 := (blk_cell K12.out 0).trans rfl; have hf0 := blk_frozen K02.out 0; have hf1 := blk_frozen K12.out 0; clear hr2 hb2)))
  refine leaves_cons (f := 16) (args := #[.pointer (some ⟨w.heap.size, 0, none⟩), .pointer (some ⟨w.heap.size + 1, 0, none⟩)]) (by simp) (by simp [go_sem]) ?_
  have B0 := blk_far (p := ⟨w.heap.size + 1, 0, none⟩) (blk_set K02.out 0 (.string r2)) (by show w.heap.size ≠ w.heap.size + 1; omega) .nilIface
  have B1 := blk_set (blk_far (p := ⟨w.heap.size, 0, none⟩) K12.out (by show w.heap.size + 1 ≠ w.heap.size; omega) (.string r2)) 0 .nilIface
  have f0 := (blk_cell B0 0).trans rfl
  have f1 := (blk_cell B1 0).trans rfl
  have hbel := below_set (j := 0) (v := .nilIface) (below_set (j := 0) (v := .string r2) HB2.out (Nat.le_refl _)) (Nat.le_succ _)
  generalize ((w2.setCell ⟨w.heap.size, 0, none⟩ (.string r2)).setCell ⟨w.heap.size + 1, 0, none⟩ .nilIface) = wf at f0 f1 hbel ⊢
  refine (catch_idle ⟨w.heap.size, 0, none⟩ ⟨w.heap.size + 1, 0, none⟩ _).mono ?_
  rintro e u' w'' ⟨rfl, rfl, rfl⟩
  simp [Leaves, settle, results, Tryd.results10, go_sem, f0, f1]
  exact ⟨r2, rfl, HR2.out, hbel⟩

mutual
/-- The signature of a value, byte by byte. -/
def sig : S47 → List UInt8
  | ⟨f0, _, f2, f3⟩ => if f0 = 97 then 97 :: B f2 else if f0 = 40 then 40 :: (sigs f3 ++ [41]) else if f0 = 123 then 123 :: (sigs f3 ++ [125]) else [UInt8.ofNat f0.toNat]
def sigs : List S47 → List UInt8
  | [] => []
  | v :: l => sig v ++ sigs l
end
theorem sigs_map : ∀ l : List S47, sigs l = (l.map sig).flatten
  | [] => by rw [sigs]; rfl
  | v :: l => by rw [sigs, sigs_map l]; rfl
theorem sig_is {v : S47} {t : T} (h : Gd v t) : sig v = txt t := by
  induction h with
  | leaf v c h0 ho =>
    obtain ⟨f0, f1, f2, f3⟩ := v
    have hne := basic_ne c ho
    simp only at h0
    subst h0
    have e : ∀ n : Nat, n < 256 → ((c.toNat : Int) = (n : Int)) → c = UInt8.ofNat n := fun n hn he => (byte_eq c n hn).1 he
    rw [sig, if_neg (show ¬ (c.toNat : Int) = 97 from fun he => hne.2.1 (e 97 (by omega) he)), if_neg (show ¬ (c.toNat : Int) = 40 from fun he => hne.2.2.1 (e 40 (by omega) he)), if_neg (show ¬ (c.toNat : Int) = 123 from fun he => hne.2.2.2.1 (e 123 (by omega) he))]
    simp [txt]
  | var v k t h0 h3 hk hf ih =>
    obtain ⟨f0, f1, f2, f3⟩ := v
    simp only at h0
    subst h0
    rw [sig, if_neg (by decide), if_neg (by decide), if_neg (by decide)]
    rfl
  | rcd v ts h0 hl hn hk ih =>
    obtain ⟨f0, f1, f2, f3⟩ := v
    simp only at h0 hl ih
    subst h0
    rw [sig, if_neg (by decide), if_pos rfl, sigs_map]
    show 40 :: ((f3.map sig).flatten ++ [41]) = 40 :: (txts ts ++ [41])
    rw [txts_ls]
    have e : f3.map sig = (ls ts).map txt := by
      apply List.ext_getElem
      · rw [List.length_map, List.length_map]; exact hl
      · intro j h1 h2
        rw [List.getElem_map, List.getElem_map]
        exact ih j (by simpa using h1) (by simpa using h2)
    rw [e]
  | arr v t h0 hB ho hf hs hn hk ih =>
    obtain ⟨f0, f1, f2, f3⟩ := v
    simp only at h0 hB
    subst h0
    rw [sig, if_pos rfl, hB]
    rfl
  | dict v k t ka va h0 hB ho hkg hf hs hn hkv hk hv ihk ihv =>
    obtain ⟨f0, f1, f2, f3⟩ := v
    simp only at h0 hB
    subst h0
    rw [sig, if_pos rfl, hB]
    rfl
theorem sigs_is {l : List S47} {ts : List T} (h : GdL l ts) : sigs l = (ts.map txt).flatten := by
  rw [sigs_map]
  congr 1
  apply List.ext_getElem
  · rw [List.length_map, List.length_map]; exact h.len
  · intro j h1 h2
    rw [List.getElem_map, List.getElem_map]
    exact sig_is (h.all j (by simpa using h1) (by simpa using h2))

/-- SgOf's answer. -/
noncomputable def impl_SgOf.f (k : Nat) (l : List S30) : Option (ByteArray × Bool) :=
  (impl_valsIn.f k l).bind fun r => open Classical in if ∃ ts, GdL r ts ∧ ∀ t ∈ ts, Fine t then some (mkb (sigs r), true) else none
theorem impl_SgOf.mono : ∀ a0 k, LeO (impl_SgOf.f k a0) (impl_SgOf.f (k + 1) a0) := by
  intro a0 k r h
  unfold impl_SgOf.f at h ⊢
  obtain ⟨x, hx, h⟩ := Option.bind_eq_some_iff.1 h
  rw [impl_valsIn.mono a0 k x hx, Option.bind_some]
  exact h

set_option maxHeartbeats 2000000 in
set_option maxRecDepth 100000 in
theorem impl_SgOf.calls (k : Nat) (A0 : Option Addr) (c0 : Nat) (l0 : List (S30)) (r1 : ByteArray) (r2 : Bool) (w : World) (hr0 : Kd.C k30 w A0 l0.length l0) (hc0 : l0.length ≤ c0) (h : impl_SgOf.f k l0 = some (r1, r2)) :
    Calls Tryd.prog 5 #[.slice A0 l0.length c0] w fun e w' => e = .returned (.tuple #[.string r1, .bool r2]) ∧ Below w.heap.size w w' := by
  unfold impl_SgOf.f at h
  obtain ⟨x, hx, h⟩ := Option.bind_eq_some_iff.1 h
  split at h
  case isFalse => cases h
  case isTrue hg =>
  obtain ⟨ts, hg, hf⟩ := hg
  obtain ⟨rfl, rfl⟩ := Prod.mk.inj (Option.some.inj h)
  have HX := Aside0.mk hx
  have HG := Aside0.mk hg
  have HF := Aside0.mk hf
  have HR := Aside0.mk hr0
  have HC := Aside0.mk hc0
  have HS := Aside0.mk (sigs_is hg)
  clear h hx hg hf hr0 hc0
  go_enter Tryd.func5, Tryd.ntmps5
  go_wp2_with (first
    | (go_at_call 11; ((with_reducible refine (impl_valsIn.calls k A0 c0 l0 x _ HR.out HC.out HX.out).mono ?_); rintro e w1 ⟨v1, rfl, hr1, hb1⟩; have HR1 := Aside0.mk hr1; have HB1 := Aside0.mk hb1; clear hr1 hb1; obtain ⟨A1, c1, e1⟩ := Kd.R_slice HR1.out; subst e1; have HC1 := Aside0.mk (Kd.R_reads' HR1.out).2.2))
    | (go_at_call 10; ((with_reducible refine (doorSigOf A1 c1 x ts _ HC1.out HG.out HF.out).mono ?_); rintro e w2 ⟨r2, rfl, hr2, hb2⟩; have HR2 := Aside0.mk hr2; have HB2 := Aside0.mk (below_step HB1.out hb2); clear hr2 hb2)))
  go_quiet (fail)
  go_wp2
  go_ret2
  obtain rfl : r2 = mkb (sigs x) := B_inj (by rw [HR2.out, B_mkb, HS.out])
  exact ⟨rfl, pw_below_drewN HB2.out _⟩
end Go.Proofs.YtoaehanfknjngaaDoor.Gd
