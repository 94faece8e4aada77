import Derived.Test.YtoaehanfknjngaaDoorGt
import Derived.Test.YtoaehanfknjngaaDoorZt
namespace Go.Proofs.YtoaehanfknjngaaDoor.So
set_option linter.unusedVariables false
set_option linter.unusedSimpArgs false
open Go.RowKit Go.Proofs.YtoaehanfknjngaaDoor.Ext Go.Proofs.YtoaehanfknjngaaDoor.L Go.Proofs.YtoaehanfknjngaaDoorW.PrintWords Go.Proofs.YtoaehanfknjngaaDoorW.PrintLast Go.Proofs.YtoaehanfknjngaaDoorW.PrintMore
open Go.Proofs.YtoaehanfknjngaaDoor.Com Go.Proofs.YtoaehanfknjngaaDoor.Tree Go.Proofs.YtoaehanfknjngaaDoor.Sg Go.Proofs.YtoaehanfknjngaaDoor.Dt Go.Proofs.YtoaehanfknjngaaDoor.Bx Go.Proofs.YtoaehanfknjngaaDoor.Zt Go.Proofs.YtoaehanfknjngaaDoor.Gs Go.Proofs.YtoaehanfknjngaaDoor.Gt

/-- A type whose signature is told. -/
structure Fine (t : T) : Prop where
  hok : ok t = true
  hkeys : keys t = true
  hfits : fits t 32 32 32 = true
  hlen : (txt t).length ≤ 255

/-- An element of a row of values in interfaces. -/
theorem at_any {w : World} {A : Option Addr} {gs : List (List UInt8)} (h : kA.C w A gs.length gs) (j : Nat) (hj : j < gs.length) : ∃ ad u, A = some ad ∧ w.cell? (ad.add j) = some u ∧ Bx w 0 (fun _ => True) u (gs[j]'hj) := by
  obtain ⟨ad, c, e, hl, ⟨u, hc, hb⟩, hcell⟩ := Kd.C_get h [] (j : Int) (by omega) (by omega)
  have e2 : gs.getD (j : Int).toNat [] = gs[j]'hj := by simp [hj]
  rw [e2] at hb
  refine ⟨ad, u, e, ?_, hb⟩
  have := hcell 0 u (by rw [hc]; rfl)
  simpa [kA] using this

def SPost (l : List UInt8) (w : World) (e : Ending) (w' : World) : Prop := ∃ r : ByteArray, e = .returned (.agg #[.string r]) ∧ B r = l ∧ Below w.heap.size w w'

set_option maxHeartbeats 8000000 in
set_option maxRecDepth 100000 in
theorem sigOf (A : Option Addr) (c : Nat) (ts : List T) (w : World) (hC : kA.C w A (ts.map gt).length (ts.map gt)) (hf : ∀ t ∈ ts, Fine t) (hn : ts.length ≤ 1000) :
    Calls Tryd.prog 17 #[.slice A ts.length c] w (SPost (ts.map txt).flatten w) := by
  have HC := Aside0.mk hC
  have HF := Aside0.mk hf
  obtain ⟨n, hn1⟩ : ∃ n, n = ts.length := ⟨_, rfl⟩
  have HN := Aside0.mk hn1
  rw [← hn1] at hn ⊢
  clear hC hf hn1
  go_enter Tryd.func17, Tryd.ntmps17
  go_wp2
  go_loopw [3, 5, 8] (fun v3 _ v8 wr => ∃ (j : Nat) (acc : ByteArray), v8 = .int .i64 j ∧ v3 = .string acc ∧ j ≤ n ∧ acc.size ≤ 255 * j ∧ Aside0 (B acc = ((ts.take j).map txt).flatten) ∧ Aside0 (Below w.heap.size w wr) ∧ Aside0 (wr.heap[w.heap.size]? = some (.cells #[.string ⟨#[]⟩] 42 (0, 0)))) (fun _ _ v8 _ => n - (intOf v8).toNat)
  case atStart => exact ⟨0, ⟨#[]⟩, rfl, rfl, Nat.zero_le _, by decide, ⟨rfl⟩, ⟨by repeat (first | exact Below.refl _ _ | apply below_alloc)⟩, ⟨by repeat (first | exact blk_new w _)⟩⟩
  case round =>
    obtain ⟨j, acc, rfl, rfl, hj, hac, HA, HB, HBK⟩ := hrel
    by_cases hjl : j < n
    · have hju : j < ts.length := by have := HN.out; omega
      obtain ⟨ad, u, rfl, hcl, hbx⟩ := at_any HC.out j (by rw [List.length_map]; exact hju)
      obtain ⟨tj, htj⟩ : ∃ t, t = ts[j]'hju := ⟨_, rfl⟩
      rw [List.getElem_map, ← htj] at hbx
      have hfj : Fine tj := HF.out tj (by rw [htj]; exact List.getElem_mem hju)
      have FJ := Aside0.mk hfj
      have F0 : Aside0 (fits tj (32 - 0) (32 - 0) (32 - 0) = true) := ⟨hfj.hfits⟩
      have hx : wr.cell? (ad.add j) = some u := (HB.out.cell (World.block_lt_of_cell? w _ hcl)).trans hcl
      have TO := Aside0.mk (typeOf hbx (by have := gt_len tj; have := hfj.hlen; omega))
      have HTK : Aside0 (((ts.take (j + 1)).map txt).flatten = ((ts.take j).map txt).flatten ++ txt tj) := ⟨by rw [List.take_succ_eq_append_getElem hju, ← htj, List.map_append, List.flatten_append]; simp⟩
      have GJ := Aside0.mk (getSig tj hfj.hok hfj.hkeys)
      have HJL := Aside0.mk hjl
      have p1 : ((0 : Int) ≤ (j : Int)) = True := eq_true (by omega)
      have q1 : ((j : Int) < (n : Int)) = True := eq_true (by omega)
      have q2 : (j < n) = True := eq_true hjl
      clear hcl hbx htj hfj hju hjl
      go_wp2_with (first
        | (go_at_call 27; (with_reducible refine (TO.out _ HB.out).mono ?_); rintro e w2 ⟨r2, rfl, hr2, hb2⟩; have HR2 := Aside0.mk hr2; have HB2 := Aside0.mk (below_step HB.out hb2); have BK2 := Aside0.mk (blk_below HBK.out hb2); clear hr2 hb2)
        | (go_at_call 26; ((with_reducible refine (GS.go GJ.out _ _ 0 0 0 _ HR2.out F0.out FJ.out.hlen (Dep.new _ _ _ _) (by omega) (by omega) (by omega)).mono ?_); rintro e w3 ⟨r3, rfl, hr3, hb3⟩; have HR3 := Aside0.mk hr3; have HB3 := Aside0.mk (below_step (below_alloc HB2.out _) hb3); have BK3 := Aside0.mk (blk_below (blk_alloc BK2.out _) hb3); have hr3s : r3.size ≤ 255 := (by rw [← B_length, hr3]; exact FJ.out.hlen); clear hr3 hb3)))
      go_roundw
      case rel => exact ⟨j + 1, _, by go_num, rfl, by have := HJL.out; omega, by rw [ByteArray.size_append]; omega, ⟨by rw [B_append, HA.out, HR3.out, HTK.out]⟩, ⟨HB3.out⟩, ⟨BK3.out⟩⟩
      case measure => have := HJL.out; simp [intOf]; omega
    · obtain rfl : n = j := by omega
      have HT : Aside0 (B acc = (ts.map txt).flatten) := ⟨by rw [HA.out, List.take_of_length_le (by have := HN.out; omega)]⟩
      have hs27 := (blk_cell HBK.out 0).trans rfl
      have hfs27 := blk_frozen HBK.out 0
      have hfin := (blk_cell (blk_set HBK.out 0 (.string acc)) 0).trans rfl
      go_wp2
      exact bodyPost_ret (v := .agg #[.string acc]) (by simp [results, Tryd.results17, go_sem, hfin]) rfl ⟨acc, rfl, HT.out, below_set HB.out (Nat.le_refl _)⟩

theorem withSig (s : ByteArray) (t : TypeId) (u : Value) (w : World) : Calls Tryd.prog 56 #[.iface t u, .agg #[.string s]] w fun e w' => e = .returned (.agg #[.string s, .iface t u]) ∧ Below w.heap.size w w' := by
  go_enter Tryd.func56, Tryd.ntmps56
  go_wp2
  exact bodyPost_ret (v := .agg #[.string s, .iface t u]) (by simp [results, Tryd.results56, go_sem]) rfl ⟨rfl, by repeat (first | exact Below.refl _ _ | apply below_alloc)⟩

theorem one_elem {w W : World} {base : Nat} {ok : Nat → Prop} {u : Value} {g : List UInt8} (h : Bx w base ok u g) (hb : Below w.heap.size w W) : kA.C (W.alloc (.cells #[u] 20)) (some ⟨W.heap.size, 0, none⟩) [g].length [g] := by
  refine ⟨rfl, by simp, fun _ => ⟨⟨W.heap.size, 0, none⟩, rfl, fun j p hj => ?_⟩⟩
  match j, hj with
  | 0, hj =>
    simp at hj
    subst hj
    refine ⟨[u], rfl, ⟨u, rfl, (((h.lower (Nat.zero_le _)).mono (fun _ _ => trivial)).keep (below_alloc hb _))⟩, fun i v hv => ?_⟩
    match i, hv with
    | 0, hv =>
      simp at hv
      subst hv
      show (W.alloc (.cells #[u] 20)).cell? (Addr.add ⟨W.heap.size, 0, none⟩ (0 * 1 + 0)) = some u
      exact (blk_cell (blk_new W (.cells #[u] 20)) 0).trans rfl

set_option maxHeartbeats 2000000 in
theorem makeVariant (tj : T) (hf : Fine tj) {w0 : World} {base : Nat} {ok : Nat → Prop} (t : TypeId) (u : Value) (h : Bx w0 base ok (.iface t u) (gt tj)) (w : World) (hb : Below w0.heap.size w0 w) :
    Calls Tryd.prog 47 #[.iface t u] w fun e w' => (∃ s, e = .returned (.agg #[.string s, .iface t u])) ∧ Below w.heap.size w w' := by
  have HC : kA.C ((w.alloc (.cells #[.string ⟨#[]⟩, .nilIface] 88)).alloc (.cells #[.iface t u] 20)) (some ⟨w.heap.size + 1, 0, none⟩) ([tj].map gt).length ([tj].map gt) := by
    have h1 := one_elem h (below_alloc hb (.cells #[.string ⟨#[]⟩, .nilIface] 88))
    have e : (w.alloc (.cells #[.string ⟨#[]⟩, .nilIface] 88)).heap.size = w.heap.size + 1 := Array.size_push _
    rw [e] at h1
    exact h1
  have HS : Aside0 (Calls Tryd.prog 17 #[.slice (some ⟨w.heap.size + 1, 0, none⟩) 1 1] ((w.alloc (.cells #[.string ⟨#[]⟩, .nilIface] 88)).alloc (.cells #[.iface t u] 20)) (SPost ([tj].map txt).flatten ((w.alloc (.cells #[.string ⟨#[]⟩, .nilIface] 88)).alloc (.cells #[.iface t u] 20)))) :=
    ⟨sigOf (some ⟨w.heap.size + 1, 0, none⟩) 1 [tj] _ HC (fun t ht => by rw [List.mem_singleton.1 ht]; exact hf) (by simp)⟩
  clear h hb hf HC
  go_enter Tryd.func47, Tryd.ntmps47
  go_wp2_with (first
    | (go_at_call 17; ((with_reducible refine HS.out.mono ?_); rintro e w2 ⟨r2, rfl, hr2, hb2⟩; have HB2 := Aside0.mk (below_step (w := w) (by repeat (first | exact Below.refl _ _ | apply below_alloc)) hb2); have BK2 := Aside0.mk (blk_below (blk_alloc (blk_new w _) _) hb2); clear hr2 hb2))
    | (go_at_call 56; ((with_reducible refine (withSig r2 t u _).mono ?_); rintro e w3 ⟨rfl, hb3⟩; have HB3 := Aside0.mk (below_step HB2.out hb3); have BK3 := Aside0.mk (blk_below BK2.out hb3); have hs0 := (blk_cell BK3.out 0).trans rfl; have hs1 := (blk_cell BK3.out 1).trans rfl; have hf0 := blk_frozen BK3.out 0; have hf1 := blk_frozen BK3.out 1; clear hb3)))
  have BK4 := blk_set (blk_set BK3.out 0 (.string r2)) 1 (.iface t u)
  have f0 := (blk_cell BK4 0).trans rfl
  have f1 := (blk_cell BK4 1).trans rfl
  have hbel := below_set (j := 1) (v := .iface t u) (below_set (j := 0) (v := .string r2) HB3.out (Nat.le_refl _)) (Nat.le_refl _)
  generalize ((w3.setCell ⟨w.heap.size, 0, none⟩ (.string r2)).setCell ⟨w.heap.size, 1, none⟩ (.iface t u)) = wf at f0 f1 hbel ⊢
  exact bodyPost_ret (v := .agg #[.string r2, .iface t u]) (by simp [results, Tryd.results47, go_sem, f0, f1]) rfl ⟨⟨r2, rfl⟩, hbel⟩
end Go.Proofs.YtoaehanfknjngaaDoor.So
