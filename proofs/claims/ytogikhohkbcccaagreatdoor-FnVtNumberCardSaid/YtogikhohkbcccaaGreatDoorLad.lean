import Derived.Test.YtogikhohkbcccaaGreatDoorCards
import Derived.Test.YtogikhohkbcccaaGreatDoorTie
import Derived.Test.YtogikhohkbcccaaGreatDoorPg
import Derived.Lib.LaidU8
import Derived.Stop.LaidErr
import Derived.WalkKit
import Derived.ProofKit
import Derived.OpenShut
import Derived.ChangeOld
import Derived.LaidMore
import Derived.Lay
import Derived.SevenTiedAt
import Derived.Stop.Joined
namespace Go.Proofs.YtogikhohkbcccaaGreatDoor.Lad
open Go.ChangeShapes Go.WideShapes Go.ChangeAt Go.RowKit Go.Lib Go.Proofs.YtogikhohkbcccaaGreatDoor.De Go.Proofs.YtogikhohkbcccaaGreatDoor.To
set_option linter.unusedVariables false
set_option maxRecDepth 100000
theorem own : ownKnob Tryz.prog.godebug = none := by kernel_rfl
abbrev tabs : List (String × DataW Unit) := [("math/bits.deBruijn32tab", Rows.laid_math_bits_deBruijn32tab), ("math/bits.deBruijn64tab", Rows.laid_math_bits_deBruijn64tab), ("internal/strconv.float32info", Rows.laid_internal_strconv_float32info), ("internal/strconv.float64info", Rows.laid_internal_strconv_float64info), ("internal/strconv.optimize", Rows.laid_internal_strconv_optimize), ("internal/strconv.powtab", Rows.laid_internal_strconv_powtab), ("internal/strconv.float64pow10", Rows.laid_internal_strconv_float64pow10), ("internal/strconv.float32pow10", Rows.laid_internal_strconv_float32pow10), ("internal/strconv.uint64pow10", Rows.laid_internal_strconv_uint64pow10), ("strconv.ErrRange", Rows.laid_strconv_ErrRange), ("strconv.ErrSyntax", Rows.laid_strconv_ErrSyntax), ("internal/strconv.leftcheats", Rows.laid_internal_strconv_leftcheats), ("internal/strconv.pow10Tab", Rows.laid_internal_strconv_pow10Tab)]
set_option maxRecDepth 1000000 in
theorem laid_met (os : Os) (args : Array Value) : laidMetH Tryz.prog tabs ((World.laidAll Tryz.prog os tabs).forCall (fun _ _ => 0) ⟨#[], args, []⟩).memory := by
  rw [MakeChecks.laidMetH_plain _ _ _ (by kernel_rfl)]; exact laidMet_laidAll _ (by kernel_rfl) (by kernel_rfl)
theorem star : "*" ++ "errors.errorString" = "*errors.errorString" := by decide
theorem row143 (u : TypeId) (h : Tryz.prog.typeName? 3 u = some "*errors.errorString") : u = 143 :=
  typeName_ptr_named (nm := "errors.errorString") (by rw [star]; kernel_rfl) (by kernel_rfl) (by decide) u (by rw [star]; exact h)
/-- What a listed variable's cells are. -/
theorem reads_at {W : World} {n : String} {d : DataW Unit} {g : Nat} {t : TypeId} (h : VarReads Tryz.prog W n d) (hg : Tryz.prog.globalNamed n = some g) (ht : (Tryz.prog.globals[g]?).map (·.type) = some t) :
    ∃ (cs : Array Value) (fuel : Nat) (p : List MemPlace), (∀ i : Nat, W.cell? ⟨g, i, none⟩ = cs[i]?) ∧ DataW.trod (fun _ => ()) Tryz.prog W 0 (fun _ => true) false fuel t cs.toList = some (d, p) := by
  obtain ⟨g', t', cs, fuel, p, hg', ht', hv, hd⟩ := h
  obtain rfl := Option.some.inj (hg.symm.trans hg')
  obtain rfl := Option.some.inj (ht.symm.trans ht')
  exact ⟨cs, fuel, p, fun i => World.var?_cell hg' hv i, hd⟩
theorem toList_one {cs : Array Value} {v : Value} (h : cs.toList = [v]) : cs[0]? = some v := by rw [← Array.getElem?_toList, h]; rfl
theorem lt_of_cell {W : World} {a : Addr} {v : Value} (h : W.cell? a = some v) : a.block < W.heap.size := by
  rcases Nat.lt_or_ge a.block W.heap.size with h' | h'
  · exact h'
  · simp [World.cell?, Array.getElem?_eq_none h'] at h
theorem opt_of {W : World} (h : VarReads Tryz.prog W "internal/strconv.optimize" Rows.laid_internal_strconv_optimize) : W.cell? ⟨4, 0, none⟩ = some (.bool true) := by
  obtain ⟨cs, fuel, p, hc, hd⟩ := reads_at (g := 4) (t := 4) h (by kernel_rfl) (by kernel_rfl)
  obtain ⟨b, hb, hx⟩ := DataW.trod_bool Tryz.underlying4 hd
  rw [hc, toList_one hb]
  have := congrArg Prod.fst hx
  unfold Rows.laid_internal_strconv_optimize at this
  injection this with this
  injection this with this
  rw [this]
theorem int_cell {W : World} {fuel : Nat} {t : TypeId} {k : IntKind} {cs : List Value} {z : Int} {p : List MemPlace} (ht : Tryz.prog.underlying t = some (.int k)) (h : DataW.trod (fun _ => ()) Tryz.prog W 0 (fun _ => true) false fuel t cs = some ((.lit (.int k z) : DataW Unit), p)) : cs = [.int k z] := by
  obtain ⟨n, hn, hx, _⟩ := DataW.trod_int ht h
  have := congrArg Prod.fst hx
  injection this with this
  injection this with _ this
  rw [hn, this]
theorem float_cell {W : World} {fuel : Nat} {t : TypeId} {cs : List Value} {z : Nat} {p : List MemPlace} (ht : Tryz.prog.underlying t = some (.float .f64)) (h : DataW.trod (fun _ => ()) Tryz.prog W 0 (fun _ => true) false fuel t cs = some ((.lit (.float .f64 z) : DataW Unit), p)) : cs = [.float .f64 z] := by
  cases fuel with
  | zero => simp [DataW.trod] at h
  | succ n =>
    unfold DataW.trod at h
    rw [ht] at h
    split at h <;> simp_all
theorem string_cell {W : World} {fuel : Nat} {t : TypeId} {cs : List Value} {z : List UInt8} {p : List MemPlace} (ht : Tryz.prog.underlying t = some .string) (h : DataW.trod (fun _ => ()) Tryz.prog W 0 (fun _ => true) false fuel t cs = some ((.lit (.string z) : DataW Unit), p)) : cs = [.string ⟨z.toArray⟩] := by
  obtain ⟨s, hs, hx, _⟩ := DataW.trod_string ht h
  have := congrArg Prod.fst hx
  injection this with this
  injection this with this
  rw [hs, this]
theorem take_one {cs : List Value} {i : Nat} {v : Value} (h : (cs.drop i).take 1 = [v]) : cs[i]? = some v := by
  have := congrArg (·[0]?) h
  simpa [List.getElem?_take, List.getElem?_drop] using this
theorem info_of {W : World} (h : VarReads Tryz.prog W "internal/strconv.float64info" Rows.laid_internal_strconv_float64info) : W.cell? ⟨5, 0, none⟩ = some (.int .u64 52) ∧ W.cell? ⟨5, 1, none⟩ = some (.int .u64 11) ∧ W.cell? ⟨5, 2, none⟩ = some (.int .i64 (-1023)) := by
  obtain ⟨cs, fuel, p, hc, hd⟩ := reads_at (g := 5) (t := 125) h (by kernel_rfl) (by kernel_rfl)
  obtain ⟨xs, n, rfl, hx, hl, hxl, hall⟩ := DataW.trod_struct Tryz.underlying125 hd
  have hxs := (congrArg Prod.fst hx)
  unfold Rows.laid_internal_strconv_float64info at hxs
  injection hxs with hxs
  match xs, hxs with
  | [x0, x1, x2], hxs =>
    simp only [List.map_cons, List.map_nil, List.cons.injEq, and_true] at hxs
    obtain ⟨e0, e1, e2⟩ := hxs
    have h0 : DataW.trod (fun _ => ()) Tryz.prog W 0 (fun _ => true) false n 65 ((cs.toList.drop 0).take (Tryz.prog.cellsOf 65)) = some x0 := hall 0 _ rfl
    have h1 : DataW.trod (fun _ => ()) Tryz.prog W 0 (fun _ => true) false n 65 ((cs.toList.drop 1).take (Tryz.prog.cellsOf 65)) = some x1 := hall 1 _ rfl
    have h2 : DataW.trod (fun _ => ()) Tryz.prog W 0 (fun _ => true) false n 3 ((cs.toList.drop 2).take (Tryz.prog.cellsOf 3)) = some x2 := hall 2 _ rfl
    have c65 : Tryz.prog.cellsOf 65 = 1 := by kernel_rfl
    have c3 : Tryz.prog.cellsOf 3 = 1 := by kernel_rfl
    rw [c65] at h0 h1
    rw [c3] at h2
    obtain ⟨x0, p0⟩ := x0
    obtain ⟨x1, p1⟩ := x1
    obtain ⟨x2, p2⟩ := x2
    have e0' : x0 = _ := e0.symm
    have e1' : x1 = _ := e1.symm
    have e2' : x2 = _ := e2.symm
    subst e0' e1' e2'
    have g0 := take_one (int_cell Tryz.underlying65 h0)
    have g1 := take_one (int_cell Tryz.underlying65 h1)
    have g2 := take_one (int_cell Tryz.underlying3 h2)
    refine ⟨?_, ?_, ?_⟩ <;> rw [hc, ← Array.getElem?_toList]
    · exact g0
    · exact g1
    · exact g2
/-- A listed slice of elements of one cell. -/
theorem slice_of {W : World} {n : String} {g : Nat} {t e : TypeId} {ds : List (DataW Unit)} (h : VarReads Tryz.prog W n (.slice ds [])) (hg : Tryz.prog.globalNamed n = some g) (ht : (Tryz.prog.globals[g]?).map (·.type) = some t)
    (hu : Tryz.prog.underlying t = some (.slice e)) :
    ∃ (a : Addr) (cap : Nat), W.cell? ⟨g, 0, none⟩ = some (.slice (some a) ds.length cap) ∧ ∀ i (hi : i < ds.length), ∃ fuel cs p, W.cells? 0 (a.add (i * Tryz.prog.cellsOf e)) (Tryz.prog.cellsOf e) = some cs ∧ DataW.trod (fun _ => ()) Tryz.prog W 0 (fun _ => true) false fuel e cs = some (ds[i]'hi, p) := by
  obtain ⟨cs, fuel, p, hc, hd⟩ := reads_at h hg ht
  rcases DataW.trod_slice hu hd with ⟨_, hx⟩ | ⟨a, len, cap, elems, rest, m, rfl, hcs, hx, h0, h1, h2, hl, hel, _, _⟩
  · have := congrArg Prod.fst hx; cases this
  · have hxs := congrArg Prod.fst hx
    injection hxs with hxs _
    have hlen : ds.length = len := by rw [hxs, List.length_map]; exact hl
    refine ⟨a, cap, by rw [hc, toList_one hcs, hlen], fun i hi => ?_⟩
    have hi' : i < len := by omega
    have := hel i hi'
    rw [List.getElem?_eq_getElem (by omega)] at this
    obtain ⟨cs', hcs', hd'⟩ := Option.bind_eq_some_iff.1 this
    refine ⟨m, cs', (elems[i]'(by omega)).2, hcs', ?_⟩
    rw [hd']
    congr 1
    have he : ds[i]'hi = (elems[i]'(by omega)).1 := by simp [hxs]
    rw [he]
theorem cells_one {W : World} {a : Addr} {v : Value} (h : W.cells? 0 a 1 = some [v]) : W.cell? a = some v := by
  have := (World.cells?_some h).2.2 0 (by omega)
  have e : a.add 0 = a := by unfold Addr.add; split <;> simp_all
  rw [e] at this
  exact this
theorem add_block (a : Addr) (n : Nat) : (a.add n).block = a.block := by unfold Addr.add; split <;> rfl
theorem spot_none {W : World} {a : Addr} {v : Value} (h : W.cell? a = some v) : a.spot = none := by
  unfold World.cell? at h
  split at h
  · split at h
    · cases h
    · rename_i h'; cases hs : a.spot with
      | none => rfl
      | some x => rw [hs] at h'; simp at h'
  · cases h
theorem powtab_of {W : World} (h : VarReads Tryz.prog W "internal/strconv.powtab" Rows.laid_internal_strconv_powtab) : ∃ (b o cap : Nat), b < W.heap.size ∧ W.cell? ⟨7, 0, none⟩ = some (.slice (some ⟨b, o, none⟩) 9 cap) ∧ ∀ k, k < 9 → W.cell? ⟨b, o + k, none⟩ = some (.int .i64 (pwTab k : Nat)) := by
  obtain ⟨a, cap, h1, h2⟩ := slice_of (g := 7) (t := 169) (e := 3) h (by kernel_rfl) (by kernel_rfl) Tryz.underlying169
  have c3 : Tryz.prog.cellsOf 3 = 1 := by kernel_rfl
  have H : ∀ k, k < 9 → W.cell? (a.add k) = some (.int .i64 (pwTab k : Nat)) := fun k hk => by
    obtain ⟨fuel, cs, p, hcs, hd⟩ := h2 k hk
    rw [c3, Nat.mul_one] at hcs
    have hv : ∀ k (hk : k < 9), ([.lit (.int .i64 1), .lit (.int .i64 3), .lit (.int .i64 6), .lit (.int .i64 9), .lit (.int .i64 13), .lit (.int .i64 16), .lit (.int .i64 19), .lit (.int .i64 23), .lit (.int .i64 26)] : List (DataW Unit))[k]'hk = .lit (.int .i64 (pwTab k : Nat)) := by
      intro k hk
      match k, hk with
      | 0, _ => rfl
      | 1, _ => rfl
      | 2, _ => rfl
      | 3, _ => rfl
      | 4, _ => rfl
      | 5, _ => rfl
      | 6, _ => rfl
      | 7, _ => rfl
      | 8, _ => rfl
    rw [show _ = _ from hv k hk] at hd
    rw [int_cell Tryz.underlying3 hd] at hcs
    exact cells_one hcs
  have h0 := H 0 (by omega)
  have e0 : a.add 0 = a := by unfold Addr.add; simp
  rw [e0] at h0
  have hs := spot_none h0
  obtain ⟨b, o, sp⟩ := a
  subst hs
  refine ⟨b, o, cap, lt_of_cell h0, h1, fun k hk => ?_⟩
  have := H k hk
  by_cases hk0 : k = 0
  · subst hk0; exact this
  · unfold Addr.add at this; rw [if_neg hk0] at this; exact this
theorem fpow_of {W : World} (h : VarReads Tryz.prog W "internal/strconv.float64pow10" Rows.laid_internal_strconv_float64pow10) : ∃ (b o cap : Nat), b < W.heap.size ∧ W.cell? ⟨8, 0, none⟩ = some (.slice (some ⟨b, o, none⟩) 23 cap) ∧ ∀ k, k < 23 → W.cell? ⟨b, o + k, none⟩ = some (.float .f64 (fpw k)) := by
  have hr : (Rows.laid_internal_strconv_float64pow10 : DataW Unit) = .slice ((List.range 23).map fun k => .lit (.float .f64 (fpw k))) [] := by rfl
  rw [hr] at h
  obtain ⟨a, cap, h1, h2⟩ := slice_of (g := 8) (t := 171) (e := 37) h (by kernel_rfl) (by kernel_rfl) Tryz.underlying171
  have c37 : Tryz.prog.cellsOf 37 = 1 := by kernel_rfl
  have H : ∀ k, k < 23 → W.cell? (a.add k) = some (.float .f64 (fpw k)) := fun k hk => by
    obtain ⟨fuel, cs, p, hcs, hd⟩ := h2 k (by simpa using hk)
    rw [c37, Nat.mul_one] at hcs
    rw [List.getElem_map, List.getElem_range] at hd
    rw [float_cell Tryz.underlying37 hd] at hcs
    exact cells_one hcs
  rw [List.length_map, List.length_range] at h1
  have h0 := H 0 (by omega)
  have e0 : a.add 0 = a := by unfold Addr.add; simp
  rw [e0] at h0
  have hs := spot_none h0
  obtain ⟨b, o, sp⟩ := a
  subst hs
  refine ⟨b, o, cap, lt_of_cell h0, h1, fun k hk => ?_⟩
  have := H k hk
  by_cases hk0 : k = 0
  · subst hk0; exact this
  · unfold Addr.add at this; rw [if_neg hk0] at this; exact this
theorem cheats_of {W : World} (h : VarReads Tryz.prog W "internal/strconv.leftcheats" Rows.laid_internal_strconv_leftcheats) : ∃ (a : Addr) (cap : Nat), a.block < W.heap.size ∧ W.cell? ⟨10, 0, none⟩ = some (.slice (some a) 61 cap) ∧ ∀ k, k < 61 → W.cell? (a.add (k * 2)) = some (.int .i64 (cheat k).1) ∧ W.cell? ⟨(a.add (k * 2)).block, (a.add (k * 2)).off + 1, none⟩ = some (.string ⟨(cheat k).2.toArray⟩) := by
  have hl : Go.Pinned.cheatRows.length = 61 := by decide +kernel
  obtain ⟨a, cap, h1, h2⟩ := slice_of (g := 10) (t := 187) (e := 186) (ds := Go.Pinned.cheatRows.map fun x => .agg [.lit (.int .i64 x.1), .lit (.string x.2)]) h (by kernel_rfl) (by kernel_rfl) Tryz.underlying187
  have c186 : Tryz.prog.cellsOf 186 = 2 := by kernel_rfl
  have c3 : Tryz.prog.cellsOf 3 = 1 := by kernel_rfl
  have c9 : Tryz.prog.cellsOf 9 = 1 := by kernel_rfl
  rw [List.length_map, hl] at h1
  have H : ∀ k, k < 61 → W.cell? (a.add (k * 2)) = some (.int .i64 (cheat k).1) ∧ W.cell? ⟨(a.add (k * 2)).block, (a.add (k * 2)).off + 1, none⟩ = some (.string ⟨(cheat k).2.toArray⟩) := fun k hk => by
    obtain ⟨fuel, cs, p, hcs, hd⟩ := h2 k (by rw [List.length_map, hl]; exact hk)
    rw [c186] at hcs
    rw [List.getElem_map] at hd
    have hck : Go.Pinned.cheatRows[k]'(by omega) = cheat k := by unfold cheat; rw [List.getD, List.getElem?_eq_getElem (by omega)]; rfl
    rw [hck] at hd
    obtain ⟨xs, n, rfl, hx, hlen, hxl, hall⟩ := DataW.trod_struct Tryz.underlying186 hd
    have hxs := congrArg Prod.fst hx
    injection hxs with hxs
    match xs, hxs with
    | [(x0, p0), (x1, p1)], hxs =>
      simp only [List.map_cons, List.map_nil, List.cons.injEq, and_true] at hxs
      obtain ⟨e0, e1⟩ := hxs
      have h0 : DataW.trod (fun _ => ()) Tryz.prog W 0 (fun _ => true) false n 3 ((cs.drop 0).take (Tryz.prog.cellsOf 3)) = some (x0, p0) := hall 0 _ rfl
      have h1 : DataW.trod (fun _ => ()) Tryz.prog W 0 (fun _ => true) false n 9 ((cs.drop 1).take (Tryz.prog.cellsOf 9)) = some (x1, p1) := hall 1 _ rfl
      rw [c3] at h0
      rw [c9] at h1
      have e0' : x0 = _ := e0.symm
      have e1' : x1 = _ := e1.symm
      subst e0' e1'
      have g0 := take_one (int_cell Tryz.underlying3 h0)
      have g1 := take_one (string_cell Tryz.underlying9 h1)
      have hc := (World.cells?_some hcs).2.2
      have hc0 := hc 0 (by omega)
      have hc1 := hc 1 (by omega)
      have ea : (a.add (k * 2)).add 0 = a.add (k * 2) := by generalize a.add (k * 2) = b; unfold Addr.add; simp
      rw [ea] at hc0
      constructor
      · rw [hc0]; exact g0
      · have eb : (a.add (k * 2)).add 1 = ⟨(a.add (k * 2)).block, (a.add (k * 2)).off + 1, none⟩ := by generalize a.add (k * 2) = b; unfold Addr.add; rfl
        rw [← eb, hc1]; exact g1
  have h0 := (H 0 (by omega)).1
  exact ⟨a, cap, by have := lt_of_cell h0; rw [add_block] at this; exact this, h1, H⟩
theorem pow_of {W : World} (h : VarReads Tryz.prog W "internal/strconv.pow10Tab" Rows.laid_internal_strconv_pow10Tab) : PT W := by
  have hl : Go.Pinned.pow10Rows.length = 696 := by decide +kernel
  obtain ⟨cs, fuel, p, hc, hd⟩ := reads_at (g := 9) (t := 176) h (by kernel_rfl) (by kernel_rfl)
  have c175 : Tryz.prog.cellsOf 175 = 2 := by kernel_rfl
  have c24 : Tryz.prog.cellsOf 24 = 1 := by kernel_rfl
  intro i hi
  obtain ⟨fuel', d, q, hdi, he⟩ := array_elem (ds := Go.Pinned.pow10Rows.map fun x => .agg [.lit (.int .u64 x.1), .lit (.int .u64 x.2)]) Tryz.underlying176 hd i hi
  rw [List.getElem?_map, List.getElem?_eq_getElem (by omega), Option.map_some] at hdi
  have hdi := Option.some.inj hdi
  subst hdi
  have hck : Go.Pinned.pow10Rows.getD i (0, 0) = Go.Pinned.pow10Rows[i]'(by omega) := by rw [List.getD, List.getElem?_eq_getElem (by omega)]; rfl
  rw [hck]
  generalize Go.Pinned.pow10Rows[i]'(by omega) = r at he
  obtain ⟨r1, r2⟩ := r
  rw [c175] at he
  have hcs := ints_of_struct (zs := [(r1 : Int), (r2 : Int)]) Tryz.underlying175 (fun j f hj => by
    match j, hj with
    | 0, hj => simp at hj; subst hj; exact ⟨Tryz.underlying24, rfl, c24⟩
    | 1, hj => simp at hj; subst hj; exact ⟨Tryz.underlying24, rfl, c24⟩
    | j + 2, hj => simp at hj) (by rw [c175]; rfl) he
  have e0 := congrArg (·[0]?) hcs
  have e1 := congrArg (·[1]?) hcs
  simp only [List.getElem?_take, List.getElem?_drop] at e0 e1
  constructor
  · rw [hc, ← Array.getElem?_toList]; simpa using e0
  · rw [hc, ← Array.getElem?_toList]; simpa using e1
theorem err_of {W : World} (h : laidMet Tryz.prog tabs W) : EV W := by
  obtain ⟨a0, s0, hv0, -, -, -⟩ := laid_sentinel h.tail.tail.tail.tail.tail.tail.tail.tail.tail (show Tryz.prog.globalNamed "strconv.ErrRange" = some 2 by kernel_rfl) (by kernel_rfl) Tryz.underlying39 row143 Tryz.underlying143 Tryz.underlying145 rfl rfl Tryz.underlying9 (by kernel_rfl) (by kernel_rfl)
  obtain ⟨a1, s1, hv1, -, -, -⟩ := laid_sentinel h.tail.tail.tail.tail.tail.tail.tail.tail.tail.tail (show Tryz.prog.globalNamed "strconv.ErrSyntax" = some 1 by kernel_rfl) (by kernel_rfl) Tryz.underlying39 row143 Tryz.underlying143 Tryz.underlying145 rfl rfl Tryz.underlying9 (by kernel_rfl) (by kernel_rfl)
  have c0 := World.var?_cell (show Tryz.prog.globalNamed "strconv.ErrRange" = some 2 by kernel_rfl) hv0 0
  have c1 := World.var?_cell (show Tryz.prog.globalNamed "strconv.ErrSyntax" = some 1 by kernel_rfl) hv1 0
  exact ⟨⟨_, by simpa using c1, .inr ⟨_, _, rfl⟩⟩, ⟨_, by simpa using c0, .inr ⟨_, _, rfl⟩⟩⟩
theorem tabs_of {W : World} (h : laidMetH Tryz.prog tabs W) : TWd W := by
  rw [MakeChecks.laidMetH_plain _ _ _ (by kernel_rfl)] at h
  have hopt := opt_of (Lib.laidMet.reads h (n := "internal/strconv.optimize") (d := Rows.laid_internal_strconv_optimize) (.tail _ (.tail _ (.tail _ (.tail _ (.head _))))))
  obtain ⟨i0, i1, i2⟩ := info_of (Lib.laidMet.reads h (n := "internal/strconv.float64info") (d := Rows.laid_internal_strconv_float64info) (.tail _ (.tail _ (.tail _ (.head _)))))
  have hpow := powtab_of (Lib.laidMet.reads h (n := "internal/strconv.powtab") (d := Rows.laid_internal_strconv_powtab) (.tail _ (.tail _ (.tail _ (.tail _ (.tail _ (.head _)))))))
  obtain ⟨fb, fo, fc, f1, f2, f3⟩ := fpow_of (Lib.laidMet.reads h (n := "internal/strconv.float64pow10") (d := Rows.laid_internal_strconv_float64pow10) (.tail _ (.tail _ (.tail _ (.tail _ (.tail _ (.tail _ (.head _))))))))
  obtain ⟨ca, cc, g1, g2, g3⟩ := cheats_of (Lib.laidMet.reads h (n := "internal/strconv.leftcheats") (d := Rows.laid_internal_strconv_leftcheats) (.tail _ (.tail _ (.tail _ (.tail _ (.tail _ (.tail _ (.tail _ (.tail _ (.tail _ (.tail _ (.tail _ (.head _)))))))))))))
  have hpt := pow_of (Lib.laidMet.reads h (n := "internal/strconv.pow10Tab") (d := Rows.laid_internal_strconv_pow10Tab) (.tail _ (.tail _ (.tail _ (.tail _ (.tail _ (.tail _ (.tail _ (.tail _ (.tail _ (.tail _ (.tail _ (.tail _ (.head _))))))))))))))
  have hB : 10 < W.heap.size := lt_of_cell g2
  exact ⟨W.heap.size, ⟨⟨ca, cc, g1, hB, g2, g3⟩, ⟨hB, i0, i1, i2, hpow⟩, ⟨fb, fo, fc, f1, hB, f2, f3⟩, hpt, hopt⟩, Nat.le_refl _, err_of h, by omega⟩
end Go.Proofs.YtogikhohkbcccaaGreatDoor.Lad
