-- Written by a program of this session out of the translation; Lean checks it.
import Derived.Test.YtoldgnmgjpjapaaDoorProg
import Derived.Below
import Derived.Deep.Draws
import Derived.Deep.AppendLies
import Derived.Maps.AppendAt
import Derived.OwnWalk
import Derived.Laws.BytesArg
import Derived.Laws.MakeOwn
import Derived.Laws.OwnMore
import Derived.Deep.OwnRows
import Derived.Tactics
import Derived.Lib.ConvBytes
import Derived.Laws.Slices
import Derived.WalkKit
import Derived.KernelRfl
import Derived.RowKit3
import Derived.Deep.LoopGhost
import Derived.Deep.QuietTactic
import Derived.BigQuiet
import Derived.WideLaws
import Derived.Deep.DeepCutAuto
import Derived.Deep.CutBlock
import Derived.Deep.RegionHeld3
import Derived.Laws.Rows
import Derived.Lib.AppendStr
import Derived.ArgAppend
import Derived.Laws.IdiomCopy
import Derived.OrdersHeld
import Derived.Laws.BitsLemmas
import Derived.RowKit
import Derived.Test.YtoldgnmgjpjapaaDoorWWords
import Derived.Test.YtoldgnmgjpjapaaDoorGt
import Derived.Test.YtoldgnmgjpjapaaDoorWLast
import Derived.Test.YtoldgnmgjpjapaaDoorWTab
import Derived.Test.YtoldgnmgjpjapaaDoorWFour
import Derived.Test.YtoldgnmgjpjapaaDoorWRepsOne
import Derived.Test.YtoldgnmgjpjapaaDoorWGuard
namespace Go.Proofs.YtoldgnmgjpjapaaDoor.Q
open Go.RowKit Go.Proofs.YtoldgnmgjpjapaaDoorW.PrintWords Go.Proofs.YtoldgnmgjpjapaaDoorW.PrintLast Go.Proofs.YtoldgnmgjpjapaaDoor.Gt
set_option linter.unusedVariables false
set_option linter.unusedSimpArgs false



def errW : Option Int → Value
  | none => .nilIface
  | some c => .iface 0 (.int .i64 c)
theorem errW_none : errW none = .nilIface := rfl
theorem errW_some (c : Int) : errW (some c) = .iface 0 (.int .i64 c) := rfl

theorem info5 : (Tryd.prog.info? 5).map (fun i => (i.zero, i.size, i.bytes)) = some (some (.int .u8 0), 1, 1) := by kernel_rfl
theorem info9 : (Tryd.prog.info? 9).map (fun i => (i.zero, i.size, i.bytes)) = some (some (.string ⟨#[]⟩), 1, 16) := by kernel_rfl
theorem info32 : (Tryd.prog.info? 32).map (fun i => (i.zero, i.size, i.bytes)) = some (some (.agg #[(.string ⟨#[]⟩), (.string ⟨#[]⟩)]), 2, 32) := by kernel_rfl
theorem info41 : (Tryd.prog.info? 41).map (fun i => (i.zero, i.size, i.bytes)) = some (some (.agg #[(.string ⟨#[]⟩), (.string ⟨#[]⟩)]), 2, 32) := by kernel_rfl
theorem info50 : (Tryd.prog.info? 50).map (fun i => (i.zero, i.size, i.bytes)) = some (some (.agg #[(.string ⟨#[]⟩), (.string ⟨#[]⟩)]), 2, 32) := by kernel_rfl
-- the values' own types
/-! #### struct type 63, nested in itself -/
structure S63 where
  f0 : Int
  f1 : Int
  f2 : ByteArray
  f3 : (List S63)
def z63 : S63 := ⟨(0 : Int), (0 : Int), (⟨#[]⟩ : ByteArray), ([] : List S63)⟩
def F63 (d : Kd S63) : Kd S63 := Kd.iso (Kd.pair (Kd.int .u8) (Kd.pair (Kd.int .u64) (Kd.pair Kd.string (Kd.slice 63 d)))) (fun x : S63 => (x.f0, x.f1, x.f2, x.f3))
theorem mono63 : Kd.Mono F63 := Kd.mono_iso _ (Kd.mono_pair (Kd.mono_const _) (Kd.mono_pair (Kd.mono_const _) (Kd.mono_pair (Kd.mono_const _) (Kd.mono_slice 63 Kd.mono_id))))
theorem sub63 : Kd.Sub F63 [63] := Kd.sub_iso _ (Kd.sub_pair (Kd.sub_const _ (by decide)) (Kd.sub_pair (Kd.sub_const _ (by decide)) (Kd.sub_pair (Kd.sub_const _ (by decide)) (Kd.sub_slice 63 (by decide) Kd.sub_id))))
theorem sz63 : ∀ n, (Kd.upto F63 4 [63] n).sz = 4 := Kd.upto_sz (fun _ => rfl)
def k63 : Kd S63 := Kd.fix F63 4 [63] sz63 (Kd.upto_E sub63)
theorem k63_open {w : World} {x : S63} {cs : List Value} (h : k63.K w x cs) : ∃ A3 c3, cs = [.int .u8 x.f0, .int .u64 x.f1, .string x.f2, .slice A3 x.f3.length c3] ∧ x.f3.length ≤ c3 ∧ k63.C w A3 x.f3.length x.f3 := by
  obtain ⟨n, h⟩ := h
  cases n with
  | zero => exact h.elim
  | succ n =>
    obtain ⟨_, _, rfl, rfl, ⟨_, _, rfl, rfl, ⟨_, _, rfl, rfl, ⟨A3, c3, rfl, l3, g3⟩⟩⟩⟩ := h
    exact ⟨A3, c3, rfl, l3, Kd.fix_C g3⟩
theorem k63_openM {w : World} {base : Nat} {ok : Nat → Prop} {x : S63} {cs : List Value} (h : k63.M w base ok x cs) : ∃ v3, cs = [.int .u8 x.f0, .int .u64 x.f1, .string x.f2, v3] ∧ k63.R 63 w base ok v3 x.f3 := by
  obtain ⟨n, h⟩ := h
  cases n with
  | zero => exact h.elim
  | succ n =>
    obtain ⟨_, _, rfl, rfl, ⟨_, _, rfl, rfl, ⟨_, _, rfl, rfl, ⟨v3, rfl, g3⟩⟩⟩⟩ := h
    exact ⟨v3, rfl, Kd.fix_R g3⟩
theorem k63_mk (w : World) (x : S63) {A3 : Option Addr} {c3 : Nat} (l3 : x.f3.length ≤ c3) (g3 : k63.C w A3 x.f3.length x.f3) : k63.K w x [.int .u8 x.f0, .int .u64 x.f1, .string x.f2, .slice A3 x.f3.length c3] := by
  obtain ⟨n3, q3⟩ := Kd.fix_C_back mono63 g3
  have r3 := Kd.upto_C_le mono63 sz63 (show n3 ≤ n3 by omega) q3
  exact ⟨n3 + 1, ⟨[.int .u8 x.f0], [.int .u64 x.f1, .string x.f2, .slice A3 x.f3.length c3], rfl, rfl, ⟨[.int .u64 x.f1], [.string x.f2, .slice A3 x.f3.length c3], rfl, rfl, ⟨[.string x.f2], [.slice A3 x.f3.length c3], rfl, rfl, ⟨A3, c3, rfl, l3, r3⟩⟩⟩⟩⟩
theorem k63_mkM (w : World) (base : Nat) (ok : Nat → Prop) (x : S63) {v3 : Value} (g3 : k63.R 63 w base ok v3 x.f3) : k63.M w base ok x [.int .u8 x.f0, .int .u64 x.f1, .string x.f2, v3] := by
  obtain ⟨n3, q3⟩ := Kd.fix_R_back mono63 g3
  have r3 := Kd.upto_R_le mono63 sz63 (show n3 ≤ n3 by omega) q3
  exact ⟨n3 + 1, ⟨[.int .u8 x.f0], [.int .u64 x.f1, .string x.f2, v3], rfl, rfl, ⟨[.int .u64 x.f1], [.string x.f2, v3], rfl, rfl, ⟨[.string x.f2], [v3], rfl, rfl, ⟨v3, rfl, r3⟩⟩⟩⟩⟩
def rd_T63 (xs : List S63) (i : Int) : S63 := xs.getD i.toNat z63
theorem at_T63 {w : World} {A : Option Addr} {n : Nat} {xs : List S63} (h : Kd.C k63 w A n xs) (i : Int) (h0 : 0 ≤ i) (h1 : i < n) : ∃ ad A3 c3, A = some ad ∧ w.cell? (ad.add (i.toNat * 4)) = some (.int .u8 (rd_T63 xs i).f0) ∧ w.cell? ⟨(ad.add (i.toNat * 4)).block, (ad.add (i.toNat * 4)).off + 1, none⟩ = some (.int .u64 (rd_T63 xs i).f1) ∧ w.cell? ⟨(ad.add (i.toNat * 4)).block, (ad.add (i.toNat * 4)).off + 2, none⟩ = some (.string (rd_T63 xs i).f2) ∧ w.cell? ⟨(ad.add (i.toNat * 4)).block, (ad.add (i.toNat * 4)).off + 3, none⟩ = some (.slice A3 (rd_T63 xs i).f3.length c3) ∧ (rd_T63 xs i).f3.length ≤ c3 ∧ k63.C w A3 (rd_T63 xs i).f3.length (rd_T63 xs i).f3 := by
  obtain ⟨ad, c, e, _, hK, hc0⟩ := Kd.C_get h z63 i h0 h1
  have hc : ∀ j u, c[j]? = some u → w.cell? (ad.add (i.toNat * 4 + j)) = some u := hc0
  obtain ⟨A3, c3, rfl, l3, g3⟩ := k63_open hK
  exact ⟨ad, A3, c3, e, hc 0 _ rfl, by rw [← add_field _ _ 1 (by omega)]; exact hc 1 _ rfl, by rw [← add_field _ _ 2 (by omega)]; exact hc 2 _ rfl, by rw [← add_field _ _ 3 (by omega)]; exact hc 3 _ rfl, l3, g3⟩

/-! #### struct type 69 -/
structure S69 where
  f0 : Int
  f1 : S63
def z69 : S69 := ⟨(0 : Int), z63⟩
def k69 : Kd S69 := Kd.iso (Kd.pair (Kd.int .u8) k63) (fun x : S69 => (x.f0, x.f1))
theorem k69_open {w : World} {x : S69} {cs : List Value} (h : k69.K w x cs) : ∃ A4 c4, cs = [.int .u8 x.f0, .int .u8 x.f1.f0, .int .u64 x.f1.f1, .string x.f1.f2, .slice A4 x.f1.f3.length c4] ∧ x.f1.f3.length ≤ c4 ∧ k63.C w A4 x.f1.f3.length x.f1.f3 := by
  obtain ⟨_, _, rfl, rfl, s1⟩ := h
  obtain ⟨A4, c4, rfl, l4, g4⟩ := k63_open s1
  exact ⟨A4, c4, rfl, l4, g4⟩
theorem k69_openM {w : World} {base : Nat} {ok : Nat → Prop} {x : S69} {cs : List Value} (h : k69.M w base ok x cs) : ∃ v4, cs = [.int .u8 x.f0, .int .u8 x.f1.f0, .int .u64 x.f1.f1, .string x.f1.f2, v4] ∧ k63.R 63 w base ok v4 x.f1.f3 := by
  obtain ⟨_, _, rfl, rfl, s1⟩ := h
  obtain ⟨v4, rfl, g4⟩ := k63_openM s1
  exact ⟨v4, rfl, g4⟩
theorem k69_mk (w : World) (x : S69) {A4 : Option Addr} {c4 : Nat} (l4 : x.f1.f3.length ≤ c4) (g4 : k63.C w A4 x.f1.f3.length x.f1.f3) : k69.K w x [.int .u8 x.f0, .int .u8 x.f1.f0, .int .u64 x.f1.f1, .string x.f1.f2, .slice A4 x.f1.f3.length c4] := ⟨[.int .u8 x.f0], [.int .u8 x.f1.f0, .int .u64 x.f1.f1, .string x.f1.f2, .slice A4 x.f1.f3.length c4], rfl, rfl, (k63_mk w x.f1 l4 g4)⟩
theorem k69_mkM (w : World) (base : Nat) (ok : Nat → Prop) (x : S69) {v4 : Value} (g4 : k63.R 63 w base ok v4 x.f1.f3) : k69.M w base ok x [.int .u8 x.f0, .int .u8 x.f1.f0, .int .u64 x.f1.f1, .string x.f1.f2, v4] := ⟨[.int .u8 x.f0], [.int .u8 x.f1.f0, .int .u64 x.f1.f1, .string x.f1.f2, v4], rfl, rfl, (k63_mkM w base ok x.f1 g4)⟩
def rd_T69 (xs : List S69) (i : Int) : S69 := xs.getD i.toNat z69
theorem at_T69 {w : World} {A : Option Addr} {n : Nat} {xs : List S69} (h : Kd.C k69 w A n xs) (i : Int) (h0 : 0 ≤ i) (h1 : i < n) : ∃ ad A4 c4, A = some ad ∧ w.cell? (ad.add (i.toNat * 5)) = some (.int .u8 (rd_T69 xs i).f0) ∧ w.cell? ⟨(ad.add (i.toNat * 5)).block, (ad.add (i.toNat * 5)).off + 1, none⟩ = some (.int .u8 (rd_T69 xs i).f1.f0) ∧ w.cell? ⟨(ad.add (i.toNat * 5)).block, (ad.add (i.toNat * 5)).off + 2, none⟩ = some (.int .u64 (rd_T69 xs i).f1.f1) ∧ w.cell? ⟨(ad.add (i.toNat * 5)).block, (ad.add (i.toNat * 5)).off + 3, none⟩ = some (.string (rd_T69 xs i).f1.f2) ∧ w.cell? ⟨(ad.add (i.toNat * 5)).block, (ad.add (i.toNat * 5)).off + 4, none⟩ = some (.slice A4 (rd_T69 xs i).f1.f3.length c4) ∧ (rd_T69 xs i).f1.f3.length ≤ c4 ∧ k63.C w A4 (rd_T69 xs i).f1.f3.length (rd_T69 xs i).f1.f3 := by
  obtain ⟨ad, c, e, _, hK, hc0⟩ := Kd.C_get h z69 i h0 h1
  have hc : ∀ j u, c[j]? = some u → w.cell? (ad.add (i.toNat * 5 + j)) = some u := hc0
  obtain ⟨A4, c4, rfl, l4, g4⟩ := k69_open hK
  exact ⟨ad, A4, c4, e, hc 0 _ rfl, by rw [← add_field _ _ 1 (by omega)]; exact hc 1 _ rfl, by rw [← add_field _ _ 2 (by omega)]; exact hc 2 _ rfl, by rw [← add_field _ _ 3 (by omega)]; exact hc 3 _ rfl, by rw [← add_field _ _ 4 (by omega)]; exact hc 4 _ rfl, l4, g4⟩

/-! #### struct type 32 -/
structure S32 where
  f0 : ByteArray
  f1 : ByteArray
def z32 : S32 := ⟨(⟨#[]⟩ : ByteArray), (⟨#[]⟩ : ByteArray)⟩
def k32 : Kd S32 := Kd.iso (Kd.pair Kd.string Kd.string) (fun x : S32 => (x.f0, x.f1))
theorem k32_open {w : World} {x : S32} {cs : List Value} (h : k32.K w x cs) : cs = [.string x.f0, .string x.f1] := by
  obtain ⟨_, _, rfl, rfl, rfl⟩ := h
  exact rfl
theorem k32_openM {w : World} {base : Nat} {ok : Nat → Prop} {x : S32} {cs : List Value} (h : k32.M w base ok x cs) : cs = [.string x.f0, .string x.f1] := by
  obtain ⟨_, _, rfl, rfl, rfl⟩ := h
  exact rfl
theorem k32_mk (w : World) (x : S32)  : k32.K w x [.string x.f0, .string x.f1] := ⟨[.string x.f0], [.string x.f1], rfl, rfl, rfl⟩
theorem k32_mkM (w : World) (base : Nat) (ok : Nat → Prop) (x : S32)  : k32.M w base ok x [.string x.f0, .string x.f1] := ⟨[.string x.f0], [.string x.f1], rfl, rfl, rfl⟩
def rd_T32 (xs : List S32) (i : Int) : S32 := xs.getD i.toNat z32
theorem at_T32 {w : World} {A : Option Addr} {n : Nat} {xs : List S32} (h : Kd.C k32 w A n xs) (i : Int) (h0 : 0 ≤ i) (h1 : i < n) : ∃ ad , A = some ad ∧ w.cell? (ad.add (i.toNat * 2)) = some (.string (rd_T32 xs i).f0) ∧ w.cell? ⟨(ad.add (i.toNat * 2)).block, (ad.add (i.toNat * 2)).off + 1, none⟩ = some (.string (rd_T32 xs i).f1) := by
  obtain ⟨ad, c, e, _, hK, hc0⟩ := Kd.C_get h z32 i h0 h1
  have hc : ∀ j u, c[j]? = some u → w.cell? (ad.add (i.toNat * 2 + j)) = some u := hc0
  obtain rfl := k32_open hK
  exact ⟨ad, e, hc 0 _ rfl, by rw [← add_field _ _ 1 (by omega)]; exact hc 1 _ rfl⟩

/-! #### struct type 41 -/
structure S41 where
  f0 : ByteArray
  f1 : ByteArray
def z41 : S41 := ⟨(⟨#[]⟩ : ByteArray), (⟨#[]⟩ : ByteArray)⟩
def k41 : Kd S41 := Kd.iso (Kd.pair Kd.string Kd.string) (fun x : S41 => (x.f0, x.f1))
theorem k41_open {w : World} {x : S41} {cs : List Value} (h : k41.K w x cs) : cs = [.string x.f0, .string x.f1] := by
  obtain ⟨_, _, rfl, rfl, rfl⟩ := h
  exact rfl
theorem k41_openM {w : World} {base : Nat} {ok : Nat → Prop} {x : S41} {cs : List Value} (h : k41.M w base ok x cs) : cs = [.string x.f0, .string x.f1] := by
  obtain ⟨_, _, rfl, rfl, rfl⟩ := h
  exact rfl
theorem k41_mk (w : World) (x : S41)  : k41.K w x [.string x.f0, .string x.f1] := ⟨[.string x.f0], [.string x.f1], rfl, rfl, rfl⟩
theorem k41_mkM (w : World) (base : Nat) (ok : Nat → Prop) (x : S41)  : k41.M w base ok x [.string x.f0, .string x.f1] := ⟨[.string x.f0], [.string x.f1], rfl, rfl, rfl⟩
def rd_T41 (xs : List S41) (i : Int) : S41 := xs.getD i.toNat z41
theorem at_T41 {w : World} {A : Option Addr} {n : Nat} {xs : List S41} (h : Kd.C k41 w A n xs) (i : Int) (h0 : 0 ≤ i) (h1 : i < n) : ∃ ad , A = some ad ∧ w.cell? (ad.add (i.toNat * 2)) = some (.string (rd_T41 xs i).f0) ∧ w.cell? ⟨(ad.add (i.toNat * 2)).block, (ad.add (i.toNat * 2)).off + 1, none⟩ = some (.string (rd_T41 xs i).f1) := by
  obtain ⟨ad, c, e, _, hK, hc0⟩ := Kd.C_get h z41 i h0 h1
  have hc : ∀ j u, c[j]? = some u → w.cell? (ad.add (i.toNat * 2 + j)) = some u := hc0
  obtain rfl := k41_open hK
  exact ⟨ad, e, hc 0 _ rfl, by rw [← add_field _ _ 1 (by omega)]; exact hc 1 _ rfl⟩

/-! #### struct type 50 -/
structure S50 where
  f0 : ByteArray
  f1 : ByteArray
def z50 : S50 := ⟨(⟨#[]⟩ : ByteArray), (⟨#[]⟩ : ByteArray)⟩
def k50 : Kd S50 := Kd.iso (Kd.pair Kd.string Kd.string) (fun x : S50 => (x.f0, x.f1))
theorem k50_open {w : World} {x : S50} {cs : List Value} (h : k50.K w x cs) : cs = [.string x.f0, .string x.f1] := by
  obtain ⟨_, _, rfl, rfl, rfl⟩ := h
  exact rfl
theorem k50_openM {w : World} {base : Nat} {ok : Nat → Prop} {x : S50} {cs : List Value} (h : k50.M w base ok x cs) : cs = [.string x.f0, .string x.f1] := by
  obtain ⟨_, _, rfl, rfl, rfl⟩ := h
  exact rfl
theorem k50_mk (w : World) (x : S50)  : k50.K w x [.string x.f0, .string x.f1] := ⟨[.string x.f0], [.string x.f1], rfl, rfl, rfl⟩
theorem k50_mkM (w : World) (base : Nat) (ok : Nat → Prop) (x : S50)  : k50.M w base ok x [.string x.f0, .string x.f1] := ⟨[.string x.f0], [.string x.f1], rfl, rfl, rfl⟩
def rd_T50 (xs : List S50) (i : Int) : S50 := xs.getD i.toNat z50
theorem at_T50 {w : World} {A : Option Addr} {n : Nat} {xs : List S50} (h : Kd.C k50 w A n xs) (i : Int) (h0 : 0 ≤ i) (h1 : i < n) : ∃ ad , A = some ad ∧ w.cell? (ad.add (i.toNat * 2)) = some (.string (rd_T50 xs i).f0) ∧ w.cell? ⟨(ad.add (i.toNat * 2)).block, (ad.add (i.toNat * 2)).off + 1, none⟩ = some (.string (rd_T50 xs i).f1) := by
  obtain ⟨ad, c, e, _, hK, hc0⟩ := Kd.C_get h z50 i h0 h1
  have hc : ∀ j u, c[j]? = some u → w.cell? (ad.add (i.toNat * 2 + j)) = some u := hc0
  obtain rfl := k50_open hK
  exact ⟨ad, e, hc 0 _ rfl, by rw [← add_field _ _ 1 (by omega)]; exact hc 1 _ rfl⟩

end Go.Proofs.YtoldgnmgjpjapaaDoor.Q
