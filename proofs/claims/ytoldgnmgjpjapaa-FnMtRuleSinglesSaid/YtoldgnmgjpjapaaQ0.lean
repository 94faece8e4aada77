-- Written by a program of this session out of the translation; Lean checks it.
import Derived.Test.YtoldgnmgjpjapaaProg
import Derived.Below
import Derived.Deep.Draws
import Derived.Deep.AppendLies
import Derived.Maps.AppendAt
import Derived.OwnWalk
import Derived.Laws.BytesArg
import Derived.Laws.MakeOwn
import Derived.Laws.OwnMore
import Derived.Deep.OwnRows
import Derived.Tactics
import Derived.Lib.ConvBytes
import Derived.Laws.Slices
import Derived.WalkKit
import Derived.KernelRfl
import Derived.RowKit3
import Derived.Deep.LoopGhost
import Derived.Deep.QuietTactic
import Derived.BigQuiet
import Derived.WideLaws
import Derived.Deep.DeepCutAuto
import Derived.Deep.CutBlock
import Derived.Deep.RegionHeld3
import Derived.Laws.Rows
import Derived.Lib.AppendStr
import Derived.ArgAppend
import Derived.Laws.IdiomCopy
import Derived.OrdersHeld
import Derived.Laws.BitsLemmas
import Derived.RowKit
import Derived.Test.YtoldgnmgjpjapaaWWords
import Derived.Test.YtoldgnmgjpjapaaWLast
import Derived.Test.YtoldgnmgjpjapaaWTab
import Derived.Test.YtoldgnmgjpjapaaWFour
import Derived.Test.YtoldgnmgjpjapaaWQPut
import Derived.Test.YtoldgnmgjpjapaaWApart
import Derived.Test.YtoldgnmgjpjapaaWArr
import Derived.Test.YtoldgnmgjpjapaaWZeros
import Derived.Test.YtoldgnmgjpjapaaWFoot
import Derived.Test.YtoldgnmgjpjapaaWKept
import Derived.Test.YtoldgnmgjpjapaaWShare
import Derived.Test.YtoldgnmgjpjapaaWN
import Derived.Test.YtoldgnmgjpjapaaWFootNe
import Derived.Test.YtoldgnmgjpjapaaWAt
import Derived.Test.YtoldgnmgjpjapaaWEqStruct
import Derived.Test.YtoldgnmgjpjapaaWRepsOne
import Derived.Test.YtoldgnmgjpjapaaWInv
import Derived.Test.YtoldgnmgjpjapaaWInvWords
import Derived.Test.YtoldgnmgjpjapaaWGuard
import Derived.Test.YtoldgnmgjpjapaaWNEv
import Derived.Test.YtoldgnmgjpjapaaWMore
namespace Go.Proofs.Ytoldgnmgjpjapaa.Q
open Go.RowKit Go.Proofs.YtoldgnmgjpjapaaW.PrintWords Go.Proofs.YtoldgnmgjpjapaaW.PrintLast Go.Proofs.YtoldgnmgjpjapaaW.PrintMore
attribute [local go_sem] max2_int min2_int max_two min_two max_three min_three max_four min_four   -- for this text's walks alone
set_option linter.unusedVariables false
set_option linter.unusedSimpArgs false



def errW : Option Int → Value
  | none => .nilIface
  | some c => .iface 0 (.int .i64 c)
theorem errW_none : errW none = .nilIface := rfl
theorem errW_some (c : Int) : errW (some c) = .iface 0 (.int .i64 c) := rfl

theorem info9 : (Try.prog.info? 9).map (fun i => (i.zero, i.size, i.bytes)) = some (some (.string ⟨#[]⟩), 1, 16) := by kernel_rfl
theorem info29 : (Try.prog.info? 29).map (fun i => (i.zero, i.size, i.bytes)) = some (some (.agg #[(.string ⟨#[]⟩), (.string ⟨#[]⟩)]), 2, 32) := by kernel_rfl
theorem info30 : (Try.prog.info? 30).map (fun i => (i.zero, i.size, i.bytes)) = some (some (.agg #[(.string ⟨#[]⟩), (.string ⟨#[]⟩)]), 2, 32) := by kernel_rfl
theorem info36 : (Try.prog.info? 36).map (fun i => (i.zero, i.size, i.bytes)) = some (some (.agg #[(.string ⟨#[]⟩), (.string ⟨#[]⟩)]), 2, 32) := by kernel_rfl
-- the values' own types
/-! #### struct type 30 -/
structure S30 where
  f0 : ByteArray
  f1 : ByteArray
def z30 : S30 := ⟨(⟨#[]⟩ : ByteArray), (⟨#[]⟩ : ByteArray)⟩
def k30 : Kd S30 := Kd.iso (Kd.pair Kd.string Kd.string) (fun x : S30 => (x.f0, x.f1))
theorem k30_open {w : World} {x : S30} {cs : List Value} (h : k30.K w x cs) : cs = [.string x.f0, .string x.f1] := by
  obtain ⟨_, _, rfl, rfl, rfl⟩ := h
  exact rfl
theorem k30_openM {w : World} {base : Nat} {ok : Nat → Prop} {x : S30} {cs : List Value} (h : k30.M w base ok x cs) : cs = [.string x.f0, .string x.f1] := by
  obtain ⟨_, _, rfl, rfl, rfl⟩ := h
  exact rfl
theorem k30_mk (w : World) (x : S30)  : k30.K w x [.string x.f0, .string x.f1] := ⟨[.string x.f0], [.string x.f1], rfl, rfl, rfl⟩
theorem k30_mkM (w : World) (base : Nat) (ok : Nat → Prop) (x : S30)  : k30.M w base ok x [.string x.f0, .string x.f1] := ⟨[.string x.f0], [.string x.f1], rfl, rfl, rfl⟩
def rd_T30 (xs : List S30) (i : Int) : S30 := xs.getD i.toNat z30
theorem at_T30 {w : World} {A : Option Addr} {n : Nat} {xs : List S30} (h : Kd.C k30 w A n xs) (i : Int) (h0 : 0 ≤ i) (h1 : i < n) : ∃ ad , A = some ad ∧ w.cell? (ad.add (i.toNat * 2)) = some (.string (rd_T30 xs i).f0) ∧ w.cell? ⟨(ad.add (i.toNat * 2)).block, (ad.add (i.toNat * 2)).off + 1, none⟩ = some (.string (rd_T30 xs i).f1) := by
  obtain ⟨ad, c, e, _, hK, hc0⟩ := Kd.C_get h z30 i h0 h1
  have hc : ∀ j u, c[j]? = some u → w.cell? (ad.add (i.toNat * 2 + j)) = some u := hc0
  obtain rfl := k30_open hK
  exact ⟨ad, e, hc 0 _ rfl, by rw [← add_field _ _ 1 (by omega)]; exact hc 1 _ rfl⟩

/-! #### struct type 29 -/
structure S29 where
  f0 : ByteArray
  f1 : ByteArray
def z29 : S29 := ⟨(⟨#[]⟩ : ByteArray), (⟨#[]⟩ : ByteArray)⟩
def k29 : Kd S29 := Kd.iso (Kd.pair Kd.string Kd.string) (fun x : S29 => (x.f0, x.f1))
theorem k29_open {w : World} {x : S29} {cs : List Value} (h : k29.K w x cs) : cs = [.string x.f0, .string x.f1] := by
  obtain ⟨_, _, rfl, rfl, rfl⟩ := h
  exact rfl
theorem k29_openM {w : World} {base : Nat} {ok : Nat → Prop} {x : S29} {cs : List Value} (h : k29.M w base ok x cs) : cs = [.string x.f0, .string x.f1] := by
  obtain ⟨_, _, rfl, rfl, rfl⟩ := h
  exact rfl
theorem k29_mk (w : World) (x : S29)  : k29.K w x [.string x.f0, .string x.f1] := ⟨[.string x.f0], [.string x.f1], rfl, rfl, rfl⟩
theorem k29_mkM (w : World) (base : Nat) (ok : Nat → Prop) (x : S29)  : k29.M w base ok x [.string x.f0, .string x.f1] := ⟨[.string x.f0], [.string x.f1], rfl, rfl, rfl⟩
def rd_T29 (xs : List S29) (i : Int) : S29 := xs.getD i.toNat z29
theorem at_T29 {w : World} {A : Option Addr} {n : Nat} {xs : List S29} (h : Kd.C k29 w A n xs) (i : Int) (h0 : 0 ≤ i) (h1 : i < n) : ∃ ad , A = some ad ∧ w.cell? (ad.add (i.toNat * 2)) = some (.string (rd_T29 xs i).f0) ∧ w.cell? ⟨(ad.add (i.toNat * 2)).block, (ad.add (i.toNat * 2)).off + 1, none⟩ = some (.string (rd_T29 xs i).f1) := by
  obtain ⟨ad, c, e, _, hK, hc0⟩ := Kd.C_get h z29 i h0 h1
  have hc : ∀ j u, c[j]? = some u → w.cell? (ad.add (i.toNat * 2 + j)) = some u := hc0
  obtain rfl := k29_open hK
  exact ⟨ad, e, hc 0 _ rfl, by rw [← add_field _ _ 1 (by omega)]; exact hc 1 _ rfl⟩

/-! #### struct type 36 -/
structure S36 where
  f0 : ByteArray
  f1 : ByteArray
def z36 : S36 := ⟨(⟨#[]⟩ : ByteArray), (⟨#[]⟩ : ByteArray)⟩
def k36 : Kd S36 := Kd.iso (Kd.pair Kd.string Kd.string) (fun x : S36 => (x.f0, x.f1))
theorem k36_open {w : World} {x : S36} {cs : List Value} (h : k36.K w x cs) : cs = [.string x.f0, .string x.f1] := by
  obtain ⟨_, _, rfl, rfl, rfl⟩ := h
  exact rfl
theorem k36_openM {w : World} {base : Nat} {ok : Nat → Prop} {x : S36} {cs : List Value} (h : k36.M w base ok x cs) : cs = [.string x.f0, .string x.f1] := by
  obtain ⟨_, _, rfl, rfl, rfl⟩ := h
  exact rfl
theorem k36_mk (w : World) (x : S36)  : k36.K w x [.string x.f0, .string x.f1] := ⟨[.string x.f0], [.string x.f1], rfl, rfl, rfl⟩
theorem k36_mkM (w : World) (base : Nat) (ok : Nat → Prop) (x : S36)  : k36.M w base ok x [.string x.f0, .string x.f1] := ⟨[.string x.f0], [.string x.f1], rfl, rfl, rfl⟩
def rd_T36 (xs : List S36) (i : Int) : S36 := xs.getD i.toNat z36
theorem at_T36 {w : World} {A : Option Addr} {n : Nat} {xs : List S36} (h : Kd.C k36 w A n xs) (i : Int) (h0 : 0 ≤ i) (h1 : i < n) : ∃ ad , A = some ad ∧ w.cell? (ad.add (i.toNat * 2)) = some (.string (rd_T36 xs i).f0) ∧ w.cell? ⟨(ad.add (i.toNat * 2)).block, (ad.add (i.toNat * 2)).off + 1, none⟩ = some (.string (rd_T36 xs i).f1) := by
  obtain ⟨ad, c, e, _, hK, hc0⟩ := Kd.C_get h z36 i h0 h1
  have hc : ∀ j u, c[j]? = some u → w.cell? (ad.add (i.toNat * 2 + j)) = some u := hc0
  obtain rfl := k36_open hK
  exact ⟨ad, e, hc 0 _ rfl, by rw [← add_field _ _ 1 (by omega)]; exact hc 1 _ rfl⟩

end Go.Proofs.Ytoldgnmgjpjapaa.Q
