/-
What is proved: where the inside of a string has characters, those of it with another inside behind it are its characters and the other's; for every input.
-/
import Derived.Test.YthhehbocbhhbbaaDoorUd
import Derived.Test.YthhehbocbhhbbaaDoorQ4
namespace Go.Proofs.YthhehbocbhhbbaaDoor.PureJ
set_option linter.unusedVariables false
set_option linter.unusedSimpArgs false
open Go.RowKit Go.Proofs.YthhehbocbhhbbaaDoorW.PrintWords Go.Proofs.YthhehbocbhhbbaaDoor.Q Go.Proofs.YthhehbocbhhbbaaDoor.Com Go.Proofs.YthhehbocbhhbbaaDoor.Us Go.Proofs.YthhehbocbhhbbaaDoor.Ut Go.Proofs.YthhehbocbhhbbaaDoor.Ua Go.Proofs.YthhehbocbhhbbaaDoor.Ub Go.Proofs.YthhehbocbhhbbaaDoor.Uc Go.Proofs.YthhehbocbhhbbaaDoor.Ud Go.Proofs.YthhehbocbhhbbaaDoor.Vs

theorem S_join (m : UInt8) (a b : ByteArray) : (S m a).extract 0 (a.size + 1) ++ (S m b).extract 1 (S m b).size = S m (a ++ b) := by
  apply B_inj
  rw [B_append, B_to, B_from, B_S, B_S, B_S, B_append]
  have h1 : (m :: (B a ++ [m])).take (a.size + 1) = m :: B a := by
    rw [List.take_succ_cons, show a.size = (B a).length from (B_length a).symm, List.take_left]
  have h2 : (m :: (B b ++ [m])).drop 1 = B b ++ [m] := rfl
  rw [h1, h2, List.cons_append, List.append_assoc]

theorem j1_ev (m : UInt8) (a b : ByteArray) (ha : a.size ≤ 2147483647) (hb : b.size ≤ 2147483647) (hab : a.size + b.size ≤ 4096) (va : Valid (B a)) (vb : Valid (B b)) (oa : OKI m (B a) = true) (ob : OKI m (B b) = true) :
    Ev (fun k => laws_FnVtUnquoteJoin.j1 k (S m a) (S m b) false) true := by
  have hUa := unq m a ha va oa
  have hUb := unq m b hb vb ob
  have hla := B_length a
  have hlb := B_length b
  have hza := S_size m a
  have hzb := S_size m b
  have w : wrap64 (((S m a).size : Int) - 1) = ((a.size + 1 : Nat) : Int) := by rw [hza, wrap_of (by omega) (by omega)]; omega
  cases hx : U (B a) [] with
  | none =>
    rw [hx] at hUa
    have hE := unq_ev m a ha oa
    rw [hx] at hE
    refine Ev.step (fun k => by rw [laws_FnVtUnquoteJoin.j1]) ?_
    exact Ev.no Bool.false_ne_true (Ev.call hUa (Ev.no Bool.false_ne_true (Ev.bind hE (Ev.now _))))
  | some x =>
    rw [hx] at hUa
    obtain ⟨happ, hxl⟩ := U_all m (B a).length (B a) [] x (Nat.le_refl _) oa hx
    have hUab := unq m (a ++ b) (by rw [ByteArray.size_append]; omega) (by rw [B_append]; exact valid_app va vb) (by rw [B_append]; exact oki_app m _ _ _ (Nat.le_refl _) oa ob)
    rw [B_append, happ (B b), U_acc (B b).length (B b) x (Nat.le_refl _)] at hUab
    have q1 : (0 : Int) ≤ ((a.size + 1 : Nat) : Int) := by omega
    have q2 : ((a.size + 1 : Nat) : Int) ≤ ((S m a).size : Int) := by omega
    have q3 : (1 : Int) ≤ ((S m b).size : Int) := by omega
    have q4 : ((S m a).extract 0 (((a.size + 1 : Nat) : Int)).toNat).size + ((S m b).extract 1 (S m b).size).size ≤ 9223372036854775807 := by
      rw [ByteArray.size_extract, ByteArray.size_extract]; omega
    have e : (S m a).extract 0 (((a.size + 1 : Nat) : Int)).toNat ++ (S m b).extract 1 (S m b).size = S m (a ++ b) := by rw [Int.toNat_natCast]; exact S_join m a b
    rw [← e] at hUab
    refine Ev.step (fun k => by rw [laws_FnVtUnquoteJoin.j1, w]) ?_
    refine Ev.no Bool.false_ne_true (Ev.call hUa (Ev.yes rfl (Ev.call hUb (Ev.yes q1 (Ev.yes q2 (Ev.yes q3 (Ev.yes q4 (Ev.call hUab ?_))))))))
    cases hy : U (B b) [] with
    | none => exact Ev.yes rfl (Ev.no Bool.false_ne_true (Ev.now _))
    | some y =>
      obtain ⟨_, hyl⟩ := U_all m (B b).length (B b) [] y (Nat.le_refl _) ob hy
      simp only [List.length_nil] at hxl hyl
      have q5 : (mkb x).size + (mkb y).size ≤ 9223372036854775807 := by rw [size_mkb, size_mkb]; omega
      refine Ev.yes rfl (Ev.yes rfl (Ev.yes q5 (Ev.is ?_)))
      show ((mkb (x ++ y)).toList == (mkb x ++ mkb y).toList) = true
      rw [show mkb (x ++ y) = mkb x ++ mkb y from B_inj (by rw [B_append, B_mkb, B_mkb, B_mkb])]
      exact beq_self_eq_true _

theorem FnVtUnquoteJoin : ∀ (a0 a1 : ByteArray) (a2 : Bool), ∃ k, laws_FnVtUnquoteJoin.f k a0 a1 a2 = some true := by
  intro a0 a1 a2
  apply Ev.rounds
  have out0 : ∀ x y b, Ev (fun k => laws_FnVtUnquoteJoin.j0 k x y b true) true := by
    intro x y b
    refine Ev.step (fun k => by rw [laws_FnVtUnquoteJoin.j0]) ?_
    exact Ev.yes rfl (Ev.now _)
  have out1 : ∀ x y, Ev (fun k => laws_FnVtUnquoteJoin.j1 k x y true) true := by
    intro x y
    refine Ev.step (fun k => by rw [laws_FnVtUnquoteJoin.j1]) ?_
    exact Ev.yes rfl (Ev.now _)
  unfold laws_FnVtUnquoteJoin.f
  refine Ev.both (fun _ => out0 _ _ _) (fun c0 => ?_)
  by_cases c1 : (a1.size : Int) > 2147483647
  · rw [decide_eq_true c1]; exact out0 _ _ _
  rw [decide_eq_false c1]
  have h0 : a0.size ≤ 2147483647 := by omega
  have h1 : a1.size ≤ 2147483647 := by omega
  have hz0 := S_size (mrk a2) a0
  have hz1 := S_size (mrk a2) a1
  have w : wrap64 (((S (mrk a2) a0).size : Int) + ((S (mrk a2) a1).size : Int)) = ((S (mrk a2) a0).size : Int) + ((S (mrk a2) a1).size : Int) := wrap_of (by omega) (by omega)
  have hin0 := inside_ev a0 a2 h0
  have hin1 := inside_ev a1 a2 h1
  obtain ⟨t0, ht0, hv0⟩ := utf8_ev a0 (by omega)
  obtain ⟨t1, ht1, hv1⟩ := utf8_ev a1 (by omega)
  refine Ev.step (fun k => by rw [laws_FnVtUnquoteJoin.j0]) ?_
  refine Ev.no Bool.false_ne_true (Ev.bind hin0 (Ev.bind hin1 ?_))
  cases ho0 : OKI (mrk a2) (B a0) with
  | false => exact Ev.no Bool.false_ne_true (out1 _ _)
  | true =>
    refine Ev.yes rfl ?_
    cases ho1 : OKI (mrk a2) (B a1) with
    | false => exact Ev.no Bool.false_ne_true (out1 _ _)
    | true =>
      refine Ev.yes rfl ?_
      rw [w]
      refine Ev.both (fun _ => out1 _ _) (fun c2 => Ev.bind ht0 ?_)
      cases t0 with
      | false => exact Ev.no Bool.false_ne_true (out1 _ _)
      | true =>
        refine Ev.yes rfl (Ev.bind ht1 ?_)
        cases t1 with
        | false => exact out1 _ _
        | true => exact j1_ev (mrk a2) a0 a1 h0 h1 (by omega) (hv0 rfl) (hv1 rfl) ho0 ho1
end Go.Proofs.YthhehbocbhhbbaaDoor.PureJ
