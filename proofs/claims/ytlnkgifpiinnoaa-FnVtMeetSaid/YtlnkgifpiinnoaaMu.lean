/-
Sets of signatures in the walk: look-up, store, range.
-/
import Derived.Test.YtlnkgifpiinnoaaMs
namespace Go.Proofs.Ytlnkgifpiinnoaa.Mu
set_option linter.unusedVariables false
set_option linter.unusedSimpArgs false
open Go.RowKit Go.WideMaps Go.Maps Go.Proofs.YtlnkgifpiinnoaaW.PrintWords Go.Proofs.Ytlnkgifpiinnoaa.Mk Go.Proofs.Ytlnkgifpiinnoaa.Ms

theorem R_inv (v : Value) (y : DataW Unit × List MemPlace) (h : R v = some y) : ∃ c, v = .bool c := by
  simp only [R, plainElem, Try.underlying4] at h
  cases v <;> simp at h
  exact ⟨_, rfl⟩
theorem R_bool (c : Bool) : R (.bool c) = some (.lit (.bool c), []) := plainElem_bool Try.underlying4 c
theorem SetOf.alloc {w : World} {b n : Nat} {P : ByteArray → Prop} (h : SetOf w b n P) (o : Obj) : SetOf (w.alloc o) b n P := by
  obtain ⟨D, h1, h2⟩ := h; exact ⟨D, h1.alloc o, h2⟩
theorem SetOf.lt {w : World} {b n : Nat} {P : ByteArray → Prop} (h : SetOf w b n P) : b < w.heap.size := by obtain ⟨D, h1, _⟩ := h; exact h1.lt
theorem SetOf.kept {w w' : World} {row : Option Nat} {b n : Nat} {P : ByteArray → Prop} (h : SetOf w b n P) (hg : w.grownBy w' row) (hne : some b ≠ row) : SetOf w' b n P := by
  obtain ⟨D, h1, h2⟩ := h; exact ⟨D, h1.kept hg hne, h2⟩
theorem SetOf.setCell {w : World} {b n : Nat} {P : ByteArray → Prop} (h : SetOf w b n P) {a : Addr} (ha : b ≠ a.block) (u : Value) : SetOf (w.setCell a u) b n P := by
  obtain ⟨D, h1, h2⟩ := h; exact ⟨D, h1.setCell ha u, h2⟩
theorem SetOf.below {w w' : World} {b n : Nat} {P : ByteArray → Prop} (h : SetOf w b n P) (hb : Below w.heap.size w w') : SetOf w' b n P := by
  obtain ⟨D, ⟨es, clock, h1, h2, h3, h4⟩, h5⟩ := h
  have hlt : b < w.heap.size := (Array.getElem?_eq_some_iff.1 h1).1
  exact ⟨D, ⟨es, clock, (hb.block b hlt).trans h1, h2, h3, h4⟩, h5⟩
theorem SetOf.congr {w : World} {b n : Nat} {P Q : ByteArray → Prop} (h : SetOf w b n P) (hpq : ∀ s, P s ↔ Q s) : SetOf w b n Q := by
  obtain ⟨D, h1, h2⟩ := h; exact ⟨D, h1, fun s hs => ⟨(h2 s hs).1.trans (hpq s), (h2 s hs).2⟩⟩

theorem SetOf.congr2 {w : World} {b n : Nat} {P Q : ByteArray → Prop} (h : SetOf w b n P) (hpq : ∀ s : ByteArray, s.size ≤ maxLen → (P s ↔ Q s)) : SetOf w b n Q := by
  obtain ⟨D, h1, h2⟩ := h; exact ⟨D, h1, fun s hs => ⟨(h2 s hs).1.trans (hpq s hs), (h2 s hs).2⟩⟩
theorem SetOf.mono {w : World} {b n n' : Nat} {P : ByteArray → Prop} (h : SetOf w b n P) (hn : n ≤ n') : SetOf w b n' P := by
  obtain ⟨D, h1, h2⟩ := h; exact ⟨D, h1.mono hn, h2⟩
theorem keyInv (key : Value) (l : Lit) (h : keyOf Try.prog 60 key = some l) : ∃ x, key = kv x := by
  obtain ⟨s, h1, _⟩ := key_inv key l h; exact ⟨s, h1⟩
theorem valInv (v : Value) (y : DataW Unit × List MemPlace) (h : R v = some y) : ∃ c, v = Value.bool c := R_inv v y h
theorem same_kl {s t : ByteArray} (hs : s.size ≤ maxLen) (ht : t.size ≤ maxLen) : (kl s).sameKey (kl t) = decide (s = t) := by
  by_cases e : s = t
  · subst e; rw [decide_eq_true rfl]; exact WideAt.sameKey_self (show WideAt.IsKeyLit (kl s) from trivial)
  · rw [decide_eq_false e]; exact sameKey_ne (fun h => e (kl_inj hs ht h))
section
variable {ops : Array Oper} {rest : List Oper} {o : Oper} {a : Act} {Q : Exit → Act → World → Prop}
theorem wpList_lookup_set (w : World) (hg : o.guard = none) (m x : Operand) (hop : o.op = Op.lookup 40 m x false) (b n : Nat) (P : ByteArray → Prop) (hm : a.eval m = .map (some b)) (hS : SetOf w b n P) (s : ByteArray) (hx : a.eval x = kv s) (hs : s.size ≤ maxLen)
    (hK : ∀ c : Bool, (c = true ↔ P s) → wpList Try.prog ops Q rest (a.put o.dst (.bool c)) w) : wpList Try.prog ops Q (o :: rest) a w := by
  refine wpList_plain hg fun K' hK' => ?_
  obtain ⟨D, h1, h2⟩ := hS
  obtain ⟨h3, h4⟩ := h2 s hs
  obtain ⟨v, ps, hrun, hv⟩ := h1.lookup K Try.underlying40 (z := .bool false) (by kernel_rfl) (R_bool false) (key_is s hs)
  obtain ⟨c, rfl⟩ := R_inv v _ hv
  rw [R_bool c] at hv
  have hc : (.lit (.bool c) : DataW Unit) = D.atKey (kl s) (.lit (.bool false)) := (Prod.mk.inj (Option.some.inj hv)).1
  unfold Oper.wp
  simp [execOp, hop, hm, hx, hrun, Result.andThen]
  refine hK' _ _ (hK c ?_)
  rw [← h3]
  constructor
  · intro e
    cases hh : has D (kl s) with
    | true => rfl
    | false => rw [atKey_of_not_has hh, e] at hc; simp at hc
  · intro e
    rw [h4 e] at hc
    simpa using hc
theorem wpList_update_set (w : World) (hg : o.guard = none) (m x v : Operand) (hop : o.op = Op.mapUpdate 40 m x v) (b n : Nat) (P : ByteArray → Prop) (hm : a.eval m = .map (some b)) (hS : SetOf w b n P) (hn : n ≤ 1000000) (s : ByteArray) (hx : a.eval x = kv s) (hv : a.eval v = .bool true) (hs : s.size ≤ maxLen)
    (hK : ∀ w', SetOf w' b (n + 1) (fun t => t = s ∨ P t) → w.grownBy w' (some b) → wpList Try.prog ops Q rest (a.put o.dst undef) w') : wpList Try.prog ops Q (o :: rest) a w := by
  obtain ⟨D, h1, h2⟩ := hS
  refine wpList_mapUpdate_own w hg m x v 40 hop 60 4 K Try.underlying40 R b n D hm h1 (by unfold maxLen; omega) (kv s) (.bool true) (kl s) hx hv (key_is s hs) _ _ elem_true fun w' ho hg' => hK w' ⟨_, ho, fun t ht => ⟨?_, put_at h1.isMap s t hs ht (h2 t ht).2⟩⟩ hg'
  rw [put_has h1.isMap s t hs ht, (h2 t ht).1]
theorem wpList_next_set (w : World) (hg : o.guard = none) (it : Operand) (hop : o.op = Op.next it false) (b r n : Nat) (D : DataW Unit) (left : Lit → Bool) (cnt : Nat)
    (hit : a.eval it = .pointer (some ⟨r, 0, none⟩)) (h : w.ranges Try.prog 60 R b r n D left cnt) (hD : ∀ s : ByteArray, s.size ≤ maxLen → has D (kl s) = true → ∀ z, D.atKey (kl s) z = .lit (.bool true))
    (hDone : cnt = 0 → (∀ kl, left kl = false) → wpList Try.prog ops Q rest (a.put o.dst (.tuple #[.bool false])) w)
    (hMore : ∀ (x : ByteArray) (w' : World) (cnt' : Nat), x.size ≤ maxLen → left (kl x) = true → has D (kl x) = true → w'.ranges Try.prog 60 R b r n D (fun z => left z && !z.sameKey (kl x)) cnt' → cnt' < cnt →
      w.grownBy w' (some r) → w'.heap.size = w.heap.size → (Instr.entry (.pointer (some ⟨r, 0, none⟩))).run Try.prog w' = .ok (.tuple #[kv x, .bool true]) w' → wpList Try.prog ops Q rest (a.put o.dst (.tuple #[.bool true, kv x, .bool true])) w') :
    wpList Try.prog ops Q (o :: rest) a w := by
  refine wpList_next_ranges w hg it hop 60 K R kv Value.bool keyInv valInv b r n D left cnt hit h hDone ?_
  intro x c kx y w' cnt' hkey hl hy hat hr hlt hgr hsz hen
  obtain ⟨x', e1, hzx, e2⟩ := key_inv _ _ hkey
  obtain rfl : x = x' := by simpa [kv] using e1
  subst e2
  have hh : has D (kl x) = true := has_true_of_atKey hat
  rw [R_bool c] at hy
  have hc := hat .nil
  rw [hD x hzx hh, ← Option.some.inj hy] at hc
  obtain rfl : true = c := by simpa using hc
  exact hMore x w' cnt' hzx hl hh hr hlt hgr hsz hen
end
end Go.Proofs.Ytlnkgifpiinnoaa.Mu
