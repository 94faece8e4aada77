import Derived.Test.YtoaehanfknjngaaDoorDt
namespace Go.Proofs.YtoaehanfknjngaaDoor.Bx
set_option linter.unusedVariables false
set_option linter.unusedSimpArgs false
open Go.RowKit Go.Proofs.YtoaehanfknjngaaDoor.Ext Go.Proofs.YtoaehanfknjngaaDoor.L Go.Proofs.YtoaehanfknjngaaDoorW.PrintWords Go.Proofs.YtoaehanfknjngaaDoorW.PrintLast Go.Proofs.YtoaehanfknjngaaDoorW.PrintMore
open Go.Proofs.YtoaehanfknjngaaDoor.Com Go.Proofs.YtoaehanfknjngaaDoor.Tree Go.Proofs.YtoaehanfknjngaaDoor.Sg Go.Proofs.YtoaehanfknjngaaDoor.Dt

/-- A simple value in an interface: its type's number and letter. -/
inductive Leaf : TypeId → Value → UInt8 → Prop
  | y (n : Int) : Leaf 5 (.int .u8 n) 121
  | b (x : Bool) : Leaf 4 (.bool x) 98
  | n (n : Int) : Leaf 65 (.int .i16 n) 110
  | q (n : Int) : Leaf 83 (.int .u16 n) 113
  | i (n : Int) : Leaf 21 (.int .i32 n) 105
  | u (n : Int) : Leaf 84 (.int .u32 n) 117
  | x (n : Int) : Leaf 2 (.int .i64 n) 120
  | t (n : Int) : Leaf 28 (.int .u64 n) 116
  | d (n : Nat) : Leaf 85 (.float .f64 n) 100
  | s (s : ByteArray) : Leaf 9 (.string s) 115
  | o (s : ByteArray) : Leaf 86 (.string s) 111
  | g (s : ByteArray) : Leaf 42 (.agg #[.string s]) 103
  | v (s : ByteArray) (t : TypeId) (u : Value) : Leaf 88 (.agg #[.string s, .iface t u]) 118
  | h (n : Int) : Leaf 90 (.int .u32 n) 104

/-- A value in an interface, and its Go type's text; what it is made of are blocks that are ok, from base on. -/
inductive Bx (W : World) (base : Nat) : (Nat → Prop) → Value → List UInt8 → Prop
  | leaf {ok : Nat → Prop} (t : TypeId) (v : Value) (c : UInt8) : Leaf t v c → Bx W base ok (.iface t v) [c]
  | list {ok : Nat → Prop} (b : Nat) (e : ByteArray) (k : Value) : ok b → base ≤ b → W.heap[b]? = some (.cells #[.string e, k] 94 (0, 0)) → Bx W base ok (.iface 91 (.pointer (some ⟨b, 0, none⟩))) (91 :: B e)
  | dict {ok : Nat → Prop} (b : Nat) (k e : ByteArray) (ks vs : Value) : ok b → base ≤ b → W.heap[b]? = some (.cells #[.string k, .string e, ks, vs] 98 (0, 0)) → Bx W base ok (.iface 95 (.pointer (some ⟨b, 0, none⟩))) (123 :: (B k ++ B e))
  | rcd {ok : Nat → Prop} (v : Value) (us : List Value) (gs : List (List UInt8)) : (∀ k, v.ownBlock = some k → ok k) → W.ownsRow base 20 1 v us.length us → us.length = gs.length →
      (∀ (i : Nat) (u : Value) (g : List UInt8), us[i]? = some u → gs[i]? = some g → Bx W base (fun k => ok k ∧ some k ≠ v.ownBlock) u g) → Bx W base ok (.iface 100 (.agg #[v])) (40 :: (gs.flatten ++ [41]))

theorem Bx.one {W : World} {base : Nat} {ok : Nat → Prop} {u : Value} {g : List UInt8} (h : Bx W base ok u g) : u.oneCell' = true := by
  cases h <;> rfl
theorem Bx.mono {W : World} {base : Nat} {ok ok' : Nat → Prop} {u : Value} {g : List UInt8} (hok : ∀ k, ok k → ok' k) (h : Bx W base ok u g) : Bx W base ok' u g := by
  induction h generalizing ok' with
  | leaf t v c h => exact .leaf t v c h
  | list b e k h1 h2 h3 => exact .list b e k (hok b h1) h2 h3
  | dict b k e ks vs h1 h2 h3 => exact .dict b k e ks vs (hok b h1) h2 h3
  | rcd v us gs h1 h2 h3 h4 ih => exact .rcd v us gs (fun k hk => hok k (h1 k hk)) h2 h3 (fun i u g hu hg => ih i u g hu hg (fun k hk => ⟨hok k hk.1, hk.2⟩))
theorem Bx.bound {W : World} {base : Nat} {ok : Nat → Prop} {u : Value} {g : List UInt8} (h : Bx W base ok u g) :
    Bx W base (fun k => ok k ∧ base ≤ k ∧ k < W.heap.size ∧ ∃ q, q ∈ [94, 98, 20] ∧ ∃ cells, W.heap[k]? = some (.cells cells q (0, 0))) u g := by
  induction h with
  | leaf t v c h => exact .leaf t v c h
  | list b e k h1 h2 h3 => exact .list b e k ⟨h1, h2, (Array.getElem?_eq_some_iff.1 h3).1, 94, by simp, _, h3⟩ h2 h3
  | dict b k e ks vs h1 h2 h3 => exact .dict b k e ks vs ⟨h1, h2, (Array.getElem?_eq_some_iff.1 h3).1, 98, by simp, _, h3⟩ h2 h3
  | rcd v us gs h1 h2 h3 h4 ih =>
    refine .rcd v us gs (fun k hk => ?_) h2 h3 (fun i u g hu hg => (ih i u g hu hg).mono (fun k hk => ⟨⟨hk.1.1, hk.2.1, hk.2.2.1, hk.2.2.2⟩, hk.1.2⟩))
    obtain ⟨cells, hc⟩ := own_typed h2 k hk
    exact ⟨h1 k hk, own_base h2 k hk, own_lt h2 k hk, 20, by simp, cells, hc⟩
theorem Bx.move {W W1 : World} {base : Nat} {ok : Nat → Prop} {u : Value} {g : List UInt8} (hm : ∀ k, ok k → W1.heap[k]? = W.heap[k]?) (h : Bx W base ok u g) : Bx W1 base ok u g := by
  induction h with
  | leaf t v c h => exact .leaf t v c h
  | list b e k h1 h2 h3 => exact .list b e k h1 h2 ((hm b h1).trans h3)
  | dict b k e ks vs h1 h2 h3 => exact .dict b k e ks vs h1 h2 ((hm b h1).trans h3)
  | rcd v us gs h1 h2 h3 h4 ih => exact .rcd v us gs h1 (own_move h2 (fun k hk => hm k (h1 k hk))) h3 (fun i u g hu hg => ih i u g hu hg (fun k hk => hm k hk.1))
theorem Bx.lower {W : World} {base base' : Nat} {ok : Nat → Prop} {u : Value} {g : List UInt8} (hb : base' ≤ base) (h : Bx W base ok u g) : Bx W base' ok u g := by
  induction h with
  | leaf t v c h => exact .leaf t v c h
  | list b e k h1 h2 h3 => exact .list b e k h1 (by omega) h3
  | dict b k e ks vs h1 h2 h3 => exact .dict b k e ks vs h1 (by omega) h3
  | rcd v us gs h1 h2 h3 h4 ih => exact .rcd v us gs h1 (own_weaken h2 hb) h3 ih
theorem Bx.keep {W W1 : World} {base : Nat} {ok : Nat → Prop} {u : Value} {g : List UInt8} (h : Bx W base ok u g) (hb : Below W.heap.size W W1) : Bx W1 base ok u g :=
  (h.bound.move (W1 := W1) (fun k hk => hb.block k hk.2.2.1)).mono (fun k hk => hk.1)

/-- Values in interfaces, told by their Go types' texts. -/
def kA : Kd (List UInt8) where
  sz := 1
  E := [94, 98, 20]
  K := fun w x cs => ∃ u, cs = [u] ∧ Bx w 0 (fun _ => True) u x
  M := fun w base ok x cs => ∃ u, cs = [u] ∧ Bx w base ok u x
  K_len := by rintro w x cs ⟨u, rfl, _⟩; rfl
  K_one := by rintro w x cs ⟨u, rfl, h⟩ v hv; rw [List.mem_singleton.1 hv]; exact h.one
  K_below := by rintro w w1 x cs hb ⟨u, rfl, h⟩; exact ⟨u, rfl, h.keep hb⟩
  K_of_M := by rintro w base ok x cs ⟨u, rfl, h⟩; exact ⟨u, rfl, (h.lower (Nat.zero_le _)).mono (fun _ _ => trivial)⟩
  M_mono := by rintro w base ok ok' x cs hok ⟨u, rfl, h⟩; exact ⟨u, rfl, h.mono hok⟩
  M_bound := by rintro w base ok x cs ⟨u, rfl, h⟩; exact ⟨u, rfl, h.bound⟩
  M_move := by rintro w w1 base ok x cs hm ⟨u, rfl, h⟩; exact ⟨u, rfl, h.move hm⟩
  M_lower := by rintro w base base' ok x cs hb ⟨u, rfl, h⟩; exact ⟨u, rfl, h.lower hb⟩
/-- Any values of one cell each. -/
def kU : Kd Value where
  sz := 1
  E := []
  K := fun w x cs => cs = [x] ∧ x.oneCell' = true
  M := fun w base ok x cs => cs = [x] ∧ x.oneCell' = true
  K_len := by rintro w x cs ⟨rfl, _⟩; rfl
  K_one := by rintro w x cs ⟨rfl, h⟩ v hv; rw [List.mem_singleton.1 hv]; exact h
  K_below := fun _ h => h
  K_of_M := fun h => h
  M_mono := fun _ h => h
  M_bound := fun h => h
  M_move := fun _ h => h
  M_lower := fun _ h => h

/-- A row of values in interfaces, as a record's. -/
theorem rcd_of {W : World} {base : Nat} {ok : Nat → Prop} {v : Value} {gs : List (List UInt8)} (h : kA.R 20 W base ok v gs) : Bx W base ok (.iface 100 (.agg #[v])) (40 :: (gs.flatten ++ [41])) := by
  obtain ⟨h0, inner, ho, hr⟩ := h
  have hl : inner.length = gs.length := by have := hr.1; simpa [kA] using this
  refine .rcd v inner gs h0 (by rw [hl]; exact ho) hl (fun i u g hu hg => ?_)
  obtain ⟨u', he, hb⟩ := hr.2 i g hg
  have hi : inner.drop (i * kA.sz) = inner.drop i := by show inner.drop (i * 1) = _; rw [Nat.mul_one]
  rw [hi, List.drop_eq_getElem_cons (List.getElem?_eq_some_iff.1 hu).1] at he
  have : inner[i]'(List.getElem?_eq_some_iff.1 hu).1 = u' := by injection he
  rw [← (List.getElem?_eq_some_iff.1 hu).2, this]
  exact hb
end Go.Proofs.YtoaehanfknjngaaDoor.Bx
