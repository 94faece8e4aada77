/-
The map of codes in Fits: made by a literal, looked up once.
-/
import Derived.Test.YtoldgnmgjpjapaaDoorQ0
import Derived.Test.YtoldgnmgjpjapaaDoorCom
import Derived.Maps.OwnSet
import Derived.Outline
namespace Go.Proofs.YtoldgnmgjpjapaaDoor.Mp
set_option linter.unusedVariables false
set_option linter.unusedSimpArgs false
open Go.RowKit Go.Maps Go.WideMaps Go.ChangeMaps Go.Proofs.YtoldgnmgjpjapaaDoor.Com

theorem law9 : Keyed Tryd.prog 9 := string_keyed Tryd.underlying9
theorem zero5 (w : World) : (zeroValue 5).run Tryd.prog w = .ok (.int .u8 0) w := by kernel_rfl

abbrev Own (w : World) (b n : Nat) (D : DataW Nat) : Prop := w.ownsMap Tryd.prog 9 (plainElem Tryd.prog 5) b n D
def u8 (c : Int) : DataW Nat := .lit (.int .u8 c)
def D5 : DataW Nat := ((((DataW.map []).put (.string [112, 97, 116, 104]) (u8 1)).put (.string [105, 110, 116, 101, 114, 102, 97, 99, 101]) (u8 2)).put (.string [109, 101, 109, 98, 101, 114]) (u8 3)).put (.string [100, 101, 115, 116, 105, 110, 97, 116, 105, 111, 110]) (u8 6) |>.put (.string [115, 101, 110, 100, 101, 114]) (u8 7)
def D5l : List (Lit × DataW Nat) := [(.string [100, 101, 115, 116, 105, 110, 97, 116, 105, 111, 110], u8 6), (.string [105, 110, 116, 101, 114, 102, 97, 99, 101], u8 2), (.string [109, 101, 109, 98, 101, 114], u8 3), (.string [112, 97, 116, 104], u8 1), (.string [115, 101, 110, 100, 101, 114], u8 7)]
theorem D5_is : D5 = .map D5l := by kernel_rfl

/-- The code of a key, and whether it has one. -/
def cO (s : List UInt8) : Int := if s = [100, 101, 115, 116, 105, 110, 97, 116, 105, 111, 110] then 6 else if s = [105, 110, 116, 101, 114, 102, 97, 99, 101] then 2 else if s = [109, 101, 109, 98, 101, 114] then 3 else if s = [112, 97, 116, 104] then 1 else if s = [115, 101, 110, 100, 101, 114] then 7 else 0
def hO (s : List UInt8) : Bool := s == [100, 101, 115, 116, 105, 110, 97, 116, 105, 111, 110] || (s == [105, 110, 116, 101, 114, 102, 97, 99, 101] || (s == [109, 101, 109, 98, 101, 114] || (s == [112, 97, 116, 104] || s == [115, 101, 110, 100, 101, 114])))
def cOf (s : ByteArray) : Int := cO (B s)
def hK (s : ByteArray) : Bool := hO (B s)
theorem has_step (s k : List UInt8) (d : DataW Nat) (l : List (Lit × DataW Nat)) : Maps.has (.map ((Lit.string k, d) :: l)) (.string s) = (s == k || Maps.has (.map l) (.string s)) := by
  show ((k == s) || l.any _) = _
  by_cases h : s = k
  · subst h; simp
  · have h1 : (k == s) = false := beq_eq_false_iff_ne.mpr (fun e => h e.symm)
    have h2 : (s == k) = false := beq_eq_false_iff_ne.mpr h
    rw [h1, h2]; rfl
theorem has_is (s : List UInt8) : Maps.has D5 (.string s) = hO s := by
  rw [D5_is]
  unfold D5l hO
  rw [has_step, has_step, has_step, has_step, has_step]
  show (_ || (_ || (_ || (_ || (_ || false))))) = _
  rw [Bool.or_false]
theorem find_step (s k : List UInt8) (d z : DataW Nat) (l : List (Lit × DataW Nat)) : (DataW.map ((Lit.string k, d) :: l)).atKey (.string s) z = if s = k then d else (DataW.map l).atKey (.string s) z := by
  unfold DataW.atKey
  by_cases h : s = k
  · subst h
    simp [List.find?, Lit.sameKey]
  · have h2 : (k == s) = false := beq_eq_false_iff_ne.mpr (fun e => h e.symm)
    simp [List.find?, Lit.sameKey, h, h2]
theorem at_is (s : List UInt8) : D5.atKey (.string s) (.lit (.int .u8 0)) = .lit (.int .u8 (cO s)) := by
  rw [D5_is]
  unfold D5l cO u8
  rw [find_step, find_step, find_step, find_step, find_step]
  split
  · rfl
  split
  · rfl
  split
  · rfl
  split
  · rfl
  split <;> rfl

def Ins (o : Oper) (k : Array UInt8) (c : Int) : Prop := o.guard = none ∧ o.dst = none ∧ o.op = Op.insert 53 (.tmp 17) (.const (.string ⟨k⟩)) (.const (.int .u8 c))
theorem ins_step {ops : Array Oper} {rest : List Oper} {o : Oper} {a : Act} {Q : Exit → Act → World → Prop} {W : World} (k : Array UInt8) (c : Int) (hi : Ins o k c) (hc : (Lit.int .u8 c).wf = true) (hk : k.size ≤ maxLen) (b n : Nat) (D : DataW Nat)
    (hm : a.eval (.tmp 17) = .map (some b)) (hown : Own W b n D) (hn : n < maxLen) (h : ∀ w1, Own w1 b (n + 1) (D.put (.string k.toList) (u8 c)) → W.grownBy w1 (some b) → wpList Tryd.prog ops Q rest a w1) : wpList Tryd.prog ops Q (o :: rest) a W := by
  obtain ⟨hg, hd, hop⟩ := hi
  refine wpList_plain hg fun K' hK' => ?_
  obtain ⟨w', hrun, r1, r2⟩ := hown.update law9 Tryd.underlying53 hn (key := .string ⟨k⟩) (val := .int .u8 c) (keyOf_string_mk Tryd.underlying9 hk) (plainElem_int Tryd.underlying5 hc)
  have hx : a.eval (.const (.string ⟨k⟩)) = .string ⟨k⟩ := rfl
  have hv : a.eval (.const (.int .u8 c)) = .int .u8 c := rfl
  unfold Oper.wp
  simp [execOp, hop, hm, hx, hv, hrun, Result.andThen]
  refine hK' _ _ ?_
  rw [hd]
  exact h w' r1 r2

theorem map_event {ops : Array Oper} {rest : List Oper} {o1 o2 o3 o4 o5 o6 : Oper} {a : Act} {Q : Exit → Act → World → Prop} {W : World} (hg : o1.guard = none) (hd : o1.dst = some 17) (hop : o1.op = Op.makeMap 53 none)
    (h2 : Ins o2 #[112, 97, 116, 104] 1) (h3 : Ins o3 #[105, 110, 116, 101, 114, 102, 97, 99, 101] 2) (h4 : Ins o4 #[109, 101, 109, 98, 101, 114] 3) (h5 : Ins o5 #[100, 101, 115, 116, 105, 110, 97, 116, 105, 111, 110] 6) (h6 : Ins o6 #[115, 101, 110, 100, 101, 114] 7)
    (hm : ∀ b, (a.put (some 17) (.map (some b))).eval (.tmp 17) = .map (some b))
    (h : ∀ b w1, Own w1 b 5 D5 → Below W.heap.size W w1 → wpList Tryd.prog ops Q rest (a.put (some 17) (.map (some b))) w1) : wpList Tryd.prog ops Q (o1 :: o2 :: o3 :: o4 :: o5 :: o6 :: rest) a W := by
  have hmm := @run_makeMap Tryd.prog
  refine wpList_plain hg fun K' hK' => ?_
  unfold Oper.wp
  simp [execOp, hop, hmm, Result.andThen]
  refine hK' _ _ ?_
  rw [hd]
  have B0 := (Below.refl W.heap.size W).alloc (Nat.le_refl _) (.map #[] 0)
  have M : 5 < maxLen := by unfold maxLen; omega
  refine ins_step _ _ h2 (by decide) (by decide) W.heap.size 0 _ (hm _) (World.ownsMap_made W _ _ _) (by omega) fun w1 m1 g1 => ?_
  have B1 := B0.grown g1 B0.size (fun j hj => by cases hj; exact Nat.le_refl _)
  refine ins_step _ _ h3 (by decide) (by decide) W.heap.size 1 _ (hm _) m1 (by omega) fun w2 m2 g2 => ?_
  have B2 := B1.grown g2 B1.size (fun j hj => by cases hj; exact Nat.le_refl _)
  refine ins_step _ _ h4 (by decide) (by decide) W.heap.size 2 _ (hm _) m2 (by omega) fun w3 m3 g3 => ?_
  have B3 := B2.grown g3 B2.size (fun j hj => by cases hj; exact Nat.le_refl _)
  refine ins_step _ _ h5 (by decide) (by decide) W.heap.size 3 _ (hm _) m3 (by omega) fun w4 m4 g4 => ?_
  have B4 := B3.grown g4 B3.size (fun j hj => by cases hj; exact Nat.le_refl _)
  refine ins_step _ _ h6 (by decide) (by decide) W.heap.size 4 _ (hm _) m4 (by omega) fun w5 m5 g5 => ?_
  have B5 := B4.grown g5 B4.size (fun j hj => by cases hj; exact Nat.le_refl _)
  exact h _ w5 m5 B5

theorem look_event {ops : Array Oper} {rest : List Oper} {o : Oper} {a : Act} {Q : Exit → Act → World → Prop} {W : World} (hg : o.guard = none) (hop : o.op = Op.lookup 53 (.tmp 20) (.tmp 22) true) (b : Nat) (s : ByteArray) (hm : a.eval (.tmp 20) = .map (some b)) (hx : a.eval (.tmp 22) = .string s)
    (hown : Own W b 5 D5) (hs : s.size ≤ 1000) (h : wpList Tryd.prog ops Q rest (a.put o.dst (.tuple #[.int .u8 (cOf s), .bool (hK s)])) W) : wpList Tryd.prog ops Q (o :: rest) a W := by
  refine wpList_lookup_own_ok_int W hg _ _ 53 hop 9 5 .u8 law9 Tryd.underlying53 Tryd.underlying5 (zero5 _) b 5 D5 hm hown _ (.string (B s)) hx (keyOf_string_mk Tryd.underlying9 (by unfold maxLen; omega)) (fun c hc hw => ?_)
  rw [at_is] at hc
  have hc2 : cO (B s) = c := by injection hc with hc; injection hc
  rw [has_is, ← hc2]
  exact h
end Go.Proofs.YtoldgnmgjpjapaaDoor.Mp
