/-
Arguments opened: rows of whole numbers, of texts, of fields and of values of a message.
-/
import Derived.Test.YtoldgnmgjpjapaaDoorQ0
import Derived.OpenShut
import Derived.SliceStrings
import Derived.DataReads
namespace Go.Proofs.YtoldgnmgjpjapaaDoor.Op
set_option linter.unusedVariables false
set_option linter.unusedSimpArgs false
open Go.RowKit Go.ChangeShapes Go.WideShapes Go.Proofs.YtoldgnmgjpjapaaDoor.Q Go.Proofs.YtoldgnmgjpjapaaDoorW.PrintWords

theorem add_two (a : Addr) (i j : Nat) : (a.add i).add j = a.add (i + j) := by
  unfold Addr.add
  by_cases h1 : i = 0 <;> by_cases h2 : j = 0 <;> simp [h1, h2, Nat.add_assoc]

section
variable {H : Type} {enc : TypeId × Value → H} {P : Program} {w : World} {base : Nat} {spare : Nat → Bool} {held : Bool}

theorem open_row {α : Type} (kd : Kd α) (Q : α → Prop) {t e : TypeId} {fuel : Nat} {cs : List Value} {x : DataW H × List MemPlace} (ht : P.underlying t = some (.slice e)) (hce : P.cellsOf e = kd.sz)
    (hel : ∀ n cs' y, n < fuel → DataW.trod enc P w base spare held n e cs' = some y → ∃ p, kd.K w p cs' ∧ Q p) (h : DataW.trod enc P w base spare held fuel t cs = some x) :
    ∃ (A : Option Addr) (cap : Nat) (l : List α), cs = [.slice A l.length cap] ∧ l.length ≤ cap ∧ Kd.C kd w A l.length l ∧ ∀ p ∈ l, Q p := by
  rcases DataW.trod_slice ht h with ⟨rfl, _⟩ | ⟨a, len, cap, elems, rest, n, hfu, rfl, _, hb, hl, hm, hlen, hel2, _, _⟩
  · exact ⟨none, 0, [], rfl, Nat.le_refl _, Kd.C_nil _ _, fun p hp => by cases hp⟩
  · have hget : ∀ j : Fin len, ∃ p, (∃ cs', w.cells? base (a.add (j.val * kd.sz)) kd.sz = some cs' ∧ kd.K w p cs') ∧ Q p := fun j => by
      have h9 := hel2 j.val j.isLt
      rw [hce] at h9
      have hj : j.val < elems.length := by have := j.isLt; omega
      rw [List.getElem?_eq_getElem hj, Option.bind_eq_some_iff] at h9
      obtain ⟨cs', hc, hy⟩ := h9
      obtain ⟨p, h1, h2⟩ := hel n cs' _ (by omega) hy
      exact ⟨p, ⟨cs', hc, h1⟩, h2⟩
    have hch : ∃ f : Fin len → α, ∀ j, (∃ cs', w.cells? base (a.add (j.val * kd.sz)) kd.sz = some cs' ∧ kd.K w (f j) cs') ∧ Q (f j) := ⟨fun j => (hget j).choose, fun j => (hget j).choose_spec⟩
    obtain ⟨f, hf⟩ := hch
    have hlf : (List.ofFn f).length = len := List.length_ofFn
    refine ⟨some a, cap, List.ofFn f, by rw [hlf], by rw [hlf]; exact hl, ⟨rfl, ?_, fun _ => ⟨a, rfl, fun j p hp => ?_⟩⟩, fun p hp => ?_⟩
    · unfold maxLen at hm; rw [hlf]; omega
    · have hj : j < len := by
        have := (List.getElem?_eq_some_iff.1 hp).1
        omega
      have hp2 : p = f ⟨j, hj⟩ := by
        rw [List.getElem?_ofFn, dif_pos hj] at hp
        exact (Option.some.inj hp).symm
      subst hp2
      obtain ⟨⟨cs', hc, hK⟩, _⟩ := hf ⟨j, hj⟩
      have hcell := World.cells?_some hc
      refine ⟨cs', by first | exact hcell.2.1 | exact hcell.1 | exact kd.len hK, hK, fun i u hu => ?_⟩
      have hi : i < kd.sz := by
        have h1 := (List.getElem?_eq_some_iff.1 hu).1
        have h2 : cs'.length = kd.sz := by first | exact hcell.2.1 | exact hcell.1 | exact kd.len hK
        omega
      have := hcell.2.2 i hi
      rw [add_two] at this
      rw [this, hu]
    · obtain ⟨j, hj⟩ := List.mem_ofFn.1 hp
      subst hj
      exact (hf j).2

theorem open_bytes {fuel : Nat} {cs : List Value} {x : DataW H × List MemPlace} (h : DataW.trod enc Tryd.prog w base spare held fuel 22 cs = some x) :
    ∃ (A : Option Addr) (cap : Nat) (l : List Int), cs = [.slice A l.length cap] ∧ l.length ≤ cap ∧ Kd.C (Kd.int .u8) w A l.length l ∧ ∀ p ∈ l, (Lit.int .u8 p).wf = true :=
  open_row (Kd.int .u8) (fun p => (Lit.int .u8 p).wf = true) Tryd.underlying22 (by kernel_rfl) (fun n cs' y _ hy => by
    obtain ⟨z, rfl, _, hz⟩ := DataW.trod_int Tryd.underlying5 hy
    exact ⟨z, rfl, hz⟩) h
theorem open_texts {fuel : Nat} {cs : List Value} {x : DataW H × List MemPlace} (h : DataW.trod enc Tryd.prog w base spare held fuel 23 cs = some x) :
    ∃ (A : Option Addr) (cap : Nat) (l : List ByteArray), cs = [.slice A l.length cap] ∧ l.length ≤ cap ∧ Kd.C Kd.string w A l.length l ∧ ∀ p ∈ l, p.size ≤ maxLen :=
  open_row Kd.string (fun p => p.size ≤ maxLen) Tryd.underlying23 (by kernel_rfl) (fun n cs' y _ hy => by
    obtain ⟨z, rfl, _, hz⟩ := DataW.trod_string Tryd.underlying9 hy
    exact ⟨z, rfl, hz⟩) h

theorem four_of : ∀ {l : List Value}, l.length = 4 → ∃ a b c d, l = [a, b, c, d]
  | [a, b, c, d], _ => ⟨a, b, c, d, rfl⟩
theorem five_of : ∀ {l : List Value}, l.length = 5 → ∃ a b c d e, l = [a, b, c, d, e]
  | [a, b, c, d, e], _ => ⟨a, b, c, d, e, rfl⟩
theorem some_of {α : Type} {l : List α} {i n : Nat} (h : l.length = n) (hi : i < n) : ∃ x, l[i]? = some x := ⟨l[i]'(by omega), List.getElem?_eq_getElem (by omega)⟩
def Vs (fuel : Nat) : Prop := ∀ (cs : List Value) (x : DataW H × List MemPlace), DataW.trod enc Tryd.prog w base spare held fuel 26 cs = some x →
    ∃ (A : Option Addr) (cap : Nat) (l : List S63), cs = [.slice A l.length cap] ∧ l.length ≤ cap ∧ Kd.C k63 w A l.length l ∧ ∀ p ∈ l, p.f2.size ≤ maxLen
set_option maxRecDepth 100000 in
theorem open_val {n : Nat} {cs : List Value} {y : DataW H × List MemPlace} (ih : ∀ m, m < n → Vs (enc := enc) (w := w) (base := base) (spare := spare) (held := held) m) (h : DataW.trod enc Tryd.prog w base spare held n 63 cs = some y) :
    ∃ p : S63, k63.K w p cs ∧ p.f2.size ≤ maxLen := by
  obtain ⟨xs, m, rfl, rfl, hl, hx, hi⟩ := DataW.trod_struct Tryd.underlying63 h
  have hl4 : cs.length = 4 := hl.trans (by kernel_rfl)
  obtain ⟨c0, c1, c2, c3, rfl⟩ := four_of hl4
  have hx4 : xs.length = 4 := hx
  obtain ⟨x0, e0⟩ := some_of hx4 (show 0 < 4 by omega)
  obtain ⟨x1, e1⟩ := some_of hx4 (show 1 < 4 by omega)
  obtain ⟨x2, e2⟩ := some_of hx4 (show 2 < 4 by omega)
  obtain ⟨x3, e3⟩ := some_of hx4 (show 3 < 4 by omega)
  have h0 := hi 0 _ rfl
  have h1 := hi 1 _ rfl
  have h2 := hi 2 _ rfl
  have h3 := hi 3 _ rfl
  rw [e0] at h0
  rw [e1] at h1
  rw [e2] at h2
  rw [e3] at h3
  have k5 : Tryd.prog.cellsOf 5 = 1 := by kernel_rfl
  have k61 : Tryd.prog.cellsOf 61 = 1 := by kernel_rfl
  have k9 : Tryd.prog.cellsOf 9 = 1 := by kernel_rfl
  have k26 : Tryd.prog.cellsOf 26 = 1 := by kernel_rfl
  obtain ⟨z0, q0, _⟩ := DataW.trod_int Tryd.underlying5 h0
  obtain ⟨z1, q1, _⟩ := DataW.trod_int Tryd.underlying61 h1
  obtain ⟨z2, q2, _, hz2⟩ := DataW.trod_string Tryd.underlying9 h2
  obtain ⟨A, cap, l, q3, hl3, hc3, _⟩ := ih m (by omega) _ _ h3
  simp [k5] at q0
  simp [k61] at q1
  simp [k9] at q2
  simp [k26] at q3
  subst q0 q1 q2 q3
  exact ⟨⟨z0, z1, z2, l⟩, k63_mk w ⟨z0, z1, z2, l⟩ hl3 hc3, hz2⟩
theorem open_vals : ∀ fuel, Vs (enc := enc) (w := w) (base := base) (spare := spare) (held := held) fuel := by
  intro fuel
  induction fuel using Nat.strongRecOn with
  | _ fuel ih =>
    intro cs x h
    exact open_row k63 (fun p => p.f2.size ≤ maxLen) Tryd.underlying26 (by kernel_rfl) (fun n cs' y hn hy => open_val (fun m hm => ih m (by omega)) hy) h
set_option maxRecDepth 100000 in
theorem open_field {n : Nat} {cs : List Value} {y : DataW H × List MemPlace} (h : DataW.trod enc Tryd.prog w base spare held n 69 cs = some y) : ∃ p : S69, k69.K w p cs ∧ True := by
  obtain ⟨xs, m, rfl, rfl, hl, hx, hi⟩ := DataW.trod_struct Tryd.underlying69 h
  have hl5 : cs.length = 5 := hl.trans (by kernel_rfl)
  obtain ⟨c0, c1, c2, c3, c4, rfl⟩ := five_of hl5
  have hx2 : xs.length = 2 := hx
  obtain ⟨x0, e0⟩ := some_of hx2 (show 0 < 2 by omega)
  obtain ⟨x1, e1⟩ := some_of hx2 (show 1 < 2 by omega)
  have h0 := hi 0 _ rfl
  have h1 := hi 1 _ rfl
  rw [e0] at h0
  rw [e1] at h1
  have k5 : Tryd.prog.cellsOf 5 = 1 := by kernel_rfl
  have k63c : Tryd.prog.cellsOf 63 = 4 := by kernel_rfl
  obtain ⟨z0, q0, _⟩ := DataW.trod_int Tryd.underlying5 h0
  simp [k5] at q0
  simp [k63c] at h1
  obtain ⟨p, hp, _⟩ := open_val (fun m _ => open_vals m) h1
  subst q0
  exact ⟨⟨z0, p⟩, ⟨[.int .u8 z0], [c1, c2, c3, c4], rfl, rfl, hp⟩, trivial⟩
set_option maxRecDepth 100000 in
theorem open_msg {n : Nat} {cs : List Value} {y : DataW H × List MemPlace} (h : DataW.trod enc Tryd.prog w base spare held n 28 cs = some y) :
    ∃ (a0 a1 a2 : Int) (A B : Option Addr) (c d : Nat) (L : List S69) (M : List S63), cs = [.int .u8 a0, .int .u8 a1, .int .u32 a2, .slice A L.length c, .slice B M.length d] ∧ L.length ≤ c ∧ Kd.C k69 w A L.length L ∧ M.length ≤ d ∧ Kd.C k63 w B M.length M ∧ ∀ p ∈ M, p.f2.size ≤ maxLen := by
  obtain ⟨xs, m, rfl, rfl, hl, hx, hi⟩ := DataW.trod_struct Tryd.underlying28 h
  have hl5 : cs.length = 5 := hl.trans (by kernel_rfl)
  obtain ⟨c0, c1, c2, c3, c4, rfl⟩ := five_of hl5
  have hx5 : xs.length = 5 := hx
  obtain ⟨x0, e0⟩ := some_of hx5 (show 0 < 5 by omega)
  obtain ⟨x1, e1⟩ := some_of hx5 (show 1 < 5 by omega)
  obtain ⟨x2, e2⟩ := some_of hx5 (show 2 < 5 by omega)
  obtain ⟨x3, e3⟩ := some_of hx5 (show 3 < 5 by omega)
  obtain ⟨x4, e4⟩ := some_of hx5 (show 4 < 5 by omega)
  have h0 := hi 0 _ rfl
  have h1 := hi 1 _ rfl
  have h2 := hi 2 _ rfl
  have h3 := hi 3 _ rfl
  have h4 := hi 4 _ rfl
  rw [e0] at h0
  rw [e1] at h1
  rw [e2] at h2
  rw [e3] at h3
  rw [e4] at h4
  have k5 : Tryd.prog.cellsOf 5 = 1 := by kernel_rfl
  have k24 : Tryd.prog.cellsOf 24 = 1 := by kernel_rfl
  have k25 : Tryd.prog.cellsOf 25 = 1 := by kernel_rfl
  have k26 : Tryd.prog.cellsOf 26 = 1 := by kernel_rfl
  obtain ⟨z0, q0, _⟩ := DataW.trod_int Tryd.underlying5 h0
  obtain ⟨z1, q1, _⟩ := DataW.trod_int Tryd.underlying5 h1
  obtain ⟨z2, q2, _⟩ := DataW.trod_int Tryd.underlying24 h2
  obtain ⟨A, c, L, q3, hl3, hc3, _⟩ := open_row k69 (fun _ => True) Tryd.underlying25 (by kernel_rfl) (fun n cs' y hn hy => open_field hy) h3
  obtain ⟨B, d, M, q4, hl4, hc4, hs⟩ := open_vals m _ _ h4
  simp [k5] at q0 q1
  simp [k24] at q2
  simp [k25] at q3
  simp [k26] at q4
  subst q0 q1 q2 q3 q4
  exact ⟨z0, z1, z2, A, B, c, d, L, M, rfl, hl3, hc3, hl4, hc4, hs⟩
end
end Go.Proofs.YtoldgnmgjpjapaaDoor.Op
