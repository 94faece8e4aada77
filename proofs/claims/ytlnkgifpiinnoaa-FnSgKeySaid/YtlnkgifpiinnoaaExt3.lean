import Derived.Test.YtlnkgifpiinnoaaExt2
import Derived.Test.YtlnkgifpiinnoaaCom
namespace Go.Proofs.Ytlnkgifpiinnoaa.Ext
set_option linter.unusedVariables false
set_option linter.unusedSimpArgs false
open Go.RowKit Go.Proofs.YtlnkgifpiinnoaaW.PrintWords Go.Proofs.YtlnkgifpiinnoaaW.PrintLast Go.Proofs.YtlnkgifpiinnoaaW.PrintMore Go.Proofs.Ytlnkgifpiinnoaa.Com

abbrev E0 : ByteArray := ⟨#[]⟩

/-- A letter of a type by itself. -/
def one (c : Int) : Bool := c == 121 || (c == 98 || (c == 110 || (c == 113 || (c == 105 || (c == 117 || (c == 120 || (c == 116 || (c == 100 || (c == 115 || (c == 103 || (c == 111 || (c == 118 || c == 104))))))))))))

mutual
/-- The program's reader of a type: whether there is one, and what stands behind it; so many arrays, structs and entries stand about it. -/
def vs : Nat → ByteArray → Int → Int → Int → Option (Bool × ByteArray)
  | 0, _, _, _, _ => none
  | k + 1, s, x, y, z =>
    if s.size = 0 then some (false, E0)
    else if deep x y z = false then some (false, E0)
    else if one (bt s 0) = true then some (true, s.extract 1 s.size)
    else if bt s 0 = 97 then
      (if 1 < s.size then (if bt s 1 = 123 then vd k s (fm 123 125 (B (s.extract 1 s.size)) 0 0) x y z else vs k (s.extract 1 s.size) (x + 1) y z)
      else vs k (s.extract 1 s.size) (x + 1) y z)
    else if bt s 0 = 40 then
      (if fm 40 41 (B s) 0 0 = -1 then some (false, E0)
      else if 1 ≤ fm 40 41 (B s) 0 0 then
        (if fm 40 41 (B s) 0 0 < (s.size : Int) then vl k (s.extract 1 (fm 40 41 (B s) 0 0).toNat) (s.extract (fm 40 41 (B s) 0 0 + 1).toNat s.size) x y z else none) else none)
    else some (false, E0)
/-- An entry of a dict; i: where the brace that closes it stands behind the one that opens it. -/
def vd : Nat → ByteArray → Int → Int → Int → Int → Option (Bool × ByteArray)
  | 0, _, _, _, _, _ => none
  | k + 1, s, i, x, y, z =>
    if i = -1 then some (false, E0)
    else if 1 ≤ i then (if i + 1 < (s.size : Int) then
      (if (s.extract 2 (i + 1).toNat).size = 0 then some (false, E0)
      else (vs k ((s.extract 2 (i + 1).toNat).extract 0 1) (x + 1) y (z + 1)).bind fun p =>
        if p.1 = true then (vs k ((s.extract 2 (i + 1).toNat).extract 1 (s.extract 2 (i + 1).toNat).size) (x + 1) y (z + 1)).bind fun q =>
          if q.1 = true then (if q.2.size = 0 then some (true, s.extract (i + 2).toNat s.size) else some (false, E0)) else some (false, E0)
        else some (false, E0)) else none)
    else none
/-- The types within brackets; r: what stands behind them. -/
def vl : Nat → ByteArray → ByteArray → Int → Int → Int → Option (Bool × ByteArray)
  | 0, _, _, _, _, _ => none
  | k + 1, s, r, x, y, z =>
    if s.size = 0 then some (true, r)
    else (vs k s x (y + 1) z).bind fun p => if p.1 = true then vl k p.2 r x y z else some (false, E0)
end

/-- What a call of the reader comes to. -/
def VPost (b : Bool) (r : ByteArray) (w : World) (e : Ending) (w' : World) : Prop := ∃ ev, e = .returned (.tuple #[ev, .string r]) ∧ EB ev b ∧ Below w.heap.size w w'

theorem Dep.lt {w : World} {g : Nat} {x y z : Int} (h : Dep w g x y z) : g < w.heap.size := by
  have h0 := h.1
  by_cases hl : g < w.heap.size
  · exact hl
  · have : w.heap[g]? = none := Array.getElem?_eq_none (by omega)
    simp [World.cell?, this] at h0
theorem Dep.below {w w' : World} {g : Nat} {x y z : Int} (h : Dep w g x y z) (hb : Below w.heap.size w w') : Dep w' g x y z := by
  have hl := h.lt
  exact ⟨(hb.cell (p := ⟨g, 0, none⟩) hl).trans h.1, (hb.cell (p := ⟨g, 1, none⟩) hl).trans h.2.1, (hb.cell (p := ⟨g, 2, none⟩) hl).trans h.2.2⟩
theorem Dep.new (w : World) (x y z : Int) : Dep (w.alloc (.cells #[.int .i64 x, .int .i64 y, .int .i64 z] 53)) w.heap.size x y z := by
  refine ⟨?_, ?_, ?_⟩ <;> go_simp

/-- The reader at so many rounds. -/
def Reads (k : Nat) : Prop := ∀ (a : ByteArray) (x y z : Int) (g : Nat) (b : Bool) (r : ByteArray) (w : World), vs k a x y z = some (b, r) → Dep w g x y z → -1 ≤ x → x ≤ 1000 → -1 ≤ y → y ≤ 1000 → -1 ≤ z → z ≤ 1000 → a.size ≤ 4294967296 →
  Calls Try.prog 28 #[.string a, .pointer (some ⟨g, 0, none⟩)] w (VPost b r w)

theorem first_byte (a : ByteArray) (c : Int) (h : bt a 0 = c) : ∀ (h : 0 < a.size), ((a[0]'h).toNat : Int) = c := fun h' => (bt_at a 0 h').trans h
theorem second_byte (a : ByteArray) : ∀ (h : 1 < a.size), ((a[1]'h).toNat : Int) = bt a 1 := fun h' => bt_at a 1 h'
theorem ne_str {a : ByteArray} (hs : a.size ≠ 0) : (a.toList == ([] : List UInt8)) = false := by
  rw [beq_eq_false_iff_ne]; intro h; have := B_length a; rw [B_nil.1 h] at this; exact hs this.symm
theorem ne_str2 {a : ByteArray} (hs : a.size ≠ 0) : (a.toList != ([] : List UInt8)) = true := by
  rw [bne, ne_str hs]; rfl

theorem below_cells {w : World} {n m : Nat} {o : Obj} : Below w.heap.size w ((w.drewN n).alloc o) := below_alloc (pw_below_drewN (Below.refl _ _) _) o

/-- The nested call behind an array's mark. -/
theorem VPost.of {b : Bool} {r : ByteArray} {w W w' : World} {ev : Value} (he : EB ev b) (h : Below w.heap.size w W) (hb : Below W.heap.size W w') : VPost b r w (.returned (.tuple #[ev, .string r])) w' := ⟨ev, rfl, he, below_step h hb⟩

set_option maxRecDepth 100000 in
theorem vs_arr (k : Nat) (ih : Reads k) (a : ByteArray) (x y z : Int) (g : Nat) (b : Bool) (r : ByteArray) (w : World) (hs : a.size ≠ 0) (hd : deep x y z = true) (h97 : bt a 0 = 97) (h123 : 1 < a.size → bt a 1 ≠ 123)
    (H : vs k (a.extract 1 a.size) (x + 1) y z = some (b, r)) (hD : Dep w g x y z) (hx : -1 ≤ x) (hy : -1 ≤ y) (hz : -1 ≤ z) (hsz : a.size ≤ 4294967296) :
    Calls Try.prog 28 #[.string a, .pointer (some ⟨g, 0, none⟩)] w (VPost b r w) := by
  obtain ⟨hx2, hy2, hz2⟩ : x ≤ 32 ∧ y ≤ 32 ∧ z ≤ 32 := by simpa [deep] using hd
  have IH := Aside0.mk ih
  have AH := Aside0.mk H
  have AD := Aside0.mk hD
  have HD := Aside0.mk hd
  have hne := ne_str hs
  have hne2 := ne_str2 hs
  have hpos : 0 < a.size := by omega
  have hx0 := first_byte a 97 h97
  have hlt := hD.lt
  have hnew : w.heap.size ≠ g := by omega
  have q1 : ((1 : Int) ≤ (a.size : Int)) = True := eq_true (by omega)
  have q2 : (1 ≤ a.size) = True := eq_true (by omega)
  by_cases h1 : 1 < a.size
  · have hx1 := second_byte a
    have b1 : ((bt a 1 == 123) = false) := beq_eq_false_iff_ne.2 (h123 h1)
    clear ih H hd h123 hs h97
    obtain ⟨h0, hc1, hc2⟩ := hD
    go_enter Try.func28, Try.ntmps28
    go_wp2_with (first | (go_at_call 34; refine (valid_call g x y z _ ?_).mono ?_; exact AD.out; rintro e w' ⟨rfl, ⟨nd, rfl⟩⟩; rw [HD.out]))
    go_region_held3 (fun w' => w'.cell? ⟨g, 0, none⟩ = some (.int .i64 x) ∧ w'.cell? ⟨g, 1, none⟩ = some (.int .i64 y) ∧ w'.cell? ⟨g, 2, none⟩ = some (.int .i64 z)) (first | go_keep)
      (first
        | (go_at_call 36; refine (arr_call x y z _ (by omega) (by omega)).mono ?_; rintro e w' ⟨rfl, rfl⟩)
        | (go_at_call 28; refine (IH.out _ (x + 1) y z _ b r _ AH.out (Dep.new _ _ _ _) (by omega) (by omega) (by omega) (by omega) (by omega) (by omega) (by rw [ByteArray.size_extract]; omega)).mono ?_; rintro e w' ⟨ev, rfl, he, hb⟩; have HE := Aside0.mk he; clear he; have HB := Aside0.mk hb; obtain ⟨k0, k1, k2⟩ := Dep.below (g := g) (x := x) (y := y) (z := z) (by refine ⟨?_, ?_, ?_⟩ <;> go_simp) hb; clear hb))
    go_wp2
    go_ret2
    exact VPost.of HE.out (by repeat (first | exact Below.refl _ _ | apply below_alloc | apply pw_below_drewN | apply below_drew1)) HB.out
  · have hx1 : decide (1 < a.size) = false := by simpa using h1
    clear ih H hd h123 hs h97
    obtain ⟨h0, hc1, hc2⟩ := hD
    go_enter Try.func28, Try.ntmps28
    go_wp2_with (first | (go_at_call 34; refine (valid_call g x y z _ ?_).mono ?_; exact AD.out; rintro e w' ⟨rfl, ⟨nd, rfl⟩⟩; rw [HD.out]))
    go_region_held3 (fun w' => w'.cell? ⟨g, 0, none⟩ = some (.int .i64 x) ∧ w'.cell? ⟨g, 1, none⟩ = some (.int .i64 y) ∧ w'.cell? ⟨g, 2, none⟩ = some (.int .i64 z)) (first | go_keep)
      (first
        | (go_at_call 36; refine (arr_call x y z _ (by omega) (by omega)).mono ?_; rintro e w' ⟨rfl, rfl⟩)
        | (go_at_call 28; refine (IH.out _ (x + 1) y z _ b r _ AH.out (Dep.new _ _ _ _) (by omega) (by omega) (by omega) (by omega) (by omega) (by omega) (by rw [ByteArray.size_extract]; omega)).mono ?_; rintro e w' ⟨ev, rfl, he, hb⟩; have HE := Aside0.mk he; clear he; have HB := Aside0.mk hb; obtain ⟨k0, k1, k2⟩ := Dep.below (g := g) (x := x) (y := y) (z := z) (by refine ⟨?_, ?_, ?_⟩ <;> go_simp) hb; clear hb))
    go_wp2
    go_ret2
    exact VPost.of HE.out (by repeat (first | exact Below.refl _ _ | apply below_alloc | apply pw_below_drewN | apply below_drew1)) HB.out

set_option maxRecDepth 100000 in
theorem vs_empty (a : ByteArray) (g : Nat) (w : World) (hs : a.size = 0) :
    Calls Try.prog 28 #[.string a, .pointer (some ⟨g, 0, none⟩)] w (VPost false E0 w) := by
  have hn : a.toList = [] := B_nil.2 (List.eq_nil_of_length_eq_zero (by rw [B_length]; exact hs))
  have hne : (a.toList == ([] : List UInt8)) = true := beq_iff_eq.2 hn
  have hne2 : (a.toList != ([] : List UInt8)) = false := by rw [bne, hne]; rfl
  clear hn hs
  go_enter Try.func28, Try.ntmps28
  go_wp2
  go_ret2
  exact ⟨_, rfl, EB_err _ _, Below.refl _ _⟩

set_option maxRecDepth 100000 in
theorem vs_deep (a : ByteArray) (x y z : Int) (g : Nat) (w : World) (hs : a.size ≠ 0) (hd : deep x y z = false) (hD : Dep w g x y z) :
    Calls Try.prog 28 #[.string a, .pointer (some ⟨g, 0, none⟩)] w (VPost false E0 w) := by
  have hne := ne_str hs
  have hne2 := ne_str2 hs
  have AD := Aside0.mk hD
  have HD := Aside0.mk hd
  clear hs hD hd
  go_enter Try.func28, Try.ntmps28
  go_wp2_with (first | (go_at_call 34; refine (valid_call g x y z _ ?_).mono ?_; exact AD.out; rintro e w' ⟨rfl, ⟨nd, rfl⟩⟩; rw [HD.out]))
  go_ret2
  exact ⟨_, rfl, EB_err _ _, by repeat (first | exact Below.refl _ _ | apply below_alloc | apply pw_below_drewN | apply below_drew1)⟩

set_option maxRecDepth 100000 in
theorem vs_one (a : ByteArray) (x y z : Int) (g : Nat) (w : World) (hs : a.size ≠ 0) (hd : deep x y z = true) (h1 : one (bt a 0) = true) (hD : Dep w g x y z) :
    Calls Try.prog 28 #[.string a, .pointer (some ⟨g, 0, none⟩)] w (VPost true (a.extract 1 a.size) w) := by
  have hne := ne_str hs
  have hne2 := ne_str2 hs
  have AD := Aside0.mk hD
  have HD := Aside0.mk hd
  have hpos : 0 < a.size := by omega
  have q1 : ((1 : Int) ≤ (a.size : Int)) = True := eq_true (by omega)
  have q2 : (1 ≤ a.size) = True := eq_true (by omega)
  clear hs hD hd
  simp only [one, Bool.or_eq_true, beq_iff_eq] at h1
  rcases h1 with h | h | h | h | h | h | h | h | h | h | h | h | h | h
  all_goals
    have hx0 := first_byte a _ h
    clear h
    go_enter Try.func28, Try.ntmps28
    go_wp2_with (first | (go_at_call 34; refine (valid_call g x y z _ ?_).mono ?_; exact AD.out; rintro e w' ⟨rfl, ⟨nd, rfl⟩⟩; rw [HD.out]))
    go_quiet (fail)
    go_wp2
    go_ret2
    exact ⟨_, rfl, EB_nil, by repeat (first | exact Below.refl _ _ | apply below_alloc | apply pw_below_drewN | apply below_drew1)⟩

theorem one_no (c : Int) (h : one c = false) : (c == 121) = false ∧ (c == 98) = false ∧ (c == 110) = false ∧ (c == 113) = false ∧ (c == 105) = false ∧ (c == 117) = false ∧ (c == 120) = false ∧ (c == 116) = false ∧ (c == 100) = false ∧ (c == 115) = false ∧ (c == 103) = false ∧ (c == 111) = false ∧ (c == 118) = false ∧ (c == 104) = false := by
  simpa only [one, Bool.or_eq_false_iff] using h

set_option maxRecDepth 100000 in
theorem vs_else (a : ByteArray) (x y z : Int) (g : Nat) (w : World) (hs : a.size ≠ 0) (hd : deep x y z = true) (h1 : one (bt a 0) = false) (h2 : bt a 0 ≠ 97) (h3 : bt a 0 ≠ 40) (hD : Dep w g x y z) :
    Calls Try.prog 28 #[.string a, .pointer (some ⟨g, 0, none⟩)] w (VPost false E0 w) := by
  have hne := ne_str hs
  have hne2 := ne_str2 hs
  have AD := Aside0.mk hD
  have HD := Aside0.mk hd
  have hpos : 0 < a.size := by omega
  obtain ⟨c0, c1, c2, c3, c4, c5, c6, c7, c8, c9, c10, c11, c12, c13⟩ := one_no _ h1
  have hx0 := first_byte a _ rfl
  have e1 : (bt a 0 == 97) = false := beq_eq_false_iff_ne.2 h2
  have e2 : (bt a 0 == 40) = false := beq_eq_false_iff_ne.2 h3
  clear hs hD hd h1 h2 h3
  go_enter Try.func28, Try.ntmps28
  go_wp2_with (first | (go_at_call 34; refine (valid_call g x y z _ ?_).mono ?_; exact AD.out; rintro e w' ⟨rfl, ⟨nd, rfl⟩⟩; rw [HD.out]))
  go_ret2
  exact ⟨_, rfl, EB_err _ _, by repeat (first | exact Below.refl _ _ | apply below_alloc | apply pw_below_drewN | apply below_drew1)⟩
end Go.Proofs.Ytlnkgifpiinnoaa.Ext
