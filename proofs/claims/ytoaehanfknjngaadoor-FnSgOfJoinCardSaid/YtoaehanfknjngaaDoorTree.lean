import Derived.Test.YtoaehanfknjngaaDoorCom
namespace Go.Proofs.YtoaehanfknjngaaDoor.Tree
set_option linter.unusedVariables false
set_option linter.unusedSimpArgs false

/-- The letter of a basic type. -/
def basic (c : UInt8) : Bool := c == 121 || c == 98 || c == 110 || c == 113 || c == 105 || c == 117 || c == 120 || c == 116 || c == 100 || c == 115 || c == 111 || c == 103 || c == 104

mutual
/-- A complete type: a letter, a dict, an array, a struct. -/
inductive T where
  | b (c : UInt8) : T
  | d (k : UInt8) (t : T) : T
  | a (t : T) : T
  | s (ts : Ts) : T
/-- Complete types, one behind the other. -/
inductive Ts where
  | nil : Ts
  | more (t : T) (ts : Ts) : Ts
end

mutual
def txt : T → List UInt8
  | .b c => [c]
  | .d k t => 97 :: 123 :: k :: (txt t ++ [125])
  | .a t => 97 :: txt t
  | .s ts => 40 :: (txts ts ++ [41])
def txts : Ts → List UInt8
  | .nil => []
  | .more t ts => txt t ++ txts ts
end

/-- Is there one at least? -/
def ne : Ts → Bool
  | .nil => false
  | .more _ _ => true

mutual
def ok : T → Bool
  | .b c => basic c || c == 118
  | .d k t => basic k && ok t
  | .a t => ok t
  | .s ts => ne ts && oks ts
def oks : Ts → Bool
  | .nil => true
  | .more t ts => ok t && oks ts
end

/-- So many arrays, brackets and entries may still stand about it. -/
def room (x y z : Int) : Bool := decide (0 ≤ x) && (decide (0 ≤ y) && decide (0 ≤ z))
mutual
def fits : T → Int → Int → Int → Bool
  | .b _, x, y, z => room x y z
  | .d _ t, x, y, z => room x y z && fits t (x - 1) y (z - 1)
  | .a t, x, y, z => room x y z && fits t (x - 1) y z
  | .s ts, x, y, z => room x y z && fitss ts x (y - 1) z
def fitss : Ts → Int → Int → Int → Bool
  | .nil, _, _, _ => true
  | .more t ts, x, y, z => fits t x y z && fitss ts x y z
end

/-- The first letter of a type. -/
theorem txt_head (t : T) (h : ok t = true) : ∃ c l, txt t = c :: l ∧ (basic c = true ∨ c = 118 ∨ c = 97 ∨ c = 40) := by
  cases t with
  | b c =>
    simp only [ok, Bool.or_eq_true, beq_iff_eq] at h
    exact ⟨c, [], rfl, h.elim .inl fun h => .inr (.inl h)⟩
  | d k t => exact ⟨97, _, rfl, .inr (.inr (.inl rfl))⟩
  | a t => exact ⟨97, _, rfl, .inr (.inr (.inl rfl))⟩
  | s ts => exact ⟨40, _, rfl, .inr (.inr (.inr rfl))⟩

theorem head_ne (c : UInt8) (h : basic c = true ∨ c = 118 ∨ c = 97 ∨ c = 40) : c ≠ 123 ∧ c ≠ 125 ∧ c ≠ 41 := by
  rcases h with h | rfl | rfl | rfl
  · refine ⟨?_, ?_, ?_⟩ <;> (rintro rfl; simp [basic] at h)
  all_goals decide

theorem basic_ne (c : UInt8) (h : basic c = true) : c ≠ 118 ∧ c ≠ 97 ∧ c ≠ 40 ∧ c ≠ 123 ∧ c ≠ 125 ∧ c ≠ 41 := by
  refine ⟨?_, ?_, ?_, ?_, ?_, ?_⟩ <;> (rintro rfl; simp [basic] at h)

theorem fits_room (t : T) (x y z : Int) (h : fits t x y z = true) : room x y z = true := by
  cases t <;> simp only [fits, Bool.and_eq_true] at h <;> first | exact h | exact h.1

theorem txt_pos (t : T) : 0 < (txt t).length := by
  cases t <;> simp [txt]

mutual
/-- The type with which a text begins, and what stands behind it. -/
def parse : Nat → List UInt8 → Int → Int → Int → Option (T × List UInt8)
  | 0, _, _, _, _ => none
  | _ + 1, [], _, _, _ => none
  | f + 1, c :: r, x, y, z =>
    if room x y z = false then none
    else if (basic c || c == 118) = true then some (.b c, r)
    else if c = 97 then
      (if r.head? = some 123 then
        (match r.tail with
        | [] => none
        | k :: q => if basic k = true then (match parse f q (x - 1) y (z - 1) with
          | none => none
          | some (t, u) => if u.head? = some 125 then some (.d k t, u.tail) else none) else none)
      else (match parse f r (x - 1) y z with
        | none => none
        | some (t, u) => some (.a t, u)))
    else if c = 40 then
      (match many f r x (y - 1) z with
      | none => none
      | some (ts, u) => if ne ts = true then some (.s ts, u) else none)
    else none
/-- The types up to a closing bracket, and what stands behind it. -/
def many : Nat → List UInt8 → Int → Int → Int → Option (Ts × List UInt8)
  | 0, _, _, _, _ => none
  | f + 1, l, x, y, z =>
    if l.head? = some 41 then some (.nil, l.tail)
    else (match parse f l x y z with
      | none => none
      | some (t, u) => (match many f u x y z with
        | none => none
        | some (ts, v) => some (.more t ts, v)))
end

theorem cons_of {l : List UInt8} {c : UInt8} (h : l.head? = some c) : l = c :: l.tail := by
  cases l with
  | nil => simp at h
  | cons a t => simp at h; simp [h]

/-- What is read is a type, it fits, and its text stood there. -/
theorem parse_is (f : Nat) : (∀ l x y z t u, parse f l x y z = some (t, u) → ok t = true ∧ fits t x y z = true ∧ l = txt t ++ u) ∧
    (∀ l x y z ts u, many f l x y z = some (ts, u) → oks ts = true ∧ fitss ts x y z = true ∧ l = txts ts ++ 41 :: u) := by
  induction f with
  | zero => exact ⟨fun l x y z t u h => by simp [parse] at h, fun l x y z ts u h => by simp [many] at h⟩
  | succ f ih =>
    obtain ⟨ih1, ih2⟩ := ih
    refine ⟨fun l x y z t u h => ?_, fun l x y z ts u h => ?_⟩
    · cases l with
      | nil => simp [parse] at h
      | cons c r =>
        rw [parse] at h
        by_cases hr : room x y z = false
        · rw [if_pos hr] at h; simp at h
        rw [if_neg hr] at h
        have hr' : room x y z = true := by simpa using hr
        by_cases h1 : (basic c || c == 118) = true
        · rw [if_pos h1] at h
          simp only [Option.some.injEq, Prod.mk.injEq] at h
          obtain ⟨rfl, rfl⟩ := h
          exact ⟨h1, hr', rfl⟩
        rw [if_neg h1] at h
        by_cases h2 : c = 97
        · rw [if_pos h2] at h
          subst h2
          by_cases h3 : r.head? = some 123
          · rw [if_pos h3] at h
            have e3 := cons_of h3
            split at h
            · simp at h
            · rename_i k q e4
              by_cases hk : basic k = true
              · rw [if_pos hk] at h
                split at h
                · simp at h
                · rename_i t' u' e5
                  by_cases h5 : u'.head? = some 125
                  · rw [if_pos h5] at h
                    have e6 := cons_of h5
                    simp only [Option.some.injEq, Prod.mk.injEq] at h
                    obtain ⟨rfl, rfl⟩ := h
                    obtain ⟨o, ft, e⟩ := ih1 _ _ _ _ _ _ e5
                    refine ⟨by simp [ok, hk, o], by simp [fits, hr', ft], ?_⟩
                    rw [e3, e4, e, e6]; simp [txt]
                  · rw [if_neg h5] at h; simp at h
              · rw [if_neg hk] at h; simp at h
          · rw [if_neg h3] at h
            split at h
            · simp at h
            · rename_i t' u' e5
              simp only [Option.some.injEq, Prod.mk.injEq] at h
              obtain ⟨rfl, rfl⟩ := h
              obtain ⟨o, ft, e⟩ := ih1 _ _ _ _ _ _ e5
              refine ⟨by simp [ok, o], by simp [fits, hr', ft], ?_⟩
              rw [e]; simp [txt]
        · rw [if_neg h2] at h
          by_cases h4 : c = 40
          · rw [if_pos h4] at h
            subst h4
            split at h
            · simp at h
            · rename_i ts u' e5
              by_cases h6 : ne ts = true
              · rw [if_pos h6] at h
                simp only [Option.some.injEq, Prod.mk.injEq] at h
                obtain ⟨rfl, rfl⟩ := h
                obtain ⟨o, ft, e⟩ := ih2 _ _ _ _ _ _ e5
                refine ⟨by simp [ok, h6, o], by simp [fits, hr', ft], ?_⟩
                rw [e]; simp [txt]
              · rw [if_neg h6] at h; simp at h
          · rw [if_neg h4] at h; simp at h
    · rw [many] at h
      by_cases h1 : l.head? = some 41
      · rw [if_pos h1] at h
        have e1 := cons_of h1
        simp only [Option.some.injEq, Prod.mk.injEq] at h
        obtain ⟨rfl, rfl⟩ := h
        exact ⟨rfl, rfl, by rw [e1]; simp [txts]⟩
      · rw [if_neg h1] at h
        split at h
        · simp at h
        · rename_i t' u' e5
          split at h
          · simp at h
          · rename_i ts' u'' e6
            simp only [Option.some.injEq, Prod.mk.injEq] at h
            obtain ⟨rfl, rfl⟩ := h
            obtain ⟨o, ft, e⟩ := ih1 _ _ _ _ _ _ e5
            obtain ⟨o2, ft2, e2⟩ := ih2 _ _ _ _ _ _ e6
            refine ⟨by simp [oks, o, o2], by simp [fitss, ft, ft2], ?_⟩
            rw [e, e2]; simp [txts]

mutual
/-- A type's text, whatever stands behind it, is read as the type, if it fits. -/
theorem parse_txt : ∀ (t : T) (f : Nat) (u : List UInt8) (x y z : Int), ok t = true → (txt t).length ≤ f → parse f (txt t ++ u) x y z = if fits t x y z = true then some (t, u) else none
  | .b c, f, u, x, y, z, h, hf => by
    simp only [txt, List.length_cons, List.length_nil] at hf
    obtain ⟨f, rfl⟩ : ∃ g, f = g + 1 := ⟨f - 1, by omega⟩
    simp only [ok] at h
    have e : txt (.b c) ++ u = c :: u := rfl
    rw [e, parse, if_pos h]
    by_cases hr : room x y z = true
    · simp [fits, hr]
    · have hr' : room x y z = false := by simpa using hr
      rw [if_pos hr']; simp [fits, hr']
  | .d k t, f, u, x, y, z, h, hf => by
    simp only [txt, List.length_cons, List.length_append, List.length_nil] at hf
    obtain ⟨f, rfl⟩ : ∃ g, f = g + 1 := ⟨f - 1, by omega⟩
    simp only [ok, Bool.and_eq_true] at h
    have ih := parse_txt t f (125 :: u) (x - 1) y (z - 1) h.2 (by omega)
    have e : txt (.d k t) ++ u = 97 :: 123 :: k :: (txt t ++ 125 :: u) := by simp [txt]
    rw [e, parse]
    by_cases hr : room x y z = true
    · rw [if_neg (by simp [hr]), if_neg (by decide), if_pos rfl, if_pos (show (123 :: k :: (txt t ++ 125 :: u)).head? = some 123 from rfl)]
      simp only [List.tail_cons]
      rw [if_pos h.1, ih]
      by_cases hf : fits t (x - 1) y (z - 1) = true
      · rw [if_pos hf]; simp [fits, hr, hf]
      · rw [if_neg hf]; simp [fits, hf]
    · have hr' : room x y z = false := by simpa using hr
      rw [if_pos hr']; simp [fits, hr']
  | .a t, f, u, x, y, z, h, hf => by
    simp only [txt, List.length_cons] at hf
    obtain ⟨f, rfl⟩ : ∃ g, f = g + 1 := ⟨f - 1, by omega⟩
    simp only [ok] at h
    have ih := parse_txt t f u (x - 1) y z h (by omega)
    have e : txt (.a t) ++ u = 97 :: (txt t ++ u) := by simp [txt]
    rw [e, parse]
    have hh : ¬ (txt t ++ u).head? = some 123 := by
      obtain ⟨c, l, e, hc⟩ := txt_head t h
      rw [e]; simp only [List.cons_append, List.head?_cons, Option.some.injEq]
      exact (head_ne c hc).1
    by_cases hr : room x y z = true
    · rw [if_neg (by simp [hr]), if_neg (by decide), if_pos rfl, if_neg hh, ih]
      by_cases hf : fits t (x - 1) y z = true
      · rw [if_pos hf]; simp [fits, hr, hf]
      · rw [if_neg hf]; simp [fits, hf]
    · have hr' : room x y z = false := by simpa using hr
      rw [if_pos hr']; simp [fits, hr']
  | .s ts, f, u, x, y, z, h, hf => by
    simp only [txt, List.length_cons, List.length_append, List.length_nil] at hf
    obtain ⟨f, rfl⟩ : ∃ g, f = g + 1 := ⟨f - 1, by omega⟩
    simp only [ok, Bool.and_eq_true] at h
    have ih := many_txt ts f u x (y - 1) z h.2 (by omega)
    have e : txt (.s ts) ++ u = 40 :: (txts ts ++ 41 :: u) := by simp [txt]
    rw [e, parse]
    by_cases hr : room x y z = true
    · rw [if_neg (by simp [hr]), if_neg (by decide), if_neg (by decide), if_pos rfl, ih]
      by_cases hf : fitss ts x (y - 1) z = true
      · rw [if_pos hf]; simp [fits, hr, hf, h.1]
      · rw [if_neg hf]; simp [fits, hf]
    · have hr' : room x y z = false := by simpa using hr
      rw [if_pos hr']; simp [fits, hr']
theorem many_txt : ∀ (ts : Ts) (f : Nat) (u : List UInt8) (x y z : Int), oks ts = true → (txts ts).length < f → many f (txts ts ++ 41 :: u) x y z = if fitss ts x y z = true then some (ts, u) else none
  | .nil, f, u, x, y, z, h, hf => by
    obtain ⟨f, rfl⟩ : ∃ g, f = g + 1 := ⟨f - 1, by omega⟩
    simp [txts, many, fitss]
  | .more t ts, f, u, x, y, z, h, hf => by
    obtain ⟨f, rfl⟩ : ∃ g, f = g + 1 := ⟨f - 1, by omega⟩
    simp only [txts, List.length_append] at hf
    simp only [oks, Bool.and_eq_true] at h
    have hp := txt_pos t
    have ih1 := parse_txt t f (txts ts ++ 41 :: u) x y z h.1 (by omega)
    have ih2 := many_txt ts f u x y z h.2 (by omega)
    have e : txts (.more t ts) ++ 41 :: u = txt t ++ (txts ts ++ 41 :: u) := by simp [txts]
    have hh : ¬ (txt t ++ (txts ts ++ 41 :: u)).head? = some 41 := by
      obtain ⟨c, l, e, hc⟩ := txt_head t h.1
      rw [e]; simp only [List.cons_append, List.head?_cons, Option.some.injEq]
      exact (head_ne c hc).2.2
    rw [e, many, if_neg hh, ih1]
    by_cases h1 : fits t x y z = true
    · rw [if_pos h1]
      simp only [ih2]
      by_cases h2 : fitss ts x y z = true
      · rw [if_pos h2]; simp [fitss, h1, h2]
      · rw [if_neg h2]; simp [fitss, h2]
    · rw [if_neg h1]; simp [fitss, h1]
end

mutual
theorem fits_big : ∀ (t : T) (x y z : Int), ((txt t).length : Int) ≤ x → ((txt t).length : Int) ≤ y → ((txt t).length : Int) ≤ z → fits t x y z = true
  | .b c, x, y, z, h1, h2, h3 => by
    simp only [txt, List.length_cons, List.length_nil] at h1 h2 h3
    simp only [fits, room, Bool.and_eq_true, decide_eq_true_eq]; omega
  | .d k t, x, y, z, h1, h2, h3 => by
    simp only [txt, List.length_cons, List.length_nil, List.length_append] at h1 h2 h3
    have := fits_big t (x - 1) y (z - 1) (by omega) (by omega) (by omega)
    simp only [fits, room, this, Bool.and_true, Bool.and_eq_true, decide_eq_true_eq]; omega
  | .a t, x, y, z, h1, h2, h3 => by
    simp only [txt, List.length_cons, List.length_nil, List.length_append] at h1 h2 h3
    have := fits_big t (x - 1) y z (by omega) (by omega) (by omega)
    simp only [fits, room, this, Bool.and_true, Bool.and_eq_true, decide_eq_true_eq]; omega
  | .s ts, x, y, z, h1, h2, h3 => by
    simp only [txt, List.length_cons, List.length_nil, List.length_append] at h1 h2 h3
    have := fitss_big ts x (y - 1) z (by omega) (by omega) (by omega)
    simp only [fits, room, this, Bool.and_true, Bool.and_eq_true, decide_eq_true_eq]; omega
theorem fitss_big : ∀ (ts : Ts) (x y z : Int), ((txts ts).length : Int) ≤ x → ((txts ts).length : Int) ≤ y → ((txts ts).length : Int) ≤ z → fitss ts x y z = true
  | .nil, x, y, z, h1, h2, h3 => rfl
  | .more t ts, x, y, z, h1, h2, h3 => by
    simp only [txts, List.length_append] at h1 h2 h3
    simp only [fitss, fits_big t x y z (by omega) (by omega) (by omega), fitss_big ts x y z (by omega) (by omega) (by omega), Bool.and_self]
end

/-- A text begins with one type at most. -/
theorem txt_inj {t t' : T} {u u' : List UInt8} (h : ok t = true) (h' : ok t' = true) (e : txt t ++ u = txt t' ++ u') : t = t' ∧ u = u' := by
  have hf := fits_big t ((txt t).length + (txt t').length : Nat) ((txt t).length + (txt t').length : Nat) ((txt t).length + (txt t').length : Nat) (by omega) (by omega) (by omega)
  have hf' := fits_big t' ((txt t).length + (txt t').length : Nat) ((txt t).length + (txt t').length : Nat) ((txt t).length + (txt t').length : Nat) (by omega) (by omega) (by omega)
  have p := parse_txt t ((txt t).length + (txt t').length) u _ _ _ h (by omega) |>.trans (if_pos hf)
  have p' := parse_txt t' ((txt t).length + (txt t').length) u' _ _ _ h' (by omega) |>.trans (if_pos hf')
  rw [e, p'] at p
  simp only [Option.some.injEq, Prod.mk.injEq] at p
  exact ⟨p.1.symm, p.2.symm⟩

theorem txts_inj : ∀ {ts ts' : Ts}, oks ts = true → oks ts' = true → txts ts = txts ts' → ts = ts'
  | .nil, .nil, _, _, _ => rfl
  | .nil, .more t ts, _, _, e => by
    have := txt_pos t
    have h := congrArg List.length e
    simp only [txts, List.length_append, List.length_nil] at h; omega
  | .more t ts, .nil, _, _, e => by
    have := txt_pos t
    have h := congrArg List.length e
    simp only [txts, List.length_append, List.length_nil] at h; omega
  | .more t ts, .more t' ts', h, h', e => by
    simp only [oks, Bool.and_eq_true] at h h'
    simp only [txts] at e
    obtain ⟨rfl, e2⟩ := txt_inj h.1 h'.1 e
    rw [txts_inj h.2 h'.2 e2]

/-- A signature: types that fit, at most 255 bytes. -/
def Sig (l : List UInt8) : Prop := ∃ ts, oks ts = true ∧ fitss ts 32 32 32 = true ∧ l = txts ts ∧ l.length ≤ 255

/-- All types of a text. -/
def all : Nat → List UInt8 → Option Ts
  | 0, l => if l = [] then some .nil else none
  | f + 1, l => if l = [] then some .nil else (match parse (2 * l.length + 1) l 32 32 32 with
    | none => none
    | some (t, u) => (match all f u with
      | none => none
      | some ts => some (.more t ts)))

theorem all_nil (f : Nat) : all f [] = some .nil := by cases f <;> rw [all, if_pos rfl]

theorem all_is (f : Nat) : ∀ l ts, all f l = some ts → oks ts = true ∧ fitss ts 32 32 32 = true ∧ l = txts ts := by
  induction f with
  | zero =>
    intro l ts h
    rw [all] at h
    split at h
    · rename_i e
      simp only [Option.some.injEq] at h
      subst h; exact ⟨rfl, rfl, e⟩
    · simp at h
  | succ f ih =>
    intro l ts h
    rw [all] at h
    split at h
    · rename_i e
      simp only [Option.some.injEq] at h
      subst h; exact ⟨rfl, rfl, e⟩
    · split at h
      · simp at h
      · rename_i t u e
        split at h
        · simp at h
        · rename_i ts' e'
          simp only [Option.some.injEq] at h
          subst h
          obtain ⟨o, ft, e1⟩ := (parse_is _).1 _ _ _ _ _ _ e
          obtain ⟨o2, ft2, e2⟩ := ih _ _ e'
          exact ⟨by simp [oks, o, o2], by simp [fitss, ft, ft2], by rw [e1, e2]; rfl⟩

theorem all_txts : ∀ (ts : Ts) (f : Nat), oks ts = true → fitss ts 32 32 32 = true → (txts ts).length ≤ f → all f (txts ts) = some ts
  | .nil, f, _, _, _ => all_nil f
  | .more t ts, f, h, hf, hl => by
    simp only [oks, Bool.and_eq_true] at h
    simp only [fitss, Bool.and_eq_true] at hf
    have hp := txt_pos t
    simp only [txts, List.length_append] at hl
    obtain ⟨f, rfl⟩ : ∃ g, f = g + 1 := ⟨f - 1, by omega⟩
    have hne : ¬ txts (.more t ts) = [] := by
      intro h; have := congrArg List.length h
      simp only [txts, List.length_append, List.length_nil] at this; omega
    have hp2 := parse_txt t (2 * (txts (.more t ts)).length + 1) (txts ts) 32 32 32 h.1 (by simp only [txts, List.length_append]; omega)
    rw [if_pos hf.1] at hp2
    have ih := all_txts ts f h.2 hf.2 (by omega)
    have e : txts (.more t ts) = txt t ++ txts ts := rfl
    rw [e] at hp2 hne ⊢
    rw [all, if_neg hne, hp2]
    dsimp only
    rw [ih]

theorem sig_all (l : List UInt8) (h : l.length ≤ 255) : Sig l ↔ ∃ ts, all l.length l = some ts := by
  constructor
  · rintro ⟨ts, o, ft, rfl, _⟩
    exact ⟨ts, all_txts ts _ o ft (Nat.le_refl _)⟩
  · rintro ⟨ts, e⟩
    obtain ⟨o, ft, e⟩ := all_is _ _ _ e
    exact ⟨ts, o, ft, e, h⟩

/-- The texts of types, each by itself. -/
def tlist : Ts → List ByteArray
  | .nil => []
  | .more t ts => ⟨(txt t).toArray⟩ :: tlist ts

end Go.Proofs.YtoaehanfknjngaaDoor.Tree
