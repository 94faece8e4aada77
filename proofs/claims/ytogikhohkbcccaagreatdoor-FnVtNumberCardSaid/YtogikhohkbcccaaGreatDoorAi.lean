import Derived.Test.YtogikhohkbcccaaGreatDoorAh
import Derived.Test.YtogikhohkbcccaaGreatDoorShelf
namespace Go.Proofs.YtogikhohkbcccaaGreatDoor.De
set_option linter.unusedVariables false
set_option linter.unusedSimpArgs false
open Go.RowKit Go.Proofs.YtogikhohkbcccaaGreatDoorW.PrintWords Go.Proofs.YtogikhohkbcccaaGreatDoorW.PrintLast Go.Proofs.YtogikhohkbcccaaGreatDoorW.PrintMore

/-- strconv's errors lie in the world. -/
structure EV (w : World) : Prop where
  syn : ∃ ev, w.cell? ⟨1, 0, none⟩ = some ev ∧ (ev = .nilIface ∨ ∃ te pe, ev = .iface te pe)
  rng : ∃ ev, w.cell? ⟨2, 0, none⟩ = some ev ∧ (ev = .nilIface ∨ ∃ te pe, ev = .iface te pe)
theorem EV.below {w w' : World} {g : Nat} (h : EV w) (hb : Below g w w') (hg : 2 < g) : EV w' := by
  obtain ⟨⟨a, h1, h2⟩, ⟨b, h3, h4⟩⟩ := h
  exact ⟨⟨a, by rw [hb.cell (by show 1 < g; omega)]; exact h1, h2⟩, ⟨b, by rw [hb.cell (by show 2 < g; omega)]; exact h3, h4⟩⟩
theorem toError_calls (fn s : ByteArray) (base bits k : Int) (hk : k = 1 ∨ k = 2) (w : World) (hs : s.size ≤ 281474976710656) (hE : EV w) :
    Calls Tryz.prog 17 #[.string fn, .string s, .int .i64 base, .int .i64 bits, .iface 61 (.int .i64 k)] w fun e w' => ∃ N, e = .returned (.iface 62 (.pointer (some ⟨N, 0, none⟩))) ∧ Below w.heap.size w w' := by
  rcases hk with rfl | rfl
  · obtain ⟨ev, h1, h2⟩ := hE.rng
    exact (Tryz.strconv_toError_range fn s base bits ev w hs h1 h2).mono fun e w' ⟨N, a, b, c, d⟩ => ⟨N, a, d⟩
  · obtain ⟨ev, h1, h2⟩ := hE.syn
    exact (Tryz.strconv_toError_syntax fn s base bits ev w hs h1 h2).mono fun e w' ⟨N, a, b, c, d⟩ => ⟨N, a, d⟩
/-- What an inner answer's error is. -/
def EOK (e : Option Int) : Prop := e = none ∨ e = some 1 ∨ e = some 2
theorem pk_err (m e : Int) : EOK (pk m e).2 := by unfold pk EOK; split; exact .inl rfl; split; exact .inr (.inl rfl); exact .inl rfl
theorem pfO_err (d : Nat) (p sg : Int) : EOK (pfO d p sg).2 := by
  unfold pfO
  split
  · exact .inl rfl
  · split <;> exact pk_err _ _
theorem slow_err (t : ByteArray) (n : Int) : EOK (slow t n).2.2 := by
  unfold slow
  split
  · exact .inr (.inr rfl)
  · dsimp only
    split
    · exact .inr (.inl rfl)
    · exact .inl rfl
set_option maxRecDepth 100000 in
theorem afV_err (s : ByteArray) : EOK (afV s).2.2 := by
  unfold afV
  generalize rfV s = r
  unfold afR
  split
  · exact .inr (.inr rfl)
  · split
    · exact .inl rfl
    · split
      · exact .inr (.inl rfl)
      · split
        · exact .inl rfl
        · split
          · exact .inl rfl
          · split
            · exact pfO_err _ _ _
            · split
              · exact pfO_err _ _ _
              · exact slow_err _ _
theorem pfV_err (s : ByteArray) : EOK (pfV s).2 := by
  unfold pfV
  split
  · exact afV_err s
  · exact .inr (.inr rfl)
/-- How a public reader answers: the value and an error just if the inner one has one. -/
def PubErr (er : Option Int) (v : Value) : Prop := er = none ∧ v = .nilIface ∨ er ≠ none ∧ ∃ N, v = .iface 62 (.pointer (some ⟨N, 0, none⟩))

set_option maxHeartbeats 4000000 in
set_option maxRecDepth 100000 in
theorem ParseFloat_calls (s : ByteArray) (h : FText s) (w : World) (B : Nat) (hT : TT B w) (hB : B ≤ w.heap.size) (hE : EV w) (hg : 2 < w.heap.size) :
    Calls Tryz.prog 10 #[.string s, .int .i64 64] w fun e w' => ∃ v, e = .returned (.tuple #[.float .f64 (pfV s).1, v]) ∧ PubErr (pfV s).2 v ∧ Below w.heap.size w w' := by
  have HA := pfi_calls s h w B hT hB
  have hk := pfV_err s
  have hs : s.size ≤ 281474976710656 := Nat.le_trans h.len (by decide)
  generalize pfV s = R at HA hk ⊢
  obtain ⟨f, er⟩ := R
  have HE := Aside0.mk hE
  have HS := Aside0.mk hs
  have HG := Aside0.mk hg
  clear h hT hB hE hs hg
  rcases hk with rfl | rfl | rfl
  · replace HA := Aside0.mk (show Calls Tryz.prog 16 #[.string s, .int .i64 64] w fun e w' => e = .returned (.tuple #[.float .f64 f, .nilIface]) ∧ Below w.heap.size w w' from HA)
    go_enter Tryz.func10, Tryz.ntmps10
    go_wp2_with (go_at_call 16; ((with_reducible refine (HA.out).mono ?_); rintro x w2 ⟨rfl, hb⟩; have HB := Aside0.mk hb; clear hb))
    refine bodyPost_ret (results_list (rs := [.tmp 4, .tmp 5]) rfl (by simp) (.tmp (.tmp .nil))) rfl ?_
    exact ⟨.nilIface, rfl, .inl ⟨rfl, rfl⟩, HB.out⟩
  · replace HA := Aside0.mk (show Calls Tryz.prog 16 #[.string s, .int .i64 64] w fun e w' => e = .returned (.tuple #[.float .f64 f, .iface 61 (.int .i64 1)]) ∧ Below w.heap.size w w' from HA)
    go_enter Tryz.func10, Tryz.ntmps10
    go_wp2_with (first | (go_at_call 16; ((with_reducible refine (HA.out).mono ?_); rintro x w2 ⟨rfl, hb⟩; have HB := Aside0.mk hb; clear hb)) | (go_at_call 17; ((with_reducible refine (toError_calls _ s 0 64 1 (.inl rfl) _ HS.out (HE.out.below HB.out HG.out)).mono ?_); rintro x w3 ⟨N, rfl, hb⟩; have HC := Aside0.mk hb; clear hb)))
    refine bodyPost_ret (results_list (rs := [.tmp 4, .tmp 5]) rfl (by simp) (.tmp (.tmp .nil))) rfl ?_
    exact ⟨_, rfl, .inr ⟨by simp, _, rfl⟩, HB.out.trans (HC.out.mono HB.out.size)⟩
  · replace HA := Aside0.mk (show Calls Tryz.prog 16 #[.string s, .int .i64 64] w fun e w' => e = .returned (.tuple #[.float .f64 f, .iface 61 (.int .i64 2)]) ∧ Below w.heap.size w w' from HA)
    go_enter Tryz.func10, Tryz.ntmps10
    go_wp2_with (first | (go_at_call 16; ((with_reducible refine (HA.out).mono ?_); rintro x w2 ⟨rfl, hb⟩; have HB := Aside0.mk hb; clear hb)) | (go_at_call 17; ((with_reducible refine (toError_calls _ s 0 64 2 (.inr rfl) _ HS.out (HE.out.below HB.out HG.out)).mono ?_); rintro x w3 ⟨N, rfl, hb⟩; have HC := Aside0.mk hb; clear hb)))
    refine bodyPost_ret (results_list (rs := [.tmp 4, .tmp 5]) rfl (by simp) (.tmp (.tmp .nil))) rfl ?_
    exact ⟨_, rfl, .inr ⟨by simp, _, rfl⟩, HB.out.trans (HC.out.mono HB.out.size)⟩
end Go.Proofs.YtogikhohkbcccaaGreatDoor.De
