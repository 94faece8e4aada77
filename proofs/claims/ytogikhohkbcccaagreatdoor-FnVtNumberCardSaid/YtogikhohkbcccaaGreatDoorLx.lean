import Derived.Test.YtogikhohkbcccaaGreatDoorDn
import Derived.Test.YtogikhohkbcccaaGreatDoorPg
namespace Go.Proofs.YtogikhohkbcccaaGreatDoor.To
set_option linter.unusedVariables false
set_option linter.unusedSimpArgs false
open Go.RowKit Go.Proofs.YtogikhohkbcccaaGreatDoorW.PrintWords Go.Proofs.YtogikhohkbcccaaGreatDoorW.PrintLast Go.Proofs.YtogikhohkbcccaaGreatDoorW.PrintMore Go.Proofs.YtogikhohkbcccaaGreatDoor.De

set_option maxHeartbeats 4000000 in
set_option maxRecDepth 100000 in
theorem sm_calls (K n : Int) (w : World) :
    Calls Tryz.prog 7 #[.agg (vc K n), .agg (vc K n)] w fun e w' => e = .returned (.bool true) ∧ Below w.heap.size w w' := by
  have HA : Aside0 (Below w.heap.size w ((w.alloc (Obj.cells (vc K n) 27)).alloc (Obj.cells (vc K n) 27))) := ⟨below_alloc (below_alloc (Below.refl _ _) _) _⟩
  go_enter Tryz.func7, Tryz.ntmps7
  go_wp2
  go_loopw [37] (fun v wr => v = .int .i64 0 ∧ Aside0 (Below w.heap.size w wr)) (fun _ _ => 0)
  case atStart => exact ⟨rfl, HA⟩
  case round =>
    clear HA
    obtain ⟨rfl, HA⟩ := hrel
    go_wp2
    go_ret
    exact ⟨rfl, HA.out⟩
end Go.Proofs.YtogikhohkbcccaaGreatDoor.To

namespace Go.Proofs.YtogikhohkbcccaaGreatDoor.To
set_option linter.unusedVariables false
set_option linter.unusedSimpArgs false
open Go.RowKit Go.Proofs.YtogikhohkbcccaaGreatDoorW.PrintWords Go.Proofs.YtogikhohkbcccaaGreatDoorW.PrintLast Go.Proofs.YtogikhohkbcccaaGreatDoorW.PrintMore Go.Proofs.YtogikhohkbcccaaGreatDoor.De

def LQ (w : World) (e : Ending) (w' : World) : Prop := e = .returned (.bool true) ∧ Below w.heap.size w w'
def sigs : List (Nat × ByteArray × Int) := [(0, ⟨#[121]⟩, 121), (1, ⟨#[110]⟩, 110), (2, ⟨#[113]⟩, 113), (3, ⟨#[105]⟩, 105), (4, ⟨#[117]⟩, 117), (5, ⟨#[120]⟩, 120), (6, ⟨#[116]⟩, 116), (7, ⟨#[100]⟩, 100)]
theorem pk_all (s : ByteArray) (w : World) (hT : TWd w) (hp : 0 < s.size) (hl : s.size ≤ 400) (hN : NT s) (k : Int) (h0 : 0 ≤ k) :
    ∃ (j : Nat) (sig : ByteArray) (K : Int), (j, sig, K) ∈ sigs ∧ k % 8 = (j : Int) ∧ ∃ n er, PKG s sig K w n er := by
  have hj : k % 8 = 0 ∨ k % 8 = 1 ∨ k % 8 = 2 ∨ k % 8 = 3 ∨ k % 8 = 4 ∨ k % 8 = 5 ∨ k % 8 = 6 ∨ k % 8 = 7 := by omega
  have hu := hN.ub hp hl
  have hs := hN.sb hp hl
  rcases hj with h | h | h | h | h | h | h | h
  · obtain ⟨_, _, _, hp, _⟩ := pk_y s w hT hp hl hu; exact ⟨0, _, _, by simp [sigs], h, _, _, hp⟩
  · obtain ⟨_, _, hp⟩ := pk_n s w hT hp hl hs; exact ⟨1, _, _, by simp [sigs], h, _, _, hp⟩
  · obtain ⟨_, _, _, hp, _⟩ := pk_q s w hT hp hl hu; exact ⟨2, _, _, by simp [sigs], h, _, _, hp⟩
  · obtain ⟨_, _, hp⟩ := pk_i s w hT hp hl hs; exact ⟨3, _, _, by simp [sigs], h, _, _, hp⟩
  · obtain ⟨_, _, _, hp, _⟩ := pk_u s w hT hp hl hu; exact ⟨4, _, _, by simp [sigs], h, _, _, hp⟩
  · obtain ⟨_, _, hp⟩ := pk_x s w hT hp hl hs; exact ⟨5, _, _, by simp [sigs], h, _, _, hp⟩
  · obtain ⟨_, _, _, hp, _⟩ := pk_t s w hT hp hl hu; exact ⟨6, _, _, by simp [sigs], h, _, _, hp⟩
  · obtain ⟨_, _, hp⟩ := pk_d s w hT (Go.Proofs.YtogikhohkbcccaaGreatDoor.To.NT.ft hN hp hl); exact ⟨7, _, _, by simp [sigs], h, _, _, hp⟩
theorem sig_hx {j : Nat} {sig : ByteArray} {K : Int} (h : (j, sig, K) ∈ sigs) : sig.size = 1 ∧ ∀ h : 0 < sig.size, ((sig[0]'h).toNat : Int) = K := by
  simp only [sigs, List.mem_cons, Prod.mk.injEq, List.not_mem_nil, or_false] at h
  rcases h with ⟨_, rfl, rfl⟩ | ⟨_, rfl, rfl⟩ | ⟨_, rfl, rfl⟩ | ⟨_, rfl, rfl⟩ | ⟨_, rfl, rfl⟩ | ⟨_, rfl, rfl⟩ | ⟨_, rfl, rfl⟩ | ⟨_, rfl, rfl⟩ <;> exact ⟨rfl, fun _ => rfl⟩

theorem blk_hold {w W : World} {g : Nat} {o : Obj} (h : w.heap[g]? = some o ∧ g < w.heap.size) (hb : Below w.heap.size w W) : W.heap[g]? = some o ∧ g < W.heap.size := ⟨(hb.block _ h.2).trans h.1, Nat.lt_of_lt_of_le h.2 hb.size⟩
set_option maxHeartbeats 8000000 in
set_option maxRecDepth 100000 in
theorem law_calls (nt : ∀ (s : ByteArray) (h0 : 0 < s.size) (hs : s.size ≤ 400) (w : World), Calls Tryz.prog 4 #[.string s] w fun e w' => ∃ (n : Int) (ok : Bool), e = .returned (.tuple #[.int .i64 n, .bool ok]) ∧ (ok = true → n = (s.size : Int) → NT s) ∧ Below w.heap.size w w')
    (s : ByteArray) (k : Int) (hk : 0 ≤ k) (hk2 : k < 256) (w : World) (hT : TWd w) : Calls Tryz.prog 3 #[.string s, .int .u8 k] w (LQ w) := by
  by_cases hbig : 2147483647 < (s.size : Int)
  · have c1 : decide ((2147483647 : Int) < (s.size : Int)) = true := decide_eq_true hbig
    have c1n : (2147483647 < s.size) = True := eq_true (by omega)
    clear hbig
    go_enter Tryz.func3, Tryz.ntmps3
    go_wp2
    go_ret
    exact ⟨rfl, Below.refl _ _⟩
  · have c1 : decide ((2147483647 : Int) < (s.size : Int)) = false := decide_eq_false hbig
    have c1n : (2147483647 < s.size) = False := eq_false (by omega)
    by_cases h0 : s.size = 0
    · have c2 : s.toList.isEmpty = true := by rw [← decide_eq_emptyBytes]; exact decide_eq_true (by simpa using h0)
      clear hbig h0
      go_enter Tryz.func3, Tryz.ntmps3
      go_wp2
      go_ret
      exact ⟨rfl, Below.refl _ _⟩
    · have c2 : s.toList.isEmpty = false := pu_ne h0
      by_cases h4 : 400 < s.size
      · have c3 : decide ((400 : Int) < (s.size : Int)) = true := decide_eq_true (by omega)
        have c3n : (400 < s.size) = True := eq_true h4
        clear hbig h0 h4
        go_enter Tryz.func3, Tryz.ntmps3
        go_wp2
        go_ret
        exact ⟨rfl, Below.refl _ _⟩
      · have c3 : decide ((400 : Int) < (s.size : Int)) = false := decide_eq_false (by omega)
        have c3n : (400 < s.size) = False := eq_false h4
        have q1 : (0 < s.size) = True := eq_true (by omega)
        have q2 : (0 < (s.size : Int)) = True := eq_true (by omega)
        have H0 : Aside0 (0 < s.size) := ⟨by omega⟩
        have HL : Aside0 (s.size ≤ 400) := ⟨by omega⟩
        have HT := Aside0.mk hT
        have HK := Aside0.mk (And.intro hk hk2)
        replace nt := Aside0.mk nt
        obtain ⟨c, hc⟩ : ∃ c, c = bt s 0 := ⟨_, rfl⟩
        have hx : ∀ h : 0 < s.size, ((s[0]'h).toNat : Int) = c := pu_hx (i := 0) hc
        clear hbig h0 h4 hT hk hk2 hc
        go_enter Tryz.func3, Tryz.ntmps3
        go_upto_region 3 with fail
        go_cut [43] (fun v wc => ∃ b : Bool, v = .bool b ∧ w = wc)
        case first => as_aux_lemma =>
          by_cases h43 : c = 43
          · have b1 : (c == 43) = true := beq_iff_eq.2 h43
            have b1' : (c != 43) = false := bne_eq_false_iff_eq.2 h43
            clear h43
            go_wp2
            go_meet
            case rel => exact ⟨_, rfl, rfl⟩
          · have b1 : (c == 43) = false := beq_eq_false_iff_ne.2 h43
            have b1' : (c != 43) = true := bne_iff_ne.2 h43
            by_cases h45 : c = 45
            · have b2 : (c == 45) = true := beq_iff_eq.2 h45
              have b2' : (c != 45) = false := bne_eq_false_iff_eq.2 h45
              clear h43 h45
              go_wp2
              go_meet
              case rel => exact ⟨_, rfl, rfl⟩
            · have b2 : (c == 45) = false := beq_eq_false_iff_ne.2 h45
              have b2' : (c != 45) = true := bne_iff_ne.2 h45
              clear h43 h45
              by_cases h48 : c < 48
              · have b3 : decide (c < 48) = true := decide_eq_true h48
                clear h48
                go_wp2
                go_meet
                case rel => exact ⟨_, rfl, rfl⟩
              · have b3 : decide (c < 48) = false := decide_eq_false h48
                clear h48
                go_wp2
                go_meet
                case rel => exact ⟨_, rfl, rfl⟩
        case rest => as_aux_lemma =>
          obtain ⟨b, rfl, rfl⟩ := hcut
          clear hx q1 q2 c1 c1n c2 c3 c3n
          cases b with
          | true =>
            go_wp2
            go_ret
            exact ⟨rfl, Below.refl _ _⟩
          | false =>
            go_upto_region 6 with (go_at_call 4; ((with_reducible refine (nt.out s H0.out HL.out _).mono ?_); rintro x w2 ⟨n, ok, rfl, hn, hb⟩; have HN := Aside0.mk hn; have HB := Aside0.mk hb; clear hn hb))
            cases ok with
            | false =>
              go_wp2
              go_ret
              exact ⟨rfl, HB.out⟩
            | true =>
              by_cases hn : n = (s.size : Int)
              · have b4 : (n == (s.size : Int)) = true := beq_iff_eq.2 hn
                have b4' : (n != (s.size : Int)) = false := bne_eq_false_iff_eq.2 hn
                have hNT := Aside0.mk (HN.out rfl hn)
                clear hn HN
                go_upto_region 8 with fail
                obtain ⟨j, sig, K, hmem, hj, m, er, hpk⟩ := pk_all s w2 (HT.out.step HB.out) H0.out HL.out hNT.out k HK.out.1
                have H1 := Aside0.mk (one_pk w2 (HT.out.step HB.out))
                have HM := Aside0.mk hmem
                have HPK := Aside0.mk hpk
                clear hpk hmem
                have HJ := Aside0.mk hj
                have hj2 : k.tmod 8 = (j : Int) := by rw [Int.tmod_eq_emod_of_nonneg HK.out.1]; exact hj
                go_cut [7] (fun v7 wc => v7 = .string sig ∧ w2 = wc)
                case first => as_aux_lemma =>
                  have hm := HM.out
                  clear HM HPK H1 hNT HK
                  simp only [sigs, List.mem_cons, Prod.mk.injEq, List.not_mem_nil, or_false] at hm
                  rcases hm with ⟨rfl, rfl, rfl⟩ | ⟨rfl, rfl, rfl⟩ | ⟨rfl, rfl, rfl⟩ | ⟨rfl, rfl, rfl⟩ | ⟨rfl, rfl, rfl⟩ | ⟨rfl, rfl, rfl⟩ | ⟨rfl, rfl, rfl⟩ | ⟨rfl, rfl, rfl⟩
                  · have hja : k % 8 = 0 := hj
                    have hjb : k.tmod 8 = 0 := hj2
                    clear hj hj2
                    go_wp2
                    go_meet
                    case rel => exact ⟨by first | rfl | (congr 1), rfl⟩
                  · have hja : k % 8 = 1 := hj
                    have hjb : k.tmod 8 = 1 := hj2
                    clear hj hj2
                    go_wp2
                    go_meet
                    case rel => exact ⟨by first | rfl | (congr 1), rfl⟩
                  · have hja : k % 8 = 2 := hj
                    have hjb : k.tmod 8 = 2 := hj2
                    clear hj hj2
                    go_wp2
                    go_meet
                    case rel => exact ⟨by first | rfl | (congr 1), rfl⟩
                  · have hja : k % 8 = 3 := hj
                    have hjb : k.tmod 8 = 3 := hj2
                    clear hj hj2
                    go_wp2
                    go_meet
                    case rel => exact ⟨by first | rfl | (congr 1), rfl⟩
                  · have hja : k % 8 = 4 := hj
                    have hjb : k.tmod 8 = 4 := hj2
                    clear hj hj2
                    go_wp2
                    go_meet
                    case rel => exact ⟨by first | rfl | (congr 1), rfl⟩
                  · have hja : k % 8 = 5 := hj
                    have hjb : k.tmod 8 = 5 := hj2
                    clear hj hj2
                    go_wp2
                    go_meet
                    case rel => exact ⟨by first | rfl | (congr 1), rfl⟩
                  · have hja : k % 8 = 6 := hj
                    have hjb : k.tmod 8 = 6 := hj2
                    clear hj hj2
                    go_wp2
                    go_meet
                    case rel => exact ⟨by first | rfl | (congr 1), rfl⟩
                  · have hja : k % 8 = 7 := hj
                    have hjb : k.tmod 8 = 7 := hj2
                    clear hj hj2
                    go_wp2
                    go_meet
                    case rel => exact ⟨by first | rfl | (congr 1), rfl⟩
                case rest => as_aux_lemma =>
                obtain ⟨rfl, rfl⟩ := hcut
                clear hj hj2 b4 b4'
                obtain ⟨hs1, hxs⟩ := sig_hx HM.out
                have q1 : (0 < sig.size) = True := eq_true (by omega)
                have q2 : (0 < (sig.size : Int)) = True := eq_true (by omega)
                clear hs1
                cases er with
                | true =>
                  go_upto_region 9 with fail
                  go_cut [8, 9] (fun v8 v9 wc => v9 = .bool false ∧ Aside0 (Below w2.heap.size w2 wc))
                  case first => as_aux_lemma =>
                    have h5 := Aside0.mk HPK.out.1
                    go_wp2_with (go_at_call 5; ((with_reducible refine (h5.out _ (Below.refl _ _)).mono ?_); rintro x w3 ⟨rfl, hb⟩; have HC := Aside0.mk hb; clear hb))
                    go_meet
                    case rel => exact ⟨rfl, ⟨below_alloc HC.out _⟩⟩
                  case rest => as_aux_lemma =>
                  obtain ⟨rfl, HC⟩ := hcut
                  generalize wc = w3 at HC ⊢
                  clear q1 q2 hxs
                  go_upto_region 10 with fail
                  go_cut [10, 11] (fun v8 v9 wc => v9 = .bool false ∧ Aside0 (Below w2.heap.size w2 wc))
                  case first => as_aux_lemma =>
                    have h6 := Aside0.mk HPK.out.2
                    go_wp2_with (go_at_call 6; ((with_reducible refine (h6.out _ HC.out).mono ?_); rintro x w4 ⟨rfl, hb⟩; have HD := Aside0.mk (bchain HC.out hb); clear hb))
                    go_meet
                    case rel => exact ⟨rfl, ⟨below_alloc HD.out _⟩⟩
                  case rest => as_aux_lemma =>
                  clear HC
                  obtain ⟨rfl, HC⟩ := hcut
                  generalize wc = w4 at HC ⊢
                  go_upto_region 11 with fail
                  go_cut [12, 13] (fun v8 v9 wc => v9 = .bool true ∧ Aside0 (Below w2.heap.size w2 wc))
                  case first => as_aux_lemma =>
                    go_wp2_with (go_at_call 6; ((with_reducible refine (H1.out _ HC.out).mono ?_); rintro x w5 ⟨rfl, hb⟩; have HD := Aside0.mk (bchain HC.out hb); clear hb))
                    go_meet
                    case rel => exact ⟨rfl, ⟨below_alloc HD.out _⟩⟩
                  case rest => as_aux_lemma =>
                  clear HC
                  obtain ⟨rfl, HC⟩ := hcut
                  go_wp2
                  go_ret
                  exact ⟨rfl, bchain HB.out HC.out⟩
                | false =>
                  go_upto_region 9 with fail
                  go_cut [8, 9] (fun v8 v9 wc => ∃ g, v8 = .pointer (some ⟨g, 0, none⟩) ∧ v9 = .bool true ∧ Aside0 (Below w2.heap.size w2 wc) ∧ Aside0 (wc.heap[g]? = some (.cells (vc K m) 27 (0, 0)) ∧ g < wc.heap.size))
                  case first => as_aux_lemma =>
                    have h5 := Aside0.mk HPK.out.1
                    go_wp2_with (go_at_call 5; ((with_reducible refine (h5.out _ (Below.refl _ _)).mono ?_); rintro x w3 ⟨rfl, hb⟩; have HC := Aside0.mk hb; clear hb))
                    go_meet
                    case rel => exact ⟨_, rfl, rfl, ⟨below_alloc HC.out _⟩, ⟨alloc_top _ _, by rw [size_alloc]; omega⟩⟩
                  case rest => as_aux_lemma =>
                  obtain ⟨g, rfl, rfl, HC, HG⟩ := hcut
                  generalize wc = w3 at HC HG ⊢
                  clear q1 q2 hxs
                  go_upto_region 10 with fail
                  go_cut [10, 11] (fun v8 v9 wc => ∃ g', v8 = .pointer (some ⟨g', 0, none⟩) ∧ v9 = .bool true ∧ Aside0 (Below w2.heap.size w2 wc) ∧ Aside0 (wc.heap[g']? = some (.cells (vc K m) 27 (0, 0)) ∧ g' < wc.heap.size) ∧ Aside0 (wc.heap[g]? = some (.cells (vc K m) 27 (0, 0)) ∧ g < wc.heap.size))
                  case first => as_aux_lemma =>
                    have h6 := Aside0.mk HPK.out.2
                    go_wp2_with (go_at_call 6; ((with_reducible refine (h6.out _ HC.out).mono ?_); rintro x w4 ⟨rfl, hb⟩; have HD := Aside0.mk (bchain HC.out hb); have HE := Aside0.mk (blk_hold HG.out hb); clear hb))
                    go_meet
                    case rel => exact ⟨_, rfl, rfl, ⟨below_alloc HD.out _⟩, ⟨alloc_top _ _, by rw [size_alloc]; omega⟩, ⟨blk_hold HE.out (below_alloc (Below.refl _ _) _)⟩⟩
                  case rest => as_aux_lemma =>
                  clear HC HG
                  obtain ⟨g2, rfl, rfl, HC, HG2, HG⟩ := hcut
                  generalize wc = w4 at HC HG2 HG ⊢
                  go_upto_region 11 with fail
                  go_cut [12, 13] (fun v8 v9 wc => v9 = .bool true ∧ Aside0 (Below w2.heap.size w2 wc) ∧ Aside0 (wc.heap[g2]? = some (.cells (vc K m) 27 (0, 0)) ∧ g2 < wc.heap.size) ∧ Aside0 (wc.heap[g]? = some (.cells (vc K m) 27 (0, 0)) ∧ g < wc.heap.size))
                  case first => as_aux_lemma =>
                    go_wp2_with (go_at_call 6; ((with_reducible refine (H1.out _ HC.out).mono ?_); rintro x w5 ⟨rfl, hb⟩; have HD := Aside0.mk (bchain HC.out hb); have HE := Aside0.mk (blk_hold HG.out hb); have HE2 := Aside0.mk (blk_hold HG2.out hb); clear hb))
                    go_meet
                    case rel => exact ⟨rfl, ⟨below_alloc HD.out _⟩, ⟨blk_hold HE2.out (below_alloc (Below.refl _ _) _)⟩, ⟨blk_hold HE.out (below_alloc (Below.refl _ _) _)⟩⟩
                  case rest => as_aux_lemma =>
                  clear HC HG HG2
                  obtain ⟨rfl, HC, HG2, HG⟩ := hcut
                  obtain ⟨a0, a1, a2, a3, _, _, _, _⟩ := cells4 HG.out.1
                  obtain ⟨b0, b1, b2, b3, _, _, _, _⟩ := cells4 HG2.out.1
                  go_wp2_with (go_at_call 7; ((with_reducible refine (sm_calls K m _).mono ?_); rintro x w6 ⟨rfl, hb⟩; have HD := Aside0.mk (bchain HC.out hb); clear hb))
                  go_ret
                  exact ⟨rfl, bchain HB.out HD.out⟩
              · have b4 : (n == (s.size : Int)) = false := beq_eq_false_iff_ne.2 hn
                have b4' : (n != (s.size : Int)) = true := bne_iff_ne.2 hn
                clear hn HN
                go_wp2
                go_ret
                exact ⟨rfl, HB.out⟩
end Go.Proofs.YtogikhohkbcccaaGreatDoor.To
