import Derived.Test.YthhiijehdpchbaaQ5
import Derived.Test.YthhiijehdpchbaaSpec
import Derived.Test.YthhiijehdpchbaaSg2
namespace Go.Proofs.Ythhiijehdpchbaa.Pure
set_option linter.unusedVariables false
set_option linter.unusedSimpArgs false
open Go.RowKit Go.Proofs.Ythhiijehdpchbaa.Ext Go.Proofs.Ythhiijehdpchbaa.Q Go.Proofs.YthhiijehdpchbaaW.PrintWords Go.Proofs.YthhiijehdpchbaaW.PrintLast
open Go.Proofs.Ythhiijehdpchbaa.Com Go.Proofs.Ythhiijehdpchbaa.Tree Go.Proofs.Ythhiijehdpchbaa.Spec Go.Proofs.Ythhiijehdpchbaa.Sg

theorem yS : Sig (B (⟨#[40, 121, 41]⟩ : ByteArray)) := ⟨.more (.s (.more (.b 121) .nil)) .nil, by decide, by decide, by decide, by decide⟩

theorem FnSgStruct : laws_FnSgStruct.Pure := by
  intro a0 hs
  suffices h : Ev (fun k => laws_FnSgStruct.f k a0) true by
    obtain ⟨K, h⟩ := h
    exact ⟨K, h K (Nat.le_refl _)⟩
  have out : Ev (fun k => laws_FnSgStruct.j0 k a0 true) true := by
    refine Ev.step (fun k => by simp only [laws_FnSgStruct.j0]; rfl) ?_
    exact Ev.yes trivial (Ev.now _)
  unfold laws_FnSgStruct.f
  refine Ev.both (fun _ => Ev.now _) (fun _ => Ev.both (fun _ => out) (fun hl => Ev.both (fun _ => out) (fun hne => ?_)))
  rcases valid_ev a0 with ⟨hS, hV⟩ | ⟨hS, hV⟩
  · refine Ev.bind hV ?_
    obtain ⟨ts, ho, hf, e, _⟩ := hS
    have hts : ne ts = true := by
      cases ts with
      | more t ts => rfl
      | nil => exact absurd (B_nil.2 e) hne
    have hsz : (((⟨#[40]⟩ : ByteArray) ++ a0) ++ (⟨#[41]⟩ : ByteArray)).size = a0.size + 2 := by
      rw [ByteArray.size_append, ByteArray.size_append]
      show 1 + a0.size + 1 = _
      omega
    have hB : B (((⟨#[40]⟩ : ByteArray) ++ a0) ++ (⟨#[41]⟩ : ByteArray)) = txts (.more (.s ts) .nil) := by
      rw [B_append, B_append, e]
      simp [txts, txt]; rfl
    have hoo : oks (.more (.s ts) .nil) = true := by simp [oks, ok, ho, hts]
    have hP := parse_tree _ (.more (.s ts) .nil) hoo hB (by rw [hsz]; omega)
    refine Ev.step (fun k => by simp only [laws_FnSgStruct.j0]; rfl) ?_
    have hV2 : Ev (fun k => spec_Valid.f k (((⟨#[40]⟩ : ByteArray) ++ a0) ++ (⟨#[41]⟩ : ByteArray))) (fitss (.more (.s ts) .nil) 32 32 32) := by
      rcases valid_ev (((⟨#[40]⟩ : ByteArray) ++ a0) ++ (⟨#[41]⟩ : ByteArray)) with ⟨⟨ts', ho', hf', e', _⟩, hV'⟩ | ⟨hS', hV'⟩
      · rw [hB] at e'
        rw [txts_inj hoo ho' e', hf']
        exact hV'
      · have : fitss (.more (.s ts) .nil) 32 32 32 = false := by
          rw [Bool.eq_false_iff]
          intro hff
          exact hS' ⟨_, hoo, hff, hB, by rw [B_length, hsz]; omega⟩
        rw [this]
        exact hV'
    refine Ev.no (by simp) (Ev.yes (by omega) (Ev.yes ?_ (Ev.bind hP (Ev.bind ((parse_sig _).1 yS) (Ev.yes rfl (Ev.bind hV2 (Ev.is ?_)))))))
    · rw [ByteArray.size_append]
      show 1 + a0.size + 1 ≤ _
      omega
    · exact beq_self_eq_true _
  · refine Ev.bind hV ?_
    exact out

end Go.Proofs.Ythhiijehdpchbaa.Pure
