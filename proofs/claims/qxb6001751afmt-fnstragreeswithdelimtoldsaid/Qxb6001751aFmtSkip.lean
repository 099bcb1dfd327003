import Derived.Test.Qxb6001751aFmtBase
import Derived.Deep.LoopGhost
namespace Go.Proofs.Qxb6001751aFmt
open Go.RowKit Tk

theorem sepB_no {c : Int} (h1 : (c == 32) = false) (h2 : (c == 9) = false) (h3 : (c == 13) = false) (h4 : (c == 10) = false) (h5 : (c == 44) = false) (h6 : (c == 58) = false) : sepB c = false := by
  simp [sepB, h1, h2, h3, h4, h5, h6]

theorem sepB_yes {c : Int} (h : (c == 32) = true ∨ (c == 9) = true ∨ (c == 13) = true ∨ (c == 10) = true ∨ (c == 44) = true ∨ (c == 58) = true) : sepB c = true := by
  rcases h with h | h | h | h | h | h <;> simp [sepB, h]

set_option maxHeartbeats 400000 in
theorem skip_any (t : Nat) (ao : Option Addr) (cap : Nat) (D : List Int) (p : Nat) (w : World) (hD : Dat w ao D) (hne : ∀ b off, ao = some ⟨b, off, none⟩ → b ≠ t)
    (hlen : D.length ≤ 2097152) (hp : p ≤ D.length) (h0 : w.cell? ⟨t, 0, none⟩ = some (.slice ao D.length cap)) (h1 : w.cell? ⟨t, 1, none⟩ = some (.int .i64 p)) (hf : w.frozen? ⟨t, 1, none⟩ = false) (ht : t < w.heap.size) :
    Calls Tryf.prog 40 #[.pointer (some ⟨t, 0, none⟩)] w fun e w' => e = .returned (.tuple #[]) ∧ Upd t (firstAt D p) w w' := by
  go_enter Tryf.func40, Tryf.ntmps40
  go_wp2
  go_loopg [] (D.length - p) (fun g wr => ∃ k : Nat, g = D.length - k ∧ k ≤ D.length ∧ firstAt D k = firstAt D p ∧ Upd t k w wr)
  case atStart => exact ⟨p, rfl, hp, rfl, Upd.refl ht h1 hf⟩
  case round =>
    obtain ⟨k, hg, hk, hfa, hu⟩ := hrel
    have h0r : wr.cell? ⟨t, 0, none⟩ = some (.slice ao D.length cap) := hu.data.trans h0
    have h1r := hu.pos
    have hfr := hu.free
    have HG : Hid (gk = D.length - k) := hg
    have HF : Hid (firstAt D k = firstAt D p) := hfa
    clear h0 h1 hf hg hfa
    by_cases hlt : k < D.length
    · obtain ⟨b, off, rfl, hb, hc⟩ : ∃ b off, ao = some ⟨b, off, none⟩ ∧ b < w.heap.size ∧ ∀ i, i < D.length → w.cell? ⟨b, off + i, none⟩ = some (.int .u8 (D.getD i 0)) := by
        rcases hD with rfl | h
        · simp at hlt
        · exact h
      have hcr : wr.cell? ⟨b, off + k, none⟩ = some (.int .u8 (D.getD k 0)) := (hu.cell hb (hne b off rfl)).trans (hc k hlt)
      obtain ⟨c, hcd⟩ : ∃ c, c = D.getD k 0 := ⟨_, rfl⟩
      rw [← hcd] at hcr
      have HC : Hid (c = D.getD k 0) := hcd
      clear hc hcd hD hne
      go_wp2
      go_quiet (fail)
      go_wp2
      go_quiet (fail)
      go_wp2
      all_goals first
        | (have hs : sepB c = false := sepB_no (by assumption) (by assumption) (by assumption) (by assumption) (by assumption) (by assumption)
           refine bodyPost_ret (results_none rfl _ _ _) rfl ⟨rfl, ?_⟩
           rw [← HF.out, firstAt_not D k hlt (by rw [← HC.out]; exact hs)]
           repeat (first | apply Upd.drewN | apply Upd.drew)
           exact hu)
        | (have hs : sepB c = true := sepB_yes (by first | exact .inl (by assumption) | exact .inr (.inl (by assumption)) | exact .inr (.inr (.inl (by assumption))) | exact .inr (.inr (.inr (.inl (by assumption)))) | exact .inr (.inr (.inr (.inr (.inl (by assumption))))) | exact .inr (.inr (.inr (.inr (.inr (by assumption))))))
           go_roundg (D.length - (k + 1))
           case measure => have := HG.out; omega
           case rel =>
             refine ⟨k + 1, rfl, by omega, (firstAt_sep D k hlt (by rw [← HC.out]; exact hs)).trans HF.out, ?_⟩
             rw [show ((k + 1 : Nat) : Int) = (k : Int) + 1 from by omega]
             repeat (first | apply Upd.drewN | apply Upd.drew | apply Upd.set)
             exact hu)
    · go_wp2
      go_quiet (fail)
      go_wp2
      go_end0
      refine ⟨rfl, ?_⟩
      rw [← HF.out, firstAt_end D k (by omega)]
      repeat (first | apply Upd.drewN | apply Upd.drew)
      exact hu
end Go.Proofs.Qxb6001751aFmt
