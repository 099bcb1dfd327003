import Derived.Test.Qxb6001751aFmtSkip
import Derived.Test.Qxb6001751aFmtNum
import Derived.Test.Qxb6001751aFmtNext
import Derived.RegionTactic
import Derived.Deep.LoopGhost
namespace Go.Proofs.Qxb6001751aFmt
open Go.RowKit Tk

set_option maxHeartbeats 400000 in
theorem next_num (t b off cap : Nat) (D : List Int) (p i : Nat) (w : World) (hD : Dat w (some ⟨b, off, none⟩) D) (hne : b ≠ t)
    (hlen : D.length ≤ 2097152) (hcap : D.length ≤ cap) (hp : p ≤ D.length) (h0 : w.cell? ⟨t, 0, none⟩ = some (.slice (some ⟨b, off, none⟩) D.length cap)) (h1 : w.cell? ⟨t, 1, none⟩ = some (.int .i64 p)) (hf : w.frozen? ⟨t, 1, none⟩ = false) (ht : t < w.heap.size)
    (he : firstAt D p = i) (hi : i < D.length) (hby : Bytes D) (n1 : (D.getD i 0 == 123) = false) (n2 : (D.getD i 0 == 125) = false) (n3 : (D.getD i 0 == 91) = false) (n4 : (D.getD i 0 == 93) = false) (n5 : (D.getD i 0 == 34) = false) (n6 : (D.getD i 0 == 116) = false) (n7 : (D.getD i 0 == 110) = false) (n8 : (D.getD i 0 == 102) = false) :
    Calls Tryf.prog 37 #[.pointer (some ⟨t, 0, none⟩)] w fun e w' => e = .returned (.agg #[.int .u8 48, .slice (some ⟨b, off + i, none⟩) ((numAt D i) - i) (cap - i)]) ∧ Upd t ((numAt D i) : Nat) w w' := by
  have hDi : w.cell? ⟨b, off + i, none⟩ = some (.int .u8 (D.getD i 0)) ∧ b < w.heap.size := by
    rcases hD with hD | ⟨b', off', hao, hb, hc⟩
    · rw [hD] at hi; simp at hi
    · simp only [Option.some.injEq, Addr.mk.injEq, and_true] at hao
      obtain ⟨rfl, rfl⟩ := hao
      exact ⟨hc i hi, hb⟩
  obtain ⟨hci, hbl⟩ := hDi
  obtain ⟨c0, hc0⟩ : ∃ c, c = D.getD i 0 := ⟨_, rfl⟩
  rw [← hc0] at hci n1 n2 n3 n4 n5 n6 n7 n8
  clear hc0
  go_enter Tryf.func37, Tryf.ntmps37
  go_wp2_with fail
  refine (skip_any t (some ⟨b, off, none⟩) cap D p _ (hD.below ((Below.refl _ _).alloc (Nat.le_refl _) _)) (fun b' off' h => by simp at h; omega) hlen hp (by go_simp) (by go_simp) (by go_simp) (by simp; omega)).mono ?_
  rintro e w1 ⟨rfl, hu⟩
  rw [he] at hu
  have g0 : w1.cell? ⟨t, 0, none⟩ = some (.slice (some ⟨b, off, none⟩) D.length cap) := hu.data.trans (by go_simp)
  have g1 := hu.pos
  have gf := hu.free
  have gi := (hu.cell (o := off + i) (b := b) (by simp; omega) hne).trans ((World.cell?_alloc_lt w _ _ hbl).trans hci)
  have r0 : w1.cell? ⟨w.heap.size, 0, none⟩ = some (.int .u8 0) := (hu.cell (by simp) (by omega)).trans (by simp)
  have r1 : w1.cell? ⟨w.heap.size, 1, none⟩ = some (.slice none 0 0) := (hu.cell (by simp) (by omega)).trans (by simp)
  have rf0 : w1.frozen? ⟨w.heap.size, 0, none⟩ = false := (World.frozen?_of_block (w := _) (hu.block w.heap.size (by simp) (by omega))).trans (by simp)
  have rf1 : w1.frozen? ⟨w.heap.size, 1, none⟩ = false := (World.frozen?_of_block (w := _) (hu.block w.heap.size (by simp) (by omega))).trans (by simp)
  have hsz : w.heap.size < w1.heap.size := by have := hu.size; simp at this; omega
  have hne3 : w.heap.size ≠ t := by omega
  have hb1 : b < w1.heap.size := by have := hu.size; simp at this; omega
  have hcs : ∀ j, j < D.length → w1.cell? ⟨b, off + j, none⟩ = some (.int .u8 (D.getD j 0)) := by
    intro j hj
    rcases hD with hD | ⟨b', off', hao, hb, hc⟩
    · rw [hD] at hj; simp at hj
    · simp only [Option.some.injEq, Addr.mk.injEq, and_true] at hao
      obtain ⟨rfl, rfl⟩ := hao
      exact (hu.cell (o := off + j) (b := b) (by simp; omega) hne).trans ((World.cell?_alloc_lt w _ _ hbl).trans (hc j hj))
  have hne2 : ¬ t = w.heap.size := by omega
  clear he h0 h1 hf hci
  go_wp2
  go_quiet (fail)
  go_wp2
  go_loopg [] (D.length - i) (fun g wr => ∃ j : Nat, g = D.length - j ∧ j ≤ D.length ∧ numAt D j = numAt D i ∧ i ≤ j ∧ Upd t j w1 wr)
  case atStart =>
    exact ⟨i, rfl, by omega, rfl, Nat.le_refl _, (Upd.refl hu.old g1 gf).drewN nq⟩
  case round =>
    obtain ⟨j, hg, hjl, hnum, hij, hv⟩ := hrel
    have q0 : wr.cell? ⟨t, 0, none⟩ = some (.slice (some ⟨b, off, none⟩) D.length cap) := hv.data.trans g0
    have q1 := hv.pos
    have qf := hv.free
    have s0 := (hv.cell (o := 0) hsz hne3).trans r0
    have s1 := (hv.cell (o := 1) hsz hne3).trans r1
    have sf0 := (World.frozen?_of_block (a := ⟨w.heap.size, 0, none⟩) (w := w1) (hv.block w.heap.size hsz hne3)).trans rf0
    have sf1 := (World.frozen?_of_block (a := ⟨w.heap.size, 1, none⟩) (w := w1) (hv.block w.heap.size hsz hne3)).trans rf1
    have HG : Hid (gk = D.length - j) := hg
    have HN : Hid (numAt D j = numAt D i) := hnum
    have hz : w.heap.size < wr.heap.size := Nat.lt_of_lt_of_le hsz hv.size
    by_cases hlt : j < D.length
    · have qi := (hv.cell (o := off + j) (b := b) hb1 hne).trans (hcs j hlt)
      have hcb := hby.at j
      obtain ⟨c, hcd⟩ : ∃ c, c = D.getD j 0 := ⟨_, rfl⟩
      rw [← hcd] at qi hcb
      have HC : Hid (c = D.getD j 0) := hcd
      clear hg hnum hcd g0 g1 gf gi r0 r1 rf0 rf1 hcs hD hby
      cases hnb : numB c with
      | true =>
        have hx := numIdx_yes c hcb.1 hcb.2 hnb
        clear hcb
        have HB : Hid (numB c = true) := hnb
        clear hnb
        go_wp2
        go_quiet ((go_at_call 41; exact Calls.quiet_of_same (indexNum _ _)))
        go_wp2
        go_roundg (D.length - (j + 1))
        case measure => have := HG.out; omega
        case rel =>
          refine ⟨j + 1, rfl, by omega, (numAt_num D j hlt (by rw [← HC.out]; exact HB.out)).trans HN.out, by omega, ?_⟩
          rw [show ((j + 1 : Nat) : Int) = (j : Int) + 1 from by omega]
          repeat (first | apply Upd.drewN | apply Upd.drew | apply Upd.set)
          exact hv
      | false =>
        have hx := numIdx_no c hcb.1 hcb.2 hnb
        clear hcb
        have HB : Hid (numB c = false) := hnb
        clear hnb
        go_wp2
        go_quiet ((go_at_call 41; exact Calls.quiet_of_same (indexNum _ _)))
        go_wp2
        go_region
        all_goals try go_wp2
        all_goals
          refine bodyPost_ret (res37 _ _ w.heap.size (.int .u8 48) (.slice (some ⟨b, off + i, none⟩) (numAt D i - i) (cap - i)) rfl ?hx ?hy) rfl ⟨rfl, ?hu⟩
        case hx => exact (two_cells _ _ _ _ (by go_simp) (by go_simp)).1
        case hy => rw [← HN.out, numAt_not D j hlt (by rw [← HC.out]; exact HB.out)]; exact (two_cells _ _ _ _ (by go_simp) (by go_simp)).2
        case hu =>
          rw [← HN.out, numAt_not D j hlt (by rw [← HC.out]; exact HB.out)]
          repeat (first | apply Upd.drewN | apply Upd.drew)
          refine Upd.setNew (Upd.setNew ?_ (Nat.le_refl _) hne2 _) (Nat.le_refl _) hne2 _
          repeat (first | apply Upd.drewN | apply Upd.drew)
          exact (hu.ofAlloc ht).trans hv
    · have hd : decide ((j : Int) < (D.length : Int)) = false := by simp; omega
      clear hg hnum g0 g1 gf gi r0 r1 rf0 rf1 hcs hD hby
      go_wp2
      go_quiet (fail)
      go_wp2
      go_region
      all_goals try go_wp2
      all_goals
        refine bodyPost_ret (res37 _ _ w.heap.size (.int .u8 48) (.slice (some ⟨b, off + i, none⟩) (numAt D i - i) (cap - i)) rfl ?hx ?hy) rfl ⟨rfl, ?hu⟩
      case hx => exact (two_cells _ _ _ _ (by go_simp) (by go_simp)).1
      case hy => rw [← HN.out, numAt_end D j (by omega)]; exact (two_cells _ _ _ _ (by go_simp) (by go_simp)).2
      case hu =>
        rw [← HN.out, numAt_end D j (by omega)]
        repeat (first | apply Upd.drewN | apply Upd.drew)
        refine Upd.setNew (Upd.setNew ?_ (Nat.le_refl _) hne2 _) (Nat.le_refl _) hne2 _
        repeat (first | apply Upd.drewN | apply Upd.drew)
        exact (hu.ofAlloc ht).trans hv
end Go.Proofs.Qxb6001751aFmt
