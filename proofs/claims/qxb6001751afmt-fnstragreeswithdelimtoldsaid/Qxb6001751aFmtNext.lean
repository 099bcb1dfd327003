import Derived.Test.Qxb6001751aFmtSkip
import Derived.Test.Qxb6001751aFmtNum
import Derived.RegionTactic
namespace Go.Proofs.Qxb6001751aFmt
open Go.RowKit Tk

theorem res37 (tmps : Array Value) (W : World) (sz : Nat) (x y : Value) (h2 : tmps.getD 2 undef = .pointer (some ⟨sz, 0, none⟩)) (hx : W.cell? ⟨sz, 0, none⟩ = some x) (hy : W.cell? ⟨sz, 1, none⟩ = some y) :
    (results Tryf.f37 tmps).run Tryf.prog W = .ok (.agg #[x, y]) W := by
  have h2' : tmps[2]?.getD undef = .pointer (some ⟨sz, 0, none⟩) := by simpa using h2
  simp [results, Tryf.results37, h2', go_sem, hx, hy]

theorem two_cells (W : World) (sz : Nat) (x y : Value) (h0 : (W.cell? ⟨sz, 0, none⟩).isSome = true) (h1 : (W.cell? ⟨sz, 1, none⟩).isSome = true) :
    (((W.setCell ⟨sz, 0, none⟩ x).setCell ⟨sz, 1, none⟩ y).drew).cell? ⟨sz, 0, none⟩ = some x ∧ (((W.setCell ⟨sz, 0, none⟩ x).setCell ⟨sz, 1, none⟩ y).drew).cell? ⟨sz, 1, none⟩ = some y := by
  constructor
  · rw [World.cell?_drew, World.cell?_setCell_other _ _ _ _ (by simp)]
    exact World.cell?_setCell_same' _ _ _ h0
  · rw [World.cell?_drew]
    exact World.cell?_setCell_same' _ _ _ (by rw [World.cell?_setCell_other _ _ _ _ (by simp)]; exact h1)

set_option maxHeartbeats 400000 in
theorem next_open (t b off cap : Nat) (D : List Int) (p i : Nat) (w : World) (hD : Dat w (some ⟨b, off, none⟩) D) (hne : b ≠ t)
    (hlen : D.length ≤ 2097152) (hcap : D.length ≤ cap) (hp : p ≤ D.length) (h0 : w.cell? ⟨t, 0, none⟩ = some (.slice (some ⟨b, off, none⟩) D.length cap)) (h1 : w.cell? ⟨t, 1, none⟩ = some (.int .i64 p)) (hf : w.frozen? ⟨t, 1, none⟩ = false) (ht : t < w.heap.size)
    (he : firstAt D p = i) (hi : i < D.length) (hc : D.getD i 0 = 123) :
    Calls Tryf.prog 37 #[.pointer (some ⟨t, 0, none⟩)] w fun e w' => e = .returned (.agg #[.int .u8 123, .slice (some ⟨b, off + i, none⟩) ((i + 1) - i) (cap - i)]) ∧ Upd t ((i + 1) : Nat) w w' := by
  have hDi : w.cell? ⟨b, off + i, none⟩ = some (.int .u8 (D.getD i 0)) ∧ b < w.heap.size := by
    rcases hD with hD | ⟨b', off', hao, hb, hc⟩
    · rw [hD] at hi; simp at hi
    · simp only [Option.some.injEq, Addr.mk.injEq, and_true] at hao
      obtain ⟨rfl, rfl⟩ := hao
      exact ⟨hc i hi, hb⟩
  obtain ⟨hci, hbl⟩ := hDi
  rw [hc] at hci
  go_enter Tryf.func37, Tryf.ntmps37
  go_wp2_with fail
  refine (skip_any t (some ⟨b, off, none⟩) cap D p _ (hD.below ((Below.refl _ _).alloc (Nat.le_refl _) _)) (fun b' off' h => by simp at h; omega) hlen hp (by go_simp) (by go_simp) (by go_simp) (by simp; omega)).mono ?_
  rintro e w1 ⟨rfl, hu⟩
  rw [he] at hu
  have g0 : w1.cell? ⟨t, 0, none⟩ = some (.slice (some ⟨b, off, none⟩) D.length cap) := hu.data.trans (by go_simp)
  have g1 := hu.pos
  have gf := hu.free
  have gi := (hu.cell (o := off + i) (b := b) (by simp; omega) hne).trans ((World.cell?_alloc_lt w _ _ hbl).trans hci)
  have r0 : w1.cell? ⟨w.heap.size, 0, none⟩ = some (.int .u8 0) := (hu.cell (by simp) (by omega)).trans (by simp)
  have r1 : w1.cell? ⟨w.heap.size, 1, none⟩ = some (.slice none 0 0) := (hu.cell (by simp) (by omega)).trans (by simp)
  have rf0 : w1.frozen? ⟨w.heap.size, 0, none⟩ = false := (World.frozen?_of_block (w := _) (hu.block w.heap.size (by simp) (by omega))).trans (by simp)
  have rf1 : w1.frozen? ⟨w.heap.size, 1, none⟩ = false := (World.frozen?_of_block (w := _) (hu.block w.heap.size (by simp) (by omega))).trans (by simp)
  have hne2 : ¬ t = w.heap.size := by omega
  clear he h0 h1 hf hci hc
  go_wp2
  go_quiet (fail)
  go_wp2
  go_region
  all_goals try go_wp2
  all_goals
    refine bodyPost_ret (res37 _ _ w.heap.size (.int .u8 123) (.slice (some ⟨b, off + i, none⟩) ((i + 1) - i) (cap - i)) rfl ?hx ?hy) rfl ⟨rfl, ?hu⟩
  case hx => exact (two_cells _ _ _ _ (by go_simp) (by go_simp)).1
  case hy => rw [show (i + 1) - i = 1 from by omega]; exact (two_cells _ _ _ _ (by go_simp) (by go_simp)).2
  case hu =>
    refine Upd.drew (Upd.setNew (Upd.setNew ?_ (Nat.le_refl _) hne2 _) (Nat.le_refl _) hne2 _)
    exact ((hu.ofAlloc ht).drewN nq).set _
set_option maxHeartbeats 400000 in
theorem next_close (t b off cap : Nat) (D : List Int) (p i : Nat) (w : World) (hD : Dat w (some ⟨b, off, none⟩) D) (hne : b ≠ t)
    (hlen : D.length ≤ 2097152) (hcap : D.length ≤ cap) (hp : p ≤ D.length) (h0 : w.cell? ⟨t, 0, none⟩ = some (.slice (some ⟨b, off, none⟩) D.length cap)) (h1 : w.cell? ⟨t, 1, none⟩ = some (.int .i64 p)) (hf : w.frozen? ⟨t, 1, none⟩ = false) (ht : t < w.heap.size)
    (he : firstAt D p = i) (hi : i < D.length) (hc : D.getD i 0 = 125) :
    Calls Tryf.prog 37 #[.pointer (some ⟨t, 0, none⟩)] w fun e w' => e = .returned (.agg #[.int .u8 125, .slice (some ⟨b, off + i, none⟩) ((i + 1) - i) (cap - i)]) ∧ Upd t ((i + 1) : Nat) w w' := by
  have hDi : w.cell? ⟨b, off + i, none⟩ = some (.int .u8 (D.getD i 0)) ∧ b < w.heap.size := by
    rcases hD with hD | ⟨b', off', hao, hb, hc⟩
    · rw [hD] at hi; simp at hi
    · simp only [Option.some.injEq, Addr.mk.injEq, and_true] at hao
      obtain ⟨rfl, rfl⟩ := hao
      exact ⟨hc i hi, hb⟩
  obtain ⟨hci, hbl⟩ := hDi
  rw [hc] at hci
  go_enter Tryf.func37, Tryf.ntmps37
  go_wp2_with fail
  refine (skip_any t (some ⟨b, off, none⟩) cap D p _ (hD.below ((Below.refl _ _).alloc (Nat.le_refl _) _)) (fun b' off' h => by simp at h; omega) hlen hp (by go_simp) (by go_simp) (by go_simp) (by simp; omega)).mono ?_
  rintro e w1 ⟨rfl, hu⟩
  rw [he] at hu
  have g0 : w1.cell? ⟨t, 0, none⟩ = some (.slice (some ⟨b, off, none⟩) D.length cap) := hu.data.trans (by go_simp)
  have g1 := hu.pos
  have gf := hu.free
  have gi := (hu.cell (o := off + i) (b := b) (by simp; omega) hne).trans ((World.cell?_alloc_lt w _ _ hbl).trans hci)
  have r0 : w1.cell? ⟨w.heap.size, 0, none⟩ = some (.int .u8 0) := (hu.cell (by simp) (by omega)).trans (by simp)
  have r1 : w1.cell? ⟨w.heap.size, 1, none⟩ = some (.slice none 0 0) := (hu.cell (by simp) (by omega)).trans (by simp)
  have rf0 : w1.frozen? ⟨w.heap.size, 0, none⟩ = false := (World.frozen?_of_block (w := _) (hu.block w.heap.size (by simp) (by omega))).trans (by simp)
  have rf1 : w1.frozen? ⟨w.heap.size, 1, none⟩ = false := (World.frozen?_of_block (w := _) (hu.block w.heap.size (by simp) (by omega))).trans (by simp)
  have hne2 : ¬ t = w.heap.size := by omega
  clear he h0 h1 hf hci hc
  go_wp2
  go_quiet (fail)
  go_wp2
  go_region
  all_goals try go_wp2
  all_goals
    refine bodyPost_ret (res37 _ _ w.heap.size (.int .u8 125) (.slice (some ⟨b, off + i, none⟩) ((i + 1) - i) (cap - i)) rfl ?hx ?hy) rfl ⟨rfl, ?hu⟩
  case hx => exact (two_cells _ _ _ _ (by go_simp) (by go_simp)).1
  case hy => rw [show (i + 1) - i = 1 from by omega]; exact (two_cells _ _ _ _ (by go_simp) (by go_simp)).2
  case hu =>
    refine Upd.drew (Upd.setNew (Upd.setNew ?_ (Nat.le_refl _) hne2 _) (Nat.le_refl _) hne2 _)
    exact ((hu.ofAlloc ht).drewN nq).set _
set_option maxHeartbeats 400000 in
theorem next_arr (t b off cap : Nat) (D : List Int) (p i : Nat) (w : World) (hD : Dat w (some ⟨b, off, none⟩) D) (hne : b ≠ t)
    (hlen : D.length ≤ 2097152) (hcap : D.length ≤ cap) (hp : p ≤ D.length) (h0 : w.cell? ⟨t, 0, none⟩ = some (.slice (some ⟨b, off, none⟩) D.length cap)) (h1 : w.cell? ⟨t, 1, none⟩ = some (.int .i64 p)) (hf : w.frozen? ⟨t, 1, none⟩ = false) (ht : t < w.heap.size)
    (he : firstAt D p = i) (hi : i < D.length) (hc : D.getD i 0 = 91) :
    Calls Tryf.prog 37 #[.pointer (some ⟨t, 0, none⟩)] w fun e w' => e = .returned (.agg #[.int .u8 91, .slice (some ⟨b, off + i, none⟩) ((i + 1) - i) (cap - i)]) ∧ Upd t ((i + 1) : Nat) w w' := by
  have hDi : w.cell? ⟨b, off + i, none⟩ = some (.int .u8 (D.getD i 0)) ∧ b < w.heap.size := by
    rcases hD with hD | ⟨b', off', hao, hb, hc⟩
    · rw [hD] at hi; simp at hi
    · simp only [Option.some.injEq, Addr.mk.injEq, and_true] at hao
      obtain ⟨rfl, rfl⟩ := hao
      exact ⟨hc i hi, hb⟩
  obtain ⟨hci, hbl⟩ := hDi
  rw [hc] at hci
  go_enter Tryf.func37, Tryf.ntmps37
  go_wp2_with fail
  refine (skip_any t (some ⟨b, off, none⟩) cap D p _ (hD.below ((Below.refl _ _).alloc (Nat.le_refl _) _)) (fun b' off' h => by simp at h; omega) hlen hp (by go_simp) (by go_simp) (by go_simp) (by simp; omega)).mono ?_
  rintro e w1 ⟨rfl, hu⟩
  rw [he] at hu
  have g0 : w1.cell? ⟨t, 0, none⟩ = some (.slice (some ⟨b, off, none⟩) D.length cap) := hu.data.trans (by go_simp)
  have g1 := hu.pos
  have gf := hu.free
  have gi := (hu.cell (o := off + i) (b := b) (by simp; omega) hne).trans ((World.cell?_alloc_lt w _ _ hbl).trans hci)
  have r0 : w1.cell? ⟨w.heap.size, 0, none⟩ = some (.int .u8 0) := (hu.cell (by simp) (by omega)).trans (by simp)
  have r1 : w1.cell? ⟨w.heap.size, 1, none⟩ = some (.slice none 0 0) := (hu.cell (by simp) (by omega)).trans (by simp)
  have rf0 : w1.frozen? ⟨w.heap.size, 0, none⟩ = false := (World.frozen?_of_block (w := _) (hu.block w.heap.size (by simp) (by omega))).trans (by simp)
  have rf1 : w1.frozen? ⟨w.heap.size, 1, none⟩ = false := (World.frozen?_of_block (w := _) (hu.block w.heap.size (by simp) (by omega))).trans (by simp)
  have hne2 : ¬ t = w.heap.size := by omega
  clear he h0 h1 hf hci hc
  go_wp2
  go_quiet (fail)
  go_wp2
  go_region
  all_goals try go_wp2
  all_goals
    refine bodyPost_ret (res37 _ _ w.heap.size (.int .u8 91) (.slice (some ⟨b, off + i, none⟩) ((i + 1) - i) (cap - i)) rfl ?hx ?hy) rfl ⟨rfl, ?hu⟩
  case hx => exact (two_cells _ _ _ _ (by go_simp) (by go_simp)).1
  case hy => rw [show (i + 1) - i = 1 from by omega]; exact (two_cells _ _ _ _ (by go_simp) (by go_simp)).2
  case hu =>
    refine Upd.drew (Upd.setNew (Upd.setNew ?_ (Nat.le_refl _) hne2 _) (Nat.le_refl _) hne2 _)
    exact ((hu.ofAlloc ht).drewN nq).set _
set_option maxHeartbeats 400000 in
theorem next_rra (t b off cap : Nat) (D : List Int) (p i : Nat) (w : World) (hD : Dat w (some ⟨b, off, none⟩) D) (hne : b ≠ t)
    (hlen : D.length ≤ 2097152) (hcap : D.length ≤ cap) (hp : p ≤ D.length) (h0 : w.cell? ⟨t, 0, none⟩ = some (.slice (some ⟨b, off, none⟩) D.length cap)) (h1 : w.cell? ⟨t, 1, none⟩ = some (.int .i64 p)) (hf : w.frozen? ⟨t, 1, none⟩ = false) (ht : t < w.heap.size)
    (he : firstAt D p = i) (hi : i < D.length) (hc : D.getD i 0 = 93) :
    Calls Tryf.prog 37 #[.pointer (some ⟨t, 0, none⟩)] w fun e w' => e = .returned (.agg #[.int .u8 93, .slice (some ⟨b, off + i, none⟩) ((i + 1) - i) (cap - i)]) ∧ Upd t ((i + 1) : Nat) w w' := by
  have hDi : w.cell? ⟨b, off + i, none⟩ = some (.int .u8 (D.getD i 0)) ∧ b < w.heap.size := by
    rcases hD with hD | ⟨b', off', hao, hb, hc⟩
    · rw [hD] at hi; simp at hi
    · simp only [Option.some.injEq, Addr.mk.injEq, and_true] at hao
      obtain ⟨rfl, rfl⟩ := hao
      exact ⟨hc i hi, hb⟩
  obtain ⟨hci, hbl⟩ := hDi
  rw [hc] at hci
  go_enter Tryf.func37, Tryf.ntmps37
  go_wp2_with fail
  refine (skip_any t (some ⟨b, off, none⟩) cap D p _ (hD.below ((Below.refl _ _).alloc (Nat.le_refl _) _)) (fun b' off' h => by simp at h; omega) hlen hp (by go_simp) (by go_simp) (by go_simp) (by simp; omega)).mono ?_
  rintro e w1 ⟨rfl, hu⟩
  rw [he] at hu
  have g0 : w1.cell? ⟨t, 0, none⟩ = some (.slice (some ⟨b, off, none⟩) D.length cap) := hu.data.trans (by go_simp)
  have g1 := hu.pos
  have gf := hu.free
  have gi := (hu.cell (o := off + i) (b := b) (by simp; omega) hne).trans ((World.cell?_alloc_lt w _ _ hbl).trans hci)
  have r0 : w1.cell? ⟨w.heap.size, 0, none⟩ = some (.int .u8 0) := (hu.cell (by simp) (by omega)).trans (by simp)
  have r1 : w1.cell? ⟨w.heap.size, 1, none⟩ = some (.slice none 0 0) := (hu.cell (by simp) (by omega)).trans (by simp)
  have rf0 : w1.frozen? ⟨w.heap.size, 0, none⟩ = false := (World.frozen?_of_block (w := _) (hu.block w.heap.size (by simp) (by omega))).trans (by simp)
  have rf1 : w1.frozen? ⟨w.heap.size, 1, none⟩ = false := (World.frozen?_of_block (w := _) (hu.block w.heap.size (by simp) (by omega))).trans (by simp)
  have hne2 : ¬ t = w.heap.size := by omega
  clear he h0 h1 hf hci hc
  go_wp2
  go_quiet (fail)
  go_wp2
  go_region
  all_goals try go_wp2
  all_goals
    refine bodyPost_ret (res37 _ _ w.heap.size (.int .u8 93) (.slice (some ⟨b, off + i, none⟩) ((i + 1) - i) (cap - i)) rfl ?hx ?hy) rfl ⟨rfl, ?hu⟩
  case hx => exact (two_cells _ _ _ _ (by go_simp) (by go_simp)).1
  case hy => rw [show (i + 1) - i = 1 from by omega]; exact (two_cells _ _ _ _ (by go_simp) (by go_simp)).2
  case hu =>
    refine Upd.drew (Upd.setNew (Upd.setNew ?_ (Nat.le_refl _) hne2 _) (Nat.le_refl _) hne2 _)
    exact ((hu.ofAlloc ht).drewN nq).set _
set_option maxHeartbeats 400000 in
theorem next_true (t b off cap : Nat) (D : List Int) (p i : Nat) (w : World) (hD : Dat w (some ⟨b, off, none⟩) D) (hne : b ≠ t)
    (hlen : D.length ≤ 2097152) (hcap : D.length ≤ cap) (hp : p ≤ D.length) (h0 : w.cell? ⟨t, 0, none⟩ = some (.slice (some ⟨b, off, none⟩) D.length cap)) (h1 : w.cell? ⟨t, 1, none⟩ = some (.int .i64 p)) (hf : w.frozen? ⟨t, 1, none⟩ = false) (ht : t < w.heap.size)
    (he : firstAt D p = i) (hi : i < D.length) (hc : D.getD i 0 = 116) (hw : i + 4 ≤ D.length) :
    Calls Tryf.prog 37 #[.pointer (some ⟨t, 0, none⟩)] w fun e w' => e = .returned (.agg #[.int .u8 116, .slice (some ⟨b, off + i, none⟩) ((i + 4) - i) (cap - i)]) ∧ Upd t ((i + 4) : Nat) w w' := by
  have hDi : w.cell? ⟨b, off + i, none⟩ = some (.int .u8 (D.getD i 0)) ∧ b < w.heap.size := by
    rcases hD with hD | ⟨b', off', hao, hb, hc⟩
    · rw [hD] at hi; simp at hi
    · simp only [Option.some.injEq, Addr.mk.injEq, and_true] at hao
      obtain ⟨rfl, rfl⟩ := hao
      exact ⟨hc i hi, hb⟩
  obtain ⟨hci, hbl⟩ := hDi
  rw [hc] at hci
  go_enter Tryf.func37, Tryf.ntmps37
  go_wp2_with fail
  refine (skip_any t (some ⟨b, off, none⟩) cap D p _ (hD.below ((Below.refl _ _).alloc (Nat.le_refl _) _)) (fun b' off' h => by simp at h; omega) hlen hp (by go_simp) (by go_simp) (by go_simp) (by simp; omega)).mono ?_
  rintro e w1 ⟨rfl, hu⟩
  rw [he] at hu
  have g0 : w1.cell? ⟨t, 0, none⟩ = some (.slice (some ⟨b, off, none⟩) D.length cap) := hu.data.trans (by go_simp)
  have g1 := hu.pos
  have gf := hu.free
  have gi := (hu.cell (o := off + i) (b := b) (by simp; omega) hne).trans ((World.cell?_alloc_lt w _ _ hbl).trans hci)
  have r0 : w1.cell? ⟨w.heap.size, 0, none⟩ = some (.int .u8 0) := (hu.cell (by simp) (by omega)).trans (by simp)
  have r1 : w1.cell? ⟨w.heap.size, 1, none⟩ = some (.slice none 0 0) := (hu.cell (by simp) (by omega)).trans (by simp)
  have rf0 : w1.frozen? ⟨w.heap.size, 0, none⟩ = false := (World.frozen?_of_block (w := _) (hu.block w.heap.size (by simp) (by omega))).trans (by simp)
  have rf1 : w1.frozen? ⟨w.heap.size, 1, none⟩ = false := (World.frozen?_of_block (w := _) (hu.block w.heap.size (by simp) (by omega))).trans (by simp)
  have hne2 : ¬ t = w.heap.size := by omega
  clear he h0 h1 hf hci hc
  go_wp2
  go_quiet (fail)
  go_wp2
  go_region
  all_goals try go_wp2
  all_goals
    refine bodyPost_ret (res37 _ _ w.heap.size (.int .u8 116) (.slice (some ⟨b, off + i, none⟩) ((i + 4) - i) (cap - i)) rfl ?hx ?hy) rfl ⟨rfl, ?hu⟩
  case hx => exact (two_cells _ _ _ _ (by go_simp) (by go_simp)).1
  case hy => rw [show (i + 4) - i = 4 from by omega]; exact (two_cells _ _ _ _ (by go_simp) (by go_simp)).2
  case hu =>
    refine Upd.drew (Upd.setNew (Upd.setNew ?_ (Nat.le_refl _) hne2 _) (Nat.le_refl _) hne2 _)
    exact ((hu.ofAlloc ht).drewN nq).set _
set_option maxHeartbeats 400000 in
theorem next_null (t b off cap : Nat) (D : List Int) (p i : Nat) (w : World) (hD : Dat w (some ⟨b, off, none⟩) D) (hne : b ≠ t)
    (hlen : D.length ≤ 2097152) (hcap : D.length ≤ cap) (hp : p ≤ D.length) (h0 : w.cell? ⟨t, 0, none⟩ = some (.slice (some ⟨b, off, none⟩) D.length cap)) (h1 : w.cell? ⟨t, 1, none⟩ = some (.int .i64 p)) (hf : w.frozen? ⟨t, 1, none⟩ = false) (ht : t < w.heap.size)
    (he : firstAt D p = i) (hi : i < D.length) (hc : D.getD i 0 = 110) (hw : i + 4 ≤ D.length) :
    Calls Tryf.prog 37 #[.pointer (some ⟨t, 0, none⟩)] w fun e w' => e = .returned (.agg #[.int .u8 110, .slice (some ⟨b, off + i, none⟩) ((i + 4) - i) (cap - i)]) ∧ Upd t ((i + 4) : Nat) w w' := by
  have hDi : w.cell? ⟨b, off + i, none⟩ = some (.int .u8 (D.getD i 0)) ∧ b < w.heap.size := by
    rcases hD with hD | ⟨b', off', hao, hb, hc⟩
    · rw [hD] at hi; simp at hi
    · simp only [Option.some.injEq, Addr.mk.injEq, and_true] at hao
      obtain ⟨rfl, rfl⟩ := hao
      exact ⟨hc i hi, hb⟩
  obtain ⟨hci, hbl⟩ := hDi
  rw [hc] at hci
  go_enter Tryf.func37, Tryf.ntmps37
  go_wp2_with fail
  refine (skip_any t (some ⟨b, off, none⟩) cap D p _ (hD.below ((Below.refl _ _).alloc (Nat.le_refl _) _)) (fun b' off' h => by simp at h; omega) hlen hp (by go_simp) (by go_simp) (by go_simp) (by simp; omega)).mono ?_
  rintro e w1 ⟨rfl, hu⟩
  rw [he] at hu
  have g0 : w1.cell? ⟨t, 0, none⟩ = some (.slice (some ⟨b, off, none⟩) D.length cap) := hu.data.trans (by go_simp)
  have g1 := hu.pos
  have gf := hu.free
  have gi := (hu.cell (o := off + i) (b := b) (by simp; omega) hne).trans ((World.cell?_alloc_lt w _ _ hbl).trans hci)
  have r0 : w1.cell? ⟨w.heap.size, 0, none⟩ = some (.int .u8 0) := (hu.cell (by simp) (by omega)).trans (by simp)
  have r1 : w1.cell? ⟨w.heap.size, 1, none⟩ = some (.slice none 0 0) := (hu.cell (by simp) (by omega)).trans (by simp)
  have rf0 : w1.frozen? ⟨w.heap.size, 0, none⟩ = false := (World.frozen?_of_block (w := _) (hu.block w.heap.size (by simp) (by omega))).trans (by simp)
  have rf1 : w1.frozen? ⟨w.heap.size, 1, none⟩ = false := (World.frozen?_of_block (w := _) (hu.block w.heap.size (by simp) (by omega))).trans (by simp)
  have hne2 : ¬ t = w.heap.size := by omega
  clear he h0 h1 hf hci hc
  go_wp2
  go_quiet (fail)
  go_wp2
  go_region
  all_goals try go_wp2
  all_goals
    refine bodyPost_ret (res37 _ _ w.heap.size (.int .u8 110) (.slice (some ⟨b, off + i, none⟩) ((i + 4) - i) (cap - i)) rfl ?hx ?hy) rfl ⟨rfl, ?hu⟩
  case hx => exact (two_cells _ _ _ _ (by go_simp) (by go_simp)).1
  case hy => rw [show (i + 4) - i = 4 from by omega]; exact (two_cells _ _ _ _ (by go_simp) (by go_simp)).2
  case hu =>
    refine Upd.drew (Upd.setNew (Upd.setNew ?_ (Nat.le_refl _) hne2 _) (Nat.le_refl _) hne2 _)
    exact ((hu.ofAlloc ht).drewN nq).set _
set_option maxHeartbeats 400000 in
theorem next_false (t b off cap : Nat) (D : List Int) (p i : Nat) (w : World) (hD : Dat w (some ⟨b, off, none⟩) D) (hne : b ≠ t)
    (hlen : D.length ≤ 2097152) (hcap : D.length ≤ cap) (hp : p ≤ D.length) (h0 : w.cell? ⟨t, 0, none⟩ = some (.slice (some ⟨b, off, none⟩) D.length cap)) (h1 : w.cell? ⟨t, 1, none⟩ = some (.int .i64 p)) (hf : w.frozen? ⟨t, 1, none⟩ = false) (ht : t < w.heap.size)
    (he : firstAt D p = i) (hi : i < D.length) (hc : D.getD i 0 = 102) (hw : i + 5 ≤ D.length) :
    Calls Tryf.prog 37 #[.pointer (some ⟨t, 0, none⟩)] w fun e w' => e = .returned (.agg #[.int .u8 102, .slice (some ⟨b, off + i, none⟩) ((i + 5) - i) (cap - i)]) ∧ Upd t ((i + 5) : Nat) w w' := by
  have hDi : w.cell? ⟨b, off + i, none⟩ = some (.int .u8 (D.getD i 0)) ∧ b < w.heap.size := by
    rcases hD with hD | ⟨b', off', hao, hb, hc⟩
    · rw [hD] at hi; simp at hi
    · simp only [Option.some.injEq, Addr.mk.injEq, and_true] at hao
      obtain ⟨rfl, rfl⟩ := hao
      exact ⟨hc i hi, hb⟩
  obtain ⟨hci, hbl⟩ := hDi
  rw [hc] at hci
  go_enter Tryf.func37, Tryf.ntmps37
  go_wp2_with fail
  refine (skip_any t (some ⟨b, off, none⟩) cap D p _ (hD.below ((Below.refl _ _).alloc (Nat.le_refl _) _)) (fun b' off' h => by simp at h; omega) hlen hp (by go_simp) (by go_simp) (by go_simp) (by simp; omega)).mono ?_
  rintro e w1 ⟨rfl, hu⟩
  rw [he] at hu
  have g0 : w1.cell? ⟨t, 0, none⟩ = some (.slice (some ⟨b, off, none⟩) D.length cap) := hu.data.trans (by go_simp)
  have g1 := hu.pos
  have gf := hu.free
  have gi := (hu.cell (o := off + i) (b := b) (by simp; omega) hne).trans ((World.cell?_alloc_lt w _ _ hbl).trans hci)
  have r0 : w1.cell? ⟨w.heap.size, 0, none⟩ = some (.int .u8 0) := (hu.cell (by simp) (by omega)).trans (by simp)
  have r1 : w1.cell? ⟨w.heap.size, 1, none⟩ = some (.slice none 0 0) := (hu.cell (by simp) (by omega)).trans (by simp)
  have rf0 : w1.frozen? ⟨w.heap.size, 0, none⟩ = false := (World.frozen?_of_block (w := _) (hu.block w.heap.size (by simp) (by omega))).trans (by simp)
  have rf1 : w1.frozen? ⟨w.heap.size, 1, none⟩ = false := (World.frozen?_of_block (w := _) (hu.block w.heap.size (by simp) (by omega))).trans (by simp)
  have hne2 : ¬ t = w.heap.size := by omega
  clear he h0 h1 hf hci hc
  go_wp2
  go_quiet (fail)
  go_wp2
  go_region
  all_goals try go_wp2
  all_goals
    refine bodyPost_ret (res37 _ _ w.heap.size (.int .u8 102) (.slice (some ⟨b, off + i, none⟩) ((i + 5) - i) (cap - i)) rfl ?hx ?hy) rfl ⟨rfl, ?hu⟩
  case hx => exact (two_cells _ _ _ _ (by go_simp) (by go_simp)).1
  case hy => rw [show (i + 5) - i = 5 from by omega]; exact (two_cells _ _ _ _ (by go_simp) (by go_simp)).2
  case hu =>
    refine Upd.drew (Upd.setNew (Upd.setNew ?_ (Nat.le_refl _) hne2 _) (Nat.le_refl _) hne2 _)
    exact ((hu.ofAlloc ht).drewN nq).set _
end Go.Proofs.Qxb6001751aFmt
