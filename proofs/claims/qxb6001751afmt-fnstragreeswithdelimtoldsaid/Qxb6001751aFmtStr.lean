import Derived.Test.Qxb6001751aFmtDelim
import Derived.Test.Qxb6001751aFmtZZdelim
import Derived.Laws.ResultCell
namespace Go.Proofs.Qxb6001751aFmt
open Go.RowKit Tk Go.Extern.Stop Go.Stop Go.Extern

theorem res35 (tmps : Array Value) (W : World) (sz : Nat) (x y u : Value) (h4 : tmps.getD 4 undef = .pointer (some ⟨sz, 0, none⟩)) (h5 : tmps.getD 5 undef = u) (hx : W.cell? ⟨sz, 0, none⟩ = some x) (hy : W.cell? ⟨sz, 1, none⟩ = some y) :
    (results Tryf.f35 tmps).run Tryf.prog W = .ok (.tuple #[.agg #[x, y], u]) W := by
  have h4' : tmps[4]?.getD undef = .pointer (some ⟨sz, 0, none⟩) := by simpa using h4
  have h5' : tmps[5]?.getD undef = u := by simpa using h5
  simp [results, Tryf.results35, h4', h5', go_sem, hx, hy]

theorem set_two' (W : World) (sz : Nat) (x y : Value) (h0 : (W.cell? ⟨sz, 0, none⟩).isSome = true) (h1 : (W.cell? ⟨sz, 1, none⟩).isSome = true) :
    ((W.setCell ⟨sz, 0, none⟩ x).setCell ⟨sz, 1, none⟩ y).cell? ⟨sz, 0, none⟩ = some x ∧ ((W.setCell ⟨sz, 0, none⟩ x).setCell ⟨sz, 1, none⟩ y).cell? ⟨sz, 1, none⟩ = some y :=
  two_cells W sz x y h0 h1

theorem set_two (W : World) (sz : Nat) (x y : Value) (o : Obj) (h0 : (W.cell? ⟨sz, 0, none⟩).isSome = true) (h1 : (W.cell? ⟨sz, 1, none⟩).isSome = true) (hs : sz < W.heap.size) :
    (((W.setCell ⟨sz, 0, none⟩ x).setCell ⟨sz, 1, none⟩ y).alloc o).cell? ⟨sz, 0, none⟩ = some x ∧ (((W.setCell ⟨sz, 0, none⟩ x).setCell ⟨sz, 1, none⟩ y).alloc o).cell? ⟨sz, 1, none⟩ = some y := by
  have h := set_two' W sz x y h0 h1
  rw [World.cell?_alloc_lt _ _ _ (by simpa using hs), World.cell?_alloc_lt _ _ _ (by simpa using hs)]
  exact h

set_option maxRecDepth 100000 in
set_option maxHeartbeats 400000 in
theorem str_yes (t : Nat) (ao : Option Addr) (cap : Nat) (D : List Int) (p : Nat) (at' : ByteArray) (w : World) (hD : Dat w ao D) (hne : ∀ b off, ao = some ⟨b, off, none⟩ → b ≠ t) (hby : Bytes D)
    (hlen : D.length ≤ 2097152) (hcap : D.length ≤ cap) (hp : p ≤ D.length) (h0 : w.cell? ⟨t, 0, none⟩ = some (.slice ao D.length cap)) (h1 : w.cell? ⟨t, 1, none⟩ = some (.int .i64 p)) (hf : w.frozen? ⟨t, 1, none⟩ = false) (ht : t < w.heap.size)
    (hr : readB D p = true) (hk : nextKind D p = 34) :
    Calls Tryf.prog 35 #[.agg #[.pointer (some ⟨t, 0, none⟩)], .string at'] w fun e w' => e = .returned (.tuple #[.agg #[.int .u8 34, nextText ao cap D p], .nilIface]) ∧ Upd t (nextPos D p) w w' := by
  go_enter Tryf.func35, Tryf.ntmps35
  go_wp2_with fail
  have hbl : Below w.heap.size w ((w.alloc (.cells #[.pointer (some ⟨t, 0, none⟩)] 63)).alloc (.cells #[.int .u8 0, .slice none 0 0] 67)) := ((Below.refl _ _).alloc (Nat.le_refl _) _).alloc (by simp) _
  refine (next_any t ao cap D p _ (hD.below hbl) hne hby hlen hcap hp ((hbl.cell (p := ⟨t, 0, none⟩) ht).trans h0) ((hbl.cell (p := ⟨t, 1, none⟩) ht).trans h1) ((hbl.frozen (p := ⟨t, 1, none⟩) ht).trans hf) (by simp; omega) hr).mono ?_
  rintro e w1 ⟨rfl, hu⟩
  rw [hk]
  obtain ⟨tx, tn, tc, htx⟩ := nextText_slice ao cap D p
  rw [htx]
  have HU : Hid (Upd t (nextPos D p) w w1) := (hu.ofAlloc (by simp; omega)).ofAlloc ht
  have r0 : w1.cell? ⟨w.heap.size + 1, 0, none⟩ = some (.int .u8 0) := (hu.cell (by simp) (by omega)).trans (by simp)
  have r1 : w1.cell? ⟨w.heap.size + 1, 1, none⟩ = some (.slice none 0 0) := (hu.cell (by simp) (by omega)).trans (by simp)
  have rf0 : w1.frozen? ⟨w.heap.size + 1, 0, none⟩ = false := (World.frozen?_of_block (w := _) (hu.block (w.heap.size + 1) (by simp) (by omega))).trans (by simp)
  have rf1 : w1.frozen? ⟨w.heap.size + 1, 1, none⟩ = false := (World.frozen?_of_block (w := _) (hu.block (w.heap.size + 1) (by simp) (by omega))).trans (by simp)
  have hsz : w.heap.size + 1 < w1.heap.size := by have := hu.size; simp at this; omega
  have HT : Hid (nextText ao cap D p = .slice tx tn tc) := htx
  clear hu hbl h0 h1 hf hD hne hk htx
  go_wp2
  have hc := set_two w1 (w.heap.size + 1) (.int .u8 34) (.slice tx tn tc) (.cells #[.int .u8 34, .slice tx tn tc] 67) (by rw [r0]; rfl) (by rw [r1]; rfl) hsz
  refine bodyPost_ret (res35 _ _ (w.heap.size + 1) (.int .u8 34) (.slice tx tn tc) .nilIface rfl rfl hc.1 hc.2) rfl ⟨by rw [HT.out], ?_⟩
  refine Upd.below (Upd.setNew (Upd.setNew HU.out (by simp) (by simp; omega) _) (by simp) (by simp; omega) _) ((Below.refl _ _).alloc (Nat.le_refl _) _)

set_option maxRecDepth 100000 in
set_option maxHeartbeats 400000 in
theorem str_no (F : Interp) (t : Nat) (ao : Option Addr) (cap : Nat) (D : List Int) (p : Nat) (at' : ByteArray) (w : World) (hF : F.answers w.tape) (hD : Dat w ao D) (hne : ∀ b off, ao = some ⟨b, off, none⟩ → b ≠ t) (hby : Bytes D)
    (hlen : D.length ≤ 2097152) (hcap : D.length ≤ cap) (hp : p ≤ D.length) (h0 : w.cell? ⟨t, 0, none⟩ = some (.slice ao D.length cap)) (h1 : w.cell? ⟨t, 1, none⟩ = some (.int .i64 p)) (hf : w.frozen? ⟨t, 1, none⟩ = false) (ht : t < w.heap.size)
    (hr : readB D p = true) (hk : (nextKind D p != 34) = true) :
    Calls Tryf.prog 35 #[.agg #[.pointer (some ⟨t, 0, none⟩)], .string at'] w fun e w' => (∃ a, e = .returned (.tuple #[.agg #[.int .u8 0, .slice none 0 0], .iface 79 (.pointer (some a))])) ∧ Upd t (nextPos D p) w w' := by
  go_enter Tryf.func35, Tryf.ntmps35
  go_wp2_with fail
  have hbl : Below w.heap.size w ((w.alloc (.cells #[.pointer (some ⟨t, 0, none⟩)] 63)).alloc (.cells #[.int .u8 0, .slice none 0 0] 67)) := ((Below.refl _ _).alloc (Nat.le_refl _) _).alloc (by simp) _
  refine (next_any t ao cap D p _ (hD.below hbl) hne hby hlen hcap hp ((hbl.cell (p := ⟨t, 0, none⟩) ht).trans h0) ((hbl.cell (p := ⟨t, 1, none⟩) ht).trans h1) ((hbl.frozen (p := ⟨t, 1, none⟩) ht).trans hf) (by simp; omega) hr).mono ?_
  rintro e w1 ⟨rfl, hu⟩
  obtain ⟨tx, tn, tc, htx⟩ := nextText_slice ao cap D p
  rw [htx]
  have HU : Hid (Upd t (nextPos D p) w w1) := (hu.ofAlloc (by simp; omega)).ofAlloc ht
  have r0 : w1.cell? ⟨w.heap.size + 1, 0, none⟩ = some (.int .u8 0) := (hu.cell (by simp) (by omega)).trans (by simp)
  have r1 : w1.cell? ⟨w.heap.size + 1, 1, none⟩ = some (.slice none 0 0) := (hu.cell (by simp) (by omega)).trans (by simp)
  have rf0 : w1.frozen? ⟨w.heap.size + 1, 0, none⟩ = false := (World.frozen?_of_block (w := _) (hu.block (w.heap.size + 1) (by simp) (by omega))).trans (by simp)
  have rf1 : w1.frozen? ⟨w.heap.size + 1, 1, none⟩ = false := (World.frozen?_of_block (w := _) (hu.block (w.heap.size + 1) (by simp) (by omega))).trans (by simp)
  have hF1 : F.answers w1.tape := by rw [hu.tape]; exact hF
  have hsz : w.heap.size + 1 < w1.heap.size := by have := hu.size; simp at this; omega
  clear hu hbl h0 h1 hf hD hne htx
  generalize nextKind D p = kd at *
  go_wp2_with fail
  refine (errorf_str F at' (w1.heap.size + 1) _ (by exact hF1) (by go_simp)).mono ?_
  rintro e w2 ⟨⟨a, rfl⟩, hb⟩
  have hb2 := (((Below.refl w1.heap.size w1).alloc (Nat.le_refl _) _).alloc (by simp) _).trans (hb.mono (by simp; omega))
  have q0 := (hb2.cell (p := ⟨w.heap.size + 1, 0, none⟩) hsz).trans r0
  have q1 := (hb2.cell (p := ⟨w.heap.size + 1, 1, none⟩) hsz).trans r1
  have qf0 := (hb2.frozen (p := ⟨w.heap.size + 1, 0, none⟩) hsz).trans rf0
  have qf1 := (hb2.frozen (p := ⟨w.heap.size + 1, 1, none⟩) hsz).trans rf1
  have hsz2 : w.heap.size + 1 < w2.heap.size := by have := hb2.size; omega
  have HV : Hid (Upd t (nextPos D p) w w2) := HU.out.below hb2
  clear HU hb hb2 r0 r1 rf0 rf1
  go_wp2
  have hc := set_two' w2 (w.heap.size + 1) (.int .u8 0) (.slice none 0 0) (by rw [q0]; rfl) (by rw [q1]; rfl)
  refine bodyPost_ret (res35 _ _ (w.heap.size + 1) (.int .u8 0) (.slice none 0 0) (.iface 79 (.pointer (some a))) rfl rfl hc.1 hc.2) rfl ⟨⟨a, rfl⟩, ?_⟩
  exact Upd.setNew (Upd.setNew HV.out (by simp) (by simp; omega) _) (by simp) (by simp; omega) _

end Go.Proofs.Qxb6001751aFmt
