import Derived.Test.Qxb6001751aFmtDelim
import Derived.Test.Qxb6001751aFmtZZdelim
namespace Go.Proofs.Qxb6001751aFmt
open Go.RowKit Tk Go.Extern.Stop Go.Stop Go.Extern

/-- A variable of another block is as it was: for a bool that is set beside the reader. -/
theorem Upd.setOther {t : Nat} {p : Int} {w w' : World} (h : Upd t p w w') (a : Addr) (ha : t ≠ a.block) (v : Value) : Upd t p (w.setCell a v) (w'.setCell a v) where
  os := h.os
  tape := h.tape
  output := h.output
  size := by simpa [World.setCell] using h.size
  block := fun k hk hkt => by
    simp only [World.setCell, Array.size_modify] at hk
    simp only [World.setCell, Array.getElem?_modify]
    rw [h.block k hk hkt]
  data := by
    rw [World.cell?_setCell_other _ _ _ _ (by intro e; exact ha (by rw [e])), World.cell?_setCell_other _ _ _ _ (by intro e; exact ha (by rw [e]))]
    exact h.data
  pos := (World.cell?_setCell_other w' _ _ _ (by intro e; exact ha (by rw [e]))).trans h.pos
  free := by rw [World.frozen?_setCell]; exact h.free
  old := by simpa [World.setCell] using h.old

set_option maxRecDepth 100000 in
set_option maxHeartbeats 400000 in
theorem boolean_yes (t q : Nat) (ao : Option Addr) (cap : Nat) (D : List Int) (p : Nat) (at' : ByteArray) (w : World) (hD : Dat w ao D) (hne : ∀ b off, ao = some ⟨b, off, none⟩ → b ≠ t) (hby : Bytes D)
    (hlen : D.length ≤ 2097152) (hcap : D.length ≤ cap) (hp : p ≤ D.length) (h0 : w.cell? ⟨t, 0, none⟩ = some (.slice ao D.length cap)) (h1 : w.cell? ⟨t, 1, none⟩ = some (.int .i64 p)) (hf : w.frozen? ⟨t, 1, none⟩ = false) (ht : t < w.heap.size)
    (hr : readB D p = true) (v0 : Bool) (hq : q < t) (hc : w.cell? ⟨q, 0, none⟩ = some (.bool v0)) (hqf : w.frozen? ⟨q, 0, none⟩ = false) (hk : nextKind D p = 116 ∨ nextKind D p = 102) :
    Calls Tryf.prog 33 #[.agg #[.pointer (some ⟨t, 0, none⟩)], .string at', .pointer (some ⟨q, 0, none⟩)] w fun e w' => e = .returned .nilIface ∧ Upd t (nextPos D p) (w.setCell ⟨q, 0, none⟩ (.bool (nextKind D p == 116))) w' := by
  have hfd := field67_0
  go_enter Tryf.func33, Tryf.ntmps33
  go_wp2_with fail
  refine (next_any t ao cap D p _ (hD.below ((Below.refl _ _).alloc (Nat.le_refl _) _)) hne hby hlen hcap hp (by go_simp) (by go_simp) (by go_simp) (by simp; omega) hr).mono ?_
  rintro e w1 ⟨rfl, hu⟩
  obtain ⟨tx, tn, tc, htx⟩ := nextText_slice ao cap D p
  rw [htx]
  clear htx
  have hu1 := hu.ofAlloc ht
  have hcq : w1.cell? ⟨q, 0, none⟩ = some (.bool v0) := (hu1.cell (by omega) (by omega)).trans hc
  have hfq : w1.frozen? ⟨q, 0, none⟩ = false := (World.frozen?_of_block (w := w) (a := ⟨q, 0, none⟩) (hu1.block q (by omega) (by omega))).trans hqf
  have HU : Hid (Upd t (nextPos D p) w w1) := hu1
  clear hu hu1 hc hqf h0 h1 hf hD hne
  rcases hk with hk | hk
  · rw [hk]
    go_wp2
    go_ret
    exact ⟨rfl, by rw [show (nextKind D p == 116) = true from by rw [hk]; rfl]; exact HU.out.setOther ⟨q, 0, none⟩ (by simp; omega) _⟩
  · rw [hk]
    go_wp2
    go_ret
    exact ⟨rfl, by rw [show (nextKind D p == 116) = false from by rw [hk]; rfl]; exact HU.out.setOther ⟨q, 0, none⟩ (by simp; omega) _⟩

set_option maxRecDepth 100000 in
set_option maxHeartbeats 400000 in
theorem boolean_no (F : Interp) (t : Nat) (dst : Option Addr) (ao : Option Addr) (cap : Nat) (D : List Int) (p : Nat) (at' : ByteArray) (w : World) (hF : F.answers w.tape) (hD : Dat w ao D) (hne : ∀ b off, ao = some ⟨b, off, none⟩ → b ≠ t) (hby : Bytes D)
    (hlen : D.length ≤ 2097152) (hcap : D.length ≤ cap) (hp : p ≤ D.length) (h0 : w.cell? ⟨t, 0, none⟩ = some (.slice ao D.length cap)) (h1 : w.cell? ⟨t, 1, none⟩ = some (.int .i64 p)) (hf : w.frozen? ⟨t, 1, none⟩ = false) (ht : t < w.heap.size)
    (hr : readB D p = true) (hk1 : (nextKind D p == 116) = false) (hk2 : (nextKind D p == 102) = false) :
    Calls Tryf.prog 33 #[.agg #[.pointer (some ⟨t, 0, none⟩)], .string at', .pointer dst] w fun e w' => (∃ a, e = .returned (.iface 79 (.pointer (some a)))) ∧ Upd t (nextPos D p) w w' := by
  have hfd := field67_0
  go_enter Tryf.func33, Tryf.ntmps33
  go_wp2_with fail
  refine (next_any t ao cap D p _ (hD.below ((Below.refl _ _).alloc (Nat.le_refl _) _)) hne hby hlen hcap hp (by go_simp) (by go_simp) (by go_simp) (by simp; omega) hr).mono ?_
  rintro e w1 ⟨rfl, hu⟩
  obtain ⟨tx, tn, tc, htx⟩ := nextText_slice ao cap D p
  rw [htx]
  clear htx
  have HU : Hid (Upd t (nextPos D p) w w1) := hu.ofAlloc ht
  have hF1 : F.answers w1.tape := by rw [hu.tape]; exact hF
  clear hu h0 h1 hf hD hne
  generalize nextKind D p = kd at *
  go_wp2_with fail
  refine (errorf_bool F at' w1.heap.size _ (by exact hF1) (by simp)).mono ?_
  rintro e w2 ⟨⟨a, rfl⟩, hb⟩
  have HV : Hid (Upd t (nextPos D p) w w2) := HU.out.below ((((Below.refl _ _).alloc (Nat.le_refl _) _).trans (hb.mono (by simp))))
  clear HU hb
  go_wp2
  go_ret
  exact ⟨⟨a, rfl⟩, HV.out⟩

/-- What is behind a call that moved the reader just made and set a bool of the caller's. -/
theorem Upd.madeSet {ao : Option Addr} {cap n q : Nat} {p p' : Int} {v : Value} {w w' : World} (hq : q < w.heap.size)
    (h : Upd w.heap.size p' (((w.alloc (.cells #[.slice ao n cap, .int .i64 p] 61)).alloc (.cells #[.pointer (some ⟨w.heap.size, 0, none⟩)] 63)).setCell ⟨q, 0, none⟩ v) w') :
    Below w.heap.size (w.setCell ⟨q, 0, none⟩ v) w' ∧ w'.cell? ⟨w.heap.size, 1, none⟩ = some (.int .i64 p') ∧ w'.cell? ⟨w.heap.size + 1, 0, none⟩ = some (.pointer (some ⟨w.heap.size, 0, none⟩)) ∧ w.heap.size + 1 < w'.heap.size := by
  obtain ⟨m1, _, _, _, m5, m6⟩ := made_reader ao cap n p w
  generalize ((w.alloc (.cells #[.slice ao n cap, .int .i64 p] 61)).alloc (.cells #[.pointer (some ⟨w.heap.size, 0, none⟩)] 63)) = W at *
  have hsz : (W.setCell ⟨q, 0, none⟩ v).heap.size = w.heap.size + 2 := by rw [World.size_setCell, m6]
  refine ⟨⟨?_, ?_, ?_, ?_, ?_⟩, h.pos, ?_, by have := h.size; omega⟩
  · exact h.os.trans m1.os
  · exact h.tape.trans m1.tape
  · exact h.output.trans m1.output
  · have := h.size; rw [World.size_setCell]; omega
  · intro k hk
    rw [h.block k (by omega) (by omega)]
    simp only [World.setCell, Array.getElem?_modify]
    rw [m1.block k hk]
  · refine (h.cell (b := w.heap.size + 1) (o := 0) (by omega) (by omega)).trans ?_
    rw [World.cell?_setCell_other _ _ _ _ (by intro e; simp only [Addr.mk.injEq] at e; omega)]
    exact m5

set_option maxRecDepth 100000 in
set_option maxHeartbeats 400000 in
theorem zzboolean_yes (q : Nat) (ao : Option Addr) (cap : Nat) (D : List Int) (p : Nat) (at' : ByteArray) (w : World) (hD : Dat w ao D) (hlt : ∀ b off, ao = some ⟨b, off, none⟩ → b < w.heap.size) (hby : Bytes D)
    (hlen : D.length ≤ 2097152) (hcap : D.length ≤ cap) (hp : p ≤ D.length) (hr : readB D p = true) (v0 : Bool) (hq : q < w.heap.size) (hc : w.cell? ⟨q, 0, none⟩ = some (.bool v0)) (hqf : w.frozen? ⟨q, 0, none⟩ = false) (hk : nextKind D p = 116 ∨ nextKind D p = 102) :
    Calls Tryf.prog 14 #[.slice ao D.length cap, .int .i64 p, .string at', .pointer (some ⟨q, 0, none⟩)] w fun e w' => e = .returned (.tuple #[.int .i64 (nextPos D p), .nilIface]) ∧ Below w.heap.size (w.setCell ⟨q, 0, none⟩ (.bool (nextKind D p == 116))) w' := by
  go_enter Tryf.func14, Tryf.ntmps14
  go_wp2_with fail
  obtain ⟨m1, m2, m3, m4, _, m6⟩ := made_reader ao cap D.length p w
  refine (boolean_yes w.heap.size q ao cap D p at' _ (hD.below m1) (fun b off h => by have := hlt b off h; omega) hby hlen hcap hp m2 m3 m4 (by rw [m6]; omega) hr v0 hq ((m1.cell (p := ⟨q, 0, none⟩) hq).trans hc) ((m1.frozen (p := ⟨q, 0, none⟩) hq).trans hqf) hk).mono ?_
  rintro e w1 ⟨rfl, hu⟩
  obtain ⟨hb, h1, h2, h3⟩ := hu.madeSet hq
  clear m1 m2 m3 m4 m6 hu hD hlt hby hk hr hc hqf
  go_wp2
  go_ret2
  exact ⟨rfl, hb⟩

set_option maxRecDepth 100000 in
set_option maxHeartbeats 400000 in
theorem zzboolean_no (F : Interp) (dst : Option Addr) (ao : Option Addr) (cap : Nat) (D : List Int) (p : Nat) (at' : ByteArray) (w : World) (hF : F.answers w.tape) (hD : Dat w ao D) (hlt : ∀ b off, ao = some ⟨b, off, none⟩ → b < w.heap.size) (hby : Bytes D)
    (hlen : D.length ≤ 2097152) (hcap : D.length ≤ cap) (hp : p ≤ D.length) (hr : readB D p = true) (hk1 : (nextKind D p == 116) = false) (hk2 : (nextKind D p == 102) = false) :
    Calls Tryf.prog 14 #[.slice ao D.length cap, .int .i64 p, .string at', .pointer dst] w fun e w' => (∃ a, e = .returned (.tuple #[.int .i64 (nextPos D p), .iface 79 (.pointer (some a))])) ∧ Below w.heap.size w w' := by
  go_enter Tryf.func14, Tryf.ntmps14
  go_wp2_with fail
  obtain ⟨m1, m2, m3, m4, _, m6⟩ := made_reader ao cap D.length p w
  refine (boolean_no F w.heap.size dst ao cap D p at' _ (by exact hF) (hD.below m1) (fun b off h => by have := hlt b off h; omega) hby hlen hcap hp m2 m3 m4 (by rw [m6]; omega) hr hk1 hk2).mono ?_
  rintro e w1 ⟨⟨a, rfl⟩, hu⟩
  obtain ⟨hb, h1, h2, h3⟩ := hu.made
  clear m1 m2 m3 m4 m6 hu hD hlt hby hk1 hk2 hr hF
  go_wp2
  go_ret2
  exact ⟨⟨a, rfl⟩, hb⟩
end Go.Proofs.Qxb6001751aFmt
