import Derived.Test.Qxb6001751aFmtDelim
namespace Go.Proofs.Qxb6001751aFmt
open Go.RowKit Tk Go.Extern.Stop Go.Stop Go.Extern

/-- The world in which a reader has just been made over a text. -/
theorem made_reader (ao : Option Addr) (cap n : Nat) (p : Int) (w : World) :
    Below w.heap.size w ((w.alloc (.cells #[.slice ao n cap, .int .i64 p] 61)).alloc (.cells #[.pointer (some ⟨w.heap.size, 0, none⟩)] 63)) ∧
    ((w.alloc (.cells #[.slice ao n cap, .int .i64 p] 61)).alloc (.cells #[.pointer (some ⟨w.heap.size, 0, none⟩)] 63)).cell? ⟨w.heap.size, 0, none⟩ = some (.slice ao n cap) ∧
    ((w.alloc (.cells #[.slice ao n cap, .int .i64 p] 61)).alloc (.cells #[.pointer (some ⟨w.heap.size, 0, none⟩)] 63)).cell? ⟨w.heap.size, 1, none⟩ = some (.int .i64 p) ∧
    ((w.alloc (.cells #[.slice ao n cap, .int .i64 p] 61)).alloc (.cells #[.pointer (some ⟨w.heap.size, 0, none⟩)] 63)).frozen? ⟨w.heap.size, 1, none⟩ = false ∧
    ((w.alloc (.cells #[.slice ao n cap, .int .i64 p] 61)).alloc (.cells #[.pointer (some ⟨w.heap.size, 0, none⟩)] 63)).cell? ⟨w.heap.size + 1, 0, none⟩ = some (.pointer (some ⟨w.heap.size, 0, none⟩)) ∧
    ((w.alloc (.cells #[.slice ao n cap, .int .i64 p] 61)).alloc (.cells #[.pointer (some ⟨w.heap.size, 0, none⟩)] 63)).heap.size = w.heap.size + 2 := by
  refine ⟨((Below.refl _ _).alloc (Nat.le_refl _) _).alloc (by simp) _, by go_simp, by go_simp, by go_simp, by go_simp, by simp⟩

/-- What is behind a call that moved the reader just made. -/
theorem Upd.made {ao : Option Addr} {cap n : Nat} {p q : Int} {w w' : World} (h : Upd w.heap.size q ((w.alloc (.cells #[.slice ao n cap, .int .i64 p] 61)).alloc (.cells #[.pointer (some ⟨w.heap.size, 0, none⟩)] 63)) w') :
    Below w.heap.size w w' ∧ w'.cell? ⟨w.heap.size, 1, none⟩ = some (.int .i64 q) ∧ w'.cell? ⟨w.heap.size + 1, 0, none⟩ = some (.pointer (some ⟨w.heap.size, 0, none⟩)) ∧ w.heap.size + 1 < w'.heap.size := by
  obtain ⟨m1, _, _, _, m5, m6⟩ := made_reader ao cap n p w
  refine ⟨m1.trans (h.toBelow (by rw [m6]; omega)), h.pos, ?_, by have := h.size; omega⟩
  exact (h.cell (b := w.heap.size + 1) (o := 0) (by rw [m6]; omega) (by omega)).trans m5

set_option maxRecDepth 100000 in
set_option maxHeartbeats 400000 in
theorem zzdelim_yes (ao : Option Addr) (cap : Nat) (D : List Int) (p : Nat) (at' what : ByteArray) (want : Int) (w : World) (hD : Dat w ao D) (hlt : ∀ b off, ao = some ⟨b, off, none⟩ → b < w.heap.size) (hby : Bytes D)
    (hlen : D.length ≤ 2097152) (hcap : D.length ≤ cap) (hp : p ≤ D.length) (hr : readB D p = true) (hk : nextKind D p = want) :
    Calls Tryf.prog 17 #[.slice ao D.length cap, .int .i64 p, .string at', .int .u8 want, .string what] w fun e w' => e = .returned (.tuple #[.int .i64 (nextPos D p), .nilIface]) ∧ Below w.heap.size w w' := by
  go_enter Tryf.func17, Tryf.ntmps17
  go_wp2_with fail
  obtain ⟨m1, m2, m3, m4, _, m6⟩ := made_reader ao cap D.length p w
  refine (delim_yes w.heap.size ao cap D p at' what want _ (hD.below m1) (fun b off h => by have := hlt b off h; omega) hby hlen hcap hp m2 m3 m4 (by rw [m6]; omega) hr hk).mono ?_
  rintro e w1 ⟨rfl, hu⟩
  obtain ⟨hb, h1, h2, h3⟩ := hu.made
  clear m1 m2 m3 m4 m6 hu hD hlt hby hk hr
  go_wp2
  go_ret2
  exact ⟨rfl, hb⟩

set_option maxRecDepth 100000 in
set_option maxHeartbeats 400000 in
theorem zzdelim_no (F : Interp) (ao : Option Addr) (cap : Nat) (D : List Int) (p : Nat) (at' what : ByteArray) (want : Int) (w : World) (hF : F.answers w.tape) (hD : Dat w ao D) (hlt : ∀ b off, ao = some ⟨b, off, none⟩ → b < w.heap.size) (hby : Bytes D)
    (hlen : D.length ≤ 2097152) (hcap : D.length ≤ cap) (hp : p ≤ D.length) (hr : readB D p = true) (hk : (nextKind D p != want) = true) :
    Calls Tryf.prog 17 #[.slice ao D.length cap, .int .i64 p, .string at', .int .u8 want, .string what] w fun e w' => (∃ a, e = .returned (.tuple #[.int .i64 (nextPos D p), .iface 79 (.pointer (some a))])) ∧ Below w.heap.size w w' := by
  go_enter Tryf.func17, Tryf.ntmps17
  go_wp2_with fail
  obtain ⟨m1, m2, m3, m4, _, m6⟩ := made_reader ao cap D.length p w
  refine (delim_no F w.heap.size ao cap D p at' what want _ (by exact hF) (hD.below m1) (fun b off h => by have := hlt b off h; omega) hby hlen hcap hp m2 m3 m4 (by rw [m6]; omega) hr hk).mono ?_
  rintro e w1 ⟨⟨a, rfl⟩, hu⟩
  obtain ⟨hb, h1, h2, h3⟩ := hu.made
  clear m1 m2 m3 m4 m6 hu hD hlt hby hk hr hF
  go_wp2
  go_ret2
  exact ⟨⟨a, rfl⟩, hb⟩
end Go.Proofs.Qxb6001751aFmt
