import Derived.Test.Qxb6001751aFmtNextAll
import Derived.Test.Qxb6001751aFmtErr
namespace Go.Proofs.Qxb6001751aFmt
open Go.RowKit Tk Go.Extern.Stop Go.Stop Go.Extern

theorem nextText_slice (ao : Option Addr) (cap : Nat) (D : List Int) (p : Nat) : ∃ x n c, nextText ao cap D p = .slice x n c := by
  unfold nextText
  split
  · exact ⟨_, _, _, rfl⟩
  · split
    · exact ⟨_, _, _, rfl⟩
    · exact ⟨_, _, _, rfl⟩

theorem field67_0 (k : Int) (x : Option Addr) (n c : Nat) (w : World) : (Instr.field 67 (.agg #[.int .u8 k, .slice x n c]) 0).run Tryf.prog w = .ok (.int .u8 k) w := by kernel_rfl
theorem field67_1 (k : Int) (x : Option Addr) (n c : Nat) (w : World) : (Instr.field 67 (.agg #[.int .u8 k, .slice x n c]) 1).run Tryf.prog w = .ok (.slice x n c) w := by kernel_rfl

set_option maxRecDepth 100000 in
set_option maxHeartbeats 400000 in
theorem delim_yes (t : Nat) (ao : Option Addr) (cap : Nat) (D : List Int) (p : Nat) (at' what : ByteArray) (want : Int) (w : World) (hD : Dat w ao D) (hne : ∀ b off, ao = some ⟨b, off, none⟩ → b ≠ t) (hby : Bytes D)
    (hlen : D.length ≤ 2097152) (hcap : D.length ≤ cap) (hp : p ≤ D.length) (h0 : w.cell? ⟨t, 0, none⟩ = some (.slice ao D.length cap)) (h1 : w.cell? ⟨t, 1, none⟩ = some (.int .i64 p)) (hf : w.frozen? ⟨t, 1, none⟩ = false) (ht : t < w.heap.size)
    (hr : readB D p = true) (hk : nextKind D p = want) :
    Calls Tryf.prog 34 #[.agg #[.pointer (some ⟨t, 0, none⟩)], .string at', .int .u8 want, .string what] w fun e w' => e = .returned .nilIface ∧ Upd t (nextPos D p) w w' := by
  have hfd := field67_0
  go_enter Tryf.func34, Tryf.ntmps34
  go_wp2_with fail
  refine (next_any t ao cap D p _ (hD.below ((Below.refl _ _).alloc (Nat.le_refl _) _)) hne hby hlen hcap hp (by go_simp) (by go_simp) (by go_simp) (by simp; omega) hr).mono ?_
  rintro e w1 ⟨rfl, hu⟩
  obtain ⟨tx, tn, tc, htx⟩ := nextText_slice ao cap D p
  rw [htx]
  clear htx
  rw [hk]
  have hbne : (want != want) = false := by simp
  have HU : Hid (Upd t (nextPos D p) w w1) := hu.ofAlloc ht
  clear hu hk
  go_wp2
  go_ret
  exact ⟨rfl, HU.out⟩

set_option maxRecDepth 100000 in
set_option maxHeartbeats 400000 in
theorem delim_no (F : Interp) (t : Nat) (ao : Option Addr) (cap : Nat) (D : List Int) (p : Nat) (at' what : ByteArray) (want : Int) (w : World) (hF : F.answers w.tape) (hD : Dat w ao D) (hne : ∀ b off, ao = some ⟨b, off, none⟩ → b ≠ t) (hby : Bytes D)
    (hlen : D.length ≤ 2097152) (hcap : D.length ≤ cap) (hp : p ≤ D.length) (h0 : w.cell? ⟨t, 0, none⟩ = some (.slice ao D.length cap)) (h1 : w.cell? ⟨t, 1, none⟩ = some (.int .i64 p)) (hf : w.frozen? ⟨t, 1, none⟩ = false) (ht : t < w.heap.size)
    (hr : readB D p = true) (hk : (nextKind D p != want) = true) :
    Calls Tryf.prog 34 #[.agg #[.pointer (some ⟨t, 0, none⟩)], .string at', .int .u8 want, .string what] w fun e w' => (∃ a, e = .returned (.iface 79 (.pointer (some a)))) ∧ Upd t (nextPos D p) w w' := by
  have hfd := field67_0
  go_enter Tryf.func34, Tryf.ntmps34
  go_wp2_with fail
  refine (next_any t ao cap D p _ (hD.below ((Below.refl _ _).alloc (Nat.le_refl _) _)) hne hby hlen hcap hp (by go_simp) (by go_simp) (by go_simp) (by simp; omega) hr).mono ?_
  rintro e w1 ⟨rfl, hu⟩
  obtain ⟨tx, tn, tc, htx⟩ := nextText_slice ao cap D p
  rw [htx]
  clear htx
  have HU : Hid (Upd t (nextPos D p) w w1) := hu.ofAlloc ht
  have hF1 : F.answers w1.tape := by rw [hu.tape]; exact hF
  clear hu
  generalize nextKind D p = kd at *
  go_wp2_with fail
  refine (errorf_delim F at' what w1.heap.size _ (by exact hF1) (by simp) (by simp)).mono ?_
  rintro e w2 ⟨⟨a, rfl⟩, hb⟩
  have HV : Hid (Upd t (nextPos D p) w w2) := HU.out.below ((((Below.refl _ _).alloc (Nat.le_refl _) _).trans (hb.mono (by simp))))
  clear HU hb
  go_wp2
  go_ret
  exact ⟨⟨a, rfl⟩, HV.out⟩

end Go.Proofs.Qxb6001751aFmt
