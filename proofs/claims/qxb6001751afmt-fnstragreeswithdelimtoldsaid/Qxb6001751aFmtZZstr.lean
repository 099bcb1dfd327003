import Derived.Test.Qxb6001751aFmtStr
import Derived.RegionTactic
namespace Go.Proofs.Qxb6001751aFmt
open Go.RowKit Tk Go.Extern.Stop Go.Stop Go.Extern

set_option maxRecDepth 100000 in
set_option maxHeartbeats 400000 in
theorem zzstr_yes (ao : Option Addr) (cap : Nat) (D : List Int) (p : Nat) (at' : ByteArray) (w : World) (hD : Dat w ao D) (hlt : ∀ b off, ao = some ⟨b, off, none⟩ → b < w.heap.size) (hby : Bytes D)
    (hlen : D.length ≤ 2097152) (hcap : D.length ≤ cap) (hp : p ≤ D.length) (hr : readB D p = true) (hk : nextKind D p = 34) :
    Calls Tryf.prog 19 #[.slice ao D.length cap, .int .i64 p, .string at'] w fun e w' => e = .returned (.tuple #[.int .u8 34, nextText ao cap D p, .int .i64 (nextPos D p), .nilIface]) ∧ Below w.heap.size w w' := by
  go_enter Tryf.func19, Tryf.ntmps19
  go_wp2_with fail
  obtain ⟨m1, m2, m3, m4, _, m6⟩ := made_reader ao cap D.length p w
  refine (str_yes w.heap.size ao cap D p at' _ (hD.below m1) (fun b off h => by have := hlt b off h; omega) hby hlen hcap hp m2 m3 m4 (by rw [m6]; omega) hr hk).mono ?_
  rintro e w1 ⟨rfl, hu⟩
  obtain ⟨tx, tn, tc, htx⟩ := nextText_slice ao cap D p
  rw [htx]
  have HT : Hid (nextText ao cap D p = .slice tx tn tc) := htx
  obtain ⟨hb, h1, h2, h3⟩ := hu.made
  have h4 : w.heap.size < w1.heap.size := by omega
  clear m1 m2 m3 m4 m6 hu hD hlt hby hk hr htx
  go_wp2
  go_quiet (fail)
  all_goals try go_wp2
  all_goals
   refine bodyPost_ret (v := .tuple #[.int .u8 34, .slice tx tn tc, .int .i64 (nextPos D p), .nilIface]) (by simp [results, Tryf.results19, go_sem]) rfl ⟨by rw [HT.out], ?_⟩
   repeat (first | apply below_drewN | apply Below.drew)
   exact hb.alloc (by omega) _

set_option maxRecDepth 100000 in
set_option maxHeartbeats 400000 in
theorem zzstr_no (F : Interp) (ao : Option Addr) (cap : Nat) (D : List Int) (p : Nat) (at' : ByteArray) (w : World) (hF : F.answers w.tape) (hD : Dat w ao D) (hlt : ∀ b off, ao = some ⟨b, off, none⟩ → b < w.heap.size) (hby : Bytes D)
    (hlen : D.length ≤ 2097152) (hcap : D.length ≤ cap) (hp : p ≤ D.length) (hr : readB D p = true) (hk : (nextKind D p != 34) = true) :
    Calls Tryf.prog 19 #[.slice ao D.length cap, .int .i64 p, .string at'] w fun e w' => (∃ a, e = .returned (.tuple #[.int .u8 0, .slice none 0 0, .int .i64 (nextPos D p), .iface 79 (.pointer (some a))])) ∧ Below w.heap.size w w' := by
  go_enter Tryf.func19, Tryf.ntmps19
  go_wp2_with fail
  obtain ⟨m1, m2, m3, m4, _, m6⟩ := made_reader ao cap D.length p w
  refine (str_no F w.heap.size ao cap D p at' _ (by exact hF) (hD.below m1) (fun b off h => by have := hlt b off h; omega) hby hlen hcap hp m2 m3 m4 (by rw [m6]; omega) hr hk).mono ?_
  rintro e w1 ⟨⟨a, rfl⟩, hu⟩
  obtain ⟨hb, h1, h2, h3⟩ := hu.made
  have h4 : w.heap.size < w1.heap.size := by omega
  clear m1 m2 m3 m4 m6 hu hD hlt hby hk hr hF
  go_wp2
  go_quiet (fail)
  all_goals try go_wp2
  all_goals
   refine bodyPost_ret (v := .tuple #[.int .u8 0, .slice none 0 0, .int .i64 (nextPos D p), .iface 79 (.pointer (some a))]) (by simp [results, Tryf.results19, go_sem]) rfl ⟨⟨a, rfl⟩, ?_⟩
   repeat (first | apply below_drewN | apply Below.drew)
   exact hb.alloc (by omega) _
end Go.Proofs.Qxb6001751aFmt
