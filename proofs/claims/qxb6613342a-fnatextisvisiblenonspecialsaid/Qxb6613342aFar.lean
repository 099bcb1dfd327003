/-
  strings.IndexRune at a rune beyond ASCII in a text of ASCII bytes: the search's one round.
-/
import Derived.Test.Qxb6613342aRune
namespace Go.Proofs.Qxb6613342a
open Go.RowKit

set_option maxRecDepth 100000 in
set_option maxHeartbeats 1000000 in
theorem indexRune_far (s : ByteArray) (r : Int) (w : World) (hs : Asc s) (hlen : s.size ≤ 1048576) (h4 : 4 ≤ s.size) (hv : Lib.validRune r = true) (h128 : 128 ≤ r) (hne : (r == 65533) = false) :
    Calls Try.prog 22 #[.string s, .int .i32 r] w fun e w' => e = .returned (.int .i64 (-1)) ∧ Below w.heap.size w w' := by
  have hv2 : Utf8.valid r = true := by
    simp [Lib.validRune] at hv
    simp [Utf8.valid]
    omega
  have hfacts := encode_facts r hv2 h128
  obtain ⟨rs, hrs⟩ : ∃ rs, Utf8.encode r = rs := ⟨_, rfl⟩
  rw [hrs] at hfacts
  obtain ⟨e1, e2, e3⟩ := hfacts
  have e3' := e3 (by omega)
  have h3 : ¬ r < 128 := by omega
  go_enter Try.func22, Try.ntmps22
  go_wp2_with (go_at_call 24; refine (Try.utf8_ValidRune _ _).mono ?_; rintro e w' ⟨rfl, hw⟩; have hw2 := hw.symm; clear hw; subst hw2; rw [hv])
  clear e3 hv hv2 hne h128 h3
  go_step3
  go_wp2
  obtain ⟨m, hm⟩ : ∃ m : Nat, rs.size = m + 1 := ⟨rs.size - 1, by omega⟩
  have hm1 : m < rs.size := by omega
  have hm2 : m < s.size := by omega
  have hmi : (rs.size : Int) - 1 = (m : Int) := by omega
  have e4 : 128 ≤ rs[m].toNat := by
    have e : rs[rs.size - 1] = rs[m] := by simp only [hm, Nat.add_sub_cancel]
    rw [← e]; exact e3'
  have hb : ((s[m].toNat : Int) != (rs[m].toNat : Int)) = true := by
    have := hs m hm2
    simp only [bne_iff_ne, ne_eq]
    omega
  have hc2 : ((rs[m].toNat : Int)) ≤ 255 := by have := (rs[m]).toNat_lt; omega
  have hc1 : (128 : Int) ≤ ((rs[m].toNat : Int)) := by omega
  have hm3 : m ≤ 3 := by omega
  have hm4 : (m : Int) + 1 ≤ (s.size : Int) := by omega
  have hwr : IntKind.i64.wrap ((m : Int) + 1) = (m : Int) + 1 := by rw [IntKind.wrap_i64]; omega
  have hm5 : (0 : Int) ≤ (m : Int) + 1 := by omega
  have HM : Hid (rs.size = m + 1) := hm
  rw [hmi]
  clear hm e3' e4 hmi
  go_loopg [9, 10] 1 (fun g v9 v10 wr => g = 1 ∧ v9 = .int .i64 (m : Nat) ∧ v10 = .int .i64 0 ∧ wr = w)
  case atStart => exact ⟨rfl, rfl, rfl, rfl⟩
  case round =>
    obtain ⟨rfl, rfl, rfl, rfl⟩ := hrel
    go_wp2
    go_step3
    go_wp2
    go_quiet (fail)
    go_wp2
    have hB : Below wr.heap.size wr (wr.drewN nq) := below_drewN (Below.refl _ _) _
    generalize wr.drewN nq = w1 at hB ⊢
    go_quiet ((go_at_call 23; exact Calls.quiet_of_same (idx_no _ _ _ _ hs hc1 hc2)))
    go_wp2
    rw [Exit.noGoto_ret]
    go_wp2
    first | go_ret | (rw [Exit.noGoto_ret]; go_ret) | (rw [Exit.noGoto_ret]; go_wp2; go_ret)
    exact ⟨rfl, below_drewN hB _⟩
end Go.Proofs.Qxb6613342a
