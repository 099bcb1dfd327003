/-
  The law's own helpers: zzIsSep, zzAllSep, zzFirstAt, zzReadable, and the length guards.
-/
import Derived.Test.Qxb6001751aFmtBase
import Derived.Deep.LoopGhost
namespace Go.Proofs.Qxb6001751aFmt
open Go.RowKit Tk

theorem isSep_any (c : Int) (w : World) : Calls Tryf.prog 32 #[.int .u8 c] w fun e w' => e = .returned (.bool (sepB c)) ∧ w' = w := by
  cases h1 : c == 32 with
  | true =>
    go_enter Tryf.func32, Tryf.ntmps32
    go_wp2
    go_ret
    exact ⟨by simp [sepB, h1], rfl⟩
  | false =>
  cases h2 : c == 9 with
  | true =>
    go_enter Tryf.func32, Tryf.ntmps32
    go_wp2
    go_ret
    exact ⟨by simp [sepB, h1, h2], rfl⟩
  | false =>
  cases h3 : c == 13 with
  | true =>
    go_enter Tryf.func32, Tryf.ntmps32
    go_wp2
    go_ret
    exact ⟨by simp [sepB, h1, h2, h3], rfl⟩
  | false =>
  cases h4 : c == 10 with
  | true =>
    go_enter Tryf.func32, Tryf.ntmps32
    go_wp2
    go_ret
    exact ⟨by simp [sepB, h1, h2, h3, h4], rfl⟩
  | false =>
  cases h5 : c == 44 with
  | true =>
    go_enter Tryf.func32, Tryf.ntmps32
    go_wp2
    go_ret
    exact ⟨by simp [sepB, h1, h2, h3, h4, h5], rfl⟩
  | false =>
  cases h6 : c == 58 with
  | true =>
    go_enter Tryf.func32, Tryf.ntmps32
    go_wp2
    go_ret
    exact ⟨by simp [sepB, h1, h2, h3, h4, h5, h6], rfl⟩
  | false =>
    go_enter Tryf.func32, Tryf.ntmps32
    go_wp2
    go_ret
    exact ⟨by simp [sepB, h1, h2, h3, h4, h5, h6], rfl⟩

set_option maxHeartbeats 400000 in
theorem firstAt_any (ao : Option Addr) (cap : Nat) (D : List Int) (p : Nat) (w : World) (hD : Dat w ao D) (hlen : D.length ≤ 2097152) (hp : p ≤ D.length) :
    Calls Tryf.prog 22 #[.slice ao D.length cap, .int .i64 p] w fun e w' => e = .returned (.int .i64 (firstAt D p)) ∧ w' = w := by
  go_enter Tryf.func22, Tryf.ntmps22
  go_wp2
  go_loop [5] (fun i => ∃ k : Nat, k ≤ D.length ∧ firstAt D k = firstAt D p ∧ i = .int .i64 k) (fun i => D.length - (intOf i).toNat)
  case atStart => exact ⟨p, hp, rfl, rfl⟩
  case round =>
    obtain ⟨k, hk, hfa, rfl⟩ := hrel
    have HF : Hid (firstAt D k = firstAt D p) := hfa
    clear hfa
    by_cases hlt : k < D.length
    · obtain ⟨b, off, rfl, hb, hc⟩ : ∃ b off, ao = some ⟨b, off, none⟩ ∧ b < w.heap.size ∧ ∀ i, i < D.length → w.cell? ⟨b, off + i, none⟩ = some (.int .u8 (D.getD i 0)) := by
        rcases hD with rfl | h
        · simp at hlt
        · exact h
      have hcr := hc k hlt
      obtain ⟨c, hcd⟩ : ∃ c, c = D.getD k 0 := ⟨_, rfl⟩
      rw [← hcd] at hcr
      have HC : Hid (c = D.getD k 0) := hcd
      clear hc hcd hD
      cases hs : sepB c with
      | true =>
        go_wp2_with (go_at_call 32; refine (isSep_any _ _).mono ?_; rintro e w' ⟨rfl, rfl⟩)
        go_round
        case rel => exact ⟨k + 1, by omega, (firstAt_sep D k hlt (by rw [← HC.out]; exact hs)).trans HF.out, by go_num⟩
        case measure => simp [intOf]; omega
      | false =>
        go_wp2_with (go_at_call 32; refine (isSep_any _ _).mono ?_; rintro e w' ⟨rfl, rfl⟩)
        go_ret
        exact ⟨by rw [← HF.out, firstAt_not D k hlt (by rw [← HC.out]; exact hs)]; rfl, rfl⟩
    · go_wp2
      go_ret
      exact ⟨by rw [← HF.out, firstAt_end D k (by omega)]; rfl, rfl⟩

/-- A string's bytes as numbers. -/
def bytesI (s : ByteArray) : List Int := s.data.toList.map fun b => (b.toNat : Int)

theorem bytesI_length (s : ByteArray) : (bytesI s).length = s.size := by unfold bytesI; rw [List.length_map, Array.length_toList]; rfl

theorem bytesI_at (s : ByteArray) (k : Nat) (h : k < s.size) : (bytesI s).getD k 0 = (s[k].toNat : Int) := by
  have hk : k < s.data.toList.length := by rw [Array.length_toList]; exact h
  simp only [bytesI, List.getD, List.getElem?_map, List.getElem?_eq_getElem hk]
  rfl

theorem bytesI_bytes (s : ByteArray) : Bytes (bytesI s) := by
  intro n hn
  simp only [bytesI, List.mem_map] at hn
  obtain ⟨b, _, rfl⟩ := hn
  have := b.toNat_lt
  omega

theorem all_take (p : Int → Bool) (l : List Int) (k : Nat) (h : k < l.length) : (l.take (k + 1)).all p = ((l.take k).all p && p (l.getD k 0)) := by
  rw [List.take_succ_eq_append_getElem h, List.all_append]
  simp [List.getD, List.getElem?_eq_getElem h]

theorem all_false_of (p : Int → Bool) (l : List Int) (k : Nat) (h : k < l.length) (hp : p (l.getD k 0) = false) : l.all p = false := by
  rw [List.all_eq_false]
  exact ⟨l.getD k 0, by simp [List.getD, List.getElem?_eq_getElem h], by rw [hp]; simp⟩

set_option maxHeartbeats 400000 in
theorem allSep_any (s : ByteArray) (w : World) (hs : s.size ≤ maxLen) :
    Calls Tryf.prog 12 #[.string s] w fun e w' => e = .returned (.bool ((bytesI s).all sepB)) ∧ w' = w := by
  unfold maxLen at hs
  go_enter Tryf.func12, Tryf.ntmps12
  go_wp2
  go_loop [3] (fun i => ∃ k : Nat, k ≤ s.size ∧ i = .int .i64 k ∧ ((bytesI s).take k).all sepB = true) (fun i => s.size - (intOf i).toNat)
  case atStart => exact ⟨0, Nat.zero_le _, rfl, by simp⟩
  case round =>
    obtain ⟨k, hk, rfl, hall⟩ := hrel
    have HA : Hid (((bytesI s).take k).all sepB = true) := hall
    clear hall
    by_cases hlt : k < s.size
    · have HC : Hid ((bytesI s).getD k 0 = (s[k].toNat : Int)) := bytesI_at s k hlt
      have hl : k < (bytesI s).length := by rw [bytesI_length]; exact hlt
      cases hb : sepB (s[k].toNat : Int) with
      | true =>
        have HB : Hid (sepB (s[k].toNat : Int) = true) := hb
        go_wp2_with (go_at_call 32; refine (isSep_any _ _).mono ?_; rintro e w' ⟨rfl, rfl⟩)
        go_round
        case rel => exact ⟨k + 1, by omega, by go_num, by rw [all_take sepB _ k hl, HA.out, HC.out, HB.out]; rfl⟩
        case measure => simp [intOf]; omega
      | false =>
        have HB : Hid (sepB (s[k].toNat : Int) = false) := hb
        go_wp2_with (go_at_call 32; refine (isSep_any _ _).mono ?_; rintro e w' ⟨rfl, rfl⟩)
        go_ret
        exact ⟨by rw [all_false_of sepB _ k hl (by rw [HC.out]; exact HB.out)]; rfl, rfl⟩
    · go_wp2
      go_ret
      have := HA.out
      rw [List.take_of_length_le (by rw [bytesI_length]; omega)] at this
      exact ⟨by rw [this]; rfl, rfl⟩

end Go.Proofs.Qxb6001751aFmt
