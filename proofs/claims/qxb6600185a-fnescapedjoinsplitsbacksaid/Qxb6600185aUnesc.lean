/-
  ike.unescape: each backslash dropped, the byte behind it taken as it is.
-/
import Derived.Test.Qxb6600185aBuilder
import Derived.Test.Qxb6600185aPlain
import Derived.Lib.IndexLaws
namespace Go.Proofs.Qxb6600185a
open Go.RowKit Es

theorem no_slash (l : List UInt8) (h : decide (0 ≤ Lib.indexByte l 92) = false) : unesc l = l := by
  have h1 : Lib.indexByte l 92 = -1 := by
    have := Lib.indexByte_ge l 92
    simp at h
    omega
  refine unesc_none l fun c hc => ?_
  obtain ⟨k, hk, rfl⟩ := List.getElem_of_mem hc
  have := Lib.indexByte_none h1 k
  rw [List.getElem?_eq_getElem hk] at this
  rw [beq_eq_false_iff_ne]
  intro e
  exact this (by rw [e])

theorem byte_eq (b : UInt8) (n : Nat) (hn : n < 256) : (b == (OfNat.ofNat n : UInt8)) = ((b.toNat : Int) == (n : Int)) := by
  rw [Bool.eq_iff_iff, beq_iff_eq, beq_iff_eq, ← UInt8.toNat_inj]
  have e : (OfNat.ofNat n : UInt8).toNat = n := by
    show n % 256 = n
    omega
  rw [e]
  omega

theorem byte_slash (b : UInt8) : (b == 92) = ((b.toNat : Int) == 92) := byte_eq b 92 (by omega)

theorem str_get (s : ByteArray) (i : Nat) (h : i < s.size) : s.data.toList[i]'(by rw [Array.length_toList]; exact h) = s[i] := by
  rw [Array.getElem_toList]
  rfl

theorem str_len (s : ByteArray) : s.data.toList.length = s.size := by rw [Array.length_toList]; rfl

set_option maxHeartbeats 400000 in
theorem unescape_plain (s : ByteArray) (w : World) (h : decide (0 ≤ Lib.indexByte s.data.toList 92) = false) :
    Calls Try.prog 37 #[.string s] w fun e w' => e = .returned (.string s) ∧ w' = w := by
  go_enter Try.func37, Try.ntmps37
  go_wp2_with (go_at_call 40; refine (Try.strings_Contains_one _ _ _).mono ?_; rintro e w' ⟨rfl, rfl⟩; rw [h])
  go_ret
  exact ⟨rfl, rfl⟩

theorem cells_snoc (bs : List UInt8) (b : UInt8) : Lib.byteCells bs ++ [.int .u8 (b.toNat : Int)] = Lib.byteCells (bs ++ [b]) := by simp [Lib.byteCells]

theorem cells_len (bs : List UInt8) : (Lib.byteCells bs).length = bs.length := by simp [Lib.byteCells]

theorem fresh_builder (w : World) : Lib.IsBuilder 60 5 w.heap.size w.heap.size (Lib.byteCells []) (w.alloc (.cells #[.pointer none, .slice none 0 0] 60)) :=
  .inl ⟨Nat.le_refl _, .slice none 0 0, by show (w.heap.push _)[w.heap.size]? = _; rw [Array.getElem?_push, if_pos rfl], World.ownsRow_nil _ _ _ _, by simp [Value.ownBlock]⟩

set_option maxRecDepth 100000 in
set_option maxHeartbeats 1000000 in
theorem unescape_loop (s : ByteArray) (w : World) (hs : s.size ≤ 8388608) (h : decide (0 ≤ Lib.indexByte s.data.toList 92) = true) :
    Calls Try.prog 37 #[.string s] w fun e w' => ∃ u : List UInt8, e = .returned (.string ⟨u.toArray⟩) ∧ u = unesc s.data.toList ∧ Below w.heap.size w w' := by
  go_enter Try.func37, Try.ntmps37
  go_wp2_with (go_at_call 40; refine (Try.strings_Contains_one _ _ _).mono ?_; rintro e w' ⟨rfl, hw⟩; have hw2 := hw.symm; clear hw; subst hw2; rw [h])
  have HB0 : Hid (Lib.IsBuilder 60 5 w.heap.size w.heap.size (Lib.byteCells []) (w.alloc (.cells #[.pointer none, .slice none 0 0] 60))) :=
    fresh_builder w
  have hb0 : Below w.heap.size w (w.alloc (.cells #[.pointer none, .slice none 0 0] 60)) := (Below.refl _ _).alloc (Nat.le_refl _) _
  clear h
  go_loopw [4] (fun v wr => ∃ (i : Nat) (bs : List UInt8), i ≤ s.size ∧ v = .int .i64 i ∧ bs.length ≤ i ∧ bs ++ unesc (s.data.toList.drop i) = unesc s.data.toList ∧ Lib.IsBuilder 60 5 w.heap.size w.heap.size (Lib.byteCells bs) wr ∧ Below w.heap.size w wr)
    (fun v _ => s.size - (intOf v).toNat)
  case atStart => exact ⟨0, [], Nat.zero_le _, rfl, by simp, by simp, HB0.out, hb0⟩
  case round =>
    obtain ⟨i, bs, hi, rfl, hbl, heq, hB, hb⟩ := hrel
    have HE : Hid (bs ++ unesc (s.data.toList.drop i) = unesc s.data.toList) := heq
    have hsz : w.heap.size ≤ wr.heap.size := by have := hb.size; omega
    clear heq hb0 HB0
    by_cases hlt : i < s.size
    · have hl : i < s.data.toList.length := by rw [str_len]; exact hlt
      cases hc : ((s[i].toNat : Int) == 92) with
      | true =>
        by_cases h1 : i + 1 < s.size
        · have hl1 : i + 1 < s.data.toList.length := by rw [str_len]; exact h1
          have HU : Hid (unesc (s.data.toList.drop i) = s[i + 1] :: unesc (s.data.toList.drop (i + 2))) := by
            have := unesc_at_esc s.data.toList i hl1 (by rw [str_get s i hlt, byte_slash]; exact hc)
            rw [str_get s (i + 1) h1] at this
            exact this
          have hi1 : (i : Int) + 1 < (s.size : Int) := by omega
          go_wp2_with (go_at_call 41; refine (writeByte_any w.heap.size w.heap.size (Lib.byteCells bs) _ _ (by exact hB) (by rw [cells_len]; omega) (by exact hsz)).mono ?_; rintro e w2 ⟨rfl, hB2, hb2⟩)
          go_roundw
          case rel =>
            refine ⟨i + 2, bs ++ [s[i + 1]], by omega, by go_num, by simp; omega, ?_, .inr (by rw [← cells_snoc]; exact hB2), hb.trans hb2⟩
            rw [← HE.out, HU.out]
            simp
          case measure => simp [intOf]; omega
        · have HU : Hid (unesc (s.data.toList.drop i) = s[i] :: unesc (s.data.toList.drop (i + 1))) := by
            have := unesc_at_plain s.data.toList i hl (.inr (by rw [str_len]; omega))
            rw [str_get s i hlt] at this
            exact this
          have hi1 : ¬ (i : Int) + 1 < (s.size : Int) := by omega
          go_wp2_with (go_at_call 41; refine (writeByte_any w.heap.size w.heap.size (Lib.byteCells bs) _ _ (by exact hB) (by rw [cells_len]; omega) (by exact hsz)).mono ?_; rintro e w2 ⟨rfl, hB2, hb2⟩)
          go_roundw
          case rel =>
            refine ⟨i + 1, bs ++ [s[i]], by omega, by go_num, by simp; omega, ?_, .inr (by rw [← cells_snoc]; exact hB2), hb.trans hb2⟩
            rw [← HE.out, HU.out]
            simp
          case measure => simp [intOf]; omega
      | false =>
        have HU : Hid (unesc (s.data.toList.drop i) = s[i] :: unesc (s.data.toList.drop (i + 1))) := by
          have := unesc_at_plain s.data.toList i hl (.inl (by rw [str_get s i hlt, byte_slash]; exact hc))
          rw [str_get s i hlt] at this
          exact this
        go_wp2_with (go_at_call 41; refine (writeByte_any w.heap.size w.heap.size (Lib.byteCells bs) _ _ (by exact hB) (by rw [cells_len]; omega) (by exact hsz)).mono ?_; rintro e w2 ⟨rfl, hB2, hb2⟩)
        go_roundw
        case rel =>
          refine ⟨i + 1, bs ++ [s[i]], by omega, by go_num, by simp; omega, ?_, .inr (by rw [← cells_snoc]; exact hB2), hb.trans hb2⟩
          rw [← HE.out, HU.out]
          simp
        case measure => simp [intOf]; omega
    · go_wp2_with (go_at_call 42; refine (Try.Builder_String_any w.heap.size w.heap.size bs _ (by exact hB) (by exact hsz)).mono ?_; rintro e w2 ⟨rfl, hb2⟩)
      go_ret
      refine ⟨bs, rfl, ?_, hb.trans hb2⟩
      have := HE.out
      rw [List.drop_eq_nil_of_le (by rw [str_len]; omega)] at this
      simpa [unesc] using this

theorem unescape_any (s : ByteArray) (w : World) (hs : s.size ≤ 8388608) :
    Calls Try.prog 30 #[.string s] w fun e w' => ∃ u : ByteArray, e = .returned (.string u) ∧ u.data.toList = unesc s.data.toList ∧ Below w.heap.size w w' := by
  have hz : Calls Try.prog 37 #[.string s] w fun e w' => ∃ u : ByteArray, e = .returned (.string u) ∧ u.data.toList = unesc s.data.toList ∧ Below w.heap.size w w' := by
    cases h : decide (0 ≤ Lib.indexByte s.data.toList 92) with
    | true =>
      refine (unescape_loop s w hs h).mono ?_
      rintro e w' ⟨u, rfl, hu, hb⟩
      exact ⟨⟨u.toArray⟩, rfl, by simpa using hu, hb⟩
    | false =>
      refine (unescape_plain s w h).mono ?_
      rintro e w' ⟨rfl, rfl⟩
      exact ⟨s, rfl, (no_slash _ h).symm, Below.refl _ _⟩
  go_enter Try.func30, Try.ntmps30
  go_wp2_with fail
  refine hz.mono ?_
  rintro e w1 ⟨u, rfl, hu, hb⟩
  have HU : Hid (u.data.toList = unesc s.data.toList) := hu
  clear hu hz
  go_wp2
  go_ret
  exact ⟨u, rfl, HU.out, hb⟩

end Go.Proofs.Qxb6600185a
