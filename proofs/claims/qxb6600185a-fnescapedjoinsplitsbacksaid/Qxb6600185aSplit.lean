/-
  ike.splitUnescaped: the text split at each separator that no backslash escapes.
-/
import Derived.Test.Qxb6600185aUnesc
import Derived.OwnWalk
import Derived.Lib.IndexBytes
namespace Go.Proofs.Qxb6600185a
open Go.RowKit Es

theorem byte_same (a b : UInt8) : (a == b) = ((a.toNat : Int) == (b.toNat : Int)) := by
  rw [Bool.eq_iff_iff, beq_iff_eq, beq_iff_eq, ← UInt8.toNat_inj]
  omega

/-- Strings as values. -/
def strsV (ps : List ByteArray) : List Value := ps.map Value.string
/-- .. and as lists of bytes. -/
def strsL (ps : List ByteArray) : List (List UInt8) := ps.map fun p => p.data.toList

theorem strsL_snoc (ps : List ByteArray) (p : ByteArray) : strsL (ps ++ [p]) = strsL ps ++ [p.data.toList] := by simp [strsL]

set_option maxRecDepth 100000 in
set_option maxHeartbeats 1000000 in
theorem split_any (s : ByteArray) (sep : UInt8) (w : World) (hs : s.size ≤ 8388608) (h92 : (sep == 92) = false) :
    Calls Try.prog 36 #[.string s, .int .u8 (sep.toNat : Int)] w fun e w' => ∃ (v : Value) (ps : List ByteArray), e = .returned v ∧ w'.ownsRow w.heap.size 9 1 v ps.length (strsV ps) ∧ strsL ps = splitGo sep s.data.toList [] ∧ Below w.heap.size w w' := by
  obtain ⟨i0, hi0, hz0, hz1, hz2⟩ := info_parts info9
  go_enter Try.func36, Try.ntmps36
  go_wp2
  go_loopw [5, 6, 7] (fun v st iv wr => ∃ (i a : Nat) (ps : List ByteArray), a ≤ i ∧ i ≤ s.size + 1 ∧ a ≤ s.size ∧ ps.length ≤ i ∧ st = .int .i64 a ∧ iv = .int .i64 i ∧ wr.ownsRow w.heap.size 9 1 v ps.length (strsV ps) ∧ strsL ps ++ splitGo sep (s.data.toList.drop i) ((s.data.toList.drop a).take (i - a)) = splitGo sep s.data.toList [] ∧ Below w.heap.size w wr)
    (fun _ _ iv _ => s.size + 1 - (intOf iv).toNat)
  case atStart => exact ⟨0, 0, [], Nat.le_refl _, by omega, by omega, by simp, rfl, rfl, World.ownsRow_nil _ _ _ _, by simp [strsL], Below.refl _ _⟩
  case round =>
    obtain ⟨i, a, ps, hai, hi, ha, hpl, rfl, rfl, ho, heq, hb⟩ := hrel
    have HE : Hid (strsL ps ++ splitGo sep (s.data.toList.drop i) ((s.data.toList.drop a).take (i - a)) = splitGo sep s.data.toList []) := heq
    clear heq
    have hsz : w.heap.size ≤ wr.heap.size := hb.size
    by_cases hlt : i < s.size
    · have hl : i < s.data.toList.length := by rw [str_len]; exact hlt
      cases hc : ((s[i].toNat : Int) == 92) with
      | true =>
        have HS : Hid (splitGo sep (s.data.toList.drop i) ((s.data.toList.drop a).take (i - a)) = splitGo sep (s.data.toList.drop (i + 2)) ((s.data.toList.drop a).take (i + 2 - a))) := by
          have := split_at_esc sep s.data.toList i hl (by rw [str_get s i hlt]; exact eq_of_beq (by rw [byte_slash]; exact hc)) ((s.data.toList.drop a).take (i - a))
          rw [cur_two _ _ _ hai] at this
          exact this
        go_wp2
        go_roundw
        case rel => exact ⟨i + 2, a, ps, by omega, by omega, by omega, by omega, rfl, by go_num, ho, by rw [← HE.out, HS.out], hb⟩
        case measure => simp [intOf]; omega
      | false =>
        cases hq : ((s[i].toNat : Int) == (sep.toNat : Int)) with
        | true =>
          have HS : Hid (splitGo sep (s.data.toList.drop i) ((s.data.toList.drop a).take (i - a)) = (s.data.toList.drop a).take (i - a) :: splitGo sep (s.data.toList.drop (i + 1)) []) :=
            split_at_sep sep s.data.toList i hl h92 (by rw [str_get s i hlt]; exact eq_of_beq (by rw [byte_same]; exact hq)) _
          have HL := ho.lt
          go_wp2_with (at_builtin; refine wpList_append_own _ rfl _ _ 41 rfl w.heap.size 9 i0 (.string ⟨#[]⟩) 1 16 Try.underlying41 hi0 hz0 hz1 hz2 rfl (by decide) _ _ _ rfl (ho.alloc _) ⟨wr.heap.size, 0, none⟩ 1 1 [.string (s.extract a i)] rfl rfl ?c1 ?c2 ?c3 ?c4 ?c5 ?_)
          case c1 =>
            intro j u hj
            match j, hj with
            | 0, hj => simp at hj; subst hj; simp [Addr.add]
          case c2 => intro u hu; simp at hu; subst hu; rfl
          case c3 => unfold maxLen; omega
          case c4 => omega
          case c5 => simp; omega
          intro v' w3 hown' hgrow' _
          have hb3 := (hb.alloc hsz _).grown hgrow' (by simp; omega) (fun k h => (HL k h).1)
          have HO : Hid (w3.ownsRow w.heap.size 9 1 v' (ps ++ [s.extract a i]).length (strsV (ps ++ [s.extract a i]))) := by
            have : w3.ownsRow w.heap.size 9 1 v' (ps ++ [s.extract a i]).length (strsV (ps ++ [s.extract a i])) := by simpa [strsV] using hown'
            exact this
          clear ho hgrow' hb hown' HL
          go_wp2
          go_roundw
          case rel =>
            refine ⟨i + 1, i + 1, ps ++ [s.extract a i], by omega, by omega, by omega, by simp; omega, by go_num, by go_num, HO.out, ?_, hb3⟩
            rw [← HE.out, HS.out, strsL_snoc, Lib.extract_data]
            simp
          case measure => simp [intOf]; omega
        | false =>
          have HS : Hid (splitGo sep (s.data.toList.drop i) ((s.data.toList.drop a).take (i - a)) = splitGo sep (s.data.toList.drop (i + 1)) ((s.data.toList.drop a).take (i + 1 - a))) := by
            have := split_at_plain sep s.data.toList i hl (by rw [str_get s i hlt, byte_slash]; exact hc) (by rw [str_get s i hlt, byte_same]; exact hq) ((s.data.toList.drop a).take (i - a))
            rw [cur_one _ _ _ hai hl] at this
            exact this
          go_wp2
          go_roundw
          case rel => exact ⟨i + 1, a, ps, by omega, by omega, by omega, by omega, rfl, by go_num, ho, by rw [← HE.out, HS.out], hb⟩
          case measure => simp [intOf]; omega
    · have HL := ho.lt
      go_wp2_with (at_builtin; refine wpList_append_own _ rfl _ _ 41 rfl w.heap.size 9 i0 (.string ⟨#[]⟩) 1 16 Try.underlying41 hi0 hz0 hz1 hz2 rfl (by decide) _ _ _ rfl (ho.alloc _) ⟨wr.heap.size, 0, none⟩ 1 1 [.string (s.extract a s.size)] rfl rfl ?c1 ?c2 ?c3 ?c4 ?c5 ?_)
      case c1 =>
        intro j u hj
        match j, hj with
        | 0, hj => simp at hj; subst hj; simp [Addr.add]
      case c2 => intro u hu; simp at hu; subst hu; rfl
      case c3 => unfold maxLen; omega
      case c4 => omega
      case c5 => simp; omega
      intro v' w3 hown' hgrow' _
      have hb3 := (hb.alloc hsz _).grown hgrow' (by simp; omega) (fun k h => (HL k h).1)
      have HO : Hid (w3.ownsRow w.heap.size 9 1 v' (ps ++ [s.extract a s.size]).length (strsV (ps ++ [s.extract a s.size]))) := by
        have : w3.ownsRow w.heap.size 9 1 v' (ps ++ [s.extract a s.size]).length (strsV (ps ++ [s.extract a s.size])) := by simpa [strsV] using hown'
        exact this
      clear ho hgrow' hb hown' HL
      go_wp2
      go_ret
      refine ⟨v', ps ++ [s.extract a s.size], rfl, HO.out, ?_, hb3⟩
      rw [← HE.out, strsL_snoc, Lib.extract_to_end, List.drop_eq_nil_of_le (show s.data.toList.length ≤ i by rw [str_len]; omega)]
      rw [List.take_of_length_le (by rw [List.length_drop, str_len]; omega)]
      simp [splitGo]

theorem zzsplit (s : ByteArray) (sep : UInt8) (w : World) (hs : s.size ≤ 8388608) (h92 : (sep == 92) = false) :
    Calls Try.prog 23 #[.string s, .int .u8 (sep.toNat : Int)] w fun e w' => ∃ (v : Value) (ps : List ByteArray), e = .returned v ∧ w'.ownsRow w.heap.size 9 1 v ps.length (strsV ps) ∧ strsL ps = splitGo sep s.data.toList [] ∧ Below w.heap.size w w' := by
  go_enter Try.func23, Try.ntmps23
  go_wp2_with fail
  refine (split_any s sep _ hs h92).mono ?_
  rintro e w1 ⟨v, ps, rfl, ho, hl, hb⟩
  have HL : Hid (strsL ps = splitGo sep s.data.toList []) := hl
  clear hl
  go_wp2
  go_ret
  exact ⟨v, ps, rfl, ho, HL.out, hb⟩
end Go.Proofs.Qxb6600185a
