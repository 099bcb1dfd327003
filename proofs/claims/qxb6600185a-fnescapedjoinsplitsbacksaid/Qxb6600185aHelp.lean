/-
  The law's own helpers: the length guard and zzCloneStrings.
-/
import Derived.Test.Qxb6600185aSplit
import Derived.Laws.IdiomStrings
import Derived.Laws.BytesArg
import Derived.WideShapes
namespace Go.Proofs.Qxb6600185a
open Go.RowKit Es

/-- A slice of strings leads to the strings ss. -/
def SDat (w : World) (ao : Option Addr) (ss : List ByteArray) : Prop :=
  ss = [] ∨ ∃ b off, ao = some ⟨b, off, none⟩ ∧ b < w.heap.size ∧ ∀ i (h : i < ss.length), w.cell? ⟨b, off + i, none⟩ = some (.string ss[i])

theorem SDat.at {w : World} {ao : Option Addr} {ss : List ByteArray} (hD : SDat w ao ss) {i : Nat} (hi : i < ss.length) :
    ∃ b off, ao = some ⟨b, off, none⟩ ∧ b < w.heap.size ∧ ∀ j (h : j < ss.length), w.cell? ⟨b, off + j, none⟩ = some (.string ss[j]) := by
  rcases hD with rfl | h
  · simp at hi
  · exact h

/-- It returned a bool; true only where every string is short. -/
def Says (ss : List ByteArray) (e : Ending) : Prop := ∃ g : Bool, e = .returned (.bool g) ∧ (g = true → ∀ j (h : j < ss.length), ss[j].size ≤ 1048576)
theorem Says.no (ss : List ByteArray) : Says ss (.returned (.bool false)) := ⟨false, rfl, fun h => by simp at h⟩
theorem Says.yes (ss : List ByteArray) (h : ∀ j (h : j < ss.length), ss[j].size ≤ 1048576) : Says ss (.returned (.bool true)) := ⟨true, rfl, fun _ => h⟩

set_option maxHeartbeats 400000 in
theorem guard28 (ao : Option Addr) (cap : Nat) (ss : List ByteArray) (c : Int) (w : World) (hD : SDat w ao ss) (hn : ss.length ≤ 9223372036854775807) :
    Calls Try.prog 28 #[.slice ao ss.length cap, .int .u8 c] w fun e w' => Says ss e ∧ w' = w := by
  by_cases hbig : 1048576 < ss.length
  · go_enter Try.func28, Try.ntmps28
    go_wp2
    go_ret
    exact ⟨Says.no ss, rfl⟩
  · have hd0 : decide ((1048576 : Int) < (ss.length : Int)) = false := by simp; omega
    go_enter Try.func28, Try.ntmps28
    go_wp2
    go_loop [5, 6] (fun n i => ∃ (k : Nat) (z : Int), k ≤ ss.length ∧ i = .int .i64 k ∧ n = .int .i64 z ∧ ∀ j (h : j < ss.length), j < k → ss[j].size ≤ 1048576) (fun _ i => ss.length - (intOf i).toNat)
    case atStart => exact ⟨0, _, Nat.zero_le _, rfl, rfl, fun j _ h => by omega⟩
    case round =>
      obtain ⟨k, z, hk, rfl, rfl, hall⟩ := hrel
      have HA : Hid (∀ j (h : j < ss.length), j < k → ss[j].size ≤ 1048576) := hall
      clear hall
      by_cases hlt : k < ss.length
      · obtain ⟨b, off, rfl, _, hcell⟩ := hD.at hlt
        have hc := hcell k hlt
        have HS : Hid (∀ m, ss[k].size ≤ m → ∀ j (h : j < ss.length), j = k → ss[j].size ≤ m) := fun m hm j h e => by subst e; exact hm
        by_cases hsh : ss[k].size ≤ 1048576
        · have HN : Hid (∀ j (h : j < ss.length), j < k + 1 → ss[j].size ≤ 1048576) := fun j h hj => by
            by_cases e : j = k
            · exact HS.out _ hsh j h e
            · exact HA.out j h (by omega)
          generalize ss[k] = s at *
          clear hcell hD HS
          go_wp2
          all_goals first
            | (go_round
               case rel => exact ⟨k + 1, _, by omega, by go_num, rfl, HN.out⟩
               case measure => simp [intOf]; omega)
            | (go_ret
               exact ⟨Says.no ss, rfl⟩)
        · generalize ss[k] = s at *
          clear hcell hD HS
          go_wp2
          go_ret
          exact ⟨Says.no ss, rfl⟩
      · clear hD
        go_wp2
        go_ret
        exact ⟨Says.yes ss (fun j h => HA.out j h (by omega)), rfl⟩

theorem eq41nil (w : World) (a : Option Addr) (n c n' c' : Nat) : (binOp .eql 41 (.slice a n c) (.slice none n' c')).run Try.prog w = .ok (.bool a.isNone) w :=
  Lib.run_eql_slice_nil w _ _ a n c n' c' Try.underlying41

theorem take_set (xs : List Value) (ss : List ByteArray) (k : Nat) (hk : k < ss.length) (hx : xs.length = ss.length) (h : xs.take k = strsV (ss.take k)) :
    (xs.set k (.string ss[k])).take (k + 1) = strsV (ss.take (k + 1)) := by
  rw [List.take_succ_eq_append_getElem (by simpa using by omega), List.take_succ_eq_append_getElem hk]
  unfold strsV
  rw [List.map_append]
  congr 1
  · rw [List.take_set_of_le (Nat.le_refl _)]; exact h
  · simp

set_option maxHeartbeats 400000 in
theorem clone_some (x : Addr) (cap : Nat) (ss : List ByteArray) (w : World) (hD : SDat w (some x) ss) (hlen : ss.length ≤ 65536) :
    Calls Try.prog 29 #[.slice (some x) ss.length cap] w fun e w' => e = .returned (.slice (some ⟨w.heap.size, 0, none⟩) ss.length ss.length) ∧
      w'.ownsRow w.heap.size 9 1 (.slice (some ⟨w.heap.size, 0, none⟩) ss.length ss.length) ss.length (strsV ss) ∧ Below w.heap.size w w' := by
  have hq := eq41nil
  obtain ⟨i0, hi, hz0, hz1, hz2⟩ := info_parts info9
  go_enter Try.func29, Try.ntmps29
  go_wp2_with (first | (at_make; refine wpList_make_full _ rfl _ _ 41 rfl w.heap.size 9 i0 (.string ⟨#[]⟩) 1 Try.underlying41 hi hz0 hz1 .i64 .i64 _ _ ss.length rfl rfl rfl rfl (by rw [hz2]; omega) (by unfold maxLen; omega) (Nat.le_refl _) ?_))
  intro w1 hown hgrow
  have hb1 : Below w.heap.size w w1 := (Below.refl _ _).grown hgrow (Nat.le_refl _) (fun k h => by simp at h)
  clear hgrow
  go_wp2
  go_loopw [4] (fun i wr => ∃ (k : Nat) (xs : List Value), k ≤ ss.length ∧ i = .int .i64 k ∧ wr.ownsRow w.heap.size 9 1 (.slice (some ⟨w.heap.size, 0, none⟩) ss.length ss.length) ss.length xs ∧ xs.take k = strsV (ss.take k) ∧ Below w.heap.size w wr)
    (fun i _ => ss.length - (intOf i).toNat)
  case atStart => exact ⟨0, _, Nat.zero_le _, rfl, hown, by simp [strsV], hb1⟩
  case round =>
    obtain ⟨k, xs, hk, rfl, ho, htk, hb⟩ := hrel
    have HT : Hid (xs.take k = strsV (ss.take k)) := htk
    have hxl : xs.length = ss.length := by have := ho.1; omega
    have HX : Hid (xs.length = ss.length) := hxl
    have HO : Hid (wr.ownsRow w.heap.size 9 1 (.slice (some ⟨w.heap.size, 0, none⟩) ss.length ss.length) ss.length xs) := ho
    by_cases hlt : k < ss.length
    · obtain ⟨b, off, hx, hbl, hc⟩ := hD.at hlt
      simp only [Option.some.injEq] at hx
      subst hx
      have hck := (hb.cell (p := ⟨b, off + k, none⟩) hbl).trans (hc k hlt)
      have hfz := ho.frozenAt k
      have hcell : ∃ u, wr.cell? ⟨w.heap.size, k, none⟩ = some u := ⟨xs[k], by rw [ho.cellAt k (by omega), List.getElem?_eq_getElem]⟩
      obtain ⟨u, hcu⟩ := hcell
      obtain ⟨c, hcd⟩ : ∃ c, c = ss[k] := ⟨_, rfl⟩
      rw [← hcd] at hck
      have HC : Hid (c = ss[k]) := hcd
      clear hc hcd hD ho htk hown hb1 hxl
      go_wp2
      go_roundw
      case rel =>
        have hst := HO.out.stored k (.string c)
        refine ⟨k + 1, _, by omega, by go_num, hst.1, ?_, hb.setCell (Nat.le_refl _) _⟩
        rw [HC.out]
        exact take_set xs ss k hlt HX.out HT.out
      case measure => simp [intOf]; omega
    · have hkl : k = ss.length := by omega
      have HK : Hid (k = ss.length) := hkl
      clear hkl hown hb1 hxl htk ho
      go_wp2
      go_ret
      refine ⟨rfl, ?_, hb⟩
      have h1 := HO.out
      have h2 := HT.out
      rw [HK.out, List.take_of_length_le (by rw [HX.out]; exact Nat.le_refl _), List.take_of_length_le (Nat.le_refl _)] at h2
      rw [h2] at h1
      exact h1

/-- 'string(b)' of a row of bytes that the call owns. -/
theorem owned_string {w : World} {base : Nat} {v : Value} {l : List UInt8} (h : w.ownsRow base 5 1 v l.length (Lib.byteCells l)) : (convert 27 9 v).run Try.prog w = .ok (.string ⟨l.toArray⟩) w := by
  rcases h.2 with ⟨rfl, hn⟩ | ⟨g, cap, cur, rfl, _, hg, _, _, _, htk⟩
  · have hl : l = [] := List.length_eq_zero_iff.1 hn
    subst hl
    exact run_convert_bytes_nil w 27 5 Try.underlying27 Try.underlying5 0 0 9 Try.underlying9
  · refine run_convert_bytes_back w 27 9 5 ⟨g, 0, none⟩ cap l Try.underlying27 Try.underlying5 Try.underlying9 fun j hj => ?_
    rw [WideShapes.add_plain, Nat.zero_add, h.cellAt j (by omega)]
    simp [Lib.byteCells, hj]

/-- A row of strings that the call owns, read cell by cell. -/
theorem owned_strs {w : World} {base : Nat} {v : Value} {ps : List ByteArray} (h : w.ownsRow base 9 1 v ps.length (strsV ps)) (hne : 0 < ps.length) :
    ∃ g cap, v = .slice (some ⟨g, 0, none⟩) ps.length cap ∧ g < w.heap.size ∧ base ≤ g ∧ ∀ i (hi : i < ps.length), w.cell? ⟨g, i, none⟩ = some (.string ps[i]) := by
  have hlt := h.lt
  rcases h.2 with ⟨_, hn⟩ | ⟨g, cap, cur, rfl, hb, hg, hnc, _⟩
  · omega
  · refine ⟨g, cap, rfl, (hlt g rfl).2, hb, fun i hi => ?_⟩
    rw [h.cellAt i (by omega)]
    simp [strsV, hi]

end Go.Proofs.Qxb6600185a
