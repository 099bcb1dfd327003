/-
  zzCloneBytes: a fresh copy of a text.
-/
import Derived.Test.Qxb6001751aFmtBase
import Derived.OwnWalk
namespace Go.Proofs.Qxb6001751aFmt
open Go.RowKit Tk

theorem Tryf.info5 : (Tryf.prog.info? 5).map (fun i => (i.zero, i.size, i.bytes)) = some (some (.int .u8 0), 1, 1) := by kernel_rfl

theorem eq22nil (w : World) (a : Option Addr) (n c n' c' : Nat) : (binOp .eql 22 (.slice a n c) (.slice none n' c')).run Tryf.prog w = .ok (.bool a.isNone) w :=
  Lib.run_eql_slice_nil w _ _ a n c n' c' Tryf.underlying22

theorem clone_nil (w : World) : Calls Tryf.prog 13 #[.slice none 0 0] w fun e w' => e = .returned (.slice none 0 0) ∧ w' = w := by
  have hq := eq22nil
  go_enter Tryf.func13, Tryf.ntmps13
  go_wp2
  go_ret
  exact ⟨rfl, rfl⟩

theorem take_set (xs : List Value) (D : List Int) (k : Nat) (hk : k < D.length) (hx : xs.length = D.length) (h : xs.take k = (D.take k).map (Value.int .u8)) :
    (xs.set k (.int .u8 (D.getD k 0))).take (k + 1) = (D.take (k + 1)).map (Value.int .u8) := by
  rw [List.take_succ_eq_append_getElem (by simpa using by omega), List.take_succ_eq_append_getElem hk, List.map_append]
  congr 1
  · rw [List.take_set_of_le (Nat.le_refl _)]; exact h
  · simp [List.getD, List.getElem?_eq_getElem hk]

set_option maxHeartbeats 400000 in
theorem clone_some (x : Addr) (cap : Nat) (D : List Int) (w : World) (hD : Dat w (some x) D) (hlen : D.length ≤ 2097152) :
    Calls Tryf.prog 13 #[.slice (some x) D.length cap] w fun e w' => e = .returned (.slice (some ⟨w.heap.size, 0, none⟩) D.length D.length) ∧
      w'.ownsRow w.heap.size 5 1 (.slice (some ⟨w.heap.size, 0, none⟩) D.length D.length) D.length (D.map (Value.int .u8)) ∧ Below w.heap.size w w' := by
  have hq := eq22nil
  obtain ⟨i0, hi, hz0, hz1, hz2⟩ := info_parts Tryf.info5
  go_enter Tryf.func13, Tryf.ntmps13
  go_wp2_with (first | (at_make; refine wpList_make_full _ rfl _ _ 22 rfl w.heap.size 5 i0 (.int .u8 0) 1 Tryf.underlying22 hi hz0 hz1 .i64 .i64 _ _ D.length rfl rfl rfl rfl (by rw [hz2]; omega) (by unfold maxLen; omega) (Nat.le_refl _) ?_))
  intro w1 hown hgrow
  have hb1 : Below w.heap.size w w1 := (Below.refl _ _).grown hgrow (Nat.le_refl _) (fun k h => by simp at h)
  clear hgrow
  go_wp2
  go_loopw [4] (fun i wr => ∃ (k : Nat) (xs : List Value), k ≤ D.length ∧ i = .int .i64 k ∧ wr.ownsRow w.heap.size 5 1 (.slice (some ⟨w.heap.size, 0, none⟩) D.length D.length) D.length xs ∧ xs.take k = (D.take k).map (Value.int .u8) ∧ Below w.heap.size w wr)
    (fun i _ => D.length - (intOf i).toNat)
  case atStart => exact ⟨0, _, Nat.zero_le _, rfl, hown, by simp, hb1⟩
  case round =>
    obtain ⟨k, xs, hk, rfl, ho, htk, hb⟩ := hrel
    have HT : Hid (xs.take k = (D.take k).map (Value.int .u8)) := htk
    have hxl : xs.length = D.length := by have := ho.1; omega
    have HX : Hid (xs.length = D.length) := hxl
    have HO : Hid (wr.ownsRow w.heap.size 5 1 (.slice (some ⟨w.heap.size, 0, none⟩) D.length D.length) D.length xs) := ho
    by_cases hlt : k < D.length
    · obtain ⟨b, off, hx, hbl, hc⟩ : ∃ b off, some x = some ⟨b, off, none⟩ ∧ b < w.heap.size ∧ ∀ i, i < D.length → w.cell? ⟨b, off + i, none⟩ = some (.int .u8 (D.getD i 0)) := by
        rcases hD with rfl | h
        · simp at hlt
        · exact h
      simp only [Option.some.injEq] at hx
      subst hx
      have hck := (hb.cell (p := ⟨b, off + k, none⟩) hbl).trans (hc k hlt)
      have hfz := ho.frozenAt k
      have hcell : ∃ u, wr.cell? ⟨w.heap.size, k, none⟩ = some u := ⟨xs[k], by rw [ho.cellAt k (by omega), List.getElem?_eq_getElem]⟩
      obtain ⟨u, hcu⟩ := hcell
      obtain ⟨c, hcd⟩ : ∃ c, c = D.getD k 0 := ⟨_, rfl⟩
      rw [← hcd] at hck
      have HC : Hid (c = D.getD k 0) := hcd
      clear hc hcd hD ho htk hown hb1 hxl
      go_wp2
      go_roundw
      case rel =>
        have hst := HO.out.stored k (.int .u8 c)
        refine ⟨k + 1, _, by omega, by go_num, hst.1, ?_, hb.setCell (Nat.le_refl _) _⟩
        rw [HC.out]
        exact take_set xs D k hlt HX.out HT.out
      case measure => simp [intOf]; omega
    · have hkl : k = D.length := by omega
      have HK : Hid (k = D.length) := hkl
      clear hkl hown hb1 hxl htk ho
      go_wp2
      go_ret
      refine ⟨rfl, ?_, hb⟩
      have h1 := HO.out
      have h2 := HT.out
      rw [HK.out, List.take_of_length_le (by rw [HX.out]; exact Nat.le_refl _), List.take_of_length_le (Nat.le_refl _)] at h2
      rw [h2] at h1
      exact h1

end Go.Proofs.Qxb6001751aFmt
