import Derived.Test.Qxb6001751aFmtLaw7
namespace Go.Proofs.Qxb6001751aFmt
open Go.RowKit Tk Go.Extern.Stop Go.Stop Go.Extern

set_option maxRecDepth 100000 in
set_option maxHeartbeats 1000000 in
theorem law7_nil (F : Interp) (s : ByteArray) (c : Int) (w : World) (hF : F.answers w.tape) (hm : s.size ≤ maxLen) (h : s.size + 0 ≤ 1048576) (hs : (bytesI s).all sepB = true) (r : Nat) (hc : 0 ≤ c) (hr : c % 4 = r) (hr4 : r < 4) :
    Calls Tryf.prog 7 #[.string s, .int .u8 c, .slice none 0 0] w fun e w' => e = .returned (.bool true) ∧ Below w.heap.size w w' := by
  have harr := br_at r
  have hd0 : decide ((1048576 : Int) < (s.size : Int)) = false := by simp; omega
  obtain ⟨i0, hi, hz0, hz1, hz2⟩ := info_parts Tryf.info5
  go_enter Tryf.func7, Tryf.ntmps7
  go_wp2_with (first | (go_at_call 23; refine (guard23_yes _ _ _ _ _ _ h).mono ?_; rintro e w' ⟨rfl, hw⟩; have hw2 := hw.symm; clear hw; subst hw2) | (go_at_call 12; refine (allSep_any _ _ hm).mono ?_; rintro e w' ⟨rfl, hw⟩; have hw2 := hw.symm; clear hw; subst hw2))
  refine (clone_nil _).mono ?_
  rintro e w1 ⟨rfl, hw⟩
  have hb : Below w.heap.size w w1 := by rw [hw]; exact Below.refl _ _
  clear hw
  go_wp2_with (at_make; refine wpList_make_own _ rfl _ _ 22 rfl (w1.heap.size + 1) 5 i0 (.int .u8 0) 1 Tryf.underlying22 hi hz0 hz1 .i64 .i64 _ (s.size + 1) rfl rfl (by omega) (by rw [hz2]; omega) (by unfold maxLen; omega) (by simp) ?_)
  intro w2 hown hgrow
  have hb2 := (Below.refl (w1.heap.size + 1) _).grown hgrow (by simp) (fun k h => by simp at h)
  clear hgrow
  go_wp2_with fail
  go_loopw [9, 10] (fun v i wr => ∃ k : Nat, k ≤ s.size ∧ i = .int .i64 k ∧ wr.ownsRow (w1.heap.size + 1) 5 1 v k (vals ((bytesI s).take k)) ∧ Below (w1.heap.size + 1) (w1.alloc (.cells #[.int .u8 123, .int .u8 125, .int .u8 91, .int .u8 93] 40)) wr)
    (fun _ i _ => s.size - (intOf i).toNat)
  case atStart => exact ⟨0, Nat.zero_le _, rfl, hown, hb2⟩
  case round =>
    obtain ⟨k, hk, rfl, ho, hbr⟩ := hrel
    clear hown hb2
    by_cases hlt : k < s.size
    · have HL := ho.lt
      go_wp2_with (at_builtin; refine wpList_append_own _ rfl _ _ 22 rfl (w1.heap.size + 1) 5 i0 (.int .u8 0) 1 1 Tryf.underlying22 hi hz0 hz1 hz2 rfl (by decide) _ _ _ rfl (ho.alloc _) ⟨wr.heap.size, 0, none⟩ 1 1 [.int .u8 (s[k].toNat : Int)] rfl rfl ?c1 ?c2 ?c3 ?c4 ?c5 ?_)
      case c1 =>
        intro j u hj
        match j, hj with
        | 0, hj => simp at hj; subst hj; simp [Addr.add]
      case c2 => intro u hu; simp at hu; subst hu; rfl
      case c3 => unfold maxLen; omega
      case c4 => omega
      case c5 => have := hbr.size; simp at this; simp; omega
      intro v' w3 hown' hgrow' _
      have hs1 : w1.heap.size + 1 ≤ wr.heap.size := by have := hbr.size; simp at this; omega
      have hb3 := (hbr.alloc hs1 _).grown hgrow' (by simp; omega) (fun k h => (HL k h).1)
      clear ho hgrow' hbr
      go_wp2
      go_roundw
      case rel => exact ⟨k + 1, by omega, by go_num, by rw [vals_take s k hlt]; exact hown', hb3⟩
      case measure => simp [intOf]; omega
    · have hke : k = s.size := by omega
      subst hke
      have htk : (bytesI s).take s.size = bytesI s := List.take_of_length_le (by rw [bytesI_length]; exact Nat.le_refl _)
      rw [htk] at ho
      clear htk hlt
      have HL := ho.lt
      go_wp2_with (at_builtin; refine wpList_append_own _ rfl _ _ 22 rfl (w1.heap.size + 1) 5 i0 (.int .u8 0) 1 1 Tryf.underlying22 hi hz0 hz1 hz2 rfl (by decide) _ _ _ rfl (ho.alloc _) ⟨wr.heap.size, 0, none⟩ 1 1 [.int .u8 (br r)] rfl rfl ?c1 ?c2 ?c3 ?c4 ?c5 ?_)
      case c1 =>
        intro j u hj
        match j, hj with
        | 0, hj => simp at hj; subst hj; simp [Addr.add]
      case c2 => intro u hu; simp at hu; subst hu; rfl
      case c3 => unfold maxLen; omega
      case c4 => omega
      case c5 => have := hbr.size; simp at this; simp; omega
      intro v1 w3 ho1 hg1 _
      have hs1 : w1.heap.size + 1 ≤ wr.heap.size := by have := hbr.size; simp at this; omega
      have hb3 := (hbr.alloc hs1 _).grown hg1 (by simp; omega) (fun k h => (HL k h).1)
      have hs3 : w1.heap.size + 1 ≤ w3.heap.size := by have := hb3.size; simp at this; omega
      clear ho hg1 hbr HL
      go_wp2_with (at_builtin; refine wpList_append_own_none rfl _ _ 22 rfl (w1.heap.size + 1) 5 i0 1 Tryf.underlying22 hi _ _ _ rfl ho1 rfl ?_)
      have hb4 := hb3
      have hs4 : w1.heap.size + 1 ≤ w3.heap.size := hs3
      have hlen2 : (bytesI s ++ [br r] ++ []).length = s.size + 1 := by simp [bytesI_length]
      have ho3 : w3.ownsRow (w1.heap.size + 1) 5 1 v1 (bytesI s ++ [br r] ++ []).length (vals (bytesI s ++ [br r] ++ [])) := by
        rw [hlen2]
        simpa [vals] using ho1
      obtain ⟨hk1, hk2, hk3⟩ := bracket_next (bytesI s) [] (br r) hs (br_four r hr4)
      rw [bytesI_length] at hk2
      have hby2 : Bytes (bytesI s ++ [br r] ++ []) := by
        intro n hn
        simp only [List.mem_append, List.mem_singleton] at hn
        rcases hn with (hn | rfl) | hn
        · exact bytesI_bytes s n hn
        · have := br_four r hr4; omega
        · simp at hn
      have hbr4 : ∀ k, k < 4 → w3.cell? ⟨w1.heap.size, k, none⟩ = some (.int .u8 (br k)) := fun k hk => (hb4.cell (p := ⟨w1.heap.size, k, none⟩) (by simp)).trans (br_cell w1 k hk)
      have hF4 : F.answers w3.tape := by rw [hb4.tape]; show F.answers w1.tape; rw [hb.tape]; exact hF
      have hfin : Below w.heap.size w w3 := (hb.alloc hb.size _).trans (hb4.mono (by have := hb.size; omega))
      obtain ⟨D2, hD2⟩ : ∃ D2, D2 = bytesI s ++ [br r] ++ [] := ⟨_, rfl⟩
      rw [← hD2] at hk1 hk2 hk3 hby2 ho3 hlen2
      obtain ⟨g, cap2, hv, hcap2, hg2, hdat⟩ := owned_text ho3 (by omega)
      subst hv
      have HP : Hid (nextPos D2 0 = s.size + 1) := hk2
      have HK : Hid (nextKind D2 0 = br r) := hk1
      have hD2l : D2.length ≤ 1048577 := by omega
      clear hD2 ho3 hb4 hF hb hs hk1 hb3 ho1 hk2 hlen2
      go_wp2_with fail
      go_loopw [11] (fun i w5 => ∃ k : Nat, k ≤ 4 ∧ i = .int .i64 k ∧ Below w3.heap.size w3 w5) (fun i _ => 4 - (intOf i).toNat)
      case atStart => exact ⟨0, by omega, rfl, Below.refl _ _⟩
      case round =>
        obtain ⟨k, hk, rfl, hb5⟩ := hrel
        by_cases hk4 : k < 4
        · have hck := (hb5.cell (p := ⟨w1.heap.size, k, none⟩) hs4).trans (hbr4 k hk4)
          have hF5 : F.answers wr.tape := by rw [hb5.tape]; exact hF4
          have hd5 := hdat.below hb5
          have hg5 : ∀ b off, some (⟨g, 0, none⟩ : Addr) = some ⟨b, off, none⟩ → b < wr.heap.size := by
            intro b off he
            simp only [Option.some.injEq, Addr.mk.injEq, and_true] at he
            have := hb5.size
            omega
          cases hq : br k == br r with
          | true =>
            have hke := eq_of_beq hq
            have hz := zzdelim_yes (some ⟨g, 0, none⟩) cap2 D2 0 ⟨#[114, 101, 113, 117, 101, 115, 116]⟩ ⟨#[97, 32, 98, 114, 97, 99, 107, 101, 116]⟩ (br k) wr hd5 hg5 hby2 (by omega) hcap2 (Nat.zero_le _) hk3 (HK.out.trans hke.symm)
            rw [HP.out] at hz
            clear hd5 hg5 hdat hby2 hk3 HK HP hbr4 hke
            go_wp2_with fail
            refine (by exact hz : Calls _ _ _ _ _).mono ?_
            rintro e w6 ⟨rfl, hb6⟩
            clear hz
            go_wp2
            go_roundw
            case rel => exact ⟨k + 1, by omega, by go_num, hb5.trans (hb6.mono hb5.size)⟩
            case measure => simp [intOf]; omega
          | false =>
            have hke : (nextKind D2 0 != br k) = true := by rw [HK.out, bne_iff_ne]; intro e; rw [e] at hq; simp at hq
            have hz := zzdelim_no F (some ⟨g, 0, none⟩) cap2 D2 0 ⟨#[114, 101, 113, 117, 101, 115, 116]⟩ ⟨#[97, 32, 98, 114, 97, 99, 107, 101, 116]⟩ (br k) wr hF5 hd5 hg5 hby2 (by omega) hcap2 (Nat.zero_le _) hk3 hke
            rw [HP.out] at hz
            clear hd5 hg5 hdat hby2 hk3 HK HP hbr4 hke
            go_wp2_with fail
            refine (by exact hz : Calls _ _ _ _ _).mono ?_
            rintro e w6 ⟨⟨a, rfl⟩, hb6⟩
            clear hz
            go_wp2
            go_roundw
            case rel => exact ⟨k + 1, by omega, by go_num, hb5.trans (hb6.mono hb5.size)⟩
            case measure => simp [intOf]; omega
        · go_wp2
          go_ret
          exact ⟨rfl, hfin.trans (hb5.mono (by have := hfin.size; omega))⟩
end Go.Proofs.Qxb6001751aFmt
