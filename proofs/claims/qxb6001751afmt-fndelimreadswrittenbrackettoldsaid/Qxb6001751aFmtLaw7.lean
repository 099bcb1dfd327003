import Derived.Test.Qxb6001751aFmtHelp
import Derived.Test.Qxb6001751aFmtClone
import Derived.Test.Qxb6001751aFmtZZdelim
import Derived.Laws.AppendOwnNone
namespace Go.Proofs.Qxb6001751aFmt
open Go.RowKit Tk Go.Extern.Stop Go.Stop Go.Extern

theorem guard23_yes (s : ByteArray) (c : Int) (ao : Option Addr) (n cap : Nat) (w : World) (h : s.size + n ≤ 1048576) :
    Calls Tryf.prog 23 #[.string s, .int .u8 c, .slice ao n cap] w fun e w' => e = .returned (.bool true) ∧ w' = w := by
  go_enter Tryf.func23, Tryf.ntmps23
  go_wp2
  go_ret
  exact ⟨rfl, rfl⟩

theorem guard23_no (s : ByteArray) (c : Int) (ao : Option Addr) (n cap : Nat) (w : World) (h : 1048576 < s.size + n) :
    Calls Tryf.prog 23 #[.string s, .int .u8 c, .slice ao n cap] w fun e w' => e = .returned (.bool false) ∧ w' = w := by
  by_cases h1 : 1048576 < s.size
  · go_enter Tryf.func23, Tryf.ntmps23
    go_wp2
    go_ret
    exact ⟨rfl, rfl⟩
  · by_cases h2 : 1048576 < n
    · go_enter Tryf.func23, Tryf.ntmps23
      go_wp2
      go_ret
      exact ⟨rfl, rfl⟩
    · go_enter Tryf.func23, Tryf.ntmps23
      go_wp2
      go_ret
      exact ⟨rfl, rfl⟩

/-- Too long: the law says true at once. -/
theorem law7_long (s : ByteArray) (c : Int) (ao : Option Addr) (n cap : Nat) (w : World) (h : 1048576 < s.size + n) :
    Calls Tryf.prog 7 #[.string s, .int .u8 c, .slice ao n cap] w fun e w' => e = .returned (.bool true) ∧ w' = w := by
  go_enter Tryf.func7, Tryf.ntmps7
  go_wp2_with (go_at_call 23; refine (guard23_no _ _ _ _ _ _ h).mono ?_; rintro e w' ⟨rfl, rfl⟩)
  go_ret
  exact ⟨rfl, rfl⟩

theorem law7_mixed (s : ByteArray) (c : Int) (ao : Option Addr) (n cap : Nat) (w : World) (hm : s.size ≤ maxLen) (h : s.size + n ≤ 1048576) (hs : (bytesI s).all sepB = false) :
    Calls Tryf.prog 7 #[.string s, .int .u8 c, .slice ao n cap] w fun e w' => e = .returned (.bool true) ∧ w' = w := by
  go_enter Tryf.func7, Tryf.ntmps7
  go_wp2_with (first | (go_at_call 23; refine (guard23_yes _ _ _ _ _ _ h).mono ?_; rintro e w' ⟨rfl, rfl⟩) | (go_at_call 12; refine (allSep_any _ _ hm).mono ?_; rintro e w' ⟨rfl, rfl⟩))
  go_ret
  exact ⟨rfl, rfl⟩

def br (k : Nat) : Int := [123, 125, 91, 93].getD k 0

theorem br_at (r : Nat) (h : r < [Value.int .u8 123, Value.int .u8 125, Value.int .u8 91, Value.int .u8 93].length) :
    [Value.int .u8 123, Value.int .u8 125, Value.int .u8 91, Value.int .u8 93][r] = Value.int .u8 (br r) := by
  match r, h with
  | 0, _ => rfl
  | 1, _ => rfl
  | 2, _ => rfl
  | 3, _ => rfl

/-- The bytes written, as values. -/
def vals (D : List Int) : List Value := D.map (Value.int .u8)

theorem vals_one (D : List Int) : ∀ u ∈ vals D, u.oneCell' = true := by
  intro u hu
  obtain ⟨n, _, rfl⟩ := List.mem_map.1 hu
  rfl

theorem vals_length (D : List Int) : (vals D).length = D.length := by simp [vals]

theorem vals_take (s : ByteArray) (k : Nat) (h : k < s.size) : vals ((bytesI s).take (k + 1)) = vals ((bytesI s).take k) ++ [.int .u8 (s[k].toNat : Int)] := by
  have hl : k < (bytesI s).length := by rw [bytesI_length]; exact h
  rw [List.take_succ_eq_append_getElem hl]
  have e : (bytesI s)[k] = (s[k].toNat : Int) := by
    have := bytesI_at s k h
    simpa [List.getD, List.getElem?_eq_getElem hl] using this
  rw [e]
  simp [vals]

theorem add_block (b j : Nat) : ((⟨b, 0, none⟩ : Addr).add j).block = b := by
  unfold Addr.add
  split <;> rfl

/-- A row that the call owns, read as a text. -/
theorem owned_text {w : World} {base : Nat} {v : Value} {D : List Int} (h : w.ownsRow base 5 1 v D.length (vals D)) (hne : 0 < D.length) :
    ∃ g cap, v = .slice (some ⟨g, 0, none⟩) D.length cap ∧ D.length ≤ cap ∧ g < w.heap.size ∧ Dat w (some ⟨g, 0, none⟩) D := by
  have hlt := h.lt
  rcases h.2 with ⟨_, hn⟩ | ⟨g, cap, cur, rfl, hb, hg, hnc, _⟩
  · omega
  · refine ⟨g, cap, rfl, hnc, (hlt g rfl).2, .inr ⟨g, 0, rfl, (hlt g rfl).2, fun i hi => ?_⟩⟩
    rw [Nat.zero_add, h.cellAt i (by omega)]
    simp [vals, List.getD, List.getElem?_eq_getElem hi]

theorem br_four (k : Nat) (h : k < 4) : br k = 123 ∨ br k = 125 ∨ br k = 91 ∨ br k = 93 := by
  match k, h with
  | 0, _ => exact .inl rfl
  | 1, _ => exact .inr (.inl rfl)
  | 2, _ => exact .inr (.inr (.inl rfl))
  | 3, _ => exact .inr (.inr (.inr rfl))

theorem br_cell (w : World) (k : Nat) (h : k < 4) : (w.alloc (.cells #[.int .u8 123, .int .u8 125, .int .u8 91, .int .u8 93] 40)).cell? ⟨w.heap.size, k, none⟩ = some (.int .u8 (br k)) := by
  rw [World.cell?_alloc_new]
  match k, h with
  | 0, _ => rfl
  | 1, _ => rfl
  | 2, _ => rfl
  | 3, _ => rfl

set_option maxRecDepth 100000 in
set_option maxHeartbeats 1000000 in
theorem law7_main (F : Interp) (s : ByteArray) (c : Int) (x : Addr) (cap : Nat) (D : List Int) (w : World) (hF : F.answers w.tape) (hD : Dat w (some x) D) (hby : Bytes D) (hm : s.size ≤ maxLen) (h : s.size + D.length ≤ 1048576) (hs : (bytesI s).all sepB = true) (r : Nat) (hc : 0 ≤ c) (hr : c % 4 = r) (hr4 : r < 4) :
    Calls Tryf.prog 7 #[.string s, .int .u8 c, .slice (some x) D.length cap] w fun e w' => e = .returned (.bool true) ∧ Below w.heap.size w w' := by
  have harr := br_at r
  obtain ⟨i0, hi, hz0, hz1, hz2⟩ := info_parts Tryf.info5
  go_enter Tryf.func7, Tryf.ntmps7
  go_wp2_with (first | (go_at_call 23; refine (guard23_yes _ _ _ _ _ _ h).mono ?_; rintro e w' ⟨rfl, hw⟩; have hw2 := hw.symm; clear hw; subst hw2) | (go_at_call 12; refine (allSep_any _ _ hm).mono ?_; rintro e w' ⟨rfl, hw⟩; have hw2 := hw.symm; clear hw; subst hw2))
  refine (clone_some x cap D _ hD (by omega)).mono ?_
  rintro e w1 ⟨rfl, ho, hb⟩
  have HO : Hid (w1.ownsRow w.heap.size 5 1 (.slice (some ⟨w.heap.size, 0, none⟩) D.length D.length) D.length (vals D)) := ho
  clear ho
  go_wp2_with (at_make; refine wpList_make_own _ rfl _ _ 22 rfl (w1.heap.size + 1) 5 i0 (.int .u8 0) 1 Tryf.underlying22 hi hz0 hz1 .i64 .i64 _ (s.size + 1 + D.length) rfl rfl (by omega) (by rw [hz2]; omega) (by unfold maxLen; omega) (by simp) ?_)
  intro w2 hown hgrow
  have hb2 := (Below.refl (w1.heap.size + 1) _).grown hgrow (by simp) (fun k h => by simp at h)
  clear hgrow
  go_wp2_with fail
  go_loopw [9, 10] (fun v i wr => ∃ k : Nat, k ≤ s.size ∧ i = .int .i64 k ∧ wr.ownsRow (w1.heap.size + 1) 5 1 v k (vals ((bytesI s).take k)) ∧ Below (w1.heap.size + 1) (w1.alloc (.cells #[.int .u8 123, .int .u8 125, .int .u8 91, .int .u8 93] 40)) wr)
    (fun _ i _ => s.size - (intOf i).toNat)
  case atStart => exact ⟨0, Nat.zero_le _, rfl, hown, hb2⟩
  case round =>
    obtain ⟨k, hk, rfl, ho, hbr⟩ := hrel
    clear hown hb2
    by_cases hlt : k < s.size
    · have HL := ho.lt
      go_wp2_with (at_builtin; refine wpList_append_own _ rfl _ _ 22 rfl (w1.heap.size + 1) 5 i0 (.int .u8 0) 1 1 Tryf.underlying22 hi hz0 hz1 hz2 rfl (by decide) _ _ _ rfl (ho.alloc _) ⟨wr.heap.size, 0, none⟩ 1 1 [.int .u8 (s[k].toNat : Int)] rfl rfl ?c1 ?c2 ?c3 ?c4 ?c5 ?_)
      case c1 =>
        intro j u hj
        match j, hj with
        | 0, hj => simp at hj; subst hj; simp [Addr.add]
      case c2 => intro u hu; simp at hu; subst hu; rfl
      case c3 => unfold maxLen; omega
      case c4 => omega
      case c5 => have := hbr.size; simp at this; simp; omega
      intro v' w3 hown' hgrow' _
      have hs1 : w1.heap.size + 1 ≤ wr.heap.size := by have := hbr.size; simp at this; omega
      have hb3 := (hbr.alloc hs1 _).grown hgrow' (by simp; omega) (fun k h => (HL k h).1)
      clear ho hgrow' hbr
      go_wp2
      go_roundw
      case rel => exact ⟨k + 1, by omega, by go_num, by rw [vals_take s k hlt]; exact hown', hb3⟩
      case measure => simp [intOf]; omega
    · have hke : k = s.size := by omega
      subst hke
      have htk : (bytesI s).take s.size = bytesI s := List.take_of_length_le (by rw [bytesI_length]; exact Nat.le_refl _)
      rw [htk] at ho
      clear htk hlt
      have HL := ho.lt
      go_wp2_with (at_builtin; refine wpList_append_own _ rfl _ _ 22 rfl (w1.heap.size + 1) 5 i0 (.int .u8 0) 1 1 Tryf.underlying22 hi hz0 hz1 hz2 rfl (by decide) _ _ _ rfl (ho.alloc _) ⟨wr.heap.size, 0, none⟩ 1 1 [.int .u8 (br r)] rfl rfl ?c1 ?c2 ?c3 ?c4 ?c5 ?_)
      case c1 =>
        intro j u hj
        match j, hj with
        | 0, hj => simp at hj; subst hj; simp [Addr.add]
      case c2 => intro u hu; simp at hu; subst hu; rfl
      case c3 => unfold maxLen; omega
      case c4 => omega
      case c5 => have := hbr.size; simp at this; simp; omega
      intro v1 w3 ho1 hg1 _
      have hs1 : w1.heap.size + 1 ≤ wr.heap.size := by have := hbr.size; simp at this; omega
      have hb3 := (hbr.alloc hs1 _).grown hg1 (by simp; omega) (fun k h => (HL k h).1)
      have hs3 : w1.heap.size + 1 ≤ w3.heap.size := by have := hb3.size; simp at this; omega
      have hl1 : w.heap.size < w1.heap.size := ((HO.out).lt w.heap.size rfl).2
      have hcl : ∀ j u, (vals D)[j]? = some u → w3.cell? ((⟨w.heap.size, 0, none⟩ : Addr).add j) = some u := by
        intro j u hj
        have h1 := HO.out.cells (g := w.heap.size) rfl j u hj
        rw [hb3.cell (p := (⟨w.heap.size, 0, none⟩ : Addr).add j) (by rw [add_block]; omega)]
        exact (World.cell?_alloc_lt w1 _ _ (by rw [add_block]; omega)).trans h1
      clear ho hg1 hbr HL
      have HL := ho1.lt
      go_wp2_with (at_builtin; refine wpList_append_own _ rfl _ _ 22 rfl (w1.heap.size + 1) 5 i0 (.int .u8 0) 1 1 Tryf.underlying22 hi hz0 hz1 hz2 rfl (by decide) _ _ _ rfl ho1 ⟨w.heap.size, 0, none⟩ D.length D.length (vals D) rfl (by rw [vals_length]; omega) hcl (vals_one D) (by unfold maxLen; omega) (by omega) hs3 ?_)
      intro v2 w4 ho2 hg2 _
      have hb4 := hb3.grown hg2 hs3 (fun k h => (HL k h).1)
      clear hcl hg2 HL ho1 hb3
      have hs4 : w1.heap.size + 1 ≤ w4.heap.size := by have := hb4.size; simp at this; omega
      have hlen2 : (bytesI s ++ [br r] ++ D).length = s.size + 1 + D.length := by simp [bytesI_length]; omega
      have ho3 : w4.ownsRow (w1.heap.size + 1) 5 1 v2 (bytesI s ++ [br r] ++ D).length (vals (bytesI s ++ [br r] ++ D)) := by
        rw [hlen2]
        simpa [vals] using ho2
      obtain ⟨hk1, hk2, hk3⟩ := bracket_next (bytesI s) D (br r) hs (br_four r hr4)
      rw [bytesI_length] at hk2
      have hby2 : Bytes (bytesI s ++ [br r] ++ D) := by
        intro n hn
        simp only [List.mem_append, List.mem_singleton] at hn
        rcases hn with (hn | rfl) | hn
        · exact bytesI_bytes s n hn
        · have := br_four r hr4; omega
        · exact hby n hn
      have hbr4 : ∀ k, k < 4 → w4.cell? ⟨w1.heap.size, k, none⟩ = some (.int .u8 (br k)) := fun k hk => (hb4.cell (p := ⟨w1.heap.size, k, none⟩) (by simp)).trans (br_cell w1 k hk)
      have hF4 : F.answers w4.tape := by rw [hb4.tape]; show F.answers w1.tape; rw [hb.tape]; exact hF
      have hfin : Below w.heap.size w w4 := (hb.alloc (Nat.le_of_lt hl1) _).trans (hb4.mono (by omega))
      clear ho2
      obtain ⟨D2, hD2⟩ : ∃ D2, D2 = bytesI s ++ [br r] ++ D := ⟨_, rfl⟩
      rw [← hD2] at hk1 hk2 hk3 hby2 ho3 hlen2
      obtain ⟨g, cap2, rfl, hcap2, hg2, hdat⟩ := owned_text ho3 (by omega)
      have HP : Hid (nextPos D2 0 = s.size + 1) := hk2
      have HK : Hid (nextKind D2 0 = br r) := hk1
      have hD2l : D2.length ≤ 1048577 := by omega
      rw [show s.size + 1 + D.length = D2.length from hlen2.symm] at *
      clear hD2 ho3 hb4 HO hD hF hb hby hs hk1 hk2 hlen2
      go_wp2_with fail
      go_loopw [11] (fun i w5 => ∃ k : Nat, k ≤ 4 ∧ i = .int .i64 k ∧ Below w4.heap.size w4 w5) (fun i _ => 4 - (intOf i).toNat)
      case atStart => exact ⟨0, by omega, rfl, Below.refl _ _⟩
      case round =>
        obtain ⟨k, hk, rfl, hb5⟩ := hrel
        by_cases hk4 : k < 4
        · have hck := (hb5.cell (p := ⟨w1.heap.size, k, none⟩) hs4).trans (hbr4 k hk4)
          have hF5 : F.answers wr.tape := by rw [hb5.tape]; exact hF4
          have hd5 := hdat.below hb5
          have hg5 : ∀ b off, some (⟨g, 0, none⟩ : Addr) = some ⟨b, off, none⟩ → b < wr.heap.size := by
            intro b off he
            simp only [Option.some.injEq, Addr.mk.injEq, and_true] at he
            have := hb5.size
            omega
          cases hq : br k == br r with
          | true =>
            have hke := eq_of_beq hq
            have hz := zzdelim_yes (some ⟨g, 0, none⟩) cap2 D2 0 ⟨#[114, 101, 113, 117, 101, 115, 116]⟩ ⟨#[97, 32, 98, 114, 97, 99, 107, 101, 116]⟩ (br k) wr hd5 hg5 hby2 (by omega) hcap2 (Nat.zero_le _) hk3 (HK.out.trans hke.symm)
            rw [HP.out] at hz
            clear hd5 hg5 hdat hby2 hk3 HK HP hbr4 hke
            go_wp2_with fail
            refine (by exact hz : Calls _ _ _ _ _).mono ?_
            rintro e w6 ⟨rfl, hb6⟩
            clear hz
            go_wp2
            go_roundw
            case rel => exact ⟨k + 1, by omega, by go_num, hb5.trans (hb6.mono hb5.size)⟩
            case measure => simp [intOf]; omega
          | false =>
            have hke : (nextKind D2 0 != br k) = true := by rw [HK.out, bne_iff_ne]; intro e; rw [e] at hq; simp at hq
            have hz := zzdelim_no F (some ⟨g, 0, none⟩) cap2 D2 0 ⟨#[114, 101, 113, 117, 101, 115, 116]⟩ ⟨#[97, 32, 98, 114, 97, 99, 107, 101, 116]⟩ (br k) wr hF5 hd5 hg5 hby2 (by omega) hcap2 (Nat.zero_le _) hk3 hke
            rw [HP.out] at hz
            clear hd5 hg5 hdat hby2 hk3 HK HP hbr4 hke
            go_wp2_with fail
            refine (by exact hz : Calls _ _ _ _ _).mono ?_
            rintro e w6 ⟨⟨a, rfl⟩, hb6⟩
            clear hz
            go_wp2
            go_roundw
            case rel => exact ⟨k + 1, by omega, by go_num, hb5.trans (hb6.mono hb5.size)⟩
            case measure => simp [intOf]; omega
        · go_wp2
          go_ret
          exact ⟨rfl, hfin.trans (hb5.mono (by have := hfin.size; omega))⟩
end Go.Proofs.Qxb6001751aFmt
