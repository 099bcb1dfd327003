import Derived.Test.Qxb6001751aFmtZZstr
import Derived.Test.Qxb6001751aFmtLaw8w
namespace Go.Proofs.Qxb6001751aFmt
open Go.RowKit Tk Go.Extern.Stop Go.Stop Go.Extern

theorem guard21 (ao : Option Addr) (n cap : Nat) (p : Int) (w : World) (hn : n ≤ 9223372036854775807) :
    Calls Tryf.prog 21 #[.slice ao n cap, .int .i64 p] w fun e w' => e = .returned (.bool (decide (n ≤ 1048576))) ∧ w' = w := by
  by_cases h : n ≤ 1048576
  · have hd : decide (n ≤ 1048576) = true := by simpa using h
    rw [hd]
    go_enter Tryf.func21, Tryf.ntmps21
    go_wp2
    go_ret
    exact ⟨rfl, rfl⟩
  · have hd : decide (n ≤ 1048576) = false := by simpa using h
    rw [hd]
    go_enter Tryf.func21, Tryf.ntmps21
    go_wp2
    go_ret
    exact ⟨rfl, rfl⟩

theorem law6_long (ao : Option Addr) (n cap : Nat) (p : Int) (w : World) (hn : n ≤ 9223372036854775807) (h : 1048576 < n) :
    Calls Tryf.prog 6 #[.slice ao n cap, .int .i64 p] w fun e w' => e = .returned (.bool true) ∧ w' = w := by
  have hd : decide (n ≤ 1048576) = false := by simp; omega
  go_enter Tryf.func6, Tryf.ntmps6
  go_wp2_with (go_at_call 21; refine (guard21 _ _ _ _ _ hn).mono ?_; rintro e w' ⟨rfl, rfl⟩)
  go_ret
  exact ⟨rfl, rfl⟩

theorem law6_out (ao : Option Addr) (n cap : Nat) (p : Int) (w : World) (h : n ≤ 1048576) (hp : p < 0 ∨ (n : Int) < p) :
    Calls Tryf.prog 6 #[.slice ao n cap, .int .i64 p] w fun e w' => e = .returned (.bool true) ∧ w' = w := by
  have hd : decide (n ≤ 1048576) = true := by simpa using h
  go_enter Tryf.func6, Tryf.ntmps6
  go_wp2_with (first | (go_at_call 21; refine (guard21 _ _ _ _ _ (by omega)).mono ?_; rintro e w' ⟨rfl, rfl⟩) | (go_at_call 16; refine (read_out _ _ _ _ _ h hp).mono ?_; rintro e w' ⟨rfl, rfl⟩))
  go_ret
  exact ⟨rfl, rfl⟩

theorem law6_unread (ao : Option Addr) (cap : Nat) (D : List Int) (p : Nat) (w : World) (hD : Dat w ao D) (h : D.length ≤ 1048576) (hp : p ≤ D.length) (hr : readB D p = false) :
    Calls Tryf.prog 6 #[.slice ao D.length cap, .int .i64 p] w fun e w' => e = .returned (.bool true) ∧ w' = w := by
  have hd : decide (D.length ≤ 1048576) = true := by simpa using h
  go_enter Tryf.func6, Tryf.ntmps6
  go_wp2_with (first | (go_at_call 21; refine (guard21 _ _ _ _ _ (by omega)).mono ?_; rintro e w' ⟨rfl, rfl⟩) | (go_at_call 16; refine (read_any _ _ D p _ (by exact hD) (by omega) hp).mono ?_; rintro e w' ⟨rfl, rfl⟩))
  go_ret
  exact ⟨rfl, rfl⟩

/-- What a string's token is, in full. -/
theorem kind_str {D : List Int} {p : Nat} (hk : nextKind D p = 34) (hr : readB D p = true) :
    ∃ m, firstAt D p + 1 + m < D.length ∧ D.getD (firstAt D p) 0 = 34 ∧ D.getD (firstAt D p + 1 + m) 0 = 34 ∧ nextPos D p = firstAt D p + 1 + m + 1 := by
  have hne : ¬ firstAt D p = D.length := by
    intro e
    unfold nextKind at hk
    rw [if_pos e] at hk
    simp at hk
  have hc : D.getD (firstAt D p) 0 = 34 := by
    unfold nextKind at hk
    rw [if_neg hne] at hk
    generalize D.getD (firstAt D p) 0 = c at *
    unfold kindOf at hk
    split at hk
    · exact hk
    · omega
  have hs : (strEnd (D.drop (firstAt D p + 1))).isSome = true := by
    unfold readB at hr
    rw [if_neg hne] at hr
    unfold wholeB at hr
    rw [if_pos (by rw [hc]; rfl)] at hr
    exact hr
  obtain ⟨m, hm⟩ := Option.isSome_iff_exists.1 hs
  have hq := strEnd_quoteAt D m (firstAt D p + 1) hm
  refine ⟨m, hq.1, hc, hq.2, ?_⟩
  unfold nextPos
  rw [if_neg hne]
  exact endOf_str hc hm

theorem kind_not {D : List Int} {p : Nat} (hp : p ≤ D.length) (hk : (nextKind D p != 34) = true) : firstAt D p = D.length ∨ (firstAt D p < D.length ∧ (D.getD (firstAt D p) 0 == 34) = false) := by
  by_cases he : firstAt D p = D.length
  · exact .inl he
  · refine .inr ⟨by have := firstAt_le D p hp; omega, ?_⟩
    rw [bne_iff_ne] at hk
    rw [beq_eq_false_iff_ne]
    intro e
    apply hk
    unfold nextKind
    rw [if_neg he, e]
    rfl

set_option maxRecDepth 100000 in
set_option maxHeartbeats 1000000 in
theorem law6_y (F : Interp) (ao : Option Addr) (cap : Nat) (D : List Int) (p : Nat) (w : World) (hF : F.answers w.tape) (hC : Came w ao cap D) (hby : Bytes D) (h : D.length ≤ 1048576) (hp : p ≤ D.length) (hr : readB D p = true) (hk : nextKind D p = 34) :
    Calls Tryf.prog 6 #[.slice ao D.length cap, .int .i64 p] w fun e w' => e = .returned (.bool true) ∧ Below w.heap.size w w' := by
  have hd : decide (D.length ≤ 1048576) = true := by simpa using h
  have hd0 : decide ((1048576 : Int) < (D.length : Int)) = false := by simp; omega
  go_enter Tryf.func6, Tryf.ntmps6
  go_wp2_with (first | (go_at_call 21; refine (guard21 _ _ _ _ _ (by omega)).mono ?_; rintro e w' ⟨rfl, hw⟩; have hw2 := hw.symm; clear hw; subst hw2) | (go_at_call 16; refine (read_any _ _ D p _ (by exact hC.dat) (by omega) hp).mono ?_; rintro e w' ⟨rfl, hw⟩; have hw2 := hw.symm; clear hw; subst hw2))
  refine (clone_any ao cap D _ hC (by omega)).mono ?_
  rintro e w1 ⟨a1, cap1, rfl, hcap, hdat, hlt, hb⟩
  have hF1 : F.answers w1.tape := by rw [hb.tape]; exact hF
  clear hF hC
  go_wp2_with fail
  refine (zzstr_yes a1 cap1 D p ⟨#[114, 101, 113, 117, 101, 115, 116]⟩ w1 hdat hlt hby (by omega) hcap hp hr hk).mono ?_
  rintro e w2 ⟨rfl, hb2⟩
  have hF2 : F.answers w2.tape := by rw [hb2.tape]; exact hF1
  have hd2 := hdat.below hb2
  have hl2 : ∀ b off, a1 = some ⟨b, off, none⟩ → b < w2.heap.size := fun b off he => by have := hlt b off he; have := hb2.size; omega
  have hfin2 : Below w.heap.size w w2 := hb.trans (hb2.mono hb.size)
  clear hdat hlt hF1 hb hb2
  obtain ⟨m, hm1, hm2, hm3, hm4⟩ := kind_str hk hr
  obtain ⟨b, off, rfl, hcell⟩ := hd2.at (show firstAt D p < D.length by omega)
  have htx : nextText (some ⟨b, off, none⟩) cap1 D p = .slice (some ⟨b, off + firstAt D p, none⟩) (nextPos D p - firstAt D p) (cap1 - firstAt D p) := by
    unfold nextText
    rw [if_neg (by omega)]
  rw [htx, hm4, show firstAt D p + 1 + m + 1 - firstAt D p = m + 2 from by omega]
  have HM4 : Hid (nextPos D p = firstAt D p + 1 + m + 1) := hm4
  clear htx hm4
  go_wp2_with fail
  refine (zzdelim_yes _ cap1 D p ⟨#[114, 101, 113, 117, 101, 115, 116]⟩ ⟨#[97, 32, 115, 116, 114, 105, 110, 103]⟩ 34 w2 hd2 hl2 hby (by omega) hcap hp hr hk).mono ?_
  rintro e w3 ⟨rfl, hb3⟩
  rw [HM4.out]
  have hd3 := hd2.below hb3
  have hfin3 : Below w.heap.size w w3 := hfin2.trans (hb3.mono hfin2.size)
  have c0 := (hb3.cell (p := ⟨b, off + firstAt D p, none⟩) (hl2 b off rfl)).trans (hcell _ (by omega))
  have c1 := (hb3.cell (p := ⟨b, off + (firstAt D p + 1 + m), none⟩) (hl2 b off rfl)).trans (hcell _ hm1)
  rw [hm2] at c0
  rw [hm3] at c1
  clear hcell
  clear hd2 hl2 hfin2 hb3 hF2
  go_wp2_with fail
  refine (firstAt_any _ cap1 D p _ hd3 (by omega) hp).mono ?_
  rintro e w' ⟨rfl, hw⟩
  have hw2 := hw.symm
  clear hw
  subst hw2
  clear hm2 hm3 HM4 hd3 hby hr hk
  generalize firstAt D p = i at *
  have c1' : w3.cell? ⟨b, off + i + (m + 1), none⟩ = some (.int .u8 34) := by rw [show off + i + (m + 1) = off + (i + 1 + m) from by omega]; exact c1
  have hi : i < D.length := by omega
  clear c1
  go_wp2
  go_quiet (fail)
  go_wp2
  go_quiet (fail)
  go_wp2
  go_ret
  refine ⟨by simp; omega, ?_⟩
  repeat (first | apply below_drewN | apply Below.drew)
  exact hfin3

set_option maxRecDepth 100000 in
set_option maxHeartbeats 1000000 in
theorem law6_n (F : Interp) (ao : Option Addr) (cap : Nat) (D : List Int) (p : Nat) (w : World) (hF : F.answers w.tape) (hC : Came w ao cap D) (hby : Bytes D) (h : D.length ≤ 1048576) (hp : p ≤ D.length) (hr : readB D p = true) (hk : (nextKind D p != 34) = true) :
    Calls Tryf.prog 6 #[.slice ao D.length cap, .int .i64 p] w fun e w' => e = .returned (.bool true) ∧ Below w.heap.size w w' := by
  have hd : decide (D.length ≤ 1048576) = true := by simpa using h
  have hd0 : decide ((1048576 : Int) < (D.length : Int)) = false := by simp; omega
  go_enter Tryf.func6, Tryf.ntmps6
  go_wp2_with (first | (go_at_call 21; refine (guard21 _ _ _ _ _ (by omega)).mono ?_; rintro e w' ⟨rfl, hw⟩; have hw2 := hw.symm; clear hw; subst hw2) | (go_at_call 16; refine (read_any _ _ D p _ (by exact hC.dat) (by omega) hp).mono ?_; rintro e w' ⟨rfl, hw⟩; have hw2 := hw.symm; clear hw; subst hw2))
  refine (clone_any ao cap D _ hC (by omega)).mono ?_
  rintro e w1 ⟨a1, cap1, rfl, hcap, hdat, hlt, hb⟩
  have hF1 : F.answers w1.tape := by rw [hb.tape]; exact hF
  clear hF hC
  go_wp2_with fail
  refine (zzstr_no F a1 cap1 D p ⟨#[114, 101, 113, 117, 101, 115, 116]⟩ w1 hF1 hdat hlt hby (by omega) hcap hp hr hk).mono ?_
  rintro e w2 ⟨⟨x2, rfl⟩, hb2⟩
  have hF2 : F.answers w2.tape := by rw [hb2.tape]; exact hF1
  have hd2 := hdat.below hb2
  have hl2 : ∀ b off, a1 = some ⟨b, off, none⟩ → b < w2.heap.size := fun b off he => by have := hlt b off he; have := hb2.size; omega
  have hfin2 : Below w.heap.size w w2 := hb.trans (hb2.mono hb.size)
  clear hdat hlt hF1 hb hb2
  go_wp2_with fail
  refine (zzdelim_no F _ cap1 D p ⟨#[114, 101, 113, 117, 101, 115, 116]⟩ ⟨#[97, 32, 115, 116, 114, 105, 110, 103]⟩ 34 w2 hF2 hd2 hl2 hby (by omega) hcap hp hr hk).mono ?_
  rintro e w3 ⟨⟨x3, rfl⟩, hb3⟩
  have hd3 := hd2.below hb3
  have hfin3 : Below w.heap.size w w3 := hfin2.trans (hb3.mono hfin2.size)
  clear hd2 hl2 hfin2 hb3 hF2
  go_wp2_with fail
  refine (firstAt_any _ cap1 D p _ hd3 (by omega) hp).mono ?_
  rintro e w' ⟨rfl, hw⟩
  have hw2 := hw.symm
  clear hw
  subst hw2
  clear hby hr
  rcases kind_not hp hk with he | ⟨hi, hc⟩
  · rw [he]
    have hdl : decide ((D.length : Int) < (D.length : Int)) = false := by simp
    clear he hd3 hk
    go_wp2
    go_quiet (fail)
    go_wp2
    go_quiet (fail)
    go_wp2
    go_ret
    refine ⟨by simp, ?_⟩
    repeat (first | apply below_drewN | apply Below.drew)
    exact hfin3
  · obtain ⟨b, off, rfl, hcell⟩ := hd3.at hi
    have c0 := hcell _ hi
    generalize D.getD (firstAt D p) 0 = ch at *
    generalize firstAt D p = i at *
    clear hcell hd3 hk
    go_wp2
    go_quiet (fail)
    go_wp2
    go_quiet (fail)
    go_wp2
    go_ret
    refine ⟨by simp, ?_⟩
    repeat (first | apply below_drewN | apply Below.drew)
    exact hfin3

/-- The whole law: every slice, every place. -/
theorem law6_walk (F : Interp) (a : Option Addr) (len cap : Nat) (zs : List Int) (p : Int) (w : World) (hF : F.answers w.tape) (hz : IsRow .u8 w a len cap zs) (_hp : (Lit.int .i64 p).wf = true) :
    Calls Tryf.prog 6 #[.slice a len cap, .int .i64 p] w fun e w' => e = .returned (.bool true) ∧ Below w.heap.size w w' := by
  obtain ⟨hmax, D, rfl, hby, hcame⟩ := hz.came
  by_cases hlong : 1048576 < D.length
  · refine (law6_long a D.length cap p w hmax hlong).mono ?_
    rintro e w' ⟨rfl, rfl⟩
    exact ⟨rfl, Below.refl _ _⟩
  · by_cases hout : p < 0 ∨ (D.length : Int) < p
    · refine (law6_out a D.length cap p w (by omega) hout).mono ?_
      rintro e w' ⟨rfl, rfl⟩
      exact ⟨rfl, Below.refl _ _⟩
    · obtain ⟨q, rfl⟩ := Int.eq_ofNat_of_zero_le (show 0 ≤ p by omega)
      cases hr : readB D q with
      | false =>
        refine (law6_unread a cap D q w hcame.dat (by omega) (by omega) hr).mono ?_
        rintro e w' ⟨rfl, rfl⟩
        exact ⟨rfl, Below.refl _ _⟩
      | true =>
        cases h1 : nextKind D q == 34 with
        | true => exact law6_y F a cap D q w hF hcame hby (by omega) (by omega) hr (eq_of_beq h1)
        | false => exact law6_n F a cap D q w hF hcame hby (by omega) (by omega) hr (by rw [bne_iff_ne]; exact beq_eq_false_iff_ne.1 h1)

end Go.Proofs.Qxb6001751aFmt
