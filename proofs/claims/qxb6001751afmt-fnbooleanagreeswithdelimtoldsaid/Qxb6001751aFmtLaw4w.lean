import Derived.Test.Qxb6001751aFmtBool
import Derived.Test.Qxb6001751aFmtLaw8w
namespace Go.Proofs.Qxb6001751aFmt
open Go.RowKit Tk Go.Extern.Stop Go.Stop Go.Extern

theorem guard15 (ao : Option Addr) (n cap : Nat) (p : Int) (c : Bool) (w : World) (hn : n ≤ 9223372036854775807) :
    Calls Tryf.prog 15 #[.slice ao n cap, .int .i64 p, .bool c] w fun e w' => e = .returned (.bool (decide (n ≤ 1048576))) ∧ w' = w := by
  by_cases h : n ≤ 1048576
  · have hd : decide (n ≤ 1048576) = true := by simpa using h
    rw [hd]
    go_enter Tryf.func15, Tryf.ntmps15
    go_wp2
    go_ret
    exact ⟨rfl, rfl⟩
  · have hd : decide (n ≤ 1048576) = false := by simpa using h
    rw [hd]
    go_enter Tryf.func15, Tryf.ntmps15
    go_wp2
    go_ret
    exact ⟨rfl, rfl⟩

theorem law4_long (ao : Option Addr) (n cap : Nat) (p : Int) (c : Bool) (w : World) (hn : n ≤ 9223372036854775807) (h : 1048576 < n) :
    Calls Tryf.prog 4 #[.slice ao n cap, .int .i64 p, .bool c] w fun e w' => e = .returned (.bool true) ∧ w' = w := by
  have hd : decide (n ≤ 1048576) = false := by simp; omega
  go_enter Tryf.func4, Tryf.ntmps4
  go_wp2_with (go_at_call 15; refine (guard15 _ _ _ _ _ _ hn).mono ?_; rintro e w' ⟨rfl, rfl⟩)
  go_ret
  exact ⟨rfl, rfl⟩

theorem law4_out (ao : Option Addr) (n cap : Nat) (p : Int) (c : Bool) (w : World) (h : n ≤ 1048576) (hp : p < 0 ∨ (n : Int) < p) :
    Calls Tryf.prog 4 #[.slice ao n cap, .int .i64 p, .bool c] w fun e w' => e = .returned (.bool true) ∧ w' = w := by
  have hd : decide (n ≤ 1048576) = true := by simpa using h
  go_enter Tryf.func4, Tryf.ntmps4
  go_wp2_with (first | (go_at_call 15; refine (guard15 _ _ _ _ _ _ (by omega)).mono ?_; rintro e w' ⟨rfl, rfl⟩) | (go_at_call 16; refine (read_out _ _ _ _ _ h hp).mono ?_; rintro e w' ⟨rfl, rfl⟩))
  go_ret
  exact ⟨rfl, rfl⟩

theorem law4_unread (ao : Option Addr) (cap : Nat) (D : List Int) (p : Nat) (c : Bool) (w : World) (hD : Dat w ao D) (h : D.length ≤ 1048576) (hp : p ≤ D.length) (hr : readB D p = false) :
    Calls Tryf.prog 4 #[.slice ao D.length cap, .int .i64 p, .bool c] w fun e w' => e = .returned (.bool true) ∧ w' = w := by
  have hd : decide (D.length ≤ 1048576) = true := by simpa using h
  go_enter Tryf.func4, Tryf.ntmps4
  go_wp2_with (first | (go_at_call 15; refine (guard15 _ _ _ _ _ _ (by omega)).mono ?_; rintro e w' ⟨rfl, rfl⟩) | (go_at_call 16; refine (read_any _ _ D p _ (by exact hD) (by omega) hp).mono ?_; rintro e w' ⟨rfl, rfl⟩))
  go_ret
  exact ⟨rfl, rfl⟩

set_option maxRecDepth 100000 in
set_option maxHeartbeats 1000000 in
theorem law4_t (F : Interp) (ao : Option Addr) (cap : Nat) (D : List Int) (p : Nat) (c : Bool) (w : World) (hF : F.answers w.tape) (hC : Came w ao cap D) (hby : Bytes D) (h : D.length ≤ 1048576) (hp : p ≤ D.length) (hr : readB D p = true) (hk : nextKind D p = 116) :
    Calls Tryf.prog 4 #[.slice ao D.length cap, .int .i64 p, .bool c] w fun e w' => e = .returned (.bool true) ∧ Below w.heap.size w w' := by
  have hd : decide (D.length ≤ 1048576) = true := by simpa using h
  have hd0 : decide ((1048576 : Int) < (D.length : Int)) = false := by simp; omega
  go_enter Tryf.func4, Tryf.ntmps4
  go_wp2_with (first | (go_at_call 15; refine (guard15 _ _ _ _ _ _ (by omega)).mono ?_; rintro e w' ⟨rfl, hw⟩; have hw2 := hw.symm; clear hw; subst hw2) | (go_at_call 16; refine (read_any _ _ D p _ (by exact hC.dat) (by omega) hp).mono ?_; rintro e w' ⟨rfl, hw⟩; have hw2 := hw.symm; clear hw; subst hw2))
  refine (clone_any ao cap D _ hC (by omega)).mono ?_
  rintro e w1 ⟨a1, cap1, rfl, hcap, hdat, hlt, hb⟩
  have hF1 : F.answers w1.tape := by rw [hb.tape]; exact hF
  clear hF hC
  go_wp2_with fail
  have hb1 := (Below.refl w1.heap.size w1).alloc (Nat.le_refl _) (.cells #[.bool c] 4)
  have hs1 : (w1.alloc (.cells #[.bool c] 4)).heap.size = w1.heap.size + 1 := by simp
  have hf1 : (w1.alloc (.cells #[.bool c] 4)).tape = w1.tape := rfl
  have hcq : (w1.alloc (.cells #[.bool c] 4)).cell? ⟨w1.heap.size, 0, none⟩ = some (.bool c) := by simp
  have hcf : (w1.alloc (.cells #[.bool c] 4)).frozen? ⟨w1.heap.size, 0, none⟩ = false := by simp
  generalize w1.alloc (.cells #[.bool c] 4) = w2 at *
  have hfin : Below w.heap.size w w2 := hb.trans (hb1.mono hb.size)
  have hd2 := hdat.below hb1
  have hl2 : ∀ b off, a1 = some ⟨b, off, none⟩ → b < w1.heap.size := hlt
  have hl2' : ∀ b off, a1 = some ⟨b, off, none⟩ → b < w2.heap.size := fun b off he => by have := hlt b off he; omega
  have hF2 : F.answers w2.tape := by rw [hf1]; exact hF1
  have hq2 : w1.heap.size < w2.heap.size := by omega
  have hsz : w.heap.size ≤ w1.heap.size := hb.size
  clear hdat hlt hF1 hf1 hb1 hb hs1
  refine (zzboolean_yes w1.heap.size a1 cap1 D p ⟨#[114, 101, 113, 117, 101, 115, 116]⟩ w2 hd2 hl2' hby (by omega) hcap hp hr c hq2 hcq hcf (.inl hk)).mono ?_
  rintro e w3 ⟨rfl, hb3⟩
  rw [show (nextKind D p == 116) = true from by rw [hk]; rfl] at hb3
  have hq3 : w3.cell? ⟨w1.heap.size, 0, none⟩ = some (.bool true) := (hb3.cell (p := ⟨w1.heap.size, 0, none⟩) hq2).trans (World.cell?_setCell_same _ _ _ hcq)
  have hfin3 : Below w.heap.size w w3 := (hfin.setCell (p := ⟨w1.heap.size, 0, none⟩) hsz _).trans (hb3.mono hfin.size)
  have hF3 : F.answers w3.tape := by rw [hb3.tape]; exact hF2
  have hs3 : w2.heap.size ≤ w3.heap.size := by have := hb3.size; rw [World.size_setCell] at this; exact this
  have hd3 : Dat w3 a1 D := by
    rcases hd2 with hd2 | ⟨b, off, hao, hbl, hc⟩
    · exact .inl hd2
    · have hbq := hl2 b off hao
      refine .inr ⟨b, off, hao, by omega, fun i hi => ?_⟩
      rw [hb3.cell (p := ⟨b, off + i, none⟩) hbl, World.cell?_setCell_other _ _ _ _ (by intro e; simp only [Addr.mk.injEq] at e; omega)]
      exact hc i hi
  have hl3 : ∀ b off, a1 = some ⟨b, off, none⟩ → b < w3.heap.size := fun b off he => by have := hl2 b off he; omega
  have hq3s : w1.heap.size < w3.heap.size := by omega
  clear hb3 hfin hd2 hcq hcf hF2
  go_wp2_with fail
  refine (zzdelim_yes a1 cap1 D p ⟨#[114, 101, 113, 117, 101, 115, 116]⟩ ⟨#[116, 114, 117, 101]⟩ 116 w3 hd3 hl3 hby (by omega) hcap hp hr hk).mono ?_
  rintro e w4 ⟨rfl, hb4⟩
  have hq4 : w4.cell? ⟨w1.heap.size, 0, none⟩ = _ := (hb4.cell (p := ⟨w1.heap.size, 0, none⟩) hq3s).trans hq3
  have hfin4 : Below w.heap.size w w4 := hfin3.trans (hb4.mono hfin3.size)
  have hF4 : F.answers w4.tape := by rw [hb4.tape]; exact hF3
  have hd4 : Dat w4 a1 D := hd3.below hb4
  have hl4 : ∀ b off, a1 = some ⟨b, off, none⟩ → b < w4.heap.size := fun b off he => by have := hl3 b off he; have := hb4.size; omega
  have hq4s : w1.heap.size < w4.heap.size := by have := hb4.size; omega
  clear hb4 hfin3 hd3 hF3 hq3
  go_wp2_with fail
  refine (zzdelim_no F a1 cap1 D p ⟨#[114, 101, 113, 117, 101, 115, 116]⟩ ⟨#[102, 97, 108, 115, 101]⟩ 102 w4 hF4 hd4 hl4 hby (by omega) hcap hp hr (by rw [hk]; rfl)).mono ?_
  rintro e w5 ⟨⟨x5, rfl⟩, hb5⟩
  have hq5 : w5.cell? ⟨w1.heap.size, 0, none⟩ = _ := (hb5.cell (p := ⟨w1.heap.size, 0, none⟩) hq4s).trans hq4
  have hfin5 : Below w.heap.size w w5 := hfin4.trans (hb5.mono hfin4.size)
  clear hb5 hfin4 hd4 hF4 hq4 hby hr
  go_wp2
  go_quiet (fail)
  go_wp2
  go_quiet (fail)
  go_wp2
  go_ret
  refine ⟨by simp, ?_⟩
  repeat (first | apply below_drewN | apply Below.drew)
  exact hfin5

set_option maxRecDepth 100000 in
set_option maxHeartbeats 1000000 in
theorem law4_f (F : Interp) (ao : Option Addr) (cap : Nat) (D : List Int) (p : Nat) (c : Bool) (w : World) (hF : F.answers w.tape) (hC : Came w ao cap D) (hby : Bytes D) (h : D.length ≤ 1048576) (hp : p ≤ D.length) (hr : readB D p = true) (hk : nextKind D p = 102) :
    Calls Tryf.prog 4 #[.slice ao D.length cap, .int .i64 p, .bool c] w fun e w' => e = .returned (.bool true) ∧ Below w.heap.size w w' := by
  have hd : decide (D.length ≤ 1048576) = true := by simpa using h
  have hd0 : decide ((1048576 : Int) < (D.length : Int)) = false := by simp; omega
  go_enter Tryf.func4, Tryf.ntmps4
  go_wp2_with (first | (go_at_call 15; refine (guard15 _ _ _ _ _ _ (by omega)).mono ?_; rintro e w' ⟨rfl, hw⟩; have hw2 := hw.symm; clear hw; subst hw2) | (go_at_call 16; refine (read_any _ _ D p _ (by exact hC.dat) (by omega) hp).mono ?_; rintro e w' ⟨rfl, hw⟩; have hw2 := hw.symm; clear hw; subst hw2))
  refine (clone_any ao cap D _ hC (by omega)).mono ?_
  rintro e w1 ⟨a1, cap1, rfl, hcap, hdat, hlt, hb⟩
  have hF1 : F.answers w1.tape := by rw [hb.tape]; exact hF
  clear hF hC
  go_wp2_with fail
  have hb1 := (Below.refl w1.heap.size w1).alloc (Nat.le_refl _) (.cells #[.bool c] 4)
  have hs1 : (w1.alloc (.cells #[.bool c] 4)).heap.size = w1.heap.size + 1 := by simp
  have hf1 : (w1.alloc (.cells #[.bool c] 4)).tape = w1.tape := rfl
  have hcq : (w1.alloc (.cells #[.bool c] 4)).cell? ⟨w1.heap.size, 0, none⟩ = some (.bool c) := by simp
  have hcf : (w1.alloc (.cells #[.bool c] 4)).frozen? ⟨w1.heap.size, 0, none⟩ = false := by simp
  generalize w1.alloc (.cells #[.bool c] 4) = w2 at *
  have hfin : Below w.heap.size w w2 := hb.trans (hb1.mono hb.size)
  have hd2 := hdat.below hb1
  have hl2 : ∀ b off, a1 = some ⟨b, off, none⟩ → b < w1.heap.size := hlt
  have hl2' : ∀ b off, a1 = some ⟨b, off, none⟩ → b < w2.heap.size := fun b off he => by have := hlt b off he; omega
  have hF2 : F.answers w2.tape := by rw [hf1]; exact hF1
  have hq2 : w1.heap.size < w2.heap.size := by omega
  have hsz : w.heap.size ≤ w1.heap.size := hb.size
  clear hdat hlt hF1 hf1 hb1 hb hs1
  refine (zzboolean_yes w1.heap.size a1 cap1 D p ⟨#[114, 101, 113, 117, 101, 115, 116]⟩ w2 hd2 hl2' hby (by omega) hcap hp hr c hq2 hcq hcf (.inr hk)).mono ?_
  rintro e w3 ⟨rfl, hb3⟩
  rw [show (nextKind D p == 116) = false from by rw [hk]; rfl] at hb3
  have hq3 : w3.cell? ⟨w1.heap.size, 0, none⟩ = some (.bool false) := (hb3.cell (p := ⟨w1.heap.size, 0, none⟩) hq2).trans (World.cell?_setCell_same _ _ _ hcq)
  have hfin3 : Below w.heap.size w w3 := (hfin.setCell (p := ⟨w1.heap.size, 0, none⟩) hsz _).trans (hb3.mono hfin.size)
  have hF3 : F.answers w3.tape := by rw [hb3.tape]; exact hF2
  have hs3 : w2.heap.size ≤ w3.heap.size := by have := hb3.size; rw [World.size_setCell] at this; exact this
  have hd3 : Dat w3 a1 D := by
    rcases hd2 with hd2 | ⟨b, off, hao, hbl, hc⟩
    · exact .inl hd2
    · have hbq := hl2 b off hao
      refine .inr ⟨b, off, hao, by omega, fun i hi => ?_⟩
      rw [hb3.cell (p := ⟨b, off + i, none⟩) hbl, World.cell?_setCell_other _ _ _ _ (by intro e; simp only [Addr.mk.injEq] at e; omega)]
      exact hc i hi
  have hl3 : ∀ b off, a1 = some ⟨b, off, none⟩ → b < w3.heap.size := fun b off he => by have := hl2 b off he; omega
  have hq3s : w1.heap.size < w3.heap.size := by omega
  clear hb3 hfin hd2 hcq hcf hF2
  go_wp2_with fail
  refine (zzdelim_no F a1 cap1 D p ⟨#[114, 101, 113, 117, 101, 115, 116]⟩ ⟨#[116, 114, 117, 101]⟩ 116 w3 hF3 hd3 hl3 hby (by omega) hcap hp hr (by rw [hk]; rfl)).mono ?_
  rintro e w4 ⟨⟨x4, rfl⟩, hb4⟩
  have hq4 : w4.cell? ⟨w1.heap.size, 0, none⟩ = _ := (hb4.cell (p := ⟨w1.heap.size, 0, none⟩) hq3s).trans hq3
  have hfin4 : Below w.heap.size w w4 := hfin3.trans (hb4.mono hfin3.size)
  have hF4 : F.answers w4.tape := by rw [hb4.tape]; exact hF3
  have hd4 : Dat w4 a1 D := hd3.below hb4
  have hl4 : ∀ b off, a1 = some ⟨b, off, none⟩ → b < w4.heap.size := fun b off he => by have := hl3 b off he; have := hb4.size; omega
  have hq4s : w1.heap.size < w4.heap.size := by have := hb4.size; omega
  clear hb4 hfin3 hd3 hF3 hq3
  go_wp2_with fail
  refine (zzdelim_yes a1 cap1 D p ⟨#[114, 101, 113, 117, 101, 115, 116]⟩ ⟨#[102, 97, 108, 115, 101]⟩ 102 w4 hd4 hl4 hby (by omega) hcap hp hr hk).mono ?_
  rintro e w5 ⟨rfl, hb5⟩
  have hq5 : w5.cell? ⟨w1.heap.size, 0, none⟩ = _ := (hb5.cell (p := ⟨w1.heap.size, 0, none⟩) hq4s).trans hq4
  have hfin5 : Below w.heap.size w w5 := hfin4.trans (hb5.mono hfin4.size)
  clear hb5 hfin4 hd4 hF4 hq4 hby hr
  go_wp2
  go_quiet (fail)
  go_wp2
  go_quiet (fail)
  go_wp2
  go_ret
  refine ⟨by simp, ?_⟩
  repeat (first | apply below_drewN | apply Below.drew)
  exact hfin5

set_option maxRecDepth 100000 in
set_option maxHeartbeats 1000000 in
theorem law4_n (F : Interp) (ao : Option Addr) (cap : Nat) (D : List Int) (p : Nat) (c : Bool) (w : World) (hF : F.answers w.tape) (hC : Came w ao cap D) (hby : Bytes D) (h : D.length ≤ 1048576) (hp : p ≤ D.length) (hr : readB D p = true) (hk1 : (nextKind D p == 116) = false) (hk2 : (nextKind D p == 102) = false) :
    Calls Tryf.prog 4 #[.slice ao D.length cap, .int .i64 p, .bool c] w fun e w' => e = .returned (.bool true) ∧ Below w.heap.size w w' := by
  have hd : decide (D.length ≤ 1048576) = true := by simpa using h
  have hd0 : decide ((1048576 : Int) < (D.length : Int)) = false := by simp; omega
  go_enter Tryf.func4, Tryf.ntmps4
  go_wp2_with (first | (go_at_call 15; refine (guard15 _ _ _ _ _ _ (by omega)).mono ?_; rintro e w' ⟨rfl, hw⟩; have hw2 := hw.symm; clear hw; subst hw2) | (go_at_call 16; refine (read_any _ _ D p _ (by exact hC.dat) (by omega) hp).mono ?_; rintro e w' ⟨rfl, hw⟩; have hw2 := hw.symm; clear hw; subst hw2))
  refine (clone_any ao cap D _ hC (by omega)).mono ?_
  rintro e w1 ⟨a1, cap1, rfl, hcap, hdat, hlt, hb⟩
  have hF1 : F.answers w1.tape := by rw [hb.tape]; exact hF
  clear hF hC
  go_wp2_with fail
  have hb1 := (Below.refl w1.heap.size w1).alloc (Nat.le_refl _) (.cells #[.bool c] 4)
  have hs1 : (w1.alloc (.cells #[.bool c] 4)).heap.size = w1.heap.size + 1 := by simp
  have hf1 : (w1.alloc (.cells #[.bool c] 4)).tape = w1.tape := rfl
  have hcq : (w1.alloc (.cells #[.bool c] 4)).cell? ⟨w1.heap.size, 0, none⟩ = some (.bool c) := by simp
  have hcf : (w1.alloc (.cells #[.bool c] 4)).frozen? ⟨w1.heap.size, 0, none⟩ = false := by simp
  generalize w1.alloc (.cells #[.bool c] 4) = w2 at *
  have hfin : Below w.heap.size w w2 := hb.trans (hb1.mono hb.size)
  have hd2 := hdat.below hb1
  have hl2 : ∀ b off, a1 = some ⟨b, off, none⟩ → b < w1.heap.size := hlt
  have hl2' : ∀ b off, a1 = some ⟨b, off, none⟩ → b < w2.heap.size := fun b off he => by have := hlt b off he; omega
  have hF2 : F.answers w2.tape := by rw [hf1]; exact hF1
  have hq2 : w1.heap.size < w2.heap.size := by omega
  have hsz : w.heap.size ≤ w1.heap.size := hb.size
  clear hdat hlt hF1 hf1 hb1 hb hs1
  refine (zzboolean_no F (some ⟨w1.heap.size, 0, none⟩) a1 cap1 D p ⟨#[114, 101, 113, 117, 101, 115, 116]⟩ w2 hF2 hd2 hl2' hby (by omega) hcap hp hr hk1 hk2).mono ?_
  rintro e w3 ⟨⟨x3, rfl⟩, hb3⟩
  have hq3 : w3.cell? ⟨w1.heap.size, 0, none⟩ = some (.bool c) := (hb3.cell (p := ⟨w1.heap.size, 0, none⟩) hq2).trans hcq
  have hfin3 : Below w.heap.size w w3 := hfin.trans (hb3.mono hfin.size)
  have hF3 : F.answers w3.tape := by rw [hb3.tape]; exact hF2
  have hs3 : w2.heap.size ≤ w3.heap.size := hb3.size
  have hd3 : Dat w3 a1 D := hd2.below hb3
  have hl3 : ∀ b off, a1 = some ⟨b, off, none⟩ → b < w3.heap.size := fun b off he => by have := hl2 b off he; omega
  have hq3s : w1.heap.size < w3.heap.size := by omega
  clear hb3 hfin hd2 hcq hcf hF2
  go_wp2_with fail
  refine (zzdelim_no F a1 cap1 D p ⟨#[114, 101, 113, 117, 101, 115, 116]⟩ ⟨#[116, 114, 117, 101]⟩ 116 w3 hF3 hd3 hl3 hby (by omega) hcap hp hr (by rw [bne_iff_ne]; exact beq_eq_false_iff_ne.1 hk1)).mono ?_
  rintro e w4 ⟨⟨x4, rfl⟩, hb4⟩
  have hq4 : w4.cell? ⟨w1.heap.size, 0, none⟩ = _ := (hb4.cell (p := ⟨w1.heap.size, 0, none⟩) hq3s).trans hq3
  have hfin4 : Below w.heap.size w w4 := hfin3.trans (hb4.mono hfin3.size)
  have hF4 : F.answers w4.tape := by rw [hb4.tape]; exact hF3
  have hd4 : Dat w4 a1 D := hd3.below hb4
  have hl4 : ∀ b off, a1 = some ⟨b, off, none⟩ → b < w4.heap.size := fun b off he => by have := hl3 b off he; have := hb4.size; omega
  have hq4s : w1.heap.size < w4.heap.size := by have := hb4.size; omega
  clear hb4 hfin3 hd3 hF3 hq3
  go_wp2_with fail
  refine (zzdelim_no F a1 cap1 D p ⟨#[114, 101, 113, 117, 101, 115, 116]⟩ ⟨#[102, 97, 108, 115, 101]⟩ 102 w4 hF4 hd4 hl4 hby (by omega) hcap hp hr (by rw [bne_iff_ne]; exact beq_eq_false_iff_ne.1 hk2)).mono ?_
  rintro e w5 ⟨⟨x5, rfl⟩, hb5⟩
  have hq5 : w5.cell? ⟨w1.heap.size, 0, none⟩ = _ := (hb5.cell (p := ⟨w1.heap.size, 0, none⟩) hq4s).trans hq4
  have hfin5 : Below w.heap.size w w5 := hfin4.trans (hb5.mono hfin4.size)
  clear hb5 hfin4 hd4 hF4 hq4 hby hr
  go_wp2
  go_quiet (fail)
  go_wp2
  go_ret
  refine ⟨by simp, ?_⟩
  repeat (first | apply below_drewN | apply Below.drew)
  exact hfin5


/-- The whole law: every slice, every place, every bool. -/
theorem law4_walk (F : Interp) (a : Option Addr) (len cap : Nat) (zs : List Int) (p : Int) (c : Bool) (w : World) (hF : F.answers w.tape) (hz : IsRow .u8 w a len cap zs) (_hp : (Lit.int .i64 p).wf = true) :
    Calls Tryf.prog 4 #[.slice a len cap, .int .i64 p, .bool c] w fun e w' => e = .returned (.bool true) ∧ Below w.heap.size w w' := by
  obtain ⟨hmax, D, rfl, hby, hcame⟩ := hz.came
  by_cases hlong : 1048576 < D.length
  · refine (law4_long a D.length cap p c w hmax hlong).mono ?_
    rintro e w' ⟨rfl, rfl⟩
    exact ⟨rfl, Below.refl _ _⟩
  · by_cases hout : p < 0 ∨ (D.length : Int) < p
    · refine (law4_out a D.length cap p c w (by omega) hout).mono ?_
      rintro e w' ⟨rfl, rfl⟩
      exact ⟨rfl, Below.refl _ _⟩
    · obtain ⟨q, rfl⟩ := Int.eq_ofNat_of_zero_le (show 0 ≤ p by omega)
      cases hr : readB D q with
      | false =>
        refine (law4_unread a cap D q c w hcame.dat (by omega) (by omega) hr).mono ?_
        rintro e w' ⟨rfl, rfl⟩
        exact ⟨rfl, Below.refl _ _⟩
      | true =>
        cases h1 : nextKind D q == 116 with
        | true => exact law4_t F a cap D q c w hF hcame hby (by omega) (by omega) hr (eq_of_beq h1)
        | false =>
          cases h2 : nextKind D q == 102 with
          | true => exact law4_f F a cap D q c w hF hcame hby (by omega) (by omega) hr (eq_of_beq h2)
          | false => exact law4_n F a cap D q c w hF hcame hby (by omega) (by omega) hr h1 h2

end Go.Proofs.Qxb6001751aFmt
