import Derived.Test.Qxb6001751aFmtRead
import Derived.Test.Qxb6001751aFmtClone
import Derived.Test.Qxb6001751aFmtZZdelim
namespace Go.Proofs.Qxb6001751aFmt
open Go.RowKit Tk Go.Extern.Stop Go.Stop Go.Extern

/-- A slice of bytes as it came in: nil, or a text. -/
def Came (w : World) (ao : Option Addr) (cap : Nat) (D : List Int) : Prop := (ao = none ∧ D = [] ∧ cap = 0) ∨ ∃ x, ao = some x ∧ Dat w (some x) D

theorem Came.dat {w : World} {ao : Option Addr} {cap : Nat} {D : List Int} (h : Came w ao cap D) : Dat w ao D := by
  rcases h with ⟨_, h, _⟩ | ⟨x, rfl, h⟩
  · exact .inl h
  · exact h

/-- The copy, whatever came in. -/
theorem clone_any (ao : Option Addr) (cap : Nat) (D : List Int) (w : World) (h : Came w ao cap D) (hlen : D.length ≤ 2097152) :
    Calls Tryf.prog 13 #[.slice ao D.length cap] w fun e w' => ∃ ao' cap', e = .returned (.slice ao' D.length cap') ∧ D.length ≤ cap' ∧ Dat w' ao' D ∧ (∀ b off, ao' = some ⟨b, off, none⟩ → b < w'.heap.size) ∧ Below w.heap.size w w' := by
  rcases h with ⟨rfl, rfl, rfl⟩ | ⟨x, rfl, hd⟩
  · refine (clone_nil w).mono ?_
    rintro e w' ⟨rfl, rfl⟩
    exact ⟨none, 0, rfl, Nat.le_refl _, .inl rfl, fun b off h => by simp at h, Below.refl _ _⟩
  · refine (clone_some x cap D w hd hlen).mono ?_
    rintro e w' ⟨rfl, ho, hb⟩
    have hlt := (ho.lt w.heap.size rfl).2
    refine ⟨some ⟨w.heap.size, 0, none⟩, D.length, rfl, Nat.le_refl _, .inr ⟨w.heap.size, 0, rfl, hlt, fun i hi => ?_⟩, fun b off h => ?_, hb⟩
    · rw [Nat.zero_add, ho.cellAt i (by omega)]
      simp [List.getD, List.getElem?_eq_getElem hi]
    · simp only [Option.some.injEq, Addr.mk.injEq, and_true] at h
      omega

theorem guard24 (ao : Option Addr) (n cap : Nat) (p c : Int) (w : World) (hn : n ≤ 9223372036854775807) :
    Calls Tryf.prog 24 #[.slice ao n cap, .int .i64 p, .int .u8 c] w fun e w' => e = .returned (.bool (decide (n ≤ 1048576))) ∧ w' = w := by
  by_cases h : n ≤ 1048576
  · have hd : decide (n ≤ 1048576) = true := by simpa using h
    rw [hd]
    go_enter Tryf.func24, Tryf.ntmps24
    go_wp2
    go_ret
    exact ⟨rfl, rfl⟩
  · have hd : decide (n ≤ 1048576) = false := by simpa using h
    rw [hd]
    go_enter Tryf.func24, Tryf.ntmps24
    go_wp2
    go_ret
    exact ⟨rfl, rfl⟩

/-- The ten kinds. -/
def kd (k : Nat) : Int := [123, 125, 91, 93, 34, 116, 102, 110, 48, 0].getD k 0
/-- How many of the first k kinds are K. -/
def acc (K : Int) : Nat → Nat
  | 0 => 0
  | k + 1 => acc K k + if kd k == K then 1 else 0
/-- Is c among the first k kinds? -/
def ins (c : Int) : Nat → Bool
  | 0 => false
  | k + 1 => ins c k || kd k == c

theorem acc_le (K : Int) : ∀ k, acc K k ≤ k
  | 0 => Nat.le_refl _
  | k + 1 => by
    have := acc_le K k
    unfold acc
    split <;> omega

theorem kind_among (D : List Int) (p : Nat) : nextKind D p = 123 ∨ nextKind D p = 125 ∨ nextKind D p = 91 ∨ nextKind D p = 93 ∨ nextKind D p = 34 ∨ nextKind D p = 116 ∨ nextKind D p = 102 ∨ nextKind D p = 110 ∨ nextKind D p = 48 ∨ nextKind D p = 0 := by
  unfold nextKind
  split
  · simp
  · generalize D.getD (firstAt D p) 0 = c
    unfold kindOf
    split
    · rename_i h
      simp at h
      omega
    · simp

theorem acc_one (D : List Int) (p : Nat) : acc (nextKind D p) 10 = 1 := by
  rcases kind_among D p with h | h | h | h | h | h | h | h | h | h <;> rw [h] <;> decide

theorem ins_no (D : List Int) (p : Nat) (c : Int) (h : ins c 10 = false) : (nextKind D p != c) = true := by
  rw [bne_iff_ne]
  intro e
  rw [← e] at h
  rcases kind_among D p with g | g | g | g | g | g | g | g | g | g <;> rw [g] at h <;> exact absurd h (by decide)

theorem kd_cell (w : World) (k : Nat) (h : k < 10) : (w.alloc (.cells #[.int .u8 123, .int .u8 125, .int .u8 91, .int .u8 93, .int .u8 34, .int .u8 116, .int .u8 102, .int .u8 110, .int .u8 48, .int .u8 0] 42)).cell? ⟨w.heap.size, k, none⟩ = some (.int .u8 (kd k)) := by
  rw [World.cell?_alloc_new]
  match k, h with
  | 0, _ => rfl
  | 1, _ => rfl
  | 2, _ => rfl
  | 3, _ => rfl
  | 4, _ => rfl
  | 5, _ => rfl
  | 6, _ => rfl
  | 7, _ => rfl
  | 8, _ => rfl
  | 9, _ => rfl

/-- The first place that was read: none yet, or P. -/
def firstV (P k : Nat) : Nat := if k = 0 then 0 else P

theorem firstV_succ (P k : Nat) : Value.int .i64 (P : Nat) = .int .i64 (firstV P (k + 1) : Nat) := by
  unfold firstV
  rw [if_neg (by omega)]

theorem acc_yes {K : Int} {A k : Nat} (hA : A = acc K k) (hK : K = kd k) : Value.int .i64 ((A : Int) + 1) = .int .i64 (acc K (k + 1) : Nat) := by
  have e : acc K (k + 1) = A + 1 := by rw [hA]; show acc K k + _ = _; rw [if_pos (by rw [hK]; simp)]
  rw [e]
  rfl

theorem acc_no {K : Int} {A k : Nat} (hA : A = acc K k) (hK : (K != kd k) = true) : Value.int .i64 (A : Int) = .int .i64 (acc K (k + 1) : Nat) := by
  have e : acc K (k + 1) = A := by
    rw [hA]
    show acc K k + _ = _
    rw [if_neg (by rw [bne_iff_ne] at hK; rw [beq_iff_eq]; exact fun e => hK e.symm)]
    rfl
  rw [e]

theorem ins_yes {c : Int} {B : Bool} {k : Nat} (_hB : B = ins c k) (h : (kd k == c) = true) : Value.bool true = .bool (ins c (k + 1)) := by
  have e : ins c (k + 1) = true := by show (ins c k || kd k == c) = true; rw [h]; simp
  rw [e]

theorem ins_same {c : Int} {B : Bool} {k : Nat} (hB : B = ins c k) (h : (kd k == c) = false) : Value.bool B = .bool (ins c (k + 1)) := by
  have e : ins c (k + 1) = B := by show (ins c k || kd k == c) = B; rw [h, hB]; simp
  rw [e]

theorem law8_long (ao : Option Addr) (n cap : Nat) (p c : Int) (w : World) (hn : n ≤ 9223372036854775807) (h : 1048576 < n) :
    Calls Tryf.prog 8 #[.slice ao n cap, .int .i64 p, .int .u8 c] w fun e w' => e = .returned (.bool true) ∧ w' = w := by
  have hd : decide (n ≤ 1048576) = false := by simp; omega
  go_enter Tryf.func8, Tryf.ntmps8
  go_wp2_with (go_at_call 24; refine (guard24 _ _ _ _ _ _ hn).mono ?_; rintro e w' ⟨rfl, rfl⟩)
  go_ret
  exact ⟨rfl, rfl⟩

theorem law8_out (ao : Option Addr) (n cap : Nat) (p c : Int) (w : World) (h : n ≤ 1048576) (hp : p < 0 ∨ (n : Int) < p) :
    Calls Tryf.prog 8 #[.slice ao n cap, .int .i64 p, .int .u8 c] w fun e w' => e = .returned (.bool true) ∧ w' = w := by
  have hd : decide (n ≤ 1048576) = true := by simpa using h
  go_enter Tryf.func8, Tryf.ntmps8
  go_wp2_with (first | (go_at_call 24; refine (guard24 _ _ _ _ _ _ (by omega)).mono ?_; rintro e w' ⟨rfl, rfl⟩) | (go_at_call 16; refine (read_out _ _ _ _ _ h hp).mono ?_; rintro e w' ⟨rfl, rfl⟩))
  go_ret
  exact ⟨rfl, rfl⟩

theorem law8_unread (ao : Option Addr) (cap : Nat) (D : List Int) (p : Nat) (c : Int) (w : World) (hD : Dat w ao D) (h : D.length ≤ 1048576) (hp : p ≤ D.length) (hr : readB D p = false) :
    Calls Tryf.prog 8 #[.slice ao D.length cap, .int .i64 p, .int .u8 c] w fun e w' => e = .returned (.bool true) ∧ w' = w := by
  have hd : decide (D.length ≤ 1048576) = true := by simpa using h
  go_enter Tryf.func8, Tryf.ntmps8
  go_wp2_with (first | (go_at_call 24; refine (guard24 _ _ _ _ _ _ (by omega)).mono ?_; rintro e w' ⟨rfl, rfl⟩) | (go_at_call 16; refine (read_any _ _ D p _ (by exact hD) (by omega) hp).mono ?_; rintro e w' ⟨rfl, rfl⟩))
  go_ret
  exact ⟨rfl, rfl⟩

set_option maxRecDepth 100000 in
set_option maxHeartbeats 1000000 in
theorem law8_main (F : Interp) (ao : Option Addr) (cap : Nat) (D : List Int) (p : Nat) (c : Int) (w : World) (hF : F.answers w.tape) (hC : Came w ao cap D) (hby : Bytes D) (h : D.length ≤ 1048576) (hp : p ≤ D.length) (hr : readB D p = true) :
    Calls Tryf.prog 8 #[.slice ao D.length cap, .int .i64 p, .int .u8 c] w fun e w' => e = .returned (.bool true) ∧ Below w.heap.size w w' := by
  have hd : decide (D.length ≤ 1048576) = true := by simpa using h
  have hd0 : decide ((1048576 : Int) < (D.length : Int)) = false := by simp; omega
  go_enter Tryf.func8, Tryf.ntmps8
  go_wp2_with (first | (go_at_call 24; refine (guard24 _ _ _ _ _ _ (by omega)).mono ?_; rintro e w' ⟨rfl, hw⟩; have hw2 := hw.symm; clear hw; subst hw2) | (go_at_call 16; refine (read_any _ _ D p _ (by exact hC.dat) (by omega) hp).mono ?_; rintro e w' ⟨rfl, hw⟩; have hw2 := hw.symm; clear hw; subst hw2))
  refine (clone_any ao cap D _ hC (by omega)).mono ?_
  rintro e w1 ⟨a1, cap1, rfl, hcap, hdat, hlt, hb⟩
  have hF1 : F.answers w1.tape := by rw [hb.tape]; exact hF
  clear hF hC
  go_wp2_with fail
  have hkc := fun k hk => kd_cell w1 k hk
  have hb1 := (Below.refl w1.heap.size w1).alloc (Nat.le_refl _) (.cells #[.int .u8 123, .int .u8 125, .int .u8 91, .int .u8 93, .int .u8 34, .int .u8 116, .int .u8 102, .int .u8 110, .int .u8 48, .int .u8 0] 42)
  have hs1 : (w1.alloc (.cells #[.int .u8 123, .int .u8 125, .int .u8 91, .int .u8 93, .int .u8 34, .int .u8 116, .int .u8 102, .int .u8 110, .int .u8 48, .int .u8 0] 42)).heap.size = w1.heap.size + 1 := by simp
  have hf1 : (w1.alloc (.cells #[.int .u8 123, .int .u8 125, .int .u8 91, .int .u8 93, .int .u8 34, .int .u8 116, .int .u8 102, .int .u8 110, .int .u8 48, .int .u8 0] 42)).tape = w1.tape := rfl
  generalize w1.alloc (.cells #[.int .u8 123, .int .u8 125, .int .u8 91, .int .u8 93, .int .u8 34, .int .u8 116, .int .u8 102, .int .u8 110, .int .u8 48, .int .u8 0] 42) = w2 at *
  have hfin : Below w.heap.size w w2 := hb.trans (hb1.mono hb.size)
  have hd2 := hdat.below hb1
  have hl2 : ∀ b off, a1 = some ⟨b, off, none⟩ → b < w2.heap.size := fun b off he => by have := hlt b off he; omega
  have hF2 : F.answers w2.tape := by rw [hf1]; exact hF1
  clear hdat hlt hF1 hf1 hb1 hb hd hd0
  have HKC : Hid (∀ k, k < 10 → w2.cell? ⟨w1.heap.size, k, none⟩ = some (.int .u8 (kd k))) := hkc
  have hlt2 : w1.heap.size < w2.heap.size := by omega
  clear hkc hs1
  go_loopw [8, 9, 10, 11] (fun f n b i w5 => ∃ k : Nat, k ≤ 10 ∧ f = .int .i64 (firstV (nextPos D p) k : Nat) ∧ n = .int .i64 (acc (nextKind D p) k : Nat) ∧ b = .bool (ins c k) ∧ i = .int .i64 k ∧ Below w2.heap.size w2 w5) (fun _ _ _ i _ => 10 - (intOf i).toNat)
  case atStart => exact ⟨0, by omega, rfl, rfl, rfl, rfl, Below.refl _ _⟩
  case round =>
    obtain ⟨k, hk, rfl, rfl, rfl, rfl, hb5⟩ := hrel
    by_cases hk10 : k < 10
    · have hck := (hb5.cell (p := ⟨w1.heap.size, k, none⟩) hlt2).trans (HKC.out k hk10)
      have hF5 : F.answers wr.tape := by rw [hb5.tape]; exact hF2
      have hd5 := hd2.below hb5
      have hl5 : ∀ b off, a1 = some ⟨b, off, none⟩ → b < wr.heap.size := fun b off he => by have := hl2 b off he; have := hb5.size; omega
      have hacl := acc_le (nextKind D p) k
      obtain ⟨A, hA⟩ : ∃ A, A = acc (nextKind D p) k := ⟨_, rfl⟩
      obtain ⟨B, hB⟩ : ∃ B, B = ins c k := ⟨_, rfl⟩
      rw [← hA] at hacl
      rw [← hA, ← hB]
      have HA : Hid (A = acc (nextKind D p) k) := hA
      have HB : Hid (B = ins c k) := hB
      clear hA hB
      have hz : Calls Tryf.prog 17 #[.slice a1 D.length cap1, .int .i64 p, .string ⟨#[114, 101, 113, 117, 101, 115, 116]⟩, .int .u8 (kd k), .string ⟨#[105, 116]⟩] wr fun e w' =>
          ∃ er, e = .returned (.tuple #[.int .i64 (nextPos D p), er]) ∧ ((er = .nilIface ∧ nextKind D p = kd k) ∨ (∃ x, er = .iface 79 (.pointer (some x)) ∧ (nextKind D p != kd k) = true)) ∧ Below wr.heap.size wr w' := by
        cases hq : nextKind D p == kd k with
        | true =>
          refine (zzdelim_yes a1 cap1 D p _ _ (kd k) wr hd5 hl5 hby (by omega) hcap hp hr (eq_of_beq hq)).mono ?_
          rintro e w' ⟨rfl, hb6⟩
          exact ⟨_, rfl, .inl ⟨rfl, eq_of_beq hq⟩, hb6⟩
        | false =>
          have hne : (nextKind D p != kd k) = true := by rw [bne_iff_ne]; exact beq_eq_false_iff_ne.1 hq
          refine (zzdelim_no F a1 cap1 D p _ _ (kd k) wr hF5 hd5 hl5 hby (by omega) hcap hp hr hne).mono ?_
          rintro e w' ⟨⟨x, rfl⟩, hb6⟩
          exact ⟨_, rfl, .inr ⟨x, rfl, hne⟩, hb6⟩
      clear hd5 hl5 hF5 hd2 hl2 hby hr
      by_cases hk0 : k = 0
      · have hfv : firstV (nextPos D p) k = 0 := by unfold firstV; rw [if_pos hk0]
        rw [hfv]
        have hkb : ((k : Int) == 0) = true := beq_iff_eq.2 (by omega)
        have HK0 : Hid (k = 0) := hk0
        clear hfv hk0
        cases hkc : kd k == c with
        | true =>
          have HKC : Hid ((kd k == c) = true) := hkc
          go_wp2_with fail
          refine (by exact hz : Calls _ _ _ _ _).mono ?_
          rintro e w6 ⟨er, rfl, her, hb6⟩
          clear hz
          rcases her with ⟨rfl, heq⟩ | ⟨x, rfl, hneq⟩
          · have HQ : Hid (nextKind D p = kd k) := heq
            clear heq
            go_wp2
            go_roundw
            case rel => exact ⟨k + 1, by omega, firstV_succ _ _, acc_yes HA.out HQ.out, ins_yes HB.out HKC.out, by go_num, hb5.trans (hb6.mono hb5.size)⟩
            case measure => simp [intOf]; omega
          · have HQ : Hid ((nextKind D p != kd k) = true) := hneq
            clear hneq
            go_wp2
            go_roundw
            case rel => exact ⟨k + 1, by omega, firstV_succ _ _, acc_no HA.out HQ.out, ins_yes HB.out HKC.out, by go_num, hb5.trans (hb6.mono hb5.size)⟩
            case measure => simp [intOf]; omega
        | false =>
          have HKC : Hid ((kd k == c) = false) := hkc
          go_wp2_with fail
          refine (by exact hz : Calls _ _ _ _ _).mono ?_
          rintro e w6 ⟨er, rfl, her, hb6⟩
          clear hz
          rcases her with ⟨rfl, heq⟩ | ⟨x, rfl, hneq⟩
          · have HQ : Hid (nextKind D p = kd k) := heq
            clear heq
            go_wp2
            go_roundw
            case rel => exact ⟨k + 1, by omega, firstV_succ _ _, acc_yes HA.out HQ.out, ins_same HB.out HKC.out, by go_num, hb5.trans (hb6.mono hb5.size)⟩
            case measure => simp [intOf]; omega
          · have HQ : Hid ((nextKind D p != kd k) = true) := hneq
            clear hneq
            go_wp2
            go_roundw
            case rel => exact ⟨k + 1, by omega, firstV_succ _ _, acc_no HA.out HQ.out, ins_same HB.out HKC.out, by go_num, hb5.trans (hb6.mono hb5.size)⟩
            case measure => simp [intOf]; omega
      · have hfv : firstV (nextPos D p) k = nextPos D p := by unfold firstV; rw [if_neg hk0]
        rw [hfv]
        have hkb : ((k : Int) == 0) = false := beq_eq_false_iff_ne.2 (by omega)
        clear hfv hk0
        cases hkc : kd k == c with
        | true =>
          have HKC : Hid ((kd k == c) = true) := hkc
          go_wp2_with fail
          refine (by exact hz : Calls _ _ _ _ _).mono ?_
          rintro e w6 ⟨er, rfl, her, hb6⟩
          clear hz
          rcases her with ⟨rfl, heq⟩ | ⟨x, rfl, hneq⟩
          · have HQ : Hid (nextKind D p = kd k) := heq
            clear heq
            go_wp2
            go_roundw
            case rel => exact ⟨k + 1, by omega, firstV_succ _ _, acc_yes HA.out HQ.out, ins_yes HB.out HKC.out, by go_num, hb5.trans (hb6.mono hb5.size)⟩
            case measure => simp [intOf]; omega
          · have HQ : Hid ((nextKind D p != kd k) = true) := hneq
            clear hneq
            go_wp2
            go_roundw
            case rel => exact ⟨k + 1, by omega, firstV_succ _ _, acc_no HA.out HQ.out, ins_yes HB.out HKC.out, by go_num, hb5.trans (hb6.mono hb5.size)⟩
            case measure => simp [intOf]; omega
        | false =>
          have HKC : Hid ((kd k == c) = false) := hkc
          go_wp2_with fail
          refine (by exact hz : Calls _ _ _ _ _).mono ?_
          rintro e w6 ⟨er, rfl, her, hb6⟩
          clear hz
          rcases her with ⟨rfl, heq⟩ | ⟨x, rfl, hneq⟩
          · have HQ : Hid (nextKind D p = kd k) := heq
            clear heq
            go_wp2
            go_roundw
            case rel => exact ⟨k + 1, by omega, firstV_succ _ _, acc_yes HA.out HQ.out, ins_same HB.out HKC.out, by go_num, hb5.trans (hb6.mono hb5.size)⟩
            case measure => simp [intOf]; omega
          · have HQ : Hid ((nextKind D p != kd k) = true) := hneq
            clear hneq
            go_wp2
            go_roundw
            case rel => exact ⟨k + 1, by omega, firstV_succ _ _, acc_no HA.out HQ.out, ins_same HB.out HKC.out, by go_num, hb5.trans (hb6.mono hb5.size)⟩
            case measure => simp [intOf]; omega
    · have hke : k = 10 := by omega
      subst hke
      rw [acc_one D p, show firstV (nextPos D p) 10 = nextPos D p from rfl]
      have hF5 : F.answers wr.tape := by rw [hb5.tape]; exact hF2
      have hd5 := hd2.below hb5
      have hl5 : ∀ b off, a1 = some ⟨b, off, none⟩ → b < wr.heap.size := fun b off he => by have := hl2 b off he; have := hb5.size; omega
      have hfin5 : Below w.heap.size w wr := hfin.trans (hb5.mono hfin.size)
      cases hins : ins c 10 with
      | true =>
        clear hd5 hl5 hd2 hl2
        go_wp2
        go_ret
        exact ⟨rfl, hfin5⟩
      | false =>
        have hz := zzdelim_no F a1 cap1 D p ⟨#[114, 101, 113, 117, 101, 115, 116]⟩ ⟨#[105, 116]⟩ c wr hF5 hd5 hl5 hby (by omega) hcap hp hr (ins_no D p c hins)
        clear hd5 hl5 hd2 hl2 hins
        go_wp2_with fail
        refine (by exact hz : Calls _ _ _ _ _).mono ?_
        rintro e w6 ⟨⟨x, rfl⟩, hb6⟩
        clear hz
        go_wp2
        go_ret
        exact ⟨rfl, hfin5.trans (hb6.mono hfin5.size)⟩
end Go.Proofs.Qxb6001751aFmt
