import Derived.Test.Qxb6600185aHelp
import Derived.Deep.RegionWith
namespace Go.Proofs.Qxb6600185a
open Go.RowKit Es

theorem strsL_length (ss : List ByteArray) : (strsL ss).length = ss.length := by simp [strsL]

theorem strsL_get (ss : List ByteArray) (k : Nat) (h : k < ss.length) : (strsL ss)[k]'(by rw [strsL_length]; exact h) = ss[k].data.toList := by simp [strsL]

theorem total_step (ss : List ByteArray) (k : Nat) (h : k < ss.length) : total ((strsL ss).take (k + 1)) = total ((strsL ss).take k) + ss[k].size := by
  rw [total_take _ k (by rw [strsL_length]; exact h), strsL_get ss k h, str_len]

set_option maxRecDepth 100000 in
set_option maxHeartbeats 2000000 in
theorem law8_any (ao : Option Addr) (cap : Nat) (ss : List ByteArray) (sep : UInt8) (w : World) (hD : SDat w ao ss) (hn : ss.length ≤ 9223372036854775807) :
    Calls Try.prog 8 #[.slice ao ss.length cap, .int .u8 (sep.toNat : Int)] w fun e w' => e = .returned (.bool true) ∧ Below w.heap.size w w' := by
  go_enter Try.func8, Try.ntmps8
  go_wp2_with fail
  refine (guard28 ao cap ss _ _ hD hn).mono ?_
  rintro e w' ⟨⟨g, rfl, hall⟩, hw⟩
  have hw2 := hw.symm
  clear hw
  subst hw2
  cases g with
  | false =>
    clear hD hall
    go_wp2
    go_ret
    exact ⟨rfl, Below.refl _ _⟩
  | true =>
    have HA : Hid (∀ j (h : j < ss.length), ss[j].size ≤ 1048576) := hall rfl
    clear hall
    by_cases hbig : 65536 < ss.length
    · clear hD
      go_wp2
      go_ret
      exact ⟨rfl, Below.refl _ _⟩
    · have hd0 : decide ((65536 : Int) < (ss.length : Int)) = false := by simp; omega
      have HD : Hid (SDat w ao ss) := hD
      clear hD
      go_wp2
      go_loop [4, 5, 6] (fun _ t i => ∃ k : Nat, k ≤ ss.length ∧ i = .int .i64 k ∧ t = .int .i64 ((16 * ss.length + total ((strsL ss).take k) : Nat) : Int) ∧ 16 * ss.length + total ((strsL ss).take k) ≤ 1048576) (fun _ _ i => ss.length - (intOf i).toNat)
      case atStart => exact ⟨0, Nat.zero_le _, rfl, by simp [total], by simp [total]; omega⟩
      case round =>
        obtain ⟨k, hk, rfl, rfl, hle⟩ := hrel
        by_cases hlt : k < ss.length
        · obtain ⟨b, off, rfl, _, hcell⟩ := HD.out.at hlt
          have hc := hcell k hlt
          have hsz := HA.out k hlt
          have HT := total_step ss k hlt
          generalize ss[k] = s at *
          obtain ⟨T, hT⟩ : ∃ T, T = total ((strsL ss).take k) := ⟨_, rfl⟩
          rw [← hT] at hle HT ⊢
          have HTT : Hid (total ((strsL ss).take (k + 1)) = T + s.size) := HT
          clear hcell HT hT
          go_wp2
          all_goals first
            | (go_round
               case rel => exact ⟨k + 1, by omega, by go_num, by rw [HTT.out]; go_num, by rw [HTT.out]; omega⟩
               case measure => simp [intOf]; omega)
            | (go_ret
               exact ⟨rfl, Below.refl _ _⟩)
        · have htk : (strsL ss).take k = strsL ss := List.take_of_length_le (by rw [strsL_length]; omega)
          rw [htk] at hle ⊢
          clear htk
          cases h92 : ((sep.toNat : Int) == 92) with
          | true =>
            generalize total (strsL ss) = T at *
            go_wp2
            go_ret
            exact ⟨rfl, Below.refl _ _⟩
          | false =>
            by_cases h0 : ss.length = 0
            · generalize total (strsL ss) = T at *
              have h0b : ((ss.length : Int) == 0) = true := beq_iff_eq.2 (by omega)
              clear h0
              go_wp2
              go_ret
              exact ⟨rfl, Below.refl _ _⟩
            · have h0b : ((ss.length : Int) == 0) = false := beq_eq_false_iff_ne.2 (by omega)
              obtain ⟨b, off, rfl, _, _⟩ := HD.out.at (show 0 < ss.length by omega)
              have hke : k = ss.length := by omega
              subst hke
              obtain ⟨T, hT⟩ : ∃ T, T = total (strsL ss) := ⟨_, rfl⟩
              rw [← hT] at hle ⊢
              have HT : Hid (T = total (strsL ss)) := hT
              clear hT
              go_wp2_with fail
              refine (clone_some ⟨b, off, none⟩ cap ss _ HD.out (by omega)).mono ?_
              rintro e w1 ⟨rfl, ho1, hb1⟩
              have hsz1 : w.heap.size < w1.heap.size := (ho1.lt w.heap.size rfl).2
              have HP : Hid (∀ i (hi : i < ss.length), w1.cell? ⟨w.heap.size, i, none⟩ = some (.string ss[i])) := fun i hi => by
                rw [ho1.cellAt i (by omega)]
                simp [strsV, hi]
              obtain ⟨i0, hi0, hz0, hz1, hz2⟩ := info_parts info5
              have h92' : (sep == 92) = false := by rw [byte_slash]; exact h92
              have H92 : Hid ((sep == 92) = false) := h92'
              clear ho1 h92'
              go_wp2_with fail
              go_loopw [7, 8] (fun v iv w3 => ∃ k : Nat, k ≤ ss.length ∧ iv = .int .i64 k ∧ w3.ownsRow w1.heap.size 5 1 v (jn sep ((strsL ss).take k)).length (Lib.byteCells (jn sep ((strsL ss).take k))) ∧ Below w1.heap.size w1 w3) (fun _ iv _ => ss.length - (intOf iv).toNat)
              case atStart => exact ⟨0, Nat.zero_le _, rfl, World.ownsRow_nil _ _ _ _, Below.refl _ _⟩
              case round =>
                obtain ⟨k, hk, rfl, ho3, hb3⟩ := hrel
                have hs3 : w1.heap.size ≤ wr.heap.size := hb3.size
                by_cases hlt : k < ss.length
                · have hcp1 := HP.out k hlt
                  have hcp := (hb3.cell (p := ⟨w.heap.size, k, none⟩) hsz1).trans hcp1
                  have hsk := HA.out k hlt
                  have HSG := strsL_get ss k hlt
                  have HLT : Hid ((strsL ss).take (k + 1) = (strsL ss).take k ++ [ss[k].data.toList]) := by
                    show _ = _
                    rw [List.take_succ_eq_append_getElem (by rw [strsL_length]; exact hlt), HSG]
                  have hjl : (jn sep ((strsL ss).take k)).length ≤ 2 * 1048576 + 65536 := by
                    have h1 := jn_length sep ((strsL ss).take k)
                    have h2 := total_take_le (strsL ss) k
                    have h3 := List.length_take_le k (strsL ss)
                    have h4 := HT.out
                    omega
                  generalize ss[k] = s at *
                  obtain ⟨bs, hbs⟩ : ∃ bs, bs = jn sep ((strsL ss).take k) := ⟨_, rfl⟩
                  rw [← hbs] at ho3 hjl
                  have HBS : Hid (bs = jn sep ((strsL ss).take k)) := hbs
                  clear hbs HSG
                  by_cases hk0 : k = 0
                  · have HJ : Hid (bs ++ esc sep s.data.toList = jn sep ((strsL ss).take (k + 1))) := by
                      show _ = _
                      rw [HLT.out, HBS.out, hk0]
                      simp [jn, more]
                    have hk0' : ¬ (0 : Int) < (k : Int) := by omega
                    clear hk0
                    go_wp2_with fail
                    have ho4 := ho3
                    have hb4 := hb3
                    clear ho3 hb3
                    go_loopw [7, 10] (fun v jv w5 => ∃ j : Nat, j ≤ s.size ∧ jv = .int .i64 j ∧ w5.ownsRow w1.heap.size 5 1 v (bs ++ esc sep (s.data.toList.take j)).length (Lib.byteCells (bs ++ esc sep (s.data.toList.take j))) ∧ Below w1.heap.size w1 w5) (fun _ jv _ => s.size - (intOf jv).toNat)
                    case atStart => exact ⟨0, Nat.zero_le _, rfl, by simpa [esc] using ho4, hb4⟩
                    case round =>
                      obtain ⟨j, hj, rfl, ho5, hb5⟩ := hrel
                      clear ho4 hb4
                      have hs5 : w1.heap.size ≤ wr.heap.size := hb5.size
                      have hl5 : (bs ++ esc sep (s.data.toList.take j)).length ≤ 8388608 := by
                        have h1 := esc_length sep (s.data.toList.take j)
                        have h2 := List.length_take_le j s.data.toList
                        rw [List.length_append]
                        omega
                      by_cases hjs : j < s.size
                      · have HST : Hid (esc sep (s.data.toList.take (j + 1)) = esc sep (s.data.toList.take j) ++ escC sep s[j]) := by
                          have := esc_take sep s.data.toList j (by rw [str_len]; exact hjs)
                          rw [str_get s j hjs] at this
                          exact this
                        obtain ⟨E, hE⟩ : ∃ E, E = bs ++ esc sep (s.data.toList.take j) := ⟨_, rfl⟩
                        rw [← hE] at ho5 hl5
                        have HE : Hid (E = bs ++ esc sep (s.data.toList.take j)) := hE
                        clear hE
                        have HC : Hid (escC sep s[j] = if ((s[j].toNat : Int) == 92 || (s[j].toNat : Int) == (sep.toNat : Int)) then [92, s[j]] else [s[j]]) := by
                          show escC sep s[j] = _
                          unfold escC
                          rw [byte_slash, byte_same]
                        cases hc1 : ((s[j].toNat : Int) == 92) with
                        | true =>
                          go_wp2_with (at_builtin; refine wpList_append_own _ rfl _ _ 27 rfl w1.heap.size 5 i0 (.int .u8 0) 1 1 Try.underlying27 hi0 hz0 hz1 hz2 rfl (by decide) _ _ _ rfl (ho5.alloc _) ⟨wr.heap.size, 0, none⟩ 1 1 [.int .u8 92] rfl rfl (cell_one_new _ _ _) (fun u hu => by simp at hu; subst hu; rfl) (by unfold maxLen; omega) (by omega) (by simp; omega) ?_)
                          intro v6 w6 ho_ hg_ _
                          have hb6 := (hb5.alloc hs5 _).grown hg_ (by simp; omega) (fun k h => ((ho5).lt k h).1)
                          have ho6 : w6.ownsRow w1.heap.size 5 1 v6 (E ++ [(92 : UInt8)]).length (Lib.byteCells (E ++ [(92 : UInt8)])) := by
                            rw [← cells_snoc]
                            simp only [List.length_append, List.length_cons, List.length_nil, Nat.zero_add]
                            exact ho_
                          clear ho_ hg_
                          have hs6 : w1.heap.size ≤ w6.heap.size := hb6.size
                          have hl6 : (E ++ [(92 : UInt8)]).length ≤ 8388609 := by rw [List.length_append]; simp; omega
                          clear ho5
                          go_wp2_with (at_builtin; refine wpList_append_own _ rfl _ _ 27 rfl w1.heap.size 5 i0 (.int .u8 0) 1 1 Try.underlying27 hi0 hz0 hz1 hz2 rfl (by decide) _ _ _ rfl (ho6.alloc _) ⟨w6.heap.size, 0, none⟩ 1 1 [.int .u8 (s[j].toNat : Int)] rfl rfl (cell_one_new _ _ _) (fun u hu => by simp at hu; subst hu; rfl) (by unfold maxLen; omega) (by omega) (by simp; omega) ?_)
                          intro v7 w7 ho_ hg_ _
                          have hb7 := (hb6.alloc hs6 _).grown hg_ (by simp; omega) (fun k h => ((ho6).lt k h).1)
                          have ho7 : w7.ownsRow w1.heap.size 5 1 v7 ((E ++ [(92 : UInt8)]) ++ [s[j]]).length (Lib.byteCells ((E ++ [(92 : UInt8)]) ++ [s[j]])) := by
                            rw [← cells_snoc]
                            simp only [List.length_append, List.length_cons, List.length_nil, Nat.zero_add]
                            exact ho_
                          clear ho_ hg_
                          have HF : Hid (bs ++ esc sep (s.data.toList.take (j + 1)) = E ++ [(92 : UInt8)] ++ [s[j]]) := by
                            show _ = _
                            rw [HST.out, HC.out, HE.out, hc1]
                            simp
                          go_wp2
                          go_roundw
                          case rel => exact ⟨j + 1, by omega, by go_num, by rw [HF.out]; exact ho7, hb7⟩
                          case measure => simp [intOf]; omega
                        | false =>
                          cases hc2 : ((s[j].toNat : Int) == (sep.toNat : Int)) with
                          | true =>
                            go_wp2_with (at_builtin; refine wpList_append_own _ rfl _ _ 27 rfl w1.heap.size 5 i0 (.int .u8 0) 1 1 Try.underlying27 hi0 hz0 hz1 hz2 rfl (by decide) _ _ _ rfl (ho5.alloc _) ⟨wr.heap.size, 0, none⟩ 1 1 [.int .u8 92] rfl rfl (cell_one_new _ _ _) (fun u hu => by simp at hu; subst hu; rfl) (by unfold maxLen; omega) (by omega) (by simp; omega) ?_)
                            intro v6 w6 ho_ hg_ _
                            have hb6 := (hb5.alloc hs5 _).grown hg_ (by simp; omega) (fun k h => ((ho5).lt k h).1)
                            have ho6 : w6.ownsRow w1.heap.size 5 1 v6 (E ++ [(92 : UInt8)]).length (Lib.byteCells (E ++ [(92 : UInt8)])) := by
                              rw [← cells_snoc]
                              simp only [List.length_append, List.length_cons, List.length_nil, Nat.zero_add]
                              exact ho_
                            clear ho_ hg_
                            have hs6 : w1.heap.size ≤ w6.heap.size := hb6.size
                            have hl6 : (E ++ [(92 : UInt8)]).length ≤ 8388609 := by rw [List.length_append]; simp; omega
                            clear ho5
                            go_wp2_with (at_builtin; refine wpList_append_own _ rfl _ _ 27 rfl w1.heap.size 5 i0 (.int .u8 0) 1 1 Try.underlying27 hi0 hz0 hz1 hz2 rfl (by decide) _ _ _ rfl (ho6.alloc _) ⟨w6.heap.size, 0, none⟩ 1 1 [.int .u8 (s[j].toNat : Int)] rfl rfl (cell_one_new _ _ _) (fun u hu => by simp at hu; subst hu; rfl) (by unfold maxLen; omega) (by omega) (by simp; omega) ?_)
                            intro v7 w7 ho_ hg_ _
                            have hb7 := (hb6.alloc hs6 _).grown hg_ (by simp; omega) (fun k h => ((ho6).lt k h).1)
                            have ho7 : w7.ownsRow w1.heap.size 5 1 v7 ((E ++ [(92 : UInt8)]) ++ [s[j]]).length (Lib.byteCells ((E ++ [(92 : UInt8)]) ++ [s[j]])) := by
                              rw [← cells_snoc]
                              simp only [List.length_append, List.length_cons, List.length_nil, Nat.zero_add]
                              exact ho_
                            clear ho_ hg_
                            have HF : Hid (bs ++ esc sep (s.data.toList.take (j + 1)) = E ++ [(92 : UInt8)] ++ [s[j]]) := by
                              show _ = _
                              rw [HST.out, HC.out, HE.out, hc1, hc2]
                              simp
                            go_wp2
                            go_roundw
                            case rel => exact ⟨j + 1, by omega, by go_num, by rw [HF.out]; exact ho7, hb7⟩
                            case measure => simp [intOf]; omega
                          | false =>
                            go_wp2_with (at_builtin; refine wpList_append_own _ rfl _ _ 27 rfl w1.heap.size 5 i0 (.int .u8 0) 1 1 Try.underlying27 hi0 hz0 hz1 hz2 rfl (by decide) _ _ _ rfl (ho5.alloc _) ⟨wr.heap.size, 0, none⟩ 1 1 [.int .u8 (s[j].toNat : Int)] rfl rfl (cell_one_new _ _ _) (fun u hu => by simp at hu; subst hu; rfl) (by unfold maxLen; omega) (by omega) (by simp; omega) ?_)
                            intro v7 w7 ho_ hg_ _
                            have hb7 := (hb5.alloc hs5 _).grown hg_ (by simp; omega) (fun k h => ((ho5).lt k h).1)
                            have ho7 : w7.ownsRow w1.heap.size 5 1 v7 (E ++ [s[j]]).length (Lib.byteCells (E ++ [s[j]])) := by
                              rw [← cells_snoc]
                              simp only [List.length_append, List.length_cons, List.length_nil, Nat.zero_add]
                              exact ho_
                            clear ho_ hg_
                            have HF : Hid (bs ++ esc sep (s.data.toList.take (j + 1)) = E ++ [s[j]]) := by
                              show _ = _
                              rw [HST.out, HC.out, HE.out, hc1, hc2]
                              simp
                            go_wp2
                            go_roundw
                            case rel => exact ⟨j + 1, by omega, by go_num, by rw [HF.out]; exact ho7, hb7⟩
                            case measure => simp [intOf]; omega
                      · have htj : s.data.toList.take j = s.data.toList := List.take_of_length_le (by rw [str_len]; omega)
                        rw [htj, HJ.out] at ho5
                        clear htj
                        go_wp2
                        go_roundw
                        case rel => exact ⟨k + 1, by omega, by go_num, ho5, hb5⟩
                        case measure => simp [intOf]; omega
                  · have HJ : Hid (bs ++ [sep] ++ esc sep s.data.toList = jn sep ((strsL ss).take (k + 1))) := by
                      show _ = _
                      rw [HLT.out, HBS.out, jn_snoc]
                      intro e
                      have := congrArg List.length e
                      rw [List.length_take, strsL_length, List.length_nil] at this
                      omega
                    have hk0' : (0 : Int) < (k : Int) := by omega
                    clear hk0
                    go_wp2_with (at_builtin; refine wpList_append_own _ rfl _ _ 27 rfl w1.heap.size 5 i0 (.int .u8 0) 1 1 Try.underlying27 hi0 hz0 hz1 hz2 rfl (by decide) _ _ _ rfl (ho3.alloc _) ⟨wr.heap.size, 0, none⟩ 1 1 [.int .u8 (sep.toNat : Int)] rfl rfl (cell_one_new _ _ _) (fun u hu => by simp at hu; subst hu; rfl) (by unfold maxLen; omega) (by omega) (by simp; omega) ?_)
                    intro v4 w4 ho_ hg_ _
                    have hb4 := (hb3.alloc hs3 _).grown hg_ (by simp; omega) (fun k h => ((ho3).lt k h).1)
                    have ho4 : w4.ownsRow w1.heap.size 5 1 v4 (bs ++ [sep]).length (Lib.byteCells (bs ++ [sep])) := by
                      rw [← cells_snoc]
                      simp only [List.length_append, List.length_cons, List.length_nil, Nat.zero_add]
                      exact ho_
                    clear ho_ hg_
                    clear ho3 hb3
                    have hcp4 := (hb4.cell (p := ⟨w.heap.size, k, none⟩) hsz1).trans hcp1
                    have hjl2 : (bs ++ [sep]).length ≤ 2 * 1048576 + 65537 := by rw [List.length_append]; simp; omega
                    go_wp2_with fail
                    go_loopw [7, 10] (fun v jv w5 => ∃ j : Nat, j ≤ s.size ∧ jv = .int .i64 j ∧ w5.ownsRow w1.heap.size 5 1 v ((bs ++ [sep]) ++ esc sep (s.data.toList.take j)).length (Lib.byteCells ((bs ++ [sep]) ++ esc sep (s.data.toList.take j))) ∧ Below w1.heap.size w1 w5) (fun _ jv _ => s.size - (intOf jv).toNat)
                    case atStart => exact ⟨0, Nat.zero_le _, rfl, by simpa [esc] using ho4, hb4⟩
                    case round =>
                      obtain ⟨j, hj, rfl, ho5, hb5⟩ := hrel
                      clear ho4 hb4
                      have hs5 : w1.heap.size ≤ wr.heap.size := hb5.size
                      have hl5 : ((bs ++ [sep]) ++ esc sep (s.data.toList.take j)).length ≤ 8388608 := by
                        have h1 := esc_length sep (s.data.toList.take j)
                        have h2 := List.length_take_le j s.data.toList
                        rw [List.length_append]
                        omega
                      by_cases hjs : j < s.size
                      · have HST : Hid (esc sep (s.data.toList.take (j + 1)) = esc sep (s.data.toList.take j) ++ escC sep s[j]) := by
                          have := esc_take sep s.data.toList j (by rw [str_len]; exact hjs)
                          rw [str_get s j hjs] at this
                          exact this
                        obtain ⟨E, hE⟩ : ∃ E, E = (bs ++ [sep]) ++ esc sep (s.data.toList.take j) := ⟨_, rfl⟩
                        rw [← hE] at ho5 hl5
                        have HE : Hid (E = (bs ++ [sep]) ++ esc sep (s.data.toList.take j)) := hE
                        clear hE
                        have HC : Hid (escC sep s[j] = if ((s[j].toNat : Int) == 92 || (s[j].toNat : Int) == (sep.toNat : Int)) then [92, s[j]] else [s[j]]) := by
                          show escC sep s[j] = _
                          unfold escC
                          rw [byte_slash, byte_same]
                        cases hc1 : ((s[j].toNat : Int) == 92) with
                        | true =>
                          go_wp2_with (at_builtin; refine wpList_append_own _ rfl _ _ 27 rfl w1.heap.size 5 i0 (.int .u8 0) 1 1 Try.underlying27 hi0 hz0 hz1 hz2 rfl (by decide) _ _ _ rfl (ho5.alloc _) ⟨wr.heap.size, 0, none⟩ 1 1 [.int .u8 92] rfl rfl (cell_one_new _ _ _) (fun u hu => by simp at hu; subst hu; rfl) (by unfold maxLen; omega) (by omega) (by simp; omega) ?_)
                          intro v6 w6 ho_ hg_ _
                          have hb6 := (hb5.alloc hs5 _).grown hg_ (by simp; omega) (fun k h => ((ho5).lt k h).1)
                          have ho6 : w6.ownsRow w1.heap.size 5 1 v6 (E ++ [(92 : UInt8)]).length (Lib.byteCells (E ++ [(92 : UInt8)])) := by
                            rw [← cells_snoc]
                            simp only [List.length_append, List.length_cons, List.length_nil, Nat.zero_add]
                            exact ho_
                          clear ho_ hg_
                          have hs6 : w1.heap.size ≤ w6.heap.size := hb6.size
                          have hl6 : (E ++ [(92 : UInt8)]).length ≤ 8388609 := by rw [List.length_append]; simp; omega
                          clear ho5
                          go_wp2_with (at_builtin; refine wpList_append_own _ rfl _ _ 27 rfl w1.heap.size 5 i0 (.int .u8 0) 1 1 Try.underlying27 hi0 hz0 hz1 hz2 rfl (by decide) _ _ _ rfl (ho6.alloc _) ⟨w6.heap.size, 0, none⟩ 1 1 [.int .u8 (s[j].toNat : Int)] rfl rfl (cell_one_new _ _ _) (fun u hu => by simp at hu; subst hu; rfl) (by unfold maxLen; omega) (by omega) (by simp; omega) ?_)
                          intro v7 w7 ho_ hg_ _
                          have hb7 := (hb6.alloc hs6 _).grown hg_ (by simp; omega) (fun k h => ((ho6).lt k h).1)
                          have ho7 : w7.ownsRow w1.heap.size 5 1 v7 ((E ++ [(92 : UInt8)]) ++ [s[j]]).length (Lib.byteCells ((E ++ [(92 : UInt8)]) ++ [s[j]])) := by
                            rw [← cells_snoc]
                            simp only [List.length_append, List.length_cons, List.length_nil, Nat.zero_add]
                            exact ho_
                          clear ho_ hg_
                          have HF : Hid ((bs ++ [sep]) ++ esc sep (s.data.toList.take (j + 1)) = E ++ [(92 : UInt8)] ++ [s[j]]) := by
                            show _ = _
                            rw [HST.out, HC.out, HE.out, hc1]
                            simp
                          go_wp2
                          go_roundw
                          case rel => exact ⟨j + 1, by omega, by go_num, by rw [HF.out]; exact ho7, hb7⟩
                          case measure => simp [intOf]; omega
                        | false =>
                          cases hc2 : ((s[j].toNat : Int) == (sep.toNat : Int)) with
                          | true =>
                            go_wp2_with (at_builtin; refine wpList_append_own _ rfl _ _ 27 rfl w1.heap.size 5 i0 (.int .u8 0) 1 1 Try.underlying27 hi0 hz0 hz1 hz2 rfl (by decide) _ _ _ rfl (ho5.alloc _) ⟨wr.heap.size, 0, none⟩ 1 1 [.int .u8 92] rfl rfl (cell_one_new _ _ _) (fun u hu => by simp at hu; subst hu; rfl) (by unfold maxLen; omega) (by omega) (by simp; omega) ?_)
                            intro v6 w6 ho_ hg_ _
                            have hb6 := (hb5.alloc hs5 _).grown hg_ (by simp; omega) (fun k h => ((ho5).lt k h).1)
                            have ho6 : w6.ownsRow w1.heap.size 5 1 v6 (E ++ [(92 : UInt8)]).length (Lib.byteCells (E ++ [(92 : UInt8)])) := by
                              rw [← cells_snoc]
                              simp only [List.length_append, List.length_cons, List.length_nil, Nat.zero_add]
                              exact ho_
                            clear ho_ hg_
                            have hs6 : w1.heap.size ≤ w6.heap.size := hb6.size
                            have hl6 : (E ++ [(92 : UInt8)]).length ≤ 8388609 := by rw [List.length_append]; simp; omega
                            clear ho5
                            go_wp2_with (at_builtin; refine wpList_append_own _ rfl _ _ 27 rfl w1.heap.size 5 i0 (.int .u8 0) 1 1 Try.underlying27 hi0 hz0 hz1 hz2 rfl (by decide) _ _ _ rfl (ho6.alloc _) ⟨w6.heap.size, 0, none⟩ 1 1 [.int .u8 (s[j].toNat : Int)] rfl rfl (cell_one_new _ _ _) (fun u hu => by simp at hu; subst hu; rfl) (by unfold maxLen; omega) (by omega) (by simp; omega) ?_)
                            intro v7 w7 ho_ hg_ _
                            have hb7 := (hb6.alloc hs6 _).grown hg_ (by simp; omega) (fun k h => ((ho6).lt k h).1)
                            have ho7 : w7.ownsRow w1.heap.size 5 1 v7 ((E ++ [(92 : UInt8)]) ++ [s[j]]).length (Lib.byteCells ((E ++ [(92 : UInt8)]) ++ [s[j]])) := by
                              rw [← cells_snoc]
                              simp only [List.length_append, List.length_cons, List.length_nil, Nat.zero_add]
                              exact ho_
                            clear ho_ hg_
                            have HF : Hid ((bs ++ [sep]) ++ esc sep (s.data.toList.take (j + 1)) = E ++ [(92 : UInt8)] ++ [s[j]]) := by
                              show _ = _
                              rw [HST.out, HC.out, HE.out, hc1, hc2]
                              simp
                            go_wp2
                            go_roundw
                            case rel => exact ⟨j + 1, by omega, by go_num, by rw [HF.out]; exact ho7, hb7⟩
                            case measure => simp [intOf]; omega
                          | false =>
                            go_wp2_with (at_builtin; refine wpList_append_own _ rfl _ _ 27 rfl w1.heap.size 5 i0 (.int .u8 0) 1 1 Try.underlying27 hi0 hz0 hz1 hz2 rfl (by decide) _ _ _ rfl (ho5.alloc _) ⟨wr.heap.size, 0, none⟩ 1 1 [.int .u8 (s[j].toNat : Int)] rfl rfl (cell_one_new _ _ _) (fun u hu => by simp at hu; subst hu; rfl) (by unfold maxLen; omega) (by omega) (by simp; omega) ?_)
                            intro v7 w7 ho_ hg_ _
                            have hb7 := (hb5.alloc hs5 _).grown hg_ (by simp; omega) (fun k h => ((ho5).lt k h).1)
                            have ho7 : w7.ownsRow w1.heap.size 5 1 v7 (E ++ [s[j]]).length (Lib.byteCells (E ++ [s[j]])) := by
                              rw [← cells_snoc]
                              simp only [List.length_append, List.length_cons, List.length_nil, Nat.zero_add]
                              exact ho_
                            clear ho_ hg_
                            have HF : Hid ((bs ++ [sep]) ++ esc sep (s.data.toList.take (j + 1)) = E ++ [s[j]]) := by
                              show _ = _
                              rw [HST.out, HC.out, HE.out, hc1, hc2]
                              simp
                            go_wp2
                            go_roundw
                            case rel => exact ⟨j + 1, by omega, by go_num, by rw [HF.out]; exact ho7, hb7⟩
                            case measure => simp [intOf]; omega
                      · have htj : s.data.toList.take j = s.data.toList := List.take_of_length_le (by rw [str_len]; omega)
                        rw [htj, HJ.out] at ho5
                        clear htj
                        go_wp2
                        go_roundw
                        case rel => exact ⟨k + 1, by omega, by go_num, ho5, hb5⟩
                        case measure => simp [intOf]; omega
                · have hke2 : k = ss.length := by omega
                  subst hke2
                  have htk2 : (strsL ss).take ss.length = strsL ss := List.take_of_length_le (by rw [strsL_length]; exact Nat.le_refl _)
                  rw [htk2] at ho3
                  have hjl : (jn sep (strsL ss)).length ≤ 2 * 1048576 + 65536 := by
                    have h1 := jn_length sep (strsL ss)
                    have h4 := HT.out
                    rw [strsL_length] at h1
                    omega
                  have HSP : Hid (splitGo sep (jn sep (strsL ss)) [] = (strsL ss).map (esc sep)) := split_jn sep H92.out _ (by
                    intro e
                    have := congrArg List.length e
                    rw [strsL_length, List.length_nil] at this
                    exact h0 this)
                  generalize jn sep (strsL ss) = J at *
                  have hconv := owned_string ho3
                  clear ho3 htk2
                  go_wp2_with fail
                  refine (zzsplit ⟨J.toArray⟩ sep _ (by show J.toArray.size ≤ _; rw [List.size_toArray]; omega) H92.out).mono ?_
                  rintro e w5 ⟨v5, ps, rfl, ho5, hl5, hb5⟩
                  have hlp : strsL ps = (strsL ss).map (esc sep) := by rw [← HSP.out]; exact hl5
                  have hpl : ps.length = ss.length := by
                    have := congrArg List.length hlp
                    rw [List.length_map, strsL_length, strsL_length] at this
                    exact this
                  obtain ⟨g, cap5, hv5, hg5, hgb, hcells⟩ := owned_strs ho5 (by omega)
                  rw [hpl] at hv5
                  rw [hv5]
                  have HPC : Hid (∀ i (hi : i < ps.length), w5.cell? ⟨g, i, none⟩ = some (.string ps[i])) := hcells
                  have HSC : Hid (∀ i (hi : i < ss.length), w5.cell? ⟨w.heap.size, i, none⟩ = some (.string ss[i])) := fun i hi =>
                    (hb5.cell (p := ⟨w.heap.size, i, none⟩) (by show w.heap.size < wr.heap.size; omega)).trans ((hb3.cell (p := ⟨w.heap.size, i, none⟩) hsz1).trans (HP.out i hi))
                  have HLP : Hid (strsL ps = (strsL ss).map (esc sep)) := hlp
                  have HPL : Hid (ps.length = ss.length) := hpl
                  have hfin5 : Below w.heap.size w w5 := (hb1.trans (hb3.mono (by omega))).trans (hb5.mono (by omega))
                  have hs5 : w.heap.size < w5.heap.size := by have := hb5.size; omega
                  clear hconv ho5 hl5 hlp hpl hcells hb5 hb3 hb1 hv5
                  go_wp2_with fail
                  go_loopw [13] (fun iv w6 => ∃ k : Nat, k ≤ ss.length ∧ iv = .int .i64 k ∧ Below w5.heap.size w5 w6) (fun iv _ => ss.length - (intOf iv).toNat)
                  case atStart => exact ⟨0, Nat.zero_le _, rfl, Below.refl _ _⟩
                  case round =>
                    obtain ⟨k, hk5, rfl, hb6⟩ := hrel
                    by_cases hlt5 : k < ss.length
                    · have hkp : k < ps.length := by rw [HPL.out]; exact hlt5
                      have hcp := (hb6.cell (p := ⟨g, k, none⟩) hg5).trans (HPC.out k hkp)
                      have hcs := (hb6.cell (p := ⟨w.heap.size, k, none⟩) hs5).trans (HSC.out k hlt5)
                      have hpe : ps[k].data.toList = esc sep ss[k].data.toList := by
                        have h1 := strsL_get ps k hkp
                        rw [← h1]
                        have h2 : (strsL ps)[k]? = ((strsL ss).map (esc sep))[k]? := by rw [HLP.out]
                        rw [List.getElem?_eq_getElem (by rw [strsL_length]; exact hkp), List.getElem?_map, List.getElem?_eq_getElem (by rw [strsL_length]; exact hlt5), strsL_get ss k hlt5] at h2
                        simpa using h2
                      have hps : ps[k].size ≤ 8388608 := by
                        rw [← str_len, hpe]
                        have h1 := esc_length sep ss[k].data.toList
                        have h2 := HA.out k hlt5
                        rw [str_len] at h1
                        omega
                      have hz : ∀ W : World, Calls Try.prog 30 #[.string ps[k]] W fun e w' => e = .returned (.string ss[k]) ∧ Below W.heap.size W w' := by
                        intro W
                        refine (unescape_any ps[k] W hps).mono ?_
                        rintro e w' ⟨u, rfl, hu, hbu⟩
                        refine ⟨?_, hbu⟩
                        rw [hpe, unesc_esc] at hu
                        have : u = ss[k] := by
                          cases u with | mk ud => cases hss : ss[k] with | mk sd => rw [hss] at hu; simp only at hu; rw [Array.toList_inj.1 hu]
                        rw [this]
                      have hs6 : w.heap.size < wr.heap.size := by have := hb6.size; omega
                      clear hpe hps
                      generalize ps[k] = p at *
                      generalize ss[k] = q at *
                      have HZ : Hid (∀ W : World, Calls Try.prog 30 #[.string p] W fun e w' => e = .returned (.string q) ∧ Below W.heap.size W w') := hz
                      clear hz
                      go_wp2_with fail
                      go_region_with (go_at_call 30; refine (HZ.out _).mono ?_; rintro e w7 ⟨rfl, hb7⟩; have hc7 := (hb7.cell (p := ⟨w.heap.size, k, none⟩) hs6).trans hcs)
                      all_goals
                        have hb7' : Below wr.heap.size wr w7 := ((Below.refl wr.heap.size wr).drew).trans hb7
                        clear hb7
                        try go_wp2
                      all_goals
                        go_roundw
                        case rel => exact ⟨k + 1, by omega, by go_num, hb6.trans (hb7'.mono hb6.size)⟩
                        case measure => simp [intOf]; omega
                    · go_wp2
                      go_ret
                      exact ⟨rfl, hfin5.trans (hb6.mono (by omega))⟩
end Go.Proofs.Qxb6600185a
