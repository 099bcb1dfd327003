/-
  strings.Builder's copyCheck (the shelf's contract, laid at this program's numbers) and WriteByte.
-/
import Derived.Test.Qxb6600185aShelf
import Derived.WalkKit
import Derived.WalkSpells
import Derived.WalkLawsBesides
import Derived.Lib.Builder
import Derived.Laws.Externs
namespace Go.Proofs.Qxb6600185a
open Go.RowKit

theorem info5 : (Try.prog.info? 5).map (fun i => (i.zero, i.size, i.bytes)) = some (some (.int .u8 0), 1, 1) := by kernel_rfl
theorem info9 : (Try.prog.info? 9).map (fun i => (i.zero, i.size, i.bytes)) = some (some (.string ⟨#[]⟩), 1, 16) := by kernel_rfl

/-- The shelf's closure of copyCheck at this program's numbers. -/
def ren240 : Go.Shelf.Ren := ⟨fun | 240 => 48 | 276 => 50 | n => n, fun | 70 => 58 | 9 => 9 | 0 => 0 | 4 => 4 | 20 => 20 | 72 => 60 | 164 => 73 | 37 => 27 | 5 => 5 | n => n, fun | n => n⟩
theorem lays240 : Go.Proofs.Lays.n240 Try.prog ren240 := {
  mixed := by kernel_rfl
  f240 := Try.func48.trans (congrArg some (by kernel_rfl))
  f276 := Try.func50.trans (congrArg some (by kernel_rfl))
  t0 := Try.underlying0
  a0 := Try.isAgg0
  z0 := Try.sizeOf0
  v0 := Try.zeroValue0
  t4 := Try.underlying4
  a4 := Try.isAgg4
  z4 := Try.sizeOf4
  v4 := Try.zeroValue4
  t9 := Try.underlying9
  a9 := Try.isAgg9
  z9 := Try.sizeOf9
  v9 := Try.zeroValue9
  t20 := Try.underlying20
  a20 := Try.isAgg20
  z20 := Try.sizeOf20
  v20 := Try.zeroValue20
  t70 := Try.underlying58
  a70 := Try.isAgg58
  z70 := Try.sizeOf58
  v70 := Try.zeroValue58
  t72 := Try.underlying60
  a72 := Try.isAgg60
  z72 := Try.sizeOf60
  v72 := Try.zeroValue60
  t164 := Try.underlying73
  a164 := Try.isAgg73
  z164 := Try.sizeOf73
  v164 := Try.zeroValue73 }
theorem builderX : Builder.X72 Try.prog ren240 := {
  sizeBuilder := by kernel_rfl
  liesBuilder := by kernel_rfl }

/-- copyCheck: behind it the builder holds its own address; its bytes are as they were. -/
theorem copyCheck_any (B b : Nat) (bs : List Value) (w : World) (h : Lib.IsBuilder 60 5 B b bs w) :
    Calls Try.prog 48 #[.pointer (some ⟨b, 0, none⟩)] w fun e w' => e = .returned (.tuple #[]) ∧ (Lib.BuilderAt 60 5 B b (.pointer (some ⟨b, 0, none⟩)) bs w' ∧ Below B w w') :=
  Any.Builder_copyCheck lays240 builderX B b bs w h

set_option maxHeartbeats 1000000 in
set_option maxRecDepth 100000 in
theorem writeByte_any (B b : Nat) (bs : List Value) (c : Int) (w : World) (h : Lib.IsBuilder 60 5 B b bs w) (hlen : bs.length + 1 ≤ 140737488355328) (hBw : B ≤ w.heap.size) :
    Calls Try.prog 41 #[.pointer (some ⟨b, 0, none⟩), .int .u8 c] w fun e w' => e = .returned .nilIface ∧ (Lib.BuilderAt 60 5 B b (.pointer (some ⟨b, 0, none⟩)) (bs ++ [.int .u8 c]) w' ∧ Below B w w') := by
  obtain ⟨i0, hi, hz0, hz1, hz2⟩ := info_parts info5
  go_enter Try.func41, Try.ntmps41
  go_wp2_with (go_at_call 48; refine (copyCheck_any B b bs _ h).mono ?_)
  rintro e w1 ⟨rfl, h1, hb1⟩
  obtain ⟨hB, v, hbk, hown, hne⟩ := h1
  have c0 : w1.cell? ⟨b, 0, none⟩ = some (.pointer (some ⟨b, 0, none⟩)) := by rw [Lib.cell_of_heap hbk]; rfl
  have c1 : w1.cell? ⟨b, 1, none⟩ = some v := by rw [Lib.cell_of_heap hbk]; rfl
  go_wp2_with (at_builtin; refine wpList_append_own _ rfl _ _ 27 rfl B 5 i0 (.int .u8 0) 1 1 Try.underlying27 hi hz0 hz1 hz2 rfl (by decide) _ _ _ rfl (hown.alloc _) ⟨w1.heap.size, 0, none⟩ 1 1 [.int .u8 c] rfl rfl ?c1 ?c2 ?c3 ?c4 ?c5 ?_)
  case c1 =>
    intro j u hj
    match j, hj with
    | 0, hj => simp at hj; subst hj; simp [Addr.add]
  case c2 => intro u hu; simp at hu; subst hu; rfl
  case c3 => unfold maxLen; omega
  case c4 => omega
  case c5 => have := hb1.size; simp; omega
  intro v' w2 hown' hgrow _
  have hlt : b < w1.heap.size := by
    rcases Nat.lt_or_ge b w1.heap.size with h' | h'
    · exact h'
    · simp [Array.getElem?_eq_none h'] at hbk
  have hb2 : w2.heap[b]? = some (.cells #[.pointer (some ⟨b, 0, none⟩), v] 60 (0, 0)) := by
    rw [hgrow.block b (by simp; omega) (fun e => hne e.symm), Lib.alloc_old w1 _ b hlt]
    exact hbk
  have d0 : w2.cell? ⟨b, 0, none⟩ = some (.pointer (some ⟨b, 0, none⟩)) := by rw [Lib.cell_of_heap hb2]; rfl
  have d1 : w2.cell? ⟨b, 1, none⟩ = some v := by rw [Lib.cell_of_heap hb2]; rfl
  have f1 : w2.frozen? ⟨b, 1, none⟩ = false := Lib.frozen_of_heap hb2 1
  obtain ⟨g, cap, rfl⟩ : ∃ g cap, v' = .slice (some ⟨g, 0, none⟩) (bs.length + 1) cap := by
    rcases hown'.2 with ⟨_, h0⟩ | ⟨g, cap, cur, hv, _⟩
    · omega
    · exact ⟨g, cap, hv⟩
  go_wp2
  go_ret
  refine ⟨rfl, ?_, ?_⟩
  · exact Lib.BuilderAt.put (T := 60) (e := 5) hB hb2 (bs' := bs ++ [.int .u8 c]) (by simpa using hown') (by decide)
  · exact ((hb1.alloc (by have := hb1.size; omega) _).grown hgrow (by have := hb1.size; simp; omega) (fun k hk => (hown.lt k hk).1)).setCell (p := ⟨b, 1, none⟩) hB _

end Go.Proofs.Qxb6600185a
